import JvmDerived
import JvmDerived.Pilot.@@N@@Statement
import JvmDerived.Pilot.@@N@@Code
set_option linter.unusedVariables false
set_option linter.unusedSimpArgs false
/- laws to paste: Road.backV, Road.eqW, Road.codOf (cut by pick.py; bodies as the Statement names them) -/
namespace Jvm.Pilot.@@N@@
namespace StrChars
open Jvm Sem ClassFile Op Lib Jvm.Stand Jvm.Free.XT Jvm.Free.ALB Jvm.Free.JM Jvm.Free
open Jvm.Lib.Cold (StaticIs)
/-- a char array whose places are chars -/
def Ch (a : Addr) (A : Cell) (U : State) : Prop := Arr .char a A U ∧ Typed .char A
theorem Ch.mv {a : Addr} {A : Cell} {U U' : State} (h : Ch a A U) (hal : U.vm.Alike U'.vm) (hh : U'.heap = U.heap) : Ch a A U' := ⟨h.1.mv hal hh, h.2⟩
theorem Ch.keep {a : Addr} {A : Cell} {U U' : State} (h : Ch a A U) (hal : U.vm.Alike U'.vm) (hk : U'.heap[a]? = some A) : Ch a A U' := ⟨h.1.keep hal hk, h.2⟩
/-- what place i of a char[]'s cell holds -/
def cv (A : Cell) (i : Nat) : Int32 := match A.slots[i]? with | some (.int x) => x | _ => 0
theorem Ch.get {a : Addr} {A : Cell} {U : State} (h : Ch a A U) {i : Nat} (hi : i < A.slots.size) : A.slots[i]? = some (.int (cv A i)) := by
  have e := Array.getElem?_eq_getElem hi
  have f := h.2 i _ e
  unfold cv; rw [e]
  generalize A.slots[i] = v at f
  cases v <;> simp [fits] at f ⊢
/-- the byte that i2b leaves of a char -/
def lo8 (x : Int32) : Int32 := x.toInt8.toInt32
theorem fits_lo8 (y : Int32) : fits .byte (.int (lo8 y)) = true := by
  have h1 := y.toInt8.le_toInt
  have h2 := y.toInt8.toInt_lt
  simp only [lo8, fits, Bool.and_eq_true, decide_eq_true_eq, Int32.le_iff_toInt_le, Int8.toInt_toInt32, show (-128 : Int32).toInt = -128 from by decide, show (127 : Int32).toInt = 127 from by decide]
  omega
/-- A' is A but that each place j of lo .. hi - 1 holds f j -/
def Laid (A A' : Cell) (lo hi : Nat) (f : Nat → Value) : Prop := A'.cls = A.cls ∧ A'.vm = A.vm ∧ A'.slots.size = A.slots.size ∧ ∀ i, A'.slots[i]? = if lo ≤ i ∧ i < hi then some (f i) else A.slots[i]?
theorem Laid.zero (A : Cell) (lo : Nat) (f : Nat → Value) : Laid A A lo (lo + 0) f := ⟨rfl, rfl, rfl, fun i => by rw [if_neg (by omega)]⟩
theorem Laid.step {A Ak : Cell} {lo k : Nat} {f : Nat → Value} {v : Value} (h : Laid A Ak lo k f) (hlo : lo ≤ k) (hk : k < Ak.slots.size) (hv : v = f k) : Laid A (Ak.setSlot k v) lo (k + 1) f := by
  refine ⟨h.1, h.2.1, by simpa [Cell.setSlot] using h.2.2.1, fun i => ?_⟩
  by_cases e : k = i
  · subst e; rw [Cell.slots_setSlot_self v hk, if_pos (by omega), hv]
  · rw [Cell.slots_setSlot_ne v e, h.2.2.2 i]
    by_cases q : lo ≤ i ∧ i < k
    · rw [if_pos q, if_pos (by omega)]
    · rw [if_neg q, if_neg (by omega)]
def U16 : String := "java/lang/StringUTF16"
namespace Cmp5
def yN : MethodName := ⟨"java/lang/StringUTF16", "compress", "([CI[BII)I"⟩
abbrev yB : ByteArray := jdk_52_method_21_code
theorem d0 : decode yB 0 = .ok (.iconst 0, 1) := by decide +kernel
theorem d1 : decode yB 1 = .ok (.istore 5, 2) := by decide +kernel
theorem d3 : decode yB 3 = .ok (.iload 5, 2) := by decide +kernel
theorem d5 : decode yB 5 = .ok (.iload 4, 2) := by decide +kernel
theorem d7 : decode yB 7 = .ok (.if_icmp (.ge) 37, 3) := by decide +kernel
theorem d10 : decode yB 10 = .ok (.aload_n 0, 1) := by decide +kernel
theorem d11 : decode yB 11 = .ok (.iload_n 1, 1) := by decide +kernel
theorem d12 : decode yB 12 = .ok (.caload, 1) := by decide +kernel
theorem d13 : decode yB 13 = .ok (.istore 6, 2) := by decide +kernel
theorem d15 : decode yB 15 = .ok (.iload 6, 2) := by decide +kernel
theorem d17 : decode yB 17 = .ok (.sipush 255, 3) := by decide +kernel
theorem d20 : decode yB 20 = .ok (.if_icmp (.le) 6, 3) := by decide +kernel
theorem d26 : decode yB 26 = .ok (.aload_n 2, 1) := by decide +kernel
theorem d27 : decode yB 27 = .ok (.iload_n 3, 1) := by decide +kernel
theorem d28 : decode yB 28 = .ok (.iload 6, 2) := by decide +kernel
theorem d30 : decode yB 30 = .ok (.i2b, 1) := by decide +kernel
theorem d31 : decode yB 31 = .ok (.bastore, 1) := by decide +kernel
theorem d32 : decode yB 32 = .ok (.iinc 1 1, 3) := by decide +kernel
theorem d35 : decode yB 35 = .ok (.iinc 3 1, 3) := by decide +kernel
theorem d38 : decode yB 38 = .ok (.iinc 5 1, 3) := by decide +kernel
theorem d41 : decode yB 41 = .ok (.goto (-38), 3) := by decide +kernel
theorem d44 : decode yB 44 = .ok (.iload 4, 2) := by decide +kernel
theorem d46 : decode yB 46 = .ok (.ireturn, 1) := by decide +kernel
def site : List Cond := []
def tab : Cond := tabOf yN yB 7 (some .int) site
def P (b : Addr) (A : Cell) (d : Addr) (B : Cell) (o q len : Nat) (args : Array Value) (s : State) : Prop := args = #[.ref b, .int (Int32.ofNat o), .ref d, .int (Int32.ofNat q), .int (Int32.ofNat len)] ∧ Ch b A s ∧ Arr .byte d B s ∧ b ≠ d ∧ o + len ≤ A.slots.size ∧ q + len ≤ B.slots.size ∧ ∀ i, i < len → ¬ 255 < cv A (o + i)
def E (b : Addr) (A : Cell) (d : Addr) (B : Cell) (o q len : Nat) (r : Option Value) (s u : State) : Prop := r = some (.int (Int32.ofNat len)) ∧ ∃ B', Put d B' s u ∧ Laid B B' q (q + len) (fun j => Value.int (lo8 (cv A (o + (j - q)))))
/-- no char of the range above 255: len; the places written hold each char's low byte -/
theorem law (l : Launch) (b : Addr) (A : Cell) (d : Addr) (B : Cell) (o q len : Nat) : Law l yN 5 5 0 0 yB 7 (some .int) site (P b A d B o q len) (E b A d B o q len) (copyLocs d q len) 0 0 := by
  refine Law.of_walk (plainFor_of_name (by decide +kernel)) (by decide +kernel) (by decide +kernel) (by decide) (fun _ _ h => by rw [h.1]; rfl) (fun _ U U' hal hh h => ⟨h.1, h.2.1.mv hal hh, h.2.2.1.mv hal hh, h.2.2.2⟩) (fun r U U' V V' h1 hal h2 h => ⟨h.1, h.2.elim fun B' q => ⟨B', q.1.mv h1 h2, q.2⟩⟩) ?_
  intro p e s m args below meth c s₁ X0 hexec hbytes hml hret hlk hnm hown hh0 W hP
  obtain ⟨rfl, hA, hB, hne, l1, l2, hp⟩ := hP
  have c1 : Steps p.tables e below (s₁.setTop (entryFrame m #[.ref b, .int (Int32.ofNat o), .ref d, .int (Int32.ofNat q), .int (Int32.ofNat len)] 7)) (s₁.setTop (mkF m 0 #[.val (.ref b), .val (.int (Int32.ofNat o)), .val (.ref d), .val (.int (Int32.ofNat q)), .val (.int (Int32.ofNat len)), .unset, .unset] [])) := entry rfl
  have hA0 := hA.1.mv X0.warmed.alike hh0
  have hB0 := hB.mv X0.warmed.alike hh0
  have a31 := hA.1.2.2.2
  have c2 : Steps p.tables e below (s₁.setTop (entryFrame m #[.ref b, .int (Int32.ofNat o), .ref d, .int (Int32.ofNat q), .int (Int32.ofNat len)] 7)) (s₁.setTop (mkF m 3 #[.val (.ref b), .val (.int (Int32.ofNat o)), .val (.ref d), .val (.int (Int32.ofNat q)), .val (.int (Int32.ofNat len)), .val (.int 0), .unset] [])) := c1.trans (by
    refine iconstV X0.here hexec rfl 0 (hb hbytes d0) (by decide) ?_
    refine XS.istore X0.here hexec rfl (hb hbytes d1) rfl rfl ?_
    exact Steps.refl _)
  have loop : ∀ (r i : Nat), i + r = len → ∀ (z : Slot), (z = .unset ∨ ∃ w, z = .val w ∧ w.category = 1) → ∀ (Tl : State) (Bk : Cell), Stand p l e { frames := 0, locals := 0, cells := 0, slots := 0 } s m #[.ref b, .int (Int32.ofNat o), .ref d, .int (Int32.ofNat q), .int (Int32.ofNat len)] below meth c Tl ([] ++ copyLocs d q i) 0 0 → Put d Bk s₁ Tl → Laid B Bk q (q + i) (fun j => Value.int (lo8 (cv A (o + (j - q))))) →
      Steps p.tables e below (s₁.setTop (entryFrame m #[.ref b, .int (Int32.ofNat o), .ref d, .int (Int32.ofNat q), .int (Int32.ofNat len)] 7)) (Tl.setTop (mkF m 3 #[.val (.ref b), .val (.int (Int32.ofNat (o + i))), .val (.ref d), .val (.int (Int32.ofNat (q + i))), .val (.int (Int32.ofNat len)), .val (.int (Int32.ofNat i)), z] [])) → ∃ (T' : State) (B' : Cell) (z' : Slot), Stand p l e { frames := 0, locals := 0, cells := 0, slots := 0 } s m #[.ref b, .int (Int32.ofNat o), .ref d, .int (Int32.ofNat q), .int (Int32.ofNat len)] below meth c T' ([] ++ copyLocs d q len) 0 0 ∧ Put d B' s₁ T' ∧ Laid B B' q (q + len) (fun j => Value.int (lo8 (cv A (o + (j - q))))) ∧
      Steps p.tables e below (s₁.setTop (entryFrame m #[.ref b, .int (Int32.ofNat o), .ref d, .int (Int32.ofNat q), .int (Int32.ofNat len)] 7)) (T'.setTop (mkF m 3 #[.val (.ref b), .val (.int (Int32.ofNat (o + len))), .val (.ref d), .val (.int (Int32.ofNat (q + len))), .val (.int (Int32.ofNat len)), .val (.int (Int32.ofNat len)), z'] [])) := by
    intro r
    induction r with
    | zero =>
      intro i hi z hz Tl Bk Xl pl fl cl
      have hil : i = len := by omega
      rw [hil] at Xl fl cl
      exact ⟨Tl, Bk, z, Xl, pl, fl, cl⟩
    | succ r ih =>
      intro i hi z hz Tl Bk Xl pl fl cl
      have all := X0.warmed.alike.symm.trans Xl.warmed.alike
      have hAl := hA0.keep all (pl.other hne hA0.1)
      have hBk := hB0.like all pl.1 fl.1 fl.2.1 fl.2.2.1
      have hlt : q + i < Bk.slots.size := by rw [fl.2.2.1]; omega
      have c3 : Steps p.tables e below (s₁.setTop (entryFrame m #[.ref b, .int (Int32.ofNat o), .ref d, .int (Int32.ofNat q), .int (Int32.ofNat len)] 7)) (Tl.setTop (mkF m 12 #[.val (.ref b), .val (.int (Int32.ofNat (o + i))), .val (.ref d), .val (.int (Int32.ofNat (q + i))), .val (.int (Int32.ofNat len)), .val (.int (Int32.ofNat i)), z] [.int (Int32.ofNat (o + i)), .ref b])) := cl.trans (by
        refine XS.iload Xl.here hexec rfl (hb hbytes d3) rfl ?_
        refine XS.iload Xl.here hexec rfl (hb hbytes d5) rfl ?_
        refine XS.icmpNo Xl.here hexec rfl (hb hbytes d7) rfl (ii_ge_f (lt32 (by omega) (by omega))) ?_
        refine XS.aloadN Xl.here hexec rfl (hb hbytes d10) rfl rfl ?_
        refine XS.iloadN Xl.here hexec rfl (hb hbytes d11) rfl ?_
        exact Steps.refl _)
      have c4 : Steps p.tables e below (s₁.setTop (entryFrame m #[.ref b, .int (Int32.ofNat o), .ref d, .int (Int32.ofNat q), .int (Int32.ofNat len)] 7)) (Tl.setTop (mkF m 13 #[.val (.ref b), .val (.int (Int32.ofNat (o + i))), .val (.ref d), .val (.int (Int32.ofNat (q + i))), .val (.int (Int32.ofNat len)), .val (.int (Int32.ofNat i)), z] [.int (cv A (o + i))])) := c3.trans (by
        refine Xl.aget hexec hAl rfl (hA.get (i := o + i) (by omega)) rfl rfl (hb hbytes d12) ?_
        exact Steps.refl _)
      have c5 : Steps p.tables e below (s₁.setTop (entryFrame m #[.ref b, .int (Int32.ofNat o), .ref d, .int (Int32.ofNat q), .int (Int32.ofNat len)] 7)) (Tl.setTop (mkF m 15 #[.val (.ref b), .val (.int (Int32.ofNat (o + i))), .val (.ref d), .val (.int (Int32.ofNat (q + i))), .val (.int (Int32.ofNat len)), .val (.int (Int32.ofNat i)), .val (.int (cv A (o + i)))] [])) := c4.trans (by
        refine XS.istoreS Xl.here hexec rfl (hb hbytes d13) rfl rfl hz ?_
        exact Steps.refl _)
      have c6 : Steps p.tables e below (s₁.setTop (entryFrame m #[.ref b, .int (Int32.ofNat o), .ref d, .int (Int32.ofNat q), .int (Int32.ofNat len)] 7)) (Tl.setTop (mkF m 31 #[.val (.ref b), .val (.int (Int32.ofNat (o + i))), .val (.ref d), .val (.int (Int32.ofNat (q + i))), .val (.int (Int32.ofNat len)), .val (.int (Int32.ofNat i)), .val (.int (cv A (o + i)))] [.int (lo8 (cv A (o + i))), .int (Int32.ofNat (q + i)), .ref d])) := c5.trans (by
        refine XS.iload Xl.here hexec rfl (hb hbytes d15) rfl ?_
        refine sipushV Xl.here hexec rfl 255 (hb hbytes d17) (by decide) ?_
        refine XS.icmpYes Xl.here hexec rfl (pc0 := 20) rfl (hb hbytes d20) rfl (ii_le_t (hp i (by omega))) (by decide) rfl ?_
        refine XS.aloadN Xl.here hexec rfl (hb hbytes d26) rfl rfl ?_
        refine XS.iloadN Xl.here hexec rfl (hb hbytes d27) rfl ?_
        refine XS.iload Xl.here hexec rfl (hb hbytes d28) rfl ?_
        refine i2b Xl.here hexec rfl (hb hbytes d30) rfl ?_
        exact Steps.refl _)
      obtain ⟨T7, X7, p7, st7⟩ := Xl.aput hexec hBk rfl hlt rfl (fits_lo8 (cv A (o + i))) (g := (mkF m 31 #[.val (.ref b), .val (.int (Int32.ofNat (o + i))), .val (.ref d), .val (.int (Int32.ofNat (q + i))), .val (.int (Int32.ofNat len)), .val (.int (Int32.ofNat i)), .val (.int (cv A (o + i)))] [.int (lo8 (cv A (o + i))), .int (Int32.ofNat (q + i)), .ref d])) rfl (rest := []) rfl (hb hbytes d31)
      have c8 : Steps p.tables e below (s₁.setTop (entryFrame m #[.ref b, .int (Int32.ofNat o), .ref d, .int (Int32.ofNat q), .int (Int32.ofNat len)] 7)) (T7.setTop (mkF m 32 #[.val (.ref b), .val (.int (Int32.ofNat (o + i))), .val (.ref d), .val (.int (Int32.ofNat (q + i))), .val (.int (Int32.ofNat len)), .val (.int (Int32.ofNat i)), .val (.int (cv A (o + i)))] [])) := c6.trans (st7 _ (Steps.refl _))
      have c9 : Steps p.tables e below (s₁.setTop (entryFrame m #[.ref b, .int (Int32.ofNat o), .ref d, .int (Int32.ofNat q), .int (Int32.ofNat len)] 7)) (T7.setTop (mkF m 3 #[.val (.ref b), .val (.int (Int32.ofNat (o + i) + 1)), .val (.ref d), .val (.int (Int32.ofNat (q + i) + 1)), .val (.int (Int32.ofNat len)), .val (.int (Int32.ofNat i + 1)), .val (.int (cv A (o + i)))] [])) := c8.trans (by
        refine iincV X7.here hexec rfl 1 (hb hbytes d32) (by decide) rfl rfl ?_
        refine iincV X7.here hexec rfl 1 (hb hbytes d35) (by decide) rfl rfl ?_
        refine iincV X7.here hexec rfl 1 (hb hbytes d38) (by decide) rfl rfl ?_
        refine XS.goto X7.here hexec rfl (pc0 := 41) rfl (hb hbytes d41) (by decide) rfl ?_
        exact Steps.refl _)
      have c10 : Steps p.tables e below (s₁.setTop (entryFrame m #[.ref b, .int (Int32.ofNat o), .ref d, .int (Int32.ofNat q), .int (Int32.ofNat len)] 7)) (T7.setTop (mkF m 3 #[.val (.ref b), .val (.int (Int32.ofNat (o + (i + 1)))), .val (.ref d), .val (.int (Int32.ofNat (q + (i + 1)))), .val (.int (Int32.ofNat len)), .val (.int (Int32.ofNat (i + 1))), .val (.int (cv A (o + i)))] [])) := by
        have := c9
        rw [succ32, succ32, succ32] at this
        exact this
      exact ih (i + 1) (by omega) _ (Or.inr ⟨_, rfl, rfl⟩) T7 _ (by rw [copyLocs_step, ← List.append_assoc]; exact X7) (pl.trans p7) (fl.step (by omega) hlt (by simp)) c10
  obtain ⟨T9, B9, z9, X9, p9, f9, g9⟩ := loop len 0 (by omega) .unset (Or.inl rfl) s₁ B (by simpa [copyLocs] using X0) ⟨hB0.1, fun _ _ => rfl, rfl⟩ (Laid.zero _ _ _) c2
  have c11 : Steps p.tables e below (s₁.setTop (entryFrame m #[.ref b, .int (Int32.ofNat o), .ref d, .int (Int32.ofNat q), .int (Int32.ofNat len)] 7)) (T9.setTop (mkF m 46 #[.val (.ref b), .val (.int (Int32.ofNat (o + len))), .val (.ref d), .val (.int (Int32.ofNat (q + len))), .val (.int (Int32.ofNat len)), .val (.int (Int32.ofNat len)), z9] [.int (Int32.ofNat len)])) := g9.trans (by
    refine XS.iload X9.here hexec rfl (hb hbytes d3) rfl ?_
    refine XS.iload X9.here hexec rfl (hb hbytes d5) rfl ?_
    refine XS.icmpYes X9.here hexec rfl (pc0 := 7) rfl (hb hbytes d7) rfl (ii_ge_t (nlt32 (by omega) (Nat.le_refl _))) (by decide) rfl ?_
    refine XS.iload X9.here hexec rfl (hb hbytes d44) rfl ?_
    exact Steps.refl _)
  exact ⟨T9, some (.int (Int32.ofNat len)), _, _, _, X9, by simp, rfl, rfl, (fun h => by cases h), ⟨rfl, B9, p9.from hh0, f9⟩, fun fs hl => c11.trans (X9.ireturnOut hexec hret rfl (Or.inl rfl) (hb hbytes d46) hl)⟩
end Cmp5
namespace Cmp3
def yN : MethodName := ⟨"java/lang/StringUTF16", "compress", "([CII)[B"⟩
abbrev yB : ByteArray := jdk_52_method_16_code
theorem d0 : decode yB 0 = .ok (.iload_n 2, 1) := by decide +kernel
theorem d1 : decode yB 1 = .ok (.newarray .byte, 2) := by decide +kernel
theorem d3 : decode yB 3 = .ok (.astore_n 3, 1) := by decide +kernel
theorem d4 : decode yB 4 = .ok (.aload_n 0, 1) := by decide +kernel
theorem d5 : decode yB 5 = .ok (.iload_n 1, 1) := by decide +kernel
theorem d6 : decode yB 6 = .ok (.aload_n 3, 1) := by decide +kernel
theorem d7 : decode yB 7 = .ok (.iconst 0, 1) := by decide +kernel
theorem d8 : decode yB 8 = .ok (.iload_n 2, 1) := by decide +kernel
theorem d9 : decode yB 9 = .ok (.invokestatic 115, 3) := by decide +kernel
theorem d12 : decode yB 12 = .ok (.istore 4, 2) := by decide +kernel
theorem d14 : decode yB 14 = .ok (.iload 4, 2) := by decide +kernel
theorem d16 : decode yB 16 = .ok (.iload_n 2, 1) := by decide +kernel
theorem d17 : decode yB 17 = .ok (.if_icmp (.eq) 40, 3) := by decide +kernel
theorem d57 : decode yB 57 = .ok (.aload_n 3, 1) := by decide +kernel
theorem d58 : decode yB 58 = .ok (.areturn, 1) := by decide +kernel
def site : List Cond := [.arrayClass .byte, Cmp5.tab] ++ staticW U16 115 Cmp5.yN
def tab : Cond := tabOf yN yB 6 (some (.array .byte)) site
def P (b : Addr) (A : Cell) (o len : Nat) (args : Array Value) (s : State) : Prop := args = #[.ref b, .int (Int32.ofNat o), .int (Int32.ofNat len)] ∧ Ch b A s ∧ o + len ≤ A.slots.size ∧ len ≤ 536870912 ∧ ∀ i, i < len → ¬ 255 < cv A (o + i)
def E (b : Addr) (A : Cell) (o len : Nat) (r : Option Value) (s u : State) : Prop := NewArr .byte "[B" len (fun j => .int (lo8 (cv A (o + j)))) r s u ∧ u.heap.size = s.heap.size + 1
/-- no char of the range above 255: a new byte[] of their low bytes -/
theorem law (l : Launch) (b : Addr) (A : Cell) (o len : Nat) : Law l yN 3 3 1 18 yB 6 (some (.array .byte)) site (P b A o len) (E b A o len) [] 1 len := by
  refine Law.of_walk (plainFor_of_name (by decide +kernel)) (by decide +kernel) (by decide +kernel) (by decide) (fun _ _ h => by rw [h.1]; rfl) (fun _ U U' hal hh h => ⟨h.1, h.2.1.mv hal hh, h.2.2⟩) (fun r U U' V V' h1 hal h2 h => ⟨NewArr.mv r U U' V V' h1 hal h2 h.1, by rw [h1, h2]; exact h.2⟩) ?_
  intro p e s m args below meth c s₁ X0 hexec hbytes hml hret hlk hnm hown hh0 W hP
  obtain ⟨rfl, hA, l1, l2, hp⟩ := hP
  have a31 := hA.1.2.2.2
  have c1 : Steps p.tables e below (s₁.setTop (entryFrame m #[.ref b, .int (Int32.ofNat o), .int (Int32.ofNat len)] 6)) (s₁.setTop (mkF m 0 #[.val (.ref b), .val (.int (Int32.ofNat o)), .val (.int (Int32.ofNat len)), .unset, .unset, .unset] [])) := entry rfl
  have c2 : Steps p.tables e below (s₁.setTop (entryFrame m #[.ref b, .int (Int32.ofNat o), .int (Int32.ofNat len)] 6)) (s₁.setTop (mkF m 1 #[.val (.ref b), .val (.int (Int32.ofNat o)), .val (.int (Int32.ofNat len)), .unset, .unset, .unset] [.int (Int32.ofNat len)])) := c1.trans (by
    refine XS.iloadN X0.here hexec rfl (hb hbytes d0) rfl ?_
    exact Steps.refl _)
  obtain ⟨T3, B3, X3, ba3, bs3, bv3, bh3, bf3, st3⟩ := X0.anew hexec (atype := .byte) (wk W (.arrayClass .byte)) rfl (by show len * 1 ≤ _; omega) (by omega) (g := (mkF m 1 #[.val (.ref b), .val (.int (Int32.ofNat o)), .val (.int (Int32.ofNat len)), .unset, .unset, .unset] [.int (Int32.ofNat len)])) rfl (hb hbytes d1) (rest := []) rfl (Nat.le_refl _) (by show 0 + len ≤ len; omega)
  rw [hh0] at ba3 st3
  have kp3 : XT.Kept s T3 := (XT.Kept.of_eq hh0).push bh3
  have hA3 := hA.keep X3.warmed.alike (kp3 _ _ hA.1.1)
  have hne : b ≠ s.heap.size := hA.1.ne
  have c4 : Steps p.tables e below (s₁.setTop (entryFrame m #[.ref b, .int (Int32.ofNat o), .int (Int32.ofNat len)] 6)) (T3.setTop (mkF m 3 #[.val (.ref b), .val (.int (Int32.ofNat o)), .val (.int (Int32.ofNat len)), .unset, .unset, .unset] [.ref s.heap.size])) := c2.trans (st3 _ (Steps.refl _))
  have c5 : Steps p.tables e below (s₁.setTop (entryFrame m #[.ref b, .int (Int32.ofNat o), .int (Int32.ofNat len)] 6)) (T3.setTop (mkF m 9 #[.val (.ref b), .val (.int (Int32.ofNat o)), .val (.int (Int32.ofNat len)), .val (.ref s.heap.size), .unset, .unset] [.int (Int32.ofNat len), .int 0, .ref s.heap.size, .int (Int32.ofNat o), .ref b])) := c4.trans (by
    refine XS.astoreN X3.here hexec rfl (hb hbytes d3) rfl rfl rfl ?_
    refine XS.aloadN X3.here hexec rfl (hb hbytes d4) rfl rfl ?_
    refine XS.iloadN X3.here hexec rfl (hb hbytes d5) rfl ?_
    refine XS.aloadN X3.here hexec rfl (hb hbytes d6) rfl rfl ?_
    refine iconstV X3.here hexec rfl 0 (hb hbytes d7) (by decide) ?_
    refine XS.iloadN X3.here hexec rfl (hb hbytes d8) rfl ?_
    exact Steps.refl _)
  obtain ⟨v6, T6, X6, E6, g6⟩ := X3.callS hexec (Cmp5.law l b A s.heap.size B3 o 0 len) hown (wks W (staticW U16 115 Cmp5.yN)) (wk W Cmp5.tab) (W := 0) (Nat.le_of_ble_eq_true rfl) (Nat.le_of_ble_eq_true rfl) (Nat.le_refl _) (by show 0 + len + 0 ≤ len; omega) (g := (mkF m 9 #[.val (.ref b), .val (.int (Int32.ofNat o)), .val (.int (Int32.ofNat len)), .val (.ref s.heap.size), .unset, .unset] [.int (Int32.ofNat len), .int (Int32.ofNat 0), .ref s.heap.size, .int (Int32.ofNat o), .ref b])) rfl (by rw [hml]; rfl) c5 (argsL := [.ref b, .int (Int32.ofNat o), .ref s.heap.size, .int (Int32.ofNat 0), .int (Int32.ofNat len)]) (rest := []) rfl rfl (by show 2 * 0 + 0 ≤ _; decide) (hb hbytes d9) (⟨rfl, hA3, ba3, hne, l1, by rw [bs3]; simp, hp⟩)
  obtain ⟨rfl, B6, p6, f6⟩ := E6
  have c7 : Steps p.tables e below (s₁.setTop (entryFrame m #[.ref b, .int (Int32.ofNat o), .int (Int32.ofNat len)] 6)) (T6.setTop (mkF m 12 #[.val (.ref b), .val (.int (Int32.ofNat o)), .val (.int (Int32.ofNat len)), .val (.ref s.heap.size), .unset, .unset] [.int (Int32.ofNat len)])) := g6
  have c8 : Steps p.tables e below (s₁.setTop (entryFrame m #[.ref b, .int (Int32.ofNat o), .int (Int32.ofNat len)] 6)) (T6.setTop (mkF m 58 #[.val (.ref b), .val (.int (Int32.ofNat o)), .val (.int (Int32.ofNat len)), .val (.ref s.heap.size), .val (.int (Int32.ofNat len)), .unset] [.ref s.heap.size])) := c7.trans (by
    refine XS.istore X6.here hexec rfl (hb hbytes d12) rfl rfl ?_
    refine XS.iload X6.here hexec rfl (hb hbytes d14) rfl ?_
    refine XS.iloadN X6.here hexec rfl (hb hbytes d16) rfl ?_
    refine XS.icmpYes X6.here hexec rfl (pc0 := 17) rfl (hb hbytes d17) rfl (ii_eq_t rfl) (by decide) rfl ?_
    refine XS.aloadN X6.here hexec rfl (hb hbytes d57) rfl rfl ?_
    exact Steps.refl _)
  have X8 := X6.wide (L' := []) (cells' := 1) (slots' := len) (fun x hx hlt => by
    simp only [List.nil_append, copyLocs, List.mem_map, List.mem_range] at hx
    obtain ⟨i, -, rfl⟩ := hx
    exact absurd hlt (Nat.lt_irrefl _)) (Nat.le_refl _) (by omega)
  exact ⟨T6, some (.ref s.heap.size), _, _, _, X8, rfl, rfl, rfl, (fun h => by cases h), ⟨⟨rfl, B6, ba3.like (X3.warmed.alike.symm.trans X6.warmed.alike) p6.1 f6.1 f6.2.1 f6.2.2.1, f6.2.1.trans bv3, by rw [X6.warmed.alike.findClass, f6.1]; exact bf3, by rw [f6.2.2.1, bs3]; simp, fun j hj => by rw [f6.2.2.2 j, if_pos (by omega)]; rfl, kp3.put p6 (Nat.le_refl _)⟩, by rw [p6.2.2, bh3, hh0]; simp⟩, fun fs hl => c8.trans (X8.areturnOut hexec rfl hret rfl (hb hbytes d58) hl)⟩
end Cmp3
namespace CodL
def yN : MethodName := ⟨"java/lang/StringUTF16", "coderFromArrayLen", "([BI)B"⟩
abbrev yB : ByteArray := jdk_52_method_15_code
theorem d0 : decode yB 0 = .ok (.iload_n 1, 1) := by decide +kernel
theorem d1 : decode yB 1 = .ok (.aload_n 0, 1) := by decide +kernel
theorem d2 : decode yB 2 = .ok (.arraylength, 1) := by decide +kernel
theorem d3 : decode yB 3 = .ok (.isub, 1) := by decide +kernel
theorem d4 : decode yB 4 = .ok (.bipush 31, 2) := by decide +kernel
theorem d6 : decode yB 6 = .ok (.iushr, 1) := by decide +kernel
theorem d7 : decode yB 7 = .ok (.i2b, 1) := by decide +kernel
theorem d8 : decode yB 8 = .ok (.ireturn, 1) := by decide +kernel
def site : List Cond := []
def tab : Cond := tabOf yN yB 2 (some .byte) site
def P (d : Addr) (B : Cell) (args : Array Value) (s : State) : Prop := args = #[.ref d, .int (Int32.ofNat B.slots.size)] ∧ Arr .byte d B s
def E (r : Option Value) (s u : State) : Prop := XT.PureE (some (.int 0)) r s u
/-- an array as long as the number of chars: LATIN1 -/
theorem law (l : Launch) (d : Addr) (B : Cell) : Law l yN 2 2 0 0 yB 2 (some .byte) site (P d B) E [] 0 0 := by
  refine Law.of_walk (plainFor_of_name (by decide +kernel)) (by decide +kernel) (by decide +kernel) (by decide) (fun _ _ h => by rw [h.1]; rfl) (fun _ U U' hal hh h => ⟨h.1, h.2.mv hal hh⟩) (fun r U U' V V' h1 hal h2 h => XT.PureE.mv r U U' V V' h1 hal h2 h) ?_
  intro p e s m args below meth c s₁ X0 hexec hbytes hml hret hlk hnm hown hh0 W hP
  obtain ⟨rfl, hB⟩ := hP
  have hB0 := hB.mv X0.warmed.alike hh0
  have c1 : Steps p.tables e below (s₁.setTop (entryFrame m #[.ref d, .int (Int32.ofNat B.slots.size)] 2)) (s₁.setTop (mkF m 0 #[.val (.ref d), .val (.int (Int32.ofNat B.slots.size))] [])) := entry rfl
  have c2 : Steps p.tables e below (s₁.setTop (entryFrame m #[.ref d, .int (Int32.ofNat B.slots.size)] 2)) (s₁.setTop (mkF m 2 #[.val (.ref d), .val (.int (Int32.ofNat B.slots.size))] [.ref d, .int (Int32.ofNat B.slots.size)])) := c1.trans (by
    refine XS.iloadN X0.here hexec rfl (hb hbytes d0) rfl ?_
    refine XS.aloadN X0.here hexec rfl (hb hbytes d1) rfl rfl ?_
    exact Steps.refl _)
  have c3 : Steps p.tables e below (s₁.setTop (entryFrame m #[.ref d, .int (Int32.ofNat B.slots.size)] 2)) (s₁.setTop (mkF m 8 #[.val (.ref d), .val (.int (Int32.ofNat B.slots.size))] [.int (lo8 (ushr (Int32.ofNat B.slots.size - Int32.ofNat B.slots.size) 31))])) := c2.trans (by
    refine X0.alen hexec hB0 rfl rfl (hb hbytes d2) ?_
    refine XS.isub X0.here hexec rfl (hb hbytes d3) rfl ?_
    refine bipushV X0.here hexec rfl 31 (hb hbytes d4) (by decide) ?_
    refine iushr X0.here hexec rfl (hb hbytes d6) rfl ?_
    refine i2b X0.here hexec rfl (hb hbytes d7) rfl ?_
    exact Steps.refl _)
  have e0 : lo8 (ushr (Int32.ofNat B.slots.size - Int32.ofNat B.slots.size) 31) = 0 := by rw [Int32.sub_self]; decide
  rw [e0] at c3
  exact ⟨s₁, some (.int 0), _, _, _, X0, rfl, rfl, rfl, (fun h => by cases h), ⟨rfl, hh0⟩, fun fs hl => c3.trans (X0.ireturnOut hexec hret rfl (Or.inr (Or.inr (Or.inl rfl))) (hb hbytes d8) hl)⟩
end CodL
/-- the String at a is Latin-1 over a new byte[] (the heap's one new cell): the low bytes of the len chars of A from o on; every cell but a is kept -/
def Got (a : Addr) (D : Cell) (fV fC : Field) (A : Cell) (o len : Nat) (r : Option Value) (s u : State) : Prop := r = none ∧ ∃ D' V : Cell, Blank "java/lang/String" a D' u ∧ Same D D' [fV.slot, fC.slot] ∧ D'.slots[fV.slot]? = some (.ref s.heap.size) ∧ D'.slots[fC.slot]? = some (.int 0) ∧ Arr .byte s.heap.size V u ∧ V.vm = .none ∧ u.vm.findClass "[B" = some V.cls ∧ V.slots.size = len ∧ (∀ j, j < len → V.slots[j]? = some (.int (lo8 (cv A (o + j))))) ∧ (∀ (y : Addr) (c : Cell), y ≠ a → s.heap[y]? = some c → u.heap[y]? = some c) ∧ u.heap.size = s.heap.size + 1
theorem Got.mv {a : Addr} {D A : Cell} {fV fC : Field} {o len : Nat} : ∀ r (U U' V V' : State), U'.heap = U.heap → V.vm.Alike V'.vm → V'.heap = V.heap → Got a D fV fC A o len r U V → Got a D fV fC A o len r U' V' :=
  fun r U U' V V' h1 hal h2 ⟨e0, D', X, a1, a2, a3, a4, a5, a6, a7, a8, a9, a10, a11⟩ => ⟨e0, D', X, a1.mv hal h2, a2, by rw [h1]; exact a3, a4, by rw [h1]; exact a5.mv hal h2, a6, by rw [hal.findClass]; exact a7, a8, a9, by rw [h1, h2]; exact a10, by rw [h1, h2]; exact a11⟩
namespace New4
def yN : MethodName := ⟨"java/lang/String", "<init>", "([CIILjava/lang/Void;)V"⟩
abbrev yB : ByteArray := jdk_42_method_149_code
theorem d0 : decode yB 0 = .ok (.aload_n 0, 1) := by decide +kernel
theorem d1 : decode yB 1 = .ok (.invokespecial 1, 3) := by decide +kernel
theorem d4 : decode yB 4 = .ok (.iload_n 3, 1) := by decide +kernel
theorem d5 : decode yB 5 = .ok (.ifCond (.ne) 22, 3) := by decide +kernel
theorem d27 : decode yB 27 = .ok (.getstatic 38, 3) := by decide +kernel
theorem d30 : decode yB 30 = .ok (.ifCond (.eq) 28, 3) := by decide +kernel
theorem d33 : decode yB 33 = .ok (.aload_n 1, 1) := by decide +kernel
theorem d34 : decode yB 34 = .ok (.iload_n 2, 1) := by decide +kernel
theorem d35 : decode yB 35 = .ok (.iload_n 3, 1) := by decide +kernel
theorem d36 : decode yB 36 = .ok (.invokestatic 177, 3) := by decide +kernel
theorem d39 : decode yB 39 = .ok (.astore 5, 2) := by decide +kernel
theorem d41 : decode yB 41 = .ok (.aload_n 0, 1) := by decide +kernel
theorem d42 : decode yB 42 = .ok (.aload 5, 2) := by decide +kernel
theorem d44 : decode yB 44 = .ok (.iload_n 3, 1) := by decide +kernel
theorem d45 : decode yB 45 = .ok (.invokestatic 47, 3) := by decide +kernel
theorem d48 : decode yB 48 = .ok (.putfield 15, 3) := by decide +kernel
theorem d51 : decode yB 51 = .ok (.aload_n 0, 1) := by decide +kernel
theorem d52 : decode yB 52 = .ok (.aload 5, 2) := by decide +kernel
theorem d54 : decode yB 54 = .ok (.putfield 9, 3) := by decide +kernel
theorem d57 : decode yB 57 = .ok (.return_, 1) := by decide +kernel
def site : List Cond := [.fieldLink "java/lang/String" 38 "java/lang/String" "COMPACT_STRINGS" "Z", Cmp3.tab, CodL.tab, .laysFinal "java/lang/String" "java/lang/String" "value" "[B", .fieldLink "java/lang/String" 9 "java/lang/String" "value" "[B", .laysFinal "java/lang/String" "java/lang/String" "coder" "B", .fieldLink "java/lang/String" 15 "java/lang/String" "coder" "B"] ++ objW "java/lang/String" 1 ++ staticW "java/lang/String" 177 Cmp3.yN ++ staticW "java/lang/String" 47 CodL.yN
def tab : Cond := tabOf yN yB 6 none site
def P (a : Addr) (D : Cell) (fV fC : Field) (b : Addr) (A : Cell) (z : Int32) (o len : Nat) (args : Array Value) (s : State) : Prop := args = #[.ref a, .ref b, .int (Int32.ofNat o), .int (Int32.ofNat len), .null] ∧ Blank "java/lang/String" a D s ∧ Found "java/lang/String" "value" "[B" fV s ∧ Found "java/lang/String" "coder" "B" fC s ∧ Ch b A s ∧ StaticIs s "java/lang/String" "COMPACT_STRINGS" "Z" (.int z) ∧ ¬ z = 0 ∧ 0 < len ∧ o + len ≤ A.slots.size ∧ len ≤ 536870912 ∧ ∀ i, i < len → ¬ 255 < cv A (o + i)
def E (a : Addr) (D : Cell) (fV fC : Field) (A : Cell) (o len : Nat) (r : Option Value) (s u : State) : Prop := Got a D fV fC A o len r s u
/-- len > 0, no char of the range above 255: a Latin-1 String of their low bytes -/
theorem law (l : Launch) (a : Addr) (D : Cell) (fV fC : Field) (b : Addr) (A : Cell) (z : Int32) (o len : Nat) : Law l yN 5 4 2 35 yB 6 none site (P a D fV fC b A z o len) (E a D fV fC A o len) [⟨a, fC.slot⟩, ⟨a, fV.slot⟩] 1 len := by
  refine Law.of_walk (plainFor_of_name (by decide +kernel)) (by decide +kernel) (by decide +kernel) (by decide) (fun _ _ h => by rw [h.1]; rfl) (fun _ U U' hal hh h => ⟨h.1, h.2.1.mv hal hh, h.2.2.1.al hal, h.2.2.2.1.al hal, h.2.2.2.2.1.mv hal hh, h.2.2.2.2.2.1.there hal hh, h.2.2.2.2.2.2⟩) (fun r U U' V V' h1 hal h2 h => Got.mv r U U' V V' h1 hal h2 h) ?_
  intro p e s m args below meth c s₁ X0 hexec hbytes hml hret hlk hnm hown hh0 W hP
  obtain ⟨rfl, hB, f1, f2, hA, s1, hz, l0, l1, l2, hp⟩ := hP
  have a31 := hA.1.2.2.2
  have c1 : Steps p.tables e below (s₁.setTop (entryFrame m #[.ref a, .ref b, .int (Int32.ofNat o), .int (Int32.ofNat len), .null] 6)) (s₁.setTop (mkF m 0 #[.val (.ref a), .val (.ref b), .val (.int (Int32.ofNat o)), .val (.int (Int32.ofNat len)), .val .null, .unset] [])) := entry rfl
  have c2 : Steps p.tables e below (s₁.setTop (entryFrame m #[.ref a, .ref b, .int (Int32.ofNat o), .int (Int32.ofNat len), .null] 6)) (s₁.setTop (mkF m 1 #[.val (.ref a), .val (.ref b), .val (.int (Int32.ofNat o)), .val (.int (Int32.ofNat len)), .val .null, .unset] [.ref a])) := c1.trans (by
    refine XS.aloadN X0.here hexec rfl (hb hbytes d0) rfl rfl ?_
    exact Steps.refl _)
  obtain ⟨T3, X3, q3, st3⟩ := X0.oinit hexec hown (wks W (objW "java/lang/String" 1)) (g := (mkF m 1 #[.val (.ref a), .val (.ref b), .val (.int (Int32.ofNat o)), .val (.int (Int32.ofNat len)), .val .null, .unset] [.ref a])) rfl (by rw [hml]; rfl) (rest := []) rfl (hb hbytes d1) (W := 0) (by show 2 * 0 + 0 ≤ _; decide) (Nat.le_of_ble_eq_true rfl) (Nat.le_of_ble_eq_true rfl)
  have hh3 := q3.trans hh0
  have c4 : Steps p.tables e below (s₁.setTop (entryFrame m #[.ref a, .ref b, .int (Int32.ofNat o), .int (Int32.ofNat len), .null] 6)) (T3.setTop (mkF m 27 #[.val (.ref a), .val (.ref b), .val (.int (Int32.ofNat o)), .val (.int (Int32.ofNat len)), .val .null, .unset] [])) := (c2.trans (st3 _ (Steps.refl _))).trans (by
    refine XS.iloadN X3.here hexec rfl (hb hbytes d4) rfl ?_
    refine XS.ifYes X3.here hexec rfl (pc0 := 5) rfl (hb hbytes d5) rfl (i0_ne_t (nz32 (by omega) l0)) (by decide) rfl ?_
    exact Steps.refl _)
  obtain ⟨T5, X5, q5, st5⟩ := X3.sget hexec hown (wk W (.fieldLink "java/lang/String" 38 "java/lang/String" "COMPACT_STRINGS" "Z")) s1 (fun _ _ h => by rw [hh3]; exact h) (g := (mkF m 27 #[.val (.ref a), .val (.ref b), .val (.int (Int32.ofNat o)), .val (.int (Int32.ofNat len)), .val .null, .unset] [])) rfl (hb hbytes d27)
  have hh5 := q5.trans hh3
  have c6 : Steps p.tables e below (s₁.setTop (entryFrame m #[.ref a, .ref b, .int (Int32.ofNat o), .int (Int32.ofNat len), .null] 6)) (T5.setTop (mkF m 30 #[.val (.ref a), .val (.ref b), .val (.int (Int32.ofNat o)), .val (.int (Int32.ofNat len)), .val .null, .unset] [.int z])) := c4.trans (st5 _ (Steps.refl _))
  have c7 : Steps p.tables e below (s₁.setTop (entryFrame m #[.ref a, .ref b, .int (Int32.ofNat o), .int (Int32.ofNat len), .null] 6)) (T5.setTop (mkF m 36 #[.val (.ref a), .val (.ref b), .val (.int (Int32.ofNat o)), .val (.int (Int32.ofNat len)), .val .null, .unset] [.int (Int32.ofNat len), .int (Int32.ofNat o), .ref b])) := c6.trans (by
    refine XS.ifNo X5.here hexec rfl (hb hbytes d30) rfl (i0_eq_f hz) ?_
    refine XS.aloadN X5.here hexec rfl (hb hbytes d33) rfl rfl ?_
    refine XS.iloadN X5.here hexec rfl (hb hbytes d34) rfl ?_
    refine XS.iloadN X5.here hexec rfl (hb hbytes d35) rfl ?_
    exact Steps.refl _)
  obtain ⟨v8, T8, X8, E8, g8⟩ := X5.callS hexec (Cmp3.law l b A o len) hown (wks W (staticW "java/lang/String" 177 Cmp3.yN)) (wk W Cmp3.tab) (W := 0) (Nat.le_of_ble_eq_true rfl) (Nat.le_of_ble_eq_true rfl) (Nat.le_refl _) (by show 0 + len ≤ len; omega) (g := (mkF m 36 #[.val (.ref a), .val (.ref b), .val (.int (Int32.ofNat o)), .val (.int (Int32.ofNat len)), .val .null, .unset] [.int (Int32.ofNat len), .int (Int32.ofNat o), .ref b])) rfl (by rw [hml]; rfl) c7 (argsL := [.ref b, .int (Int32.ofNat o), .int (Int32.ofNat len)]) (rest := []) rfl rfl (by show 2 * 0 + 0 ≤ _; decide) (hb hbytes d36) (⟨rfl, hA.mv X5.warmed.alike hh5, l1, l2, hp⟩)
  obtain ⟨e8, z8⟩ := E8
  obtain ⟨rfl, N, n1, n2, n3, n4, n5, n6⟩ := NewArr.mv _ T5 s _ _ hh5.symm (Vm.Alike.refl _) rfl e8
  rw [hh5] at z8
  have hB1 := hB.keep X8.warmed.alike (n6 _ _ hB.1)
  have hne : s.heap.size ≠ a := (Nat.ne_of_lt (Array.getElem?_eq_some_iff.mp hB.1).1).symm
  have c9 : Steps p.tables e below (s₁.setTop (entryFrame m #[.ref a, .ref b, .int (Int32.ofNat o), .int (Int32.ofNat len), .null] 6)) (T8.setTop (mkF m 39 #[.val (.ref a), .val (.ref b), .val (.int (Int32.ofNat o)), .val (.int (Int32.ofNat len)), .val .null, .unset] [.ref s.heap.size])) := g8
  have c10 : Steps p.tables e below (s₁.setTop (entryFrame m #[.ref a, .ref b, .int (Int32.ofNat o), .int (Int32.ofNat len), .null] 6)) (T8.setTop (mkF m 45 #[.val (.ref a), .val (.ref b), .val (.int (Int32.ofNat o)), .val (.int (Int32.ofNat len)), .val .null, .val (.ref s.heap.size)] [.int (Int32.ofNat N.slots.size), .ref s.heap.size, .ref a])) := by
    have hc : Steps p.tables e below (s₁.setTop (entryFrame m #[.ref a, .ref b, .int (Int32.ofNat o), .int (Int32.ofNat len), .null] 6)) (T8.setTop (mkF m 45 #[.val (.ref a), .val (.ref b), .val (.int (Int32.ofNat o)), .val (.int (Int32.ofNat len)), .val .null, .val (.ref s.heap.size)] [.int (Int32.ofNat len), .ref s.heap.size, .ref a])) := c9.trans (by
      refine XS.astore X8.here hexec rfl (hb hbytes d39) rfl rfl rfl ?_
      refine XS.aloadN X8.here hexec rfl (hb hbytes d41) rfl rfl ?_
      refine XS.aload X8.here hexec rfl (hb hbytes d42) rfl rfl ?_
      refine XS.iloadN X8.here hexec rfl (hb hbytes d44) rfl ?_
      exact Steps.refl _)
    rw [n4]; exact hc
  obtain ⟨v11, T11, X11, E11, g11⟩ := X8.callS hexec (CodL.law l s.heap.size N) hown (wks W (staticW "java/lang/String" 47 CodL.yN)) (wk W CodL.tab) (W := 1) (Nat.le_of_ble_eq_true rfl) (Nat.le_of_ble_eq_true rfl) (Nat.le_refl _) (by show 0 + len + 0 ≤ len; omega) (g := (mkF m 45 #[.val (.ref a), .val (.ref b), .val (.int (Int32.ofNat o)), .val (.int (Int32.ofNat len)), .val .null, .val (.ref s.heap.size)] [.int (Int32.ofNat N.slots.size), .ref s.heap.size, .ref a])) rfl (by rw [hml]; rfl) c10 (argsL := [.ref s.heap.size, .int (Int32.ofNat N.slots.size)]) (rest := [.ref a]) rfl rfl (by show 2 * 0 + (1 + 0) ≤ _; decide) (hb hbytes d45) (⟨rfl, n1⟩)
  obtain ⟨rfl, q11⟩ := E11
  have hB11 := hB1.mv (X8.warmed.alike.symm.trans X11.warmed.alike) q11
  have c12 : Steps p.tables e below (s₁.setTop (entryFrame m #[.ref a, .ref b, .int (Int32.ofNat o), .int (Int32.ofNat len), .null] 6)) (T11.setTop (mkF m 48 #[.val (.ref a), .val (.ref b), .val (.int (Int32.ofNat o)), .val (.int (Int32.ofNat len)), .val .null, .val (.ref s.heap.size)] [.int 0, .ref a])) := g11
  obtain ⟨T13, X13, p13, bl13, sl13, st13⟩ := X11.finit hexec hown (wk W (.fieldLink "java/lang/String" 15 "java/lang/String" "coder" "B")) (Or.inr ⟨_, (wk W (.laysFinal "java/lang/String" "java/lang/String" "coder" "B"))⟩) (Or.inl ⟨rfl, hnm⟩) f2 (Or.inl rfl) hB11 (t := .byte) (by decide +kernel) rfl (g := (mkF m 48 #[.val (.ref a), .val (.ref b), .val (.int (Int32.ofNat o)), .val (.int (Int32.ofNat len)), .val .null, .val (.ref s.heap.size)] [.int 0, .ref a])) rfl (rest := []) rfl (hb hbytes d48)
  have c14 : Steps p.tables e below (s₁.setTop (entryFrame m #[.ref a, .ref b, .int (Int32.ofNat o), .int (Int32.ofNat len), .null] 6)) (T13.setTop (mkF m 54 #[.val (.ref a), .val (.ref b), .val (.int (Int32.ofNat o)), .val (.int (Int32.ofNat len)), .val .null, .val (.ref s.heap.size)] [.ref s.heap.size, .ref a])) := (c12.trans (st13 _ (Steps.refl _))).trans (by
    refine XS.aloadN X13.here hexec rfl (hb hbytes d51) rfl rfl ?_
    refine XS.aload X13.here hexec rfl (hb hbytes d52) rfl rfl ?_
    exact Steps.refl _)
  obtain ⟨T15, X15, p15, bl15, sl15, st15⟩ := X13.finit hexec hown (wk W (.fieldLink "java/lang/String" 9 "java/lang/String" "value" "[B")) (Or.inr ⟨_, (wk W (.laysFinal "java/lang/String" "java/lang/String" "value" "[B"))⟩) (Or.inl ⟨rfl, hnm⟩) f1 (Or.inl rfl) bl13 (t := (.array .byte)) (by decide +kernel) rfl (g := (mkF m 54 #[.val (.ref a), .val (.ref b), .val (.int (Int32.ofNat o)), .val (.int (Int32.ofNat len)), .val .null, .val (.ref s.heap.size)] [.ref s.heap.size, .ref a])) rfl (rest := []) rfl (hb hbytes d54)
  have c16 : Steps p.tables e below (s₁.setTop (entryFrame m #[.ref a, .ref b, .int (Int32.ofNat o), .int (Int32.ofNat len), .null] 6)) (T15.setTop (mkF m 57 #[.val (.ref a), .val (.ref b), .val (.int (Int32.ofNat o)), .val (.int (Int32.ofNat len)), .val .null, .val (.ref s.heap.size)] [])) := c14.trans (st15 _ (Steps.refl _))
  have ap := apart (Or.inr ⟨_, (wk W (.laysFinal "java/lang/String" "java/lang/String" "value" "[B"))⟩) (Or.inr ⟨_, (wk W (.laysFinal "java/lang/String" "java/lang/String" "coder" "B"))⟩) f1 f2 (t₁ := .array .byte) (t₂ := .byte) (by decide +kernel) (by decide +kernel) (by decide)
  have al := X8.warmed.alike.symm.trans X15.warmed.alike
  have n7 : T11.heap[s.heap.size]? = some N := by rw [q11]; exact n1.1
  exact ⟨T15, none, _, _, _, X15, by simp, rfl, by omega, (fun _ => rfl), ⟨rfl, _, N, bl15, ((Same.refl D _).set _ (by simp)).set _ (by simp), sl15, (Cell.slots_setSlot_ne _ ap).trans sl13, n1.keep al (p15.other hne (p13.other hne n7)), n2, by rw [al.findClass]; exact n3, n4, n5, fun y c h1 h2 => p15.other h1 (p13.other h1 (by rw [q11]; exact n6 y c h2)), by rw [p15.2.2, p13.2.2, q11]; exact z8⟩, fun fs hl => c16.trans (X15.returnOut hexec hret (hb hbytes d57) hl)⟩
end New4
namespace New1
def yN : MethodName := ⟨"java/lang/String", "<init>", "([C)V"⟩
abbrev yB : ByteArray := jdk_42_method_3_code
theorem d0 : decode yB 0 = .ok (.aload_n 0, 1) := by decide +kernel
theorem d1 : decode yB 1 = .ok (.aload_n 1, 1) := by decide +kernel
theorem d2 : decode yB 2 = .ok (.iconst 0, 1) := by decide +kernel
theorem d3 : decode yB 3 = .ok (.aload_n 1, 1) := by decide +kernel
theorem d4 : decode yB 4 = .ok (.arraylength, 1) := by decide +kernel
theorem d5 : decode yB 5 = .ok (.aconst_null, 1) := by decide +kernel
theorem d6 : decode yB 6 = .ok (.invokespecial 27, 3) := by decide +kernel
theorem d9 : decode yB 9 = .ok (.return_, 1) := by decide +kernel
def site : List Cond := [New4.tab] ++ initW "java/lang/String" 27 New4.yN
def tab : Cond := tabOf yN yB 2 none site
def P (a : Addr) (D : Cell) (fV fC : Field) (b : Addr) (A : Cell) (z : Int32) (args : Array Value) (s : State) : Prop := args = #[.ref a, .ref b] ∧ Blank "java/lang/String" a D s ∧ Found "java/lang/String" "value" "[B" fV s ∧ Found "java/lang/String" "coder" "B" fC s ∧ Ch b A s ∧ StaticIs s "java/lang/String" "COMPACT_STRINGS" "Z" (.int z) ∧ ¬ z = 0 ∧ 0 < A.slots.size ∧ A.slots.size ≤ 536870912 ∧ ∀ i, i < A.slots.size → ¬ 255 < cv A i
def E (a : Addr) (D : Cell) (fV fC : Field) (A : Cell) (r : Option Value) (s u : State) : Prop := Got a D fV fC A 0 A.slots.size r s u
/-- new String(chars), not empty, no char above 255: a Latin-1 String of their low bytes -/
theorem law (l : Launch) (a : Addr) (D : Cell) (fV fC : Field) (b : Addr) (A : Cell) (z : Int32) : Law l yN 2 1 3 52 yB 2 none site (P a D fV fC b A z) (E a D fV fC A) [⟨a, fC.slot⟩, ⟨a, fV.slot⟩] 1 A.slots.size := by
  refine Law.of_walk (plainFor_of_name (by decide +kernel)) (by decide +kernel) (by decide +kernel) (by decide) (fun _ _ h => by rw [h.1]; rfl) (fun _ U U' hal hh h => ⟨h.1, h.2.1.mv hal hh, h.2.2.1.al hal, h.2.2.2.1.al hal, h.2.2.2.2.1.mv hal hh, h.2.2.2.2.2.1.there hal hh, h.2.2.2.2.2.2⟩) (fun r U U' V V' h1 hal h2 h => Got.mv r U U' V V' h1 hal h2 h) ?_
  intro p e s m args below meth c s₁ X0 hexec hbytes hml hret hlk hnm hown hh0 W hP
  obtain ⟨rfl, hB, f1, f2, hA, s1, hz, l0, l2, hp⟩ := hP
  have c1 : Steps p.tables e below (s₁.setTop (entryFrame m #[.ref a, .ref b] 2)) (s₁.setTop (mkF m 0 #[.val (.ref a), .val (.ref b)] [])) := entry rfl
  have c2 : Steps p.tables e below (s₁.setTop (entryFrame m #[.ref a, .ref b] 2)) (s₁.setTop (mkF m 6 #[.val (.ref a), .val (.ref b)] [.null, .int (Int32.ofNat A.slots.size), .int 0, .ref b, .ref a])) := c1.trans (by
    refine XS.aloadN X0.here hexec rfl (hb hbytes d0) rfl rfl ?_
    refine XS.aloadN X0.here hexec rfl (hb hbytes d1) rfl rfl ?_
    refine iconstV X0.here hexec rfl 0 (hb hbytes d2) (by decide) ?_
    refine XS.aloadN X0.here hexec rfl (hb hbytes d3) rfl rfl ?_
    refine X0.alen hexec (hA.1.mv X0.warmed.alike hh0) rfl rfl (hb hbytes d4) ?_
    refine XS.aconstNull X0.here hexec rfl (hb hbytes d5) ?_
    exact Steps.refl _)
  obtain ⟨v3, T3, X3, E3, g3⟩ := X0.callN hexec (New4.law l a D fV fC b A z 0 A.slots.size) rfl hown (wks W (initW "java/lang/String" 27 New4.yN)) (W New4.tab (by simp only [site, List.mem_cons, List.mem_append, true_or, or_true])) (W := 0) (Nat.le_of_ble_eq_true rfl) (Nat.le_of_ble_eq_true rfl) (Nat.le_refl _) (by show 0 + A.slots.size ≤ A.slots.size; omega) (g := (mkF m 6 #[.val (.ref a), .val (.ref b)] [.null, .int (Int32.ofNat A.slots.size), .int (Int32.ofNat 0), .ref b, .ref a])) rfl (by rw [hml]; rfl) c2 (argsL := [.ref b, .int (Int32.ofNat 0), .int (Int32.ofNat A.slots.size), .null]) (rest := []) rfl rfl (by show 2 * 0 + 0 ≤ _; decide) (hb hbytes d6) (⟨rfl, hB.mv X0.warmed.alike hh0, f1.al X0.warmed.alike, f2.al X0.warmed.alike, hA.mv X0.warmed.alike hh0, s1.there X0.warmed.alike hh0, hz, l0, by omega, l2, fun i hi => by rw [Nat.zero_add]; exact hp i hi⟩)
  have e0 := Got.mv _ s₁ s _ _ hh0.symm (Vm.Alike.refl _) rfl E3
  obtain rfl := e0.1
  have c4 : Steps p.tables e below (s₁.setTop (entryFrame m #[.ref a, .ref b] 2)) (T3.setTop (mkF m 9 #[.val (.ref a), .val (.ref b)] [])) := g3
  exact ⟨T3, none, _, _, _, X3, by simp, rfl, by omega, (fun _ => rfl), e0, fun fs hl => c4.trans (X3.returnOut hexec hret (hb hbytes d9) hl)⟩
theorem pays {l : Launch} {R : Room} {p : Program} {e : Env} {below : List Frame} {s : State} {sargs : Array Value} {len W : Nat} (a : Addr) (D : Cell) (fV fC : Field) (b : Addr) (A : Cell) (z : Int32) (htab : tab.before sargs s = true) (hfr : 4 ≤ R.frames) (hlo : W + 65 ≤ R.locals) :
    Back l R p e below s sargs yN len W (fun A₁ a₁ => A₁.cells + 1 ≤ R.cells ∧ A₁.slots + A.slots.size ≤ R.slots ∧ P a D fV fC b A z a₁ A₁.U) (fun A₁ _ v₁ B₁ => E a D fV fC A v₁ A₁.U B₁.U ∧ B₁.locs = A₁.locs ++ [⟨a, fC.slot⟩, ⟨a, fV.slot⟩] ∧ B₁.cells = A₁.cells + 1 ∧ B₁.slots = A₁.slots + A.slots.size) :=
  (law l a D fV fC b A z).pays htab hfr (by omega)
end New1
/-- the byte, read back as charAt reads it, is the char -/
theorem lo8_mask {x : Int32} (h0 : ¬ x < 0) (h1 : ¬ 255 < x) : lo8 x &&& 255 = x := by
  have t : ∀ k : Fin 256, lo8 (Int32.ofNat k.val) &&& 255 = Int32.ofNat k.val := by decide +kernel
  rw [Int32.lt_iff_toInt_lt] at h0 h1
  have e0 : (0 : Int32).toInt = 0 := rfl
  have e1 : (255 : Int32).toInt = 255 := rfl
  obtain ⟨k, hk⟩ : ∃ k : Nat, x.toInt = k := ⟨x.toInt.toNat, by omega⟩
  have hx : x = Int32.ofNat k := Int32.toInt_inj.mp (by rw [hk, Int32.toInt_ofNat_small (by omega)])
  rw [hx]
  exact t ⟨k, by omega⟩
end StrChars
namespace StrChars.Road
open Jvm Sem ClassFile Op Lib Jvm.Stand Jvm.Free Jvm.Free.XT
open Jvm.Lib.Cold (StaticIs)
abbrev ST : String := "java/lang/String"
/-- every table word that New1's law asks, flat -/
abbrev words : List Jvm.Cond := [.code New1.yN New1.yB 2 none, .initialized ST, .methodLink ST 27 New4.yN, .instanceMethod New4.yN,
  .code New4.yN New4.yB 6 none, .fieldLink ST 38 ST "COMPACT_STRINGS" "Z", .laysFinal ST ST "value" "[B", .fieldLink ST 9 ST "value" "[B", .laysFinal ST ST "coder" "B", .fieldLink ST 15 ST "coder" "B",
  .methodLink ST 1 Lib.objectInit, .instanceMethod Lib.objectInit, .code Lib.objectInit ⟨#[0xb1]⟩ 1 none, .methodLink ST 177 Cmp3.yN, .static Cmp3.yN, .methodLink ST 47 CodL.yN, .static CodL.yN,
  .code Cmp3.yN Cmp3.yB 6 (some (.array .byte)), .initialized U16, .arrayClass .byte, .methodLink U16 115 Cmp5.yN, .static Cmp5.yN, .code Cmp5.yN Cmp5.yB 7 (some .int), .code CodL.yN CodL.yB 2 (some .byte)]
theorem tab_of {a : Array Value} {s : State} (h : ∀ w ∈ words, w.before a s = true) : New1.tab.before a s = true := by
  have h5 : Cmp5.tab.before a s = true := unparts (wk h (.code Cmp5.yN Cmp5.yB 7 (some .int))) (wks h (.initialized Cmp5.yN.cls :: Cmp5.site))
  have hc : CodL.tab.before a s = true := unparts (wk h (.code CodL.yN CodL.yB 2 (some .byte))) (wks h (.initialized CodL.yN.cls :: CodL.site))
  have q5 : ∀ w ∈ Cmp5.tab :: words, w.before a s = true := fun w hw => (List.mem_cons.mp hw).elim (fun e => e ▸ h5) (h w)
  have h3 : Cmp3.tab.before a s = true := unparts (wk q5 (.code Cmp3.yN Cmp3.yB 6 (some (.array .byte)))) (wks q5 (.initialized Cmp3.yN.cls :: Cmp3.site))
  have q3 : ∀ w ∈ Cmp3.tab :: CodL.tab :: words, w.before a s = true := fun w hw => (List.mem_cons.mp hw).elim (fun e => e ▸ h3) fun hw => (List.mem_cons.mp hw).elim (fun e => e ▸ hc) (h w)
  have h4 : New4.tab.before a s = true := unparts (wk q3 (.code New4.yN New4.yB 6 none)) (wks q3 (.initialized New4.yN.cls :: New4.site))
  have q4 : ∀ w ∈ New4.tab :: words, w.before a s = true := fun w hw => (List.mem_cons.mp hw).elim (fun e => e ▸ h4) (h w)
  exact unparts (wk q4 (.code New1.yN New1.yB 2 none)) (wks q4 (.initialized New1.yN.cls :: New1.site))
/-- the words ride from the start Z to the walk's own state -/
theorem moved {Z s : State} {a0 args : Array Value} (hZ : Z.Warmed39 s.vm) (hw : ∀ d ∈ words, d.before a0 Z = true) : ∀ d ∈ words, d.before args s = true := fun d hd => by
  have q := hw d hd
  have t : ∀ d ∈ words, d = .arrayClass .byte ∨ (d.onTables && d.keepsFace) = true := by decide +kernel
  rcases t d hd with rfl | t
  · exact RoadKit.mvA hZ q
  · exact RoadKit.mv hZ q t
/-- WHAT COMES BACK, over the tables of the start Z: h the heap at the call, h' behind it -/
def Q (Z : State) (x : Addr) (A : Cell) (h : Heap) (v : Option Value) (h' : Heap) (L : List Loc) : Prop := v = none ∧ (∀ y ∈ L, y.base = x) ∧ RoadKit.Keep h h' [x] ∧ h'.size = h.size + 1 ∧ RoadKit.Exa Z h' x ST ∧ RoadKit.Fld Z h' x ST "value" "[B" (.ref h.size) ∧ RoadKit.Fld Z h' x ST "coder" "B" (.int 0) ∧
  (∃ V : Cell, RoadKit.Arr Z h' h.size V .byte ∧ V.vm = .none ∧ Z.vm.findClass "[B" = some V.cls ∧ V.slots.size = A.slots.size ∧ ∀ j, j < A.slots.size → V.slots[j]? = some (.int (lo8 (cv A j)))) ∧
  ∀ (O n d : String) (w : Value), RoadKit.Fld Z h x O n d w → RoadKit.slotOf Z O n d ≠ RoadKit.slotOf Z ST "value" "[B" → RoadKit.slotOf Z O n d ≠ RoadKit.slotOf Z ST "coder" "B" → RoadKit.Fld Z h' x O n d w
/-- **new String(chars) AT A CALL, IN THE ROAD'S FORM**: for specialBack behind newO: x the fresh String, b the char[] with the cell A -/
theorem back {p : Program} {l : Launch} {e : Env} {R : Room} {s : State} {args : Array Value} {below : List Frame} {len W : Nat} {Z : State} {a0 : Array Value} {h : Heap} (hZ : Z.Warmed39 s.vm) (hw : ∀ d ∈ words, d.before a0 Z = true) {kI : Nat} (wi : (Jvm.Cond.instantiable ST kI).before a0 Z = true)
    {x b : Addr} {A : Cell} {z : Int32} {v0 c0 : Value} (E : RoadKit.Exa Z h x ST) (V : RoadKit.Fld Z h x ST "value" "[B" v0) (C : RoadKit.Fld Z h x ST "coder" "B" c0) (K : RoadKit.Arr Z h b A .char) (hty : Typed .char A) (S : RoadKit.Sta Z h ST "COMPACT_STRINGS" "Z" (.int z)) (hz : ¬ z = 0)
    (l0 : 0 < A.slots.size) (l2 : A.slots.size ≤ 536870912) (hp : ∀ i, i < A.slots.size → ¬ 255 < cv A i) (hfr : 4 ≤ R.frames) (hlo : W + 65 ≤ R.locals) :
    Back l R p e below s args New1.yN len W (fun P a => a = #[.ref x, .ref b] ∧ P.U.heap = h ∧ P.cells + 1 ≤ R.cells ∧ P.slots + A.slots.size ≤ R.slots)
      (fun P _ v B => ∃ L, Q Z x A h v B.U.heap L ∧ B.locs = P.locs ++ L ∧ B.cells = P.cells + 1 ∧ B.slots = P.slots + A.slots.size) := by
  intro m meth c P g ig mk a X hg hsize hdg hW hn hp'
  obtain ⟨rfl, rfl, r1, r2⟩ := hp'
  have al : Z.vm.Alike P.U.vm := hZ.alike.trans X.warmed.alike
  obtain ⟨D, cfV, kV, iV, fV, hD, gV, stV, knV, obV, asV, slV⟩ := id V
  obtain ⟨D', cfC, kC, iC, fC, hD', gC, stC, -, -, asC, slC⟩ := id C
  cases hD.symm.trans hD'
  obtain ⟨D2, kD, e1, e2, e3, e4, e5⟩ := id E
  cases hD.symm.trans e1
  obtain ⟨c2, k2, i1, i2, i3, -⟩ := Cond.instantiable_spec wi
  cases e2.symm.trans i1
  cases e3.symm.trans i2
  obtain ⟨kU, u1, u2⟩ := al.2.2 _ _ e3
  have hB : Blank ST x D P.U := ⟨hD, ⟨knV, fun q hq => by rw [hq] at obV; cases obV⟩, by rw [al.findClass]; exact e2, kU, u1, by rw [u2]; exact i3, by rw [u2]; exact e5 i3⟩
  have F1 : Found ST "value" "[B" fV P.U := ⟨SBG.found_only al ⟨cfV, kV, iV, gV⟩, stV⟩
  have F2 : Found ST "coder" "B" fC P.U := ⟨SBG.found_only al ⟨cfC, kC, iC, gC⟩, stC⟩
  have hA : Ch b A P.U := ⟨⟨K.1, State.isArrayOf_alike al K.2.1, K.2.2, by omega⟩, hty⟩
  have hS : StaticIs P.U ST "COMPACT_STRINGS" "Z" (.int z) := by
    obtain ⟨cfS, iS, kS, fS, st, cS, t1, t2, t3, t4, t5, t6, t7⟩ := S
    exact StaticIs.there (s := { Z with heap := P.U.heap }) ⟨cfS, iS, kS, fS, st, cS, t1, t2, t3, t4, t5, (fun q => by rw [q] at t6; cases t6), t7⟩ al rfl
  obtain ⟨v, B, X', ⟨⟨hv, E', V', q1, q2, q3, q4, q5, q6, q7, q8, q9, q10, q11⟩, hl, hc, hs⟩, st⟩ := New1.pays x D fV fC b A z (tab_of (moved hZ hw)) hfr hlo m meth c P g ig mk _ X hg hsize hdg hW hn ⟨r1, r2, rfl, hB, F1, F2, hA, hS, hz, l0, l2, hp⟩
  have al' : Z.vm.Alike B.U.vm := hZ.alike.trans X'.warmed.alike
  have hsz : E'.slots.size = D.slots.size := by
    obtain ⟨-, -, -, kB, w1, w2, w3⟩ := q1
    obtain ⟨kB', y1, y2⟩ := al'.2.2 _ _ e3
    rw [q2.2.1] at w1
    cases w1.symm.trans y1
    rw [w3, e5 i3, y2]
  refine ⟨v, B, X', ⟨_, ⟨hv, ?_, ⟨by omega, fun y cy hy hn' => q10 y cy (by simpa using hn') hy, fun y cy hy => ?_⟩, q11, ⟨E', _, q1.1, by rw [q2.2.1]; exact e2, by rw [q2.2.1]; exact e3, by rw [q2.1]; exact obV, fun _ => by rw [hsz]; exact e5 i3⟩,
    ⟨E', cfV, kV, iV, fV, q1.1, gV, stV, by rw [q2.1]; exact knV, by rw [q2.1]; exact obV, by rw [q2.2.1]; exact asV, q3⟩, ⟨E', cfC, kC, iC, fC, q1.1, gC, stC, by rw [q2.1]; exact knV, by rw [q2.1]; exact obV, by rw [q2.2.1]; exact asC, q4⟩,
    ⟨V', ⟨q5.1, State.isArrayOf_alike al'.symm q5.2.1, q5.2.2.1⟩, q6, by rw [← al'.findClass]; exact q7, q8, fun j hj => by have := q9 j hj; rwa [Nat.zero_add] at this⟩, fun O n d w F n1 n2 => ?_⟩, hl, hc, hs⟩, st⟩
  · intro y hy
    simp only [List.mem_cons, List.not_mem_nil, or_false] at hy
    rcases hy with rfl | rfl <;> rfl
  · by_cases q : y = x
    · subst q
      cases hD.symm.trans hy
      exact ⟨E', q1.1, q2.2.1, q2.1, hsz⟩
    · exact ⟨cy, q10 y cy q hy, rfl, rfl, rfl⟩
  · obtain ⟨D3, cf, k, i, f, g1, g2, g3, g4, g5, g6, g7⟩ := F
    cases hD.symm.trans g1
    simp only [RoadKit.slotOf, g2, gV, gC, Option.map_some, Option.getD_some] at n1 n2
    exact ⟨E', cf, k, i, f, q1.1, g2, g3, by rw [q2.1]; exact g4, by rw [q2.1]; exact g5, by rw [q2.2.1]; exact g6, by rw [q2.2.2 f.slot (by simp [n1, n2])]; exact g7⟩
end StrChars.Road
namespace StrChars.Road
open Jvm Sem ClassFile Op Lib Jvm.Stand Jvm.Free Jvm.Free.XT
/-- WHAT COMES BACK, the byte[] as a list of values -/
def QA (Z : State) (x : Addr) (zn : Int32) (cs : List Int32) (h : Heap) (v : Option Value) (h' : Heap) (L : List Loc) : Prop := v = none ∧ (∀ y ∈ L, y.base = x) ∧ RoadKit.Keep h h' [x] ∧ h'.size = h.size + 1 ∧ RoadKit.Exa Z h' x ST ∧ RoadKit.Fld Z h' x ST "value" "[B" (.ref h.size) ∧ RoadKit.Fld Z h' x ST "coder" "B" (.int 0) ∧
  (∃ kb, Z.vm.findClass "[B" = some kb ∧ RoadKit.Arv Z h' h.size kb .byte zn (cs.map fun c => .int (lo8 c)) (.int 0)) ∧
  ∀ (O n d : String) (w : Value), RoadKit.Fld Z h x O n d w → RoadKit.slotOf Z O n d ≠ RoadKit.slotOf Z ST "value" "[B" → RoadKit.slotOf Z O n d ≠ RoadKit.slotOf Z ST "coder" "B" → RoadKit.Fld Z h' x O n d w
/-- **new String(chars) AT A CALL, THE ARRAYS AS LISTS**: the char[] at b holds cs, not empty, no char above 255 -/
theorem backArv {p : Program} {l : Launch} {e : Env} {R : Room} {s : State} {args : Array Value} {below : List Frame} {len W : Nat} {Z : State} {a0 : Array Value} {h : Heap} (hZ : Z.Warmed39 s.vm) (hw : ∀ d ∈ words, d.before a0 Z = true) {kI : Nat} (wi : (Jvm.Cond.instantiable ST kI).before a0 Z = true)
    {x b : Addr} {k : ClassId} {zn z : Int32} {cs : List Int32} {dv v0 c0 : Value} (E : RoadKit.Exa Z h x ST) (V : RoadKit.Fld Z h x ST "value" "[B" v0) (C : RoadKit.Fld Z h x ST "coder" "B" c0) (K : RoadKit.Arv Z h b k .char zn (cs.map Value.int) dv) (S : RoadKit.Sta Z h ST "COMPACT_STRINGS" "Z" (.int z)) (hz : ¬ z = 0)
    (hlen : zn.toNatClampNeg = cs.length) (h0 : 0 < cs.length) (hbig : cs.length ≤ 536870912) (hall : ∀ c ∈ cs, ¬ 255 < c) (hfr : 4 ≤ R.frames) (hlo : W + 65 ≤ R.locals) :
    Back l R p e below s args New1.yN len W (fun P a => a = #[.ref x, .ref b] ∧ P.U.heap = h ∧ P.cells + 1 ≤ R.cells ∧ P.slots + cs.length ≤ R.slots)
      (fun P _ v B => ∃ L, QA Z x zn cs h v B.U.heap L ∧ B.locs = P.locs ++ L ∧ B.cells = P.cells + 1 ∧ B.slots = P.slots + cs.length) := by
  obtain ⟨A, K1, K2, K3, K4, K5, K6⟩ := K
  have e : A.slots.size = cs.length := K3.trans hlen
  have hat : ∀ (i : Nat) (hi : i < cs.length), A.slots[i]? = some (.int cs[i]) := fun i hi => by rw [K5 i (by omega)]; simp [List.getD_eq_getElem?_getD, hi]
  have hcv : ∀ (i : Nat) (hi : i < cs.length), cv A i = cs[i] := fun i hi => by unfold cv; rw [hat i hi]
  have hty : Typed .char A := fun i v hv => by
    have hi : i < A.slots.size := (Array.getElem?_eq_some_iff.mp hv).1
    have q := K5 i hi
    rw [hv] at q
    rw [Option.some.inj q]
    exact K6 i hi
  refine Back.mono (back hZ hw wi E V C K1 hty S hz (by omega) (by omega) (fun i hi => by rw [hcv i (by omega)]; exact hall _ (List.getElem_mem _)) hfr hlo) (fun P a hp => ⟨hp.1, hp.2.1, hp.2.2.1, by rw [e]; exact hp.2.2.2⟩) (fun P a v B hp hq => ?_)
  obtain ⟨L, ⟨q1, q2, q3, q4, q5, q6, q7, ⟨V', v1, v2, v3, v4, v5⟩, q9⟩, hl, hc, hs⟩ := hq
  refine ⟨L, ⟨q1, q2, q3, q4, q5, q6, q7, ⟨V'.cls, v3, V', v1, rfl, by rw [v4, e, hlen], K4, fun i hi => ?_, fun i hi => ?_⟩, q9⟩, hl, hc, by rw [hs, e]⟩
  · have hi' : i < cs.length := by omega
    rw [v5 i (by omega), hcv i hi']; simp [List.getD_eq_getElem?_getD, hi']
  · have hi' : i < cs.length := by omega
    simp only [List.getD_eq_getElem?_getD, List.getElem?_map, List.getElem?_eq_getElem hi', Option.map_some, Option.getD_some]
    exact fits_lo8 _
end StrChars.Road
namespace StrChars.Road
open Jvm Sem ClassFile Op Lib Jvm.Stand Jvm.Free Jvm.Free.XT
/-- WHAT COMES BACK, in the writer's own shape -/
def QV (Z : State) (x : Addr) (N : Int32) (bs : List Int32) (h : Heap) (n0 : Nat) (v : Option Value) (h' : Heap) (L : List Loc) : Prop := v = none ∧ RoadKit.Fr n0 L ∧ RoadKit.Keep h h' [x] ∧ RoadKit.Exa Z h' x ST ∧ RoadKit.Fld Z h' x ST "coder" "B" (.int 0) ∧
  ∃ (t : Addr) (kb : ClassId), n0 ≤ t ∧ h.size ≤ t ∧ ¬ t = x ∧ RoadKit.Fld Z h' x ST "value" "[B" (.ref t) ∧ RoadKit.Arv Z h' t kb .byte N (bs.map Value.int) (.int 0)
/-- **new String(chars) AT A CALL, FOR THE WRITER**: a char[] of n known ints, each 0 to 255 -/
theorem backV {p : Program} {l : Launch} {e : Env} {R : Room} {s : State} {args : Array Value} {below : List Frame} {len W : Nat} {Z : State} {a0 : Array Value} {h : Heap} (hZ : Z.Warmed39 s.vm) (hw : ∀ d ∈ words, d.before a0 Z = true) {kI : Nat} (wi : (Jvm.Cond.instantiable ST kI).before a0 Z = true)
    {x b : Addr} {kC : ClassId} {cs bs : List Int32} {d v0 c0 : Value} {z N : Int32} {n n0 : Nat} (hx0 : n0 ≤ x) (hh0 : n0 ≤ h.size) (E : RoadKit.Exa Z h x ST) (V : RoadKit.Fld Z h x ST "value" "[B" v0) (C : RoadKit.Fld Z h x ST "coder" "B" c0) (K : RoadKit.Arv Z h b kC .char N (cs.map Value.int) d) (S : RoadKit.Sta Z h ST "COMPACT_STRINGS" "Z" (.int z)) (hz : ¬ z = 0)
    (hn : cs.length = n) (hN : N = Int32.ofNat n) (l0 : 0 < n) (l2 : n ≤ 4000) (hp : ∀ c ∈ cs, ¬ c < 0 ∧ ¬ (255 : Int32) < c) (hb : bs = cs.map (fun c => c.toInt8.toInt32)) (hfr : 4 ≤ R.frames) (hlo : W + 65 ≤ R.locals) :
    Back l R p e below s args (⟨"java/lang/String", "<init>", "([C)V"⟩ : MethodName) len W (fun P a => a = #[.ref x, .ref b] ∧ P.U.heap = h ∧ P.cells + 1 ≤ R.cells ∧ P.slots + n ≤ R.slots)
      (fun P _ v B => ∃ L, QV Z x N bs h n0 v B.U.heap L ∧ B.locs = P.locs ++ L ∧ B.cells = P.cells + 1 ∧ B.slots = P.slots + n) := by
  subst hn hN hb
  refine Back.mono (backArv hZ hw wi E V C K S hz (n32 (by omega)) l0 (by omega) (fun c hc => (hp c hc).2) hfr hlo) (fun P a hp => hp) (fun P a v B hp hq => ?_)
  obtain ⟨L, ⟨q1, q2, q3, q4, q5, q6, q7, ⟨kb, v1, v2⟩, q9⟩, hl, hc, hs⟩ := hq
  exact ⟨L, ⟨q1, fun y hy => by rw [q2 y hy]; exact hx0, q3, q5, q7, h.size, kb, hh0, Nat.le_refl _, Nat.ne_of_gt E.lt, q6, by rw [List.map_map]; exact v2⟩, hl, hc, hs⟩
end StrChars.Road
namespace StrChars
open Jvm Sem ClassFile Op Lib Jvm.Stand Jvm.Free.XT Jvm.Free.ALB Jvm.Free.JM Jvm.Free
open Jvm.Lib.Cold (StaticIs)
def hi8 (x : Int32) : Int32 := lo8 (x >>> ((8 : Int32) &&& 31))
/-- what StringUTF16.getChar makes of two bytes -/
def pairCh (u v : Int32) : Int32 := (((u &&& 255) <<< ((0 : Int32) &&& 31)) ||| ((v &&& 255) <<< ((8 : Int32) &&& 31))).toUInt32.toUInt16.toUInt32.toInt32
theorem lo8_and (x : Int32) : (lo8 x &&& 255).toBitVec.toNat = x.toBitVec.toNat % 256 := by
  have h : (lo8 x).toBitVec = (x.toBitVec.signExtend 8).signExtend 32 := by rw [lo8, Int8.toBitVec_toInt32, Int32.toBitVec_toInt8]
  rw [Int32.toBitVec_and, BitVec.toNat_and, h]
  have e : ((x.toBitVec.signExtend 8).signExtend 32).toNat % 256 = x.toBitVec.toNat % 256 := by
    rw [BitVec.toNat_signExtend]
    have hlt := x.toBitVec.isLt
    simp only [BitVec.toNat_setWidth, BitVec.toNat_signExtend]
    split <;> split <;> omega
  rw [← e]
  exact Nat.and_two_pow_sub_one_eq_mod _ 8
theorem pair_says {c : Int32} (h0 : ¬ c < 0) (h1 : ¬ 65535 < c) : pairCh (lo8 c) (hi8 c) = c := by
  rw [Int32.lt_iff_toInt_lt] at h0 h1
  have e0 : (0 : Int32).toInt = 0 := rfl
  have e1 : (65535 : Int32).toInt = 65535 := rfl
  have hc : c.toInt = c.toBitVec.toNat := by
    have := c.toBitVec.isLt
    have e : c.toInt = c.toBitVec.toInt := rfl
    rw [e] at h0 h1
    rw [e]
    rw [BitVec.toInt_eq_toNat_cond] at h0 h1 ⊢
    split at h0 <;> split <;> omega
  have hn : c.toBitVec.toNat < 65536 := by omega
  have a1 := lo8_and c
  have a2 : (hi8 c &&& 255).toBitVec.toNat = c.toBitVec.toNat / 256 := by
    rw [hi8, lo8_and]
    have e : ((8 : Int32) &&& 31) = 8 := by decide
    rw [e, Int32.toBitVec_shiftRight]
    have e2 : ((8 : Int32).toBitVec.smod 32) = 8#32 := by decide
    rw [e2, BitVec.sshiftRight_eq', BitVec.toNat_sshiftRight_of_msb_false (by rw [BitVec.msb_eq_false_iff_two_mul_lt]; omega)]
    show c.toBitVec.toNat >>> 8 % 256 = _
    rw [Nat.shiftRight_eq_div_pow]
    omega
  unfold pairCh
  apply Int32.toBitVec_inj.mp
  apply BitVec.eq_of_toNat_eq
  have f0 : ((0 : Int32) &&& 31) = 0 := by decide
  have f8 : ((8 : Int32) &&& 31) = 8 := by decide
  rw [f0, f8]
  have g : (((lo8 c &&& 255) <<< (0 : Int32)) ||| ((hi8 c &&& 255) <<< (8 : Int32))).toBitVec.toNat = c.toBitVec.toNat := by
    rw [Int32.toBitVec_or, Int32.toBitVec_shiftLeft, Int32.toBitVec_shiftLeft]
    have s0 : ((0 : Int32).toBitVec.smod 32) = 0#32 := by decide
    have s8 : ((8 : Int32).toBitVec.smod 32) = 8#32 := by decide
    rw [s0, s8, BitVec.toNat_or]
    simp only [BitVec.shiftLeft_eq', BitVec.toNat_shiftLeft, a1, a2]
    show (c.toBitVec.toNat % 256) <<< 0 % 2 ^ 32 ||| (c.toBitVec.toNat / 256) <<< 8 % 2 ^ 32 = _
    rw [Nat.shiftLeft_zero, Nat.mod_eq_of_lt (show c.toBitVec.toNat % 256 < 2 ^ 32 by omega), Nat.mod_eq_of_lt (show (c.toBitVec.toNat / 256) <<< 8 < 2 ^ 32 by rw [Nat.shiftLeft_eq]; omega), Nat.or_comm, ← Nat.shiftLeft_add_eq_or_of_lt (by omega), Nat.shiftLeft_eq]
    omega
  show BitVec.toNat (((((lo8 c &&& 255) <<< (0 : Int32)) ||| ((hi8 c &&& 255) <<< (8 : Int32))).toBitVec.setWidth 16).setWidth 32) = _
  rw [BitVec.toNat_setWidth, BitVec.toNat_setWidth, g]
  omega
end StrChars
namespace StrChars
open Jvm Sem ClassFile Op Lib Jvm.Stand Jvm.Free.XT Jvm.Free.ALB Jvm.Free.JM Jvm.Free
open Jvm.Lib.Cold (StaticIs)
/-- the array's cell V codes the n chars f 0 .. f (n - 1) by the coder cd, as the JDK does: coder 1 just where some char is above 255 -/
def Cod (cd : Int32) (n : Nat) (f : Nat → Int32) (V : Cell) : Prop := (cd = 0 ∧ V.slots.size = n ∧ ∀ j, j < n → V.slots[j]? = some (.int (lo8 (f j))) ∧ ¬ 255 < f j) ∨ (cd = 1 ∧ V.slots.size = 2 * n ∧ (∀ j, j < n → V.slots[2 * j]? = some (.int (lo8 (f j))) ∧ V.slots[2 * j + 1]? = some (.int (hi8 (f j)))) ∧ ∃ j, j < n ∧ 255 < f j)
/-- **x is a String of the n chars f 0 .. f (n - 1)**, Latin-1 or UTF-16; its array at t has the cell V -/
def Txt (x t : Addr) (V : Cell) (cd : Int32) (n : Nat) (f : Nat → Int32) (U : State) : Prop := Exact "java/lang/String" x U ∧ Has x "java/lang/String" "value" "[B" (.ref t) U ∧ Has x "java/lang/String" "coder" "B" (.int cd) U ∧ XT.Arr .byte t V U ∧ Cod cd n f V ∧ ∀ j, j < n → ¬ f j < 0 ∧ ¬ 65535 < f j
theorem Txt.mv {x t : Addr} {V : Cell} {cd : Int32} {n : Nat} {f : Nat → Int32} {U U' : State} (h : Txt x t V cd n f U) (hal : U.vm.Alike U'.vm) (hh : U'.heap = U.heap) : Txt x t V cd n f U' := ⟨h.1.mv hal hh, h.2.1.mv hal hh, h.2.2.1.mv hal hh, h.2.2.2.1.mv hal hh, h.2.2.2.2⟩
end StrChars
namespace StrChars.Road
open Jvm Sem ClassFile Op Lib Jvm.Stand Jvm.Free Jvm.Free.XT
open Jvm.Lib.Cold (StaticIs)
theorem consq {a : Array Value} {s : State} {c : Jvm.Cond} {L : List Jvm.Cond} (h0 : c.before a s = true) (h : ∀ w ∈ L, w.before a s = true) : ∀ w ∈ c :: L, w.before a s = true := fun w hw => (List.mem_cons.mp hw).elim (fun e => e ▸ h0) (h w)
/-- the bytes of the chars cs, low before high -/
def wideBytes : List Int32 → List Value
  | [] => []
  | c :: cs => .int (lo8 c) :: .int (hi8 c) :: wideBytes cs
theorem wide_lo (d : Value) : ∀ (cs : List Int32) (j : Nat), j < cs.length → (wideBytes cs).getD (2 * j) d = .int (lo8 (cs.getD j 0))
  | [], j, h => absurd h (Nat.not_lt_zero j)
  | c :: cs, 0, _ => rfl
  | c :: cs, j + 1, h => by
    have q := wide_lo d cs j (by simpa using h)
    rw [show 2 * (j + 1) = 2 * j + 1 + 1 from by omega]
    simpa [wideBytes] using q
theorem wide_hi (d : Value) : ∀ (cs : List Int32) (j : Nat), j < cs.length → (wideBytes cs).getD (2 * j + 1) d = .int (hi8 (cs.getD j 0))
  | [], j, h => absurd h (Nat.not_lt_zero j)
  | c :: cs, 0, _ => rfl
  | c :: cs, j + 1, h => by
    have q := wide_hi d cs j (by simpa using h)
    rw [show 2 * (j + 1) + 1 = 2 * j + 1 + 1 + 1 from by omega]
    simpa [wideBytes] using q
theorem low_at (d : Value) (cs : List Int32) (j : Nat) (h : j < cs.length) : (cs.map fun c => Value.int (lo8 c)).getD j d = .int (lo8 (cs.getD j 0)) := by
  simp [List.getD_eq_getElem?_getD, h]
/-- an array of N2 bytes vs codes the chars cs by the coder cd -/
def CodA (cs : List Int32) (cd N2 : Int32) (vs : List Value) : Prop := (cd = 0 ∧ N2 = Int32.ofNat cs.length ∧ vs = (cs.map fun c => Value.int (lo8 c)) ∧ ∀ c ∈ cs, ¬ 255 < c) ∨ (cd = 1 ∧ N2 = Int32.ofNat (2 * cs.length) ∧ vs = wideBytes cs ∧ ∃ c ∈ cs, 255 < c)
theorem CodA.cod {cs : List Int32} {cd N2 : Int32} {vs : List Value} {V : Cell} (h : CodA cs cd N2 vs) (hn : 2 * cs.length < 2 ^ 31) (hs : V.slots.size = N2.toNatClampNeg) (hv : RoadKit.Has V vs (.int 0)) : Cod cd cs.length (fun j => cs.getD j 0) V := by
  rcases h with ⟨rfl, rfl, rfl, h⟩ | ⟨rfl, rfl, rfl, c, hc, hw⟩
  · rw [n32 (by omega)] at hs
    exact Or.inl ⟨rfl, hs, fun j hj => ⟨by rw [hv j (by omega), low_at _ _ _ hj], by
      have e : cs.getD j 0 = cs[j] := by simp [List.getD_eq_getElem?_getD, hj]
      show ¬ 255 < cs.getD j 0
      rw [e]; exact h _ (List.getElem_mem _)⟩⟩
  · rw [n32 (by omega)] at hs
    obtain ⟨j, hj, rfl⟩ := List.getElem_of_mem hc
    exact Or.inr ⟨rfl, hs, fun j hj => ⟨by rw [hv _ (by omega), wide_lo _ _ _ hj], by rw [hv _ (by omega), wide_hi _ _ _ hj]⟩, j, hj, by
      have e : cs.getD j 0 = cs[j] := by simp [List.getD_eq_getElem?_getD, hj]
      show 255 < cs.getD j 0
      rw [e]; exact hw⟩
/-- an object of exactly java/lang/String, its two fields found: as the laws ask it -/
theorem strObj {Z U : State} {a0 : Array Value} {kI : Nat} (wi : (Jvm.Cond.instantiable ST kI).before a0 Z = true) (al : Z.vm.Alike U.vm) {x : Addr} {v0 c0 : Value} (E : RoadKit.Exa Z U.heap x ST) (V : RoadKit.Fld Z U.heap x ST "value" "[B" v0) (C : RoadKit.Fld Z U.heap x ST "coder" "B" c0) :
    ∃ (D : Cell) (fV fC : Field), Blank ST x D U ∧ Found ST "value" "[B" fV U ∧ Found ST "coder" "B" fC U ∧ D.slots[fV.slot]? = some v0 ∧ D.slots[fC.slot]? = some c0 ∧ RoadKit.slotOf Z ST "value" "[B" = fV.slot ∧ RoadKit.slotOf Z ST "coder" "B" = fC.slot := by
  obtain ⟨D, cfV, kV, iV, fV, hD, gV, stV, knV, obV, asV, slV⟩ := V
  obtain ⟨D', cfC, kC, iC, fC, hD', gC, stC, -, -, asC, slC⟩ := C
  cases hD.symm.trans hD'
  obtain ⟨D2, kD, e1, e2, e3, e4, e5⟩ := E
  cases hD.symm.trans e1
  obtain ⟨c2, k2, i1, i2, i3, -⟩ := Cond.instantiable_spec wi
  cases e2.symm.trans i1
  cases e3.symm.trans i2
  obtain ⟨kU, u1, u2⟩ := al.2.2 _ _ e3
  exact ⟨D, fV, fC, ⟨hD, ⟨knV, fun q hq => by rw [hq] at obV; cases obV⟩, by rw [al.findClass]; exact e2, kU, u1, by rw [u2]; exact i3, by rw [u2]; exact e5 i3⟩, ⟨SBG.found_only al ⟨cfV, kV, iV, gV⟩, stV⟩, ⟨SBG.found_only al ⟨cfC, kC, iC, gC⟩, stC⟩, slV, slC, by simp [RoadKit.slotOf, gV], by simp [RoadKit.slotOf, gC]⟩
theorem sta_is {Z U : State} (al : Z.vm.Alike U.vm) {C n d : String} {v : Value} (S : RoadKit.Sta Z U.heap C n d v) : StaticIs U C n d v := by
  obtain ⟨cfS, iS, kS, fS, st, cS, t1, t2, t3, t4, t5, t6, t7⟩ := S
  exact StaticIs.there (s := { Z with heap := U.heap }) ⟨cfS, iS, kS, fS, st, cS, t1, t2, t3, t4, t5, (fun q => by rw [q] at t6; cases t6), t7⟩ al rfl
end StrChars.Road
namespace StrChars
open Jvm Sem ClassFile Op Lib Jvm.Stand Jvm.Free.XT Jvm.Free.ALB Jvm.Free.JM Jvm.Free
open Jvm.Lib.Cold (StaticIs)
/-- what place i of a byte[]'s cell holds -/
def yv (A : Cell) (i : Nat) : Int32 := match A.slots[i]? with | some (.int x) => x | _ => 0
theorem yv_get {a : Addr} {A : Cell} {U : State} (h : XT.Arr .byte a A U) (ht : Typed .byte A) {i : Nat} (hi : i < A.slots.size) : A.slots[i]? = some (.int (yv A i)) := by
  have e := Array.getElem?_eq_getElem hi
  have f := ht i _ e
  unfold yv; rw [e]
  generalize A.slots[i] = v at f
  cases v <;> simp [fits] at f ⊢
/-- the two arrays are equal, place for place -/
def EqC (A B : Cell) : Prop := A.slots.size = B.slots.size ∧ ∀ i, i < A.slots.size → yv A i = yv B i
/-- a boolean that says whether p -/
def Says01 (q : Prop) (r : Option Value) (s u : State) : Prop := ∃ v : Int32, r = some (.int v) ∧ u.heap = s.heap ∧ ((v = 1 ∧ q) ∨ (v = 0 ∧ ¬ q))
theorem Says01.mv {q : Prop} : ∀ r (U U' V V' : State), U'.heap = U.heap → V.vm.Alike V'.vm → V'.heap = V.heap → Says01 q r U V → Says01 q r U' V' :=
  fun r U U' V V' h1 _ h2 ⟨v, a, b, c⟩ => ⟨v, a, by rw [h1, h2]; exact b, c⟩
namespace LEq
def yN : MethodName := ⟨"java/lang/StringLatin1", "equals", "([B[B)Z"⟩
abbrev yB : ByteArray := jdk_43_method_13_code
theorem d0 : decode yB 0 = .ok (.aload_n 0, 1) := by decide +kernel
theorem d1 : decode yB 1 = .ok (.arraylength, 1) := by decide +kernel
theorem d2 : decode yB 2 = .ok (.aload_n 1, 1) := by decide +kernel
theorem d3 : decode yB 3 = .ok (.arraylength, 1) := by decide +kernel
theorem d4 : decode yB 4 = .ok (.if_icmp (.ne) 30, 3) := by decide +kernel
theorem d7 : decode yB 7 = .ok (.iconst 0, 1) := by decide +kernel
theorem d8 : decode yB 8 = .ok (.istore_n 2, 1) := by decide +kernel
theorem d9 : decode yB 9 = .ok (.iload_n 2, 1) := by decide +kernel
theorem d10 : decode yB 10 = .ok (.aload_n 0, 1) := by decide +kernel
theorem d11 : decode yB 11 = .ok (.arraylength, 1) := by decide +kernel
theorem d12 : decode yB 12 = .ok (.if_icmp (.ge) 20, 3) := by decide +kernel
theorem d15 : decode yB 15 = .ok (.aload_n 0, 1) := by decide +kernel
theorem d16 : decode yB 16 = .ok (.iload_n 2, 1) := by decide +kernel
theorem d17 : decode yB 17 = .ok (.baload, 1) := by decide +kernel
theorem d18 : decode yB 18 = .ok (.aload_n 1, 1) := by decide +kernel
theorem d19 : decode yB 19 = .ok (.iload_n 2, 1) := by decide +kernel
theorem d20 : decode yB 20 = .ok (.baload, 1) := by decide +kernel
theorem d21 : decode yB 21 = .ok (.if_icmp (.eq) 5, 3) := by decide +kernel
theorem d24 : decode yB 24 = .ok (.iconst 0, 1) := by decide +kernel
theorem d25 : decode yB 25 = .ok (.ireturn, 1) := by decide +kernel
theorem d26 : decode yB 26 = .ok (.iinc 2 1, 3) := by decide +kernel
theorem d29 : decode yB 29 = .ok (.goto (-20), 3) := by decide +kernel
theorem d32 : decode yB 32 = .ok (.iconst 1, 1) := by decide +kernel
theorem d33 : decode yB 33 = .ok (.ireturn, 1) := by decide +kernel
theorem d34 : decode yB 34 = .ok (.iconst 0, 1) := by decide +kernel
theorem d35 : decode yB 35 = .ok (.ireturn, 1) := by decide +kernel
def site : List Cond := []
def tab : Cond := tabOf yN yB 3 (some .boolean) site
def P (a : Addr) (A : Cell) (b : Addr) (B : Cell) (args : Array Value) (s : State) : Prop := args = #[.ref a, .ref b] ∧ XT.Arr .byte a A s ∧ Typed .byte A ∧ XT.Arr .byte b B s ∧ Typed .byte B
/-- whether two byte[] are equal, place for place -/
theorem law (l : Launch) (a : Addr) (A : Cell) (b : Addr) (B : Cell) : Law l yN 2 2 0 0 yB 3 (some .boolean) site (P a A b B) (Says01 (EqC A B)) [] 0 0 := by
  refine Law.of_walk (plainFor_of_name (by decide +kernel)) (by decide +kernel) (by decide +kernel) (by decide) (fun _ _ h => by rw [h.1]; rfl) (fun _ U U' hal hh h => ⟨h.1, h.2.1.mv hal hh, h.2.2.1, h.2.2.2.1.mv hal hh, h.2.2.2.2⟩) (fun r U U' V V' h1 hal h2 h => Says01.mv r U U' V V' h1 hal h2 h) ?_
  intro p e s m args below meth c s₁ X0 hexec hbytes hml hret hlk hnm hown hh0 W hP
  obtain ⟨rfl, hA, tA, hB, tB⟩ := hP
  have a31 := hA.2.2.2
  have b31 := hB.2.2.2
  have hA0 := hA.mv X0.warmed.alike hh0
  have hB0 := hB.mv X0.warmed.alike hh0
  have c1 : Steps p.tables e below (s₁.setTop (entryFrame m #[.ref a, .ref b] 3)) (s₁.setTop (mkF m 0 #[.val (.ref a), .val (.ref b), .unset] [])) := entry rfl
  have c2 : Steps p.tables e below (s₁.setTop (entryFrame m #[.ref a, .ref b] 3)) (s₁.setTop (mkF m 4 #[.val (.ref a), .val (.ref b), .unset] [.int (Int32.ofNat B.slots.size), .int (Int32.ofNat A.slots.size)])) := c1.trans (by
    refine XS.aloadN X0.here hexec rfl (hb hbytes d0) rfl rfl ?_
    refine X0.alen hexec hA0 rfl rfl (hb hbytes d1) ?_
    refine XS.aloadN X0.here hexec rfl (hb hbytes d2) rfl rfl ?_
    refine X0.alen hexec hB0 rfl rfl (hb hbytes d3) ?_
    exact Steps.refl _)
  by_cases hs : A.slots.size = B.slots.size
  · have c3 : Steps p.tables e below (s₁.setTop (entryFrame m #[.ref a, .ref b] 3)) (s₁.setTop (mkF m 9 #[.val (.ref a), .val (.ref b), .val (.int 0)] [])) := c2.trans (by
      refine XS.icmpNo X0.here hexec rfl (hb hbytes d4) rfl (ii_ne_f (by rw [hs])) ?_
      refine iconstV X0.here hexec rfl 0 (hb hbytes d7) (by decide) ?_
      refine XS.istoreN X0.here hexec rfl (hb hbytes d8) rfl rfl ?_
      exact Steps.refl _)
    have loop : ∀ (r i : Nat), i + r = A.slots.size → (∀ j, j < i → yv A j = yv B j) → Steps p.tables e below (s₁.setTop (entryFrame m #[.ref a, .ref b] 3)) (s₁.setTop (mkF m 9 #[.val (.ref a), .val (.ref b), .val (.int (Int32.ofNat i))] [])) → ∃ (pc : Nat) (Ls : Array Slot) (v : Int32), (pc = 25 ∨ pc = 33) ∧ ((v = 1 ∧ EqC A B) ∨ (v = 0 ∧ ¬ EqC A B)) ∧ Steps p.tables e below (s₁.setTop (entryFrame m #[.ref a, .ref b] 3)) (s₁.setTop (mkF m pc Ls [.int v])) := by
      intro r
      induction r with
      | zero =>
        intro i hi he cl
        exact ⟨33, _, 1, Or.inr rfl, Or.inl ⟨rfl, hs, fun j hj => he j (by omega)⟩, cl.trans (by
          refine XS.iloadN X0.here hexec rfl (hb hbytes d9) rfl ?_
          refine XS.aloadN X0.here hexec rfl (hb hbytes d10) rfl rfl ?_
          refine X0.alen hexec hA0 rfl rfl (hb hbytes d11) ?_
          refine XS.icmpYes X0.here hexec rfl (pc0 := 12) rfl (hb hbytes d12) rfl (ii_ge_t (nlt32 (by omega) (by omega))) (by decide) rfl ?_
          refine iconstV X0.here hexec rfl 1 (hb hbytes d32) (by decide) ?_
          exact Steps.refl _)⟩
      | succ r ih =>
        intro i hi he cl
        have c4 : Steps p.tables e below (s₁.setTop (entryFrame m #[.ref a, .ref b] 3)) (s₁.setTop (mkF m 21 #[.val (.ref a), .val (.ref b), .val (.int (Int32.ofNat i))] [.int (yv B i), .int (yv A i)])) := cl.trans (by
          refine XS.iloadN X0.here hexec rfl (hb hbytes d9) rfl ?_
          refine XS.aloadN X0.here hexec rfl (hb hbytes d10) rfl rfl ?_
          refine X0.alen hexec hA0 rfl rfl (hb hbytes d11) ?_
          refine XS.icmpNo X0.here hexec rfl (hb hbytes d12) rfl (ii_ge_f (lt32 (by omega) (by omega))) ?_
          refine XS.aloadN X0.here hexec rfl (hb hbytes d15) rfl rfl ?_
          refine XS.iloadN X0.here hexec rfl (hb hbytes d16) rfl ?_
          refine X0.aget hexec hA0 rfl (yv_get hA tA (i := i) (by omega)) rfl rfl (hb hbytes d17) ?_
          refine XS.aloadN X0.here hexec rfl (hb hbytes d18) rfl rfl ?_
          refine XS.iloadN X0.here hexec rfl (hb hbytes d19) rfl ?_
          refine X0.aget hexec hB0 rfl (yv_get hB tB (i := i) (by omega)) rfl rfl (hb hbytes d20) ?_
          exact Steps.refl _)
        by_cases hv : yv A i = yv B i
        · have c5 : Steps p.tables e below (s₁.setTop (entryFrame m #[.ref a, .ref b] 3)) (s₁.setTop (mkF m 9 #[.val (.ref a), .val (.ref b), .val (.int (Int32.ofNat i + 1))] [])) := c4.trans (by
            refine XS.icmpYes X0.here hexec rfl (pc0 := 21) rfl (hb hbytes d21) rfl (ii_eq_t hv) (by decide) rfl ?_
            refine iincV X0.here hexec rfl 1 (hb hbytes d26) (by decide) rfl rfl ?_
            refine XS.goto X0.here hexec rfl (pc0 := 29) rfl (hb hbytes d29) (by decide) rfl ?_
            exact Steps.refl _)
          rw [succ32] at c5
          exact ih (i + 1) (by omega) (fun j hj => by
            by_cases e : j = i
            · rw [e]; exact hv
            · exact he j (by omega)) c5
        · exact ⟨25, _, 0, Or.inl rfl, Or.inr ⟨rfl, fun q => hv (q.2 i (by omega))⟩, c4.trans (by
            refine XS.icmpNo X0.here hexec rfl (hb hbytes d21) rfl (ii_eq_f hv) ?_
            refine iconstV X0.here hexec rfl 0 (hb hbytes d24) (by decide) ?_
            exact Steps.refl _)⟩
    obtain ⟨pc, Ls, v, hpc, hv, cz⟩ := loop A.slots.size 0 (by omega) (fun j hj => absurd hj (Nat.not_lt_zero j)) c3
    have nv : narrow .boolean (.int v) = .int v := by rcases hv with ⟨rfl, -⟩ | ⟨rfl, -⟩ <;> rfl
    rcases hpc with rfl | rfl
    · exact ⟨s₁, some (.int v), _, _, _, X0, rfl, rfl, rfl, (fun h => by cases h), ⟨v, rfl, hh0, hv⟩, fun fs hl => cz.trans (X0.ireturnOut hexec hret nv (Or.inr (Or.inl rfl)) (hb hbytes d25) hl)⟩
    · exact ⟨s₁, some (.int v), _, _, _, X0, rfl, rfl, rfl, (fun h => by cases h), ⟨v, rfl, hh0, hv⟩, fun fs hl => cz.trans (X0.ireturnOut hexec hret nv (Or.inr (Or.inl rfl)) (hb hbytes d33) hl)⟩
  · have c3 : Steps p.tables e below (s₁.setTop (entryFrame m #[.ref a, .ref b] 3)) (s₁.setTop (mkF m 35 #[.val (.ref a), .val (.ref b), .unset] [.int 0])) := c2.trans (by
      refine XS.icmpYes X0.here hexec rfl (pc0 := 4) rfl (hb hbytes d4) rfl (ii_ne_t (ne32 a31 b31 hs)) (by decide) rfl ?_
      refine iconstV X0.here hexec rfl 0 (hb hbytes d34) (by decide) ?_
      exact Steps.refl _)
    exact ⟨s₁, some (.int 0), _, _, _, X0, rfl, rfl, rfl, (fun h => by cases h), ⟨0, rfl, hh0, Or.inr ⟨rfl, fun q => hs q.1⟩⟩, fun fs hl => c3.trans (X0.ireturnOut hexec hret rfl (Or.inr (Or.inl rfl)) (hb hbytes d35) hl)⟩
end LEq
theorem Cod.ty {cd : Int32} {n : Nat} {f : Nat → Int32} {V : Cell} (h : Cod cd n f V) : Typed .byte V := fun i v hv => by
  have hi : i < V.slots.size := (Array.getElem?_eq_some_iff.mp hv).1
  rcases h with ⟨-, k1, k2⟩ | ⟨-, k1, k2, -⟩
  · rw [(k2 i (by omega)).1] at hv; cases hv; exact fits_lo8 _
  · rcases Nat.mod_two_eq_zero_or_one i with e | e
    · obtain ⟨j, rfl⟩ : ∃ j, i = 2 * j := ⟨i / 2, by omega⟩
      rw [(k2 j (by omega)).1] at hv; cases hv; exact fits_lo8 _
    · obtain ⟨j, rfl⟩ : ∃ j, i = 2 * j + 1 := ⟨i / 2, by omega⟩
      rw [(k2 j (by omega)).2] at hv; cases hv; exact fits_lo8 _
/-- the same text -/
def SameT (n : Nat) (f : Nat → Int32) (k : Nat) (g : Nat → Int32) : Prop := n = k ∧ ∀ j, j < n → f j = g j
theorem lo8_inj {x y : Int32} (h0 : ¬ x < 0) (h1 : ¬ 255 < x) (k0 : ¬ y < 0) (k1 : ¬ 255 < y) (h : lo8 x = lo8 y) : x = y := by
  rw [← lo8_mask h0 h1, ← lo8_mask k0 k1, h]
/-- arrays coded by one coder are equal just where the texts are -/
theorem Cod.eqv {cd : Int32} {n k : Nat} {f g : Nat → Int32} {V V' : Cell} (h : Cod cd n f V) (h' : Cod cd k g V') (hf : ∀ j, j < n → ¬ f j < 0 ∧ ¬ 65535 < f j) (hg : ∀ j, j < k → ¬ g j < 0 ∧ ¬ 65535 < g j) : EqC V V' ↔ SameT n f k g := by
  have yvv : ∀ {W : Cell} {i : Nat} {x : Int32}, W.slots[i]? = some (.int x) → yv W i = x := fun q => by unfold yv; rw [q]
  rcases h with ⟨rfl, k1, k2⟩ | ⟨rfl, k1, k2, -⟩
  · rcases h' with ⟨-, m1, m2⟩ | ⟨e, -⟩
    · constructor
      · rintro ⟨e1, e2⟩
        refine ⟨by omega, fun j hj => ?_⟩
        have q := e2 j (by omega)
        rw [yvv (k2 j hj).1, yvv (m2 j (by omega)).1] at q
        exact lo8_inj (hf j hj).1 (k2 j hj).2 (hg j (by omega)).1 (m2 j (by omega)).2 q
      · rintro ⟨rfl, e2⟩
        refine ⟨by omega, fun j hj => ?_⟩
        rw [yvv (k2 j (by omega)).1, yvv (m2 j (by omega)).1, e2 j (by omega)]
    · exact absurd e (by decide)
  · rcases h' with ⟨e, -⟩ | ⟨-, m1, m2, -⟩
    · exact absurd e (by decide)
    · constructor
      · rintro ⟨e1, e2⟩
        refine ⟨by omega, fun j hj => ?_⟩
        have q1 := e2 (2 * j) (by omega)
        have q2 := e2 (2 * j + 1) (by omega)
        rw [yvv (k2 j hj).1, yvv (m2 j (by omega)).1] at q1
        rw [yvv (k2 j hj).2, yvv (m2 j (by omega)).2] at q2
        rw [← pair_says (hf j hj).1 (hf j hj).2, ← pair_says (hg j (by omega)).1 (hg j (by omega)).2, q1, q2]
      · rintro ⟨rfl, e2⟩
        refine ⟨by omega, fun i hi => ?_⟩
        rcases Nat.mod_two_eq_zero_or_one i with e | e
        · obtain ⟨j, rfl⟩ : ∃ j, i = 2 * j := ⟨i / 2, by omega⟩
          rw [yvv (k2 j (by omega)).1, yvv (m2 j (by omega)).1, e2 j (by omega)]
        · obtain ⟨j, rfl⟩ : ∃ j, i = 2 * j + 1 := ⟨i / 2, by omega⟩
          rw [yvv (k2 j (by omega)).2, yvv (m2 j (by omega)).2, e2 j (by omega)]
/-- two codings differ: so do the texts -/
theorem Cod.dif {cd cd' : Int32} {n k : Nat} {f g : Nat → Int32} {V V' : Cell} (h : Cod cd n f V) (h' : Cod cd' k g V') (hne : ¬ cd = cd') : ¬ SameT n f k g := by
  rintro ⟨rfl, e⟩
  rcases h with ⟨rfl, -, k2⟩ | ⟨rfl, -, -, j, hj, hw⟩
  · rcases h' with ⟨rfl, -⟩ | ⟨-, -, -, j, hj, hw⟩
    · exact hne rfl
    · exact (k2 j hj).2 (by rw [e j hj]; exact hw)
  · rcases h' with ⟨-, -, m2⟩ | ⟨rfl, -⟩
    · exact (m2 j hj).2 (by rw [← e j hj]; exact hw)
    · exact hne rfl
/-- an object of exactly C is an instance of C -/
theorem cinst {p : Program} {l : Launch} {e : Env} {R : Room} {s : State} {m : MethodId} {args : Array Value} {below : List Frame} {meth : Method} {c : Code} {T : State} {locs : List Loc} {cells slots : Nat} (X : Stand p l e R s m args below meth c T locs cells slots) (hexec : p.tables.exec = Jvm.exec) {own C : String} {index : Nat} (hown : s.vm.findClass own = some m.cls) (hlink : (Cond.classLink own index C).before args s = true) {a : Addr} (hE : Exact C a T)
    {g : JFrame} (hg : g.method = m) {rest : List Value} (hstack : g.stack = .ref a :: rest) (hdg : decode c.code g.pc = .ok (.instanceof index, 3)) :
    ∃ T', Stand p l e R s m args below meth c T' locs cells slots ∧ T'.heap = T.heap ∧ ∀ target, Steps p.tables e below (T'.setTop { g with pc := g.pc + 3, stack := .int 1 :: rest }) target → Steps p.tables e below (T.setTop g) target := by
  obtain ⟨cB, h1, D, h2, h3, h4⟩ := hE
  have h1' : s.vm.findClass C = some cB := by rw [← X.warmed.alike.findClass]; exact h1
  obtain ⟨vm', X', st⟩ := X.instanceofYes hexec hown hlink h2 h4 h1' (by rw [h3]; exact Jvm.Free.SB.assignable_self _ _) hg hstack hdg
  exact ⟨_, X', rfl, st⟩
theorem cself {p : Program} {l : Launch} {e : Env} {R : Room} {s : State} {m : MethodId} {args : Array Value} {below : List Frame} {meth : Method} {c : Code} {T : State} {locs : List Loc} {cells slots : Nat} (X : Stand p l e R s m args below meth c T locs cells slots) (hexec : p.tables.exec = Jvm.exec) {own C : String} {index : Nat} (hown : s.vm.findClass own = some m.cls) (hlink : (Cond.classLink own index C).before args s = true) {a : Addr} (hE : Exact C a T)
    {g : JFrame} (hg : g.method = m) {rest : List Value} (hstack : g.stack = .ref a :: rest) (hdg : decode c.code g.pc = .ok (.checkcast index, 3)) :
    ∃ T', Stand p l e R s m args below meth c T' locs cells slots ∧ T'.heap = T.heap ∧ ∀ target, Steps p.tables e below (T'.setTop { g with pc := g.pc + 3, stack := .ref a :: rest }) target → Steps p.tables e below (T.setTop g) target := by
  obtain ⟨cB, h1, D, h2, h3, h4⟩ := hE
  have h1' : s.vm.findClass C = some cB := by rw [← X.warmed.alike.findClass]; exact h1
  obtain ⟨vm', X', st⟩ := X.checkcastYes hexec hown hlink h2 h4 h1' (by rw [h3]; exact Jvm.Free.SB.assignable_self _ _) hg hstack hdg
  exact ⟨_, X', rfl, fun t h => st t (by rw [← hstack] at h; exact h)⟩
namespace SEq
def yN : MethodName := ⟨"java/lang/String", "equals", "(Ljava/lang/Object;)Z"⟩
abbrev yB : ByteArray := jdk_42_method_66_code
theorem d0 : decode yB 0 = .ok (.aload_n 0, 1) := by decide +kernel
theorem d1 : decode yB 1 = .ok (.aload_n 1, 1) := by decide +kernel
theorem d2 : decode yB 2 = .ok (.if_acmp (.ne) 5, 3) := by decide +kernel
theorem d5 : decode yB 5 = .ok (.iconst 1, 1) := by decide +kernel
theorem d6 : decode yB 6 = .ok (.ireturn, 1) := by decide +kernel
theorem d7 : decode yB 7 = .ok (.aload_n 1, 1) := by decide +kernel
theorem d8 : decode yB 8 = .ok (.instanceof 10, 3) := by decide +kernel
theorem d11 : decode yB 11 = .ok (.ifCond (.eq) 43, 3) := by decide +kernel
theorem d14 : decode yB 14 = .ok (.aload_n 1, 1) := by decide +kernel
theorem d15 : decode yB 15 = .ok (.checkcast 10, 3) := by decide +kernel
theorem d18 : decode yB 18 = .ok (.astore_n 2, 1) := by decide +kernel
theorem d19 : decode yB 19 = .ok (.getstatic 38, 3) := by decide +kernel
theorem d22 : decode yB 22 = .ok (.ifCond (.eq) 14, 3) := by decide +kernel
theorem d25 : decode yB 25 = .ok (.aload_n 0, 1) := by decide +kernel
theorem d26 : decode yB 26 = .ok (.getfield 15, 3) := by decide +kernel
theorem d29 : decode yB 29 = .ok (.aload_n 2, 1) := by decide +kernel
theorem d30 : decode yB 30 = .ok (.getfield 15, 3) := by decide +kernel
theorem d33 : decode yB 33 = .ok (.if_icmp (.ne) 21, 3) := by decide +kernel
theorem d36 : decode yB 36 = .ok (.aload_n 0, 1) := by decide +kernel
theorem d37 : decode yB 37 = .ok (.getfield 9, 3) := by decide +kernel
theorem d40 : decode yB 40 = .ok (.aload_n 2, 1) := by decide +kernel
theorem d41 : decode yB 41 = .ok (.getfield 9, 3) := by decide +kernel
theorem d44 : decode yB 44 = .ok (.invokestatic 541, 3) := by decide +kernel
theorem d47 : decode yB 47 = .ok (.ifCond (.eq) 7, 3) := by decide +kernel
theorem d50 : decode yB 50 = .ok (.iconst 1, 1) := by decide +kernel
theorem d51 : decode yB 51 = .ok (.goto 4, 3) := by decide +kernel
theorem d54 : decode yB 54 = .ok (.iconst 0, 1) := by decide +kernel
theorem d55 : decode yB 55 = .ok (.ireturn, 1) := by decide +kernel
def site : List Cond := [.classLink "java/lang/String" 10 "java/lang/String", .fieldLink "java/lang/String" 38 "java/lang/String" "COMPACT_STRINGS" "Z", .fieldLink "java/lang/String" 15 "java/lang/String" "coder" "B", .fieldLink "java/lang/String" 9 "java/lang/String" "value" "[B", LEq.tab] ++ staticW "java/lang/String" 541 LEq.yN
def tab : Cond := tabOf yN yB 3 (some .boolean) site
def P (x t : Addr) (V : Cell) (cd : Int32) (n : Nat) (f : Nat → Int32) (y t' : Addr) (V' : Cell) (cd' : Int32) (k : Nat) (g : Nat → Int32) (z : Int32) (args : Array Value) (s : State) : Prop := args = #[.ref x, .ref y] ∧ Txt x t V cd n f s ∧ Txt y t' V' cd' k g s ∧ StaticIs s "java/lang/String" "COMPACT_STRINGS" "Z" (.int z) ∧ ¬ z = 0
/-- equals(Object) of two Strings: whether the texts are the same -/
theorem law (l : Launch) (x t : Addr) (V : Cell) (cd : Int32) (n : Nat) (f : Nat → Int32) (y t' : Addr) (V' : Cell) (cd' : Int32) (k : Nat) (g : Nat → Int32) (z : Int32) : Law l yN 2 1 1 14 yB 3 (some .boolean) site (P x t V cd n f y t' V' cd' k g z) (Says01 (SameT n f k g)) [] 0 0 := by
  refine Law.of_walk (plainFor_of_name (by decide +kernel)) (by decide +kernel) (by decide +kernel) (by decide) (fun _ _ h => by rw [h.1]; rfl) (fun _ U U' hal hh h => ⟨h.1, h.2.1.mv hal hh, h.2.2.1.mv hal hh, h.2.2.2.1.there hal hh, h.2.2.2.2⟩) (fun r U U' V V' h1 hal h2 h => Says01.mv r U U' V V' h1 hal h2 h) ?_
  intro p e s m args below meth c s₁ X0 hexec hbytes hml hret hlk hnm hown hh0 W hP
  obtain ⟨rfl, hx, hy, s1, hz⟩ := hP
  have c1 : Steps p.tables e below (s₁.setTop (entryFrame m #[.ref x, .ref y] 3)) (s₁.setTop (mkF m 2 #[.val (.ref x), .val (.ref y), .unset] [.ref y, .ref x])) := Steps.trans (entry rfl) (by
    show Steps p.tables e below (s₁.setTop (mkF m 0 #[.val (.ref x), .val (.ref y), .unset] [])) _
    refine XS.aloadN X0.here hexec rfl (hb hbytes d0) rfl rfl ?_
    refine XS.aloadN X0.here hexec rfl (hb hbytes d1) rfl rfl ?_
    exact Steps.refl _)
  by_cases hxy : x = y
  · have c2 : Steps p.tables e below (s₁.setTop (entryFrame m #[.ref x, .ref y] 3)) (s₁.setTop (mkF m 6 #[.val (.ref x), .val (.ref y), .unset] [.int 1])) := c1.trans (by
      refine acmpNo X0.here hexec rfl (hb hbytes d2) rfl rfl rfl (by simp [acmp, hxy]) ?_
      refine iconstV X0.here hexec rfl 1 (hb hbytes d5) (by decide) ?_
      exact Steps.refl _)
    subst hxy
    have ec : cd = cd' := by
      obtain ⟨D, fd, a1, a2, a3⟩ := hx.2.2.1
      obtain ⟨D', fd', b1, b2, b3⟩ := hy.2.2.1
      cases a1.symm.trans b1
      obtain ⟨q1, q2, q3, q4⟩ := a2.1
      obtain ⟨r1, r2, r3, r4⟩ := b2.1
      cases q4.symm.trans r4
      cases a3.symm.trans b3; rfl
    have et : t = t' := by
      obtain ⟨D, fd, a1, a2, a3⟩ := hx.2.1
      obtain ⟨D', fd', b1, b2, b3⟩ := hy.2.1
      cases a1.symm.trans b1
      obtain ⟨q1, q2, q3, q4⟩ := a2.1
      obtain ⟨r1, r2, r3, r4⟩ := b2.1
      cases q4.symm.trans r4
      cases a3.symm.trans b3; rfl
    subst ec et
    have ev : V = V' := by cases hx.2.2.2.1.1.symm.trans hy.2.2.2.1.1; rfl
    subst ev
    have hs : SameT n f k g := (Cod.eqv hx.2.2.2.2.1 hy.2.2.2.2.1 hx.2.2.2.2.2 hy.2.2.2.2.2).mp ⟨rfl, fun _ _ => rfl⟩
    exact ⟨s₁, some (.int 1), _, _, _, X0, rfl, rfl, rfl, (fun h => by cases h), ⟨1, rfl, hh0, Or.inl ⟨rfl, hs⟩⟩, fun fs hl => c2.trans (X0.ireturnOut hexec hret rfl (Or.inr (Or.inl rfl)) (hb hbytes d6) hl)⟩
  · have c2 : Steps p.tables e below (s₁.setTop (entryFrame m #[.ref x, .ref y] 3)) (s₁.setTop (mkF m 8 #[.val (.ref x), .val (.ref y), .unset] [.ref y])) := c1.trans (by
      refine acmpYes X0.here hexec rfl (pc0 := 2) rfl (hb hbytes d2) rfl rfl rfl (by simp [acmp, hxy]) (by decide) rfl ?_
      refine XS.aloadN X0.here hexec rfl (hb hbytes d7) rfl rfl ?_
      exact Steps.refl _)
    obtain ⟨T3, X3, q3, st3⟩ := cinst X0 hexec hown (wk W (.classLink "java/lang/String" 10 "java/lang/String")) (hy.mv X0.warmed.alike hh0).1 (g := (mkF m 8 #[.val (.ref x), .val (.ref y), .unset] [.ref y])) rfl (rest := []) rfl (hb hbytes d8)
    have hh3 := q3.trans hh0
    have c4 : Steps p.tables e below (s₁.setTop (entryFrame m #[.ref x, .ref y] 3)) (T3.setTop (mkF m 15 #[.val (.ref x), .val (.ref y), .unset] [.ref y])) := (c2.trans (st3 _ (Steps.refl _))).trans (by
      refine XS.ifNo X3.here hexec rfl (hb hbytes d11) rfl (i0_eq_f (by decide)) ?_
      refine XS.aloadN X3.here hexec rfl (hb hbytes d14) rfl rfl ?_
      exact Steps.refl _)
    obtain ⟨T5, X5, q5, st5⟩ := cself X3 hexec hown (wk W (.classLink "java/lang/String" 10 "java/lang/String")) (hy.mv X3.warmed.alike hh3).1 (g := (mkF m 15 #[.val (.ref x), .val (.ref y), .unset] [.ref y])) rfl (rest := []) rfl (hb hbytes d15)
    have hh5 := q5.trans hh3
    have c6 : Steps p.tables e below (s₁.setTop (entryFrame m #[.ref x, .ref y] 3)) (T5.setTop (mkF m 19 #[.val (.ref x), .val (.ref y), .val (.ref y)] [])) := (c4.trans (st5 _ (Steps.refl _))).trans (by
      refine XS.astoreN X5.here hexec rfl (hb hbytes d18) rfl rfl rfl ?_
      exact Steps.refl _)
    obtain ⟨T7, X7, q7, st7⟩ := X5.sget hexec hown (wk W (.fieldLink "java/lang/String" 38 "java/lang/String" "COMPACT_STRINGS" "Z")) s1 (fun _ _ h => by rw [hh5]; exact h) (g := (mkF m 19 #[.val (.ref x), .val (.ref y), .val (.ref y)] [])) rfl (hb hbytes d19)
    have hh7 := q7.trans hh5
    have c8 : Steps p.tables e below (s₁.setTop (entryFrame m #[.ref x, .ref y] 3)) (T7.setTop (mkF m 26 #[.val (.ref x), .val (.ref y), .val (.ref y)] [.ref x])) := (c6.trans (st7 _ (Steps.refl _))).trans (by
      refine XS.ifNo X7.here hexec rfl (hb hbytes d22) rfl (i0_eq_f hz) ?_
      refine XS.aloadN X7.here hexec rfl (hb hbytes d25) rfl rfl ?_
      exact Steps.refl _)
    obtain ⟨T9, X9, q9, st9⟩ := X7.hget hexec hown (wk W (.fieldLink "java/lang/String" 15 "java/lang/String" "coder" "B")) (hx.mv X7.warmed.alike hh7).2.2.1 (g := (mkF m 26 #[.val (.ref x), .val (.ref y), .val (.ref y)] [.ref x])) rfl (rest := []) rfl (hb hbytes d26)
    have hh9 := q9.trans hh7
    have c10 : Steps p.tables e below (s₁.setTop (entryFrame m #[.ref x, .ref y] 3)) (T9.setTop (mkF m 30 #[.val (.ref x), .val (.ref y), .val (.ref y)] [.ref y, .int cd])) := (c8.trans (st9 _ (Steps.refl _))).trans (by
      refine XS.aloadN X9.here hexec rfl (hb hbytes d29) rfl rfl ?_
      exact Steps.refl _)
    obtain ⟨T11, X11, q11, st11⟩ := X9.hget hexec hown (wk W (.fieldLink "java/lang/String" 15 "java/lang/String" "coder" "B")) (hy.mv X9.warmed.alike hh9).2.2.1 (g := (mkF m 30 #[.val (.ref x), .val (.ref y), .val (.ref y)] [.ref y, .int cd])) rfl (rest := [.int cd]) rfl (hb hbytes d30)
    have hh11 := q11.trans hh9
    have c12 : Steps p.tables e below (s₁.setTop (entryFrame m #[.ref x, .ref y] 3)) (T11.setTop (mkF m 33 #[.val (.ref x), .val (.ref y), .val (.ref y)] [.int cd', .int cd])) := c10.trans (st11 _ (Steps.refl _))
    by_cases hcd : cd = cd'
    · subst hcd
      have c13 : Steps p.tables e below (s₁.setTop (entryFrame m #[.ref x, .ref y] 3)) (T11.setTop (mkF m 37 #[.val (.ref x), .val (.ref y), .val (.ref y)] [.ref x])) := c12.trans (by
        refine XS.icmpNo X11.here hexec rfl (hb hbytes d33) rfl (ii_ne_f rfl) ?_
        refine XS.aloadN X11.here hexec rfl (hb hbytes d36) rfl rfl ?_
        exact Steps.refl _)
      obtain ⟨T14, X14, q14, st14⟩ := X11.hget hexec hown (wk W (.fieldLink "java/lang/String" 9 "java/lang/String" "value" "[B")) (hx.mv X11.warmed.alike hh11).2.1 (g := (mkF m 37 #[.val (.ref x), .val (.ref y), .val (.ref y)] [.ref x])) rfl (rest := []) rfl (hb hbytes d37)
      have hh14 := q14.trans hh11
      have c15 : Steps p.tables e below (s₁.setTop (entryFrame m #[.ref x, .ref y] 3)) (T14.setTop (mkF m 41 #[.val (.ref x), .val (.ref y), .val (.ref y)] [.ref y, .ref t])) := (c13.trans (st14 _ (Steps.refl _))).trans (by
        refine XS.aloadN X14.here hexec rfl (hb hbytes d40) rfl rfl ?_
        exact Steps.refl _)
      obtain ⟨T16, X16, q16, st16⟩ := X14.hget hexec hown (wk W (.fieldLink "java/lang/String" 9 "java/lang/String" "value" "[B")) (hy.mv X14.warmed.alike hh14).2.1 (g := (mkF m 41 #[.val (.ref x), .val (.ref y), .val (.ref y)] [.ref y, .ref t])) rfl (rest := [.ref t]) rfl (hb hbytes d41)
      have hh16 := q16.trans hh14
      have c17 : Steps p.tables e below (s₁.setTop (entryFrame m #[.ref x, .ref y] 3)) (T16.setTop (mkF m 44 #[.val (.ref x), .val (.ref y), .val (.ref y)] [.ref t', .ref t])) := c15.trans (st16 _ (Steps.refl _))
      obtain ⟨v18, T18, X18, E18, g18⟩ := X16.callS hexec (LEq.law l t V t' V') hown (wks W (staticW "java/lang/String" 541 LEq.yN)) (wk W LEq.tab) (W := 0) (Nat.le_of_ble_eq_true rfl) (Nat.le_of_ble_eq_true rfl) (Nat.le_refl _) (Nat.le_refl _) (g := (mkF m 44 #[.val (.ref x), .val (.ref y), .val (.ref y)] [.ref t', .ref t])) rfl (by rw [hml]; rfl) c17 (argsL := [.ref t, .ref t']) (rest := []) rfl rfl (by show 2 * 0 + 0 ≤ _; decide) (hb hbytes d44) (⟨rfl, hx.2.2.2.1.mv X16.warmed.alike hh16, hx.2.2.2.2.1.ty, hy.2.2.2.1.mv X16.warmed.alike hh16, hy.2.2.2.2.1.ty⟩)
      obtain ⟨v, rfl, q18, hv⟩ := E18
      have iff := Cod.eqv hx.2.2.2.2.1 hy.2.2.2.2.1 hx.2.2.2.2.2 hy.2.2.2.2.2
      rcases hv with ⟨rfl, he⟩ | ⟨rfl, he⟩
      · have c19 : Steps p.tables e below (s₁.setTop (entryFrame m #[.ref x, .ref y] 3)) (T18.setTop (mkF m 55 #[.val (.ref x), .val (.ref y), .val (.ref y)] [.int 1])) := Steps.trans g18 (by
          refine XS.ifNo X18.here hexec rfl (hb hbytes d47) rfl (i0_eq_f (by decide)) ?_
          refine iconstV X18.here hexec rfl 1 (hb hbytes d50) (by decide) ?_
          refine XS.goto X18.here hexec rfl (pc0 := 51) rfl (hb hbytes d51) (by decide) rfl ?_
          exact Steps.refl _)
        exact ⟨T18, some (.int 1), _, _, _, X18, rfl, rfl, rfl, (fun h => by cases h), ⟨1, rfl, q18.trans hh16, Or.inl ⟨rfl, iff.mp he⟩⟩, fun fs hl => c19.trans (X18.ireturnOut hexec hret rfl (Or.inr (Or.inl rfl)) (hb hbytes d55) hl)⟩
      · have c19 : Steps p.tables e below (s₁.setTop (entryFrame m #[.ref x, .ref y] 3)) (T18.setTop (mkF m 55 #[.val (.ref x), .val (.ref y), .val (.ref y)] [.int 0])) := Steps.trans g18 (by
          refine XS.ifYes X18.here hexec rfl (pc0 := 47) rfl (hb hbytes d47) rfl (i0_eq_t rfl) (by decide) rfl ?_
          refine iconstV X18.here hexec rfl 0 (hb hbytes d54) (by decide) ?_
          exact Steps.refl _)
        exact ⟨T18, some (.int 0), _, _, _, X18, rfl, rfl, rfl, (fun h => by cases h), ⟨0, rfl, q18.trans hh16, Or.inr ⟨rfl, fun q => he (iff.mpr q)⟩⟩, fun fs hl => c19.trans (X18.ireturnOut hexec hret rfl (Or.inr (Or.inl rfl)) (hb hbytes d55) hl)⟩
    · have c13 : Steps p.tables e below (s₁.setTop (entryFrame m #[.ref x, .ref y] 3)) (T11.setTop (mkF m 55 #[.val (.ref x), .val (.ref y), .val (.ref y)] [.int 0])) := c12.trans (by
        refine XS.icmpYes X11.here hexec rfl (pc0 := 33) rfl (hb hbytes d33) rfl (ii_ne_t hcd) (by decide) rfl ?_
        refine iconstV X11.here hexec rfl 0 (hb hbytes d54) (by decide) ?_
        exact Steps.refl _)
      exact ⟨T11, some (.int 0), _, _, _, X11, rfl, rfl, rfl, (fun h => by cases h), ⟨0, rfl, hh11, Or.inr ⟨rfl, Cod.dif hx.2.2.2.2.1 hy.2.2.2.2.1 hcd⟩⟩, fun fs hl => c13.trans (X11.ireturnOut hexec hret rfl (Or.inr (Or.inl rfl)) (hb hbytes d55) hl)⟩
theorem pays {l : Launch} {R : Room} {p : Program} {e : Env} {below : List Frame} {s : State} {sargs : Array Value} {len W : Nat} (x t : Addr) (V : Cell) (cd : Int32) (n : Nat) (f : Nat → Int32) (y t' : Addr) (V' : Cell) (cd' : Int32) (k : Nat) (g : Nat → Int32) (z : Int32) (htab : tab.before sargs s = true) (hfr : 2 ≤ R.frames) (hlo : W + 28 ≤ R.locals) :
    Back l R p e below s sargs yN len W (fun A₁ a₁ => A₁.cells + 0 ≤ R.cells ∧ A₁.slots + 0 ≤ R.slots ∧ P x t V cd n f y t' V' cd' k g z a₁ A₁.U) (fun A₁ _ v₁ B₁ => Says01 (SameT n f k g) v₁ A₁.U B₁.U ∧ B₁.locs = A₁.locs ++ [] ∧ B₁.cells = A₁.cells + 0 ∧ B₁.slots = A₁.slots + 0) :=
  (law l x t V cd n f y t' V' cd' k g z).pays htab hfr (by omega)
end SEq
end StrChars
namespace StrChars.Road
open Jvm Sem ClassFile Op Lib Jvm.Stand Jvm.Free Jvm.Free.XT
open Jvm.Lib.Cold (StaticIs)
/-- the words of String.equals(Object) -/
abbrev wordsEq : List Jvm.Cond := [.code SEq.yN SEq.yB 3 (some .boolean), .initialized ST, .classLink ST 10 ST, .fieldLink ST 38 ST "COMPACT_STRINGS" "Z", .fieldLink ST 15 ST "coder" "B", .fieldLink ST 9 ST "value" "[B", .methodLink ST 541 LEq.yN, .static LEq.yN, .code LEq.yN LEq.yB 3 (some .boolean), .initialized "java/lang/StringLatin1"]
theorem tabEq_of {a : Array Value} {s : State} (h : ∀ w ∈ wordsEq, w.before a s = true) : SEq.tab.before a s = true := by
  have hl : LEq.tab.before a s = true := unparts (wk h (.code LEq.yN LEq.yB 3 (some .boolean))) (wks h (.initialized LEq.yN.cls :: LEq.site))
  have q := consq hl h
  exact unparts (wk q (.code SEq.yN SEq.yB 3 (some .boolean))) (wks q (.initialized SEq.yN.cls :: SEq.site))
theorem movedEq {Z s : State} {a0 args : Array Value} (hZ : Z.Warmed39 s.vm) (hw : ∀ d ∈ wordsEq, d.before a0 Z = true) : ∀ d ∈ wordsEq, d.before args s = true := fun d hd => by
  have t : ∀ d ∈ wordsEq, (d.onTables && d.keepsFace) = true := by decide +kernel
  exact RoadKit.mv hZ (hw d hd) (t d hd)
/-- the road's facts of a String, as the laws ask it -/
theorem txt_of {Z U : State} {a0 : Array Value} {kI : Nat} (wi : (Jvm.Cond.instantiable ST kI).before a0 Z = true) (al : Z.vm.Alike U.vm) {x t : Addr} {kb : ClassId} {cs : List Int32} {cd N2 : Int32} {vs : List Value} (E : RoadKit.Exa Z U.heap x ST) (V : RoadKit.Fld Z U.heap x ST "value" "[B" (.ref t)) (C : RoadKit.Fld Z U.heap x ST "coder" "B" (.int cd)) (K : RoadKit.Arv Z U.heap t kb .byte N2 vs (.int 0)) (hc : CodA cs cd N2 vs) (hb : ∀ c ∈ cs, ¬ c < 0 ∧ ¬ (65535 : Int32) < c) (l2 : cs.length ≤ 4000) :
    ∃ A, Txt x t A cd cs.length (fun j => cs.getD j 0) U := by
  obtain ⟨A, K1, K2, K3, K4, K5, K6⟩ := K
  have hcod := hc.cod (by omega) K3 K5
  obtain ⟨D, fV, fC, hB, F1, F2, g1, g2, -, -⟩ := strObj wi al E V C
  exact ⟨A, ⟨_, hB.2.2.1, D, hB.1, rfl, by cases q : D.vm <;> first | rfl | exact absurd q (hB.2.1.2 _)⟩, Has.of hB F1 g1, Has.of hB F2 g2, ⟨K1.1, State.isArrayOf_alike al K1.2.1, K1.2.2, by rcases hcod with ⟨-, q, -⟩ | ⟨-, q, -⟩ <;> omega⟩, hcod, fun j hj => by
    have e : cs.getD j 0 = cs[j] := by simp [List.getD_eq_getElem?_getD, hj]
    show ¬ cs.getD j 0 < 0 ∧ ¬ 65535 < cs.getD j 0
    rw [e]; exact hb _ (List.getElem_mem _)⟩
theorem same_list (cs ds : List Int32) : SameT cs.length (fun j => cs.getD j 0) ds.length (fun j => ds.getD j 0) ↔ cs = ds := by
  constructor
  · rintro ⟨e, q⟩
    refine List.ext_getElem e fun j h1 h2 => ?_
    have := q j h1
    simpa [List.getD_eq_getElem?_getD, h1, h2] using this
  · rintro rfl
    exact ⟨rfl, fun _ _ => rfl⟩
/-- **equals(Object) OF TWO SUCH STRINGS**: 1 just where the chars are the same -/
theorem eqW {p : Program} {l : Launch} {e : Env} {R : Room} {s : State} {args : Array Value} {below : List Frame} {len W : Nat} {Z : State} {a0 : Array Value} {h : Heap} (hZ : Z.Warmed39 s.vm) (hw : ∀ d ∈ wordsEq, d.before a0 Z = true) {kI : Nat} (wi : (Jvm.Cond.instantiable ST kI).before a0 Z = true)
    {x t : Addr} {kb : ClassId} {cs : List Int32} {cd N2 : Int32} {vs : List Value} (E : RoadKit.Exa Z h x ST) (V : RoadKit.Fld Z h x ST "value" "[B" (.ref t)) (C : RoadKit.Fld Z h x ST "coder" "B" (.int cd)) (K : RoadKit.Arv Z h t kb .byte N2 vs (.int 0)) (hc : CodA cs cd N2 vs) (hb : ∀ c ∈ cs, ¬ c < 0 ∧ ¬ (65535 : Int32) < c) (l2 : cs.length ≤ 4000)
    {y t' : Addr} {kb' : ClassId} {ds : List Int32} {cd' N2' : Int32} {vs' : List Value} (E' : RoadKit.Exa Z h y ST) (V' : RoadKit.Fld Z h y ST "value" "[B" (.ref t')) (C' : RoadKit.Fld Z h y ST "coder" "B" (.int cd')) (K' : RoadKit.Arv Z h t' kb' .byte N2' vs' (.int 0)) (hc' : CodA ds cd' N2' vs') (hb' : ∀ c ∈ ds, ¬ c < 0 ∧ ¬ (65535 : Int32) < c) (l2' : ds.length ≤ 4000)
    {z : Int32} (S : RoadKit.Sta Z h ST "COMPACT_STRINGS" "Z" (.int z)) (hz : ¬ z = 0) (hfr : 2 ≤ R.frames) (hlo : W + 28 ≤ R.locals) :
    Back l R p e below s args (⟨"java/lang/String", "equals", "(Ljava/lang/Object;)Z"⟩ : MethodName) len W (fun P a => a = #[.ref x, .ref y] ∧ P.U.heap = h ∧ P.cells + 0 ≤ R.cells ∧ P.slots + 0 ≤ R.slots)
      (fun P _ v B => ∃ L, (((v = some (.int 1) ∧ cs = ds) ∨ (v = some (.int 0) ∧ ¬ cs = ds)) ∧ L = [] ∧ B.U.heap = h) ∧ B.locs = P.locs ++ L ∧ B.cells = P.cells + 0 ∧ B.slots = P.slots + 0) := by
  intro m meth c P g ig mk a X hg hsize hdg hW hn hp'
  obtain ⟨rfl, rfl, r1, r2⟩ := hp'
  have al : Z.vm.Alike P.U.vm := hZ.alike.trans X.warmed.alike
  obtain ⟨A, hx⟩ := txt_of wi al E V C K hc hb l2
  obtain ⟨A', hy⟩ := txt_of wi al E' V' C' K' hc' hb' l2'
  obtain ⟨v, B, X', ⟨⟨w, hv, hh, hq⟩, hl, hk, hs⟩, st⟩ := SEq.pays x t A cd cs.length (fun j => cs.getD j 0) y t' A' cd' ds.length (fun j => ds.getD j 0) z (tabEq_of (movedEq hZ hw)) hfr hlo m meth c P g ig mk _ X hg hsize hdg hW hn ⟨r1, r2, rfl, hx, hy, sta_is al S, hz⟩
  refine ⟨v, B, X', ⟨[], ⟨?_, rfl, hh⟩, hl, hk, hs⟩, st⟩
  rcases hq with ⟨rfl, q⟩ | ⟨rfl, q⟩
  · exact Or.inl ⟨hv, (same_list cs ds).mp q⟩
  · exact Or.inr ⟨hv, fun e => q ((same_list cs ds).mpr e)⟩
end StrChars.Road
namespace StrChars.Road
open Jvm Sem ClassFile Op Lib Jvm.Stand Jvm.Free Jvm.Free.XT
open Jvm.Lib.Cold (StaticIs)
/-- what backV says of its String, as the contracts of this text ask it: cs's low bytes, coder 0 -/
theorem codOf {cs : List Int32} {n : Nat} (hn : cs.length = n) (hb : ∀ c ∈ cs, ¬ 255 < c) : CodA cs 0 (Int32.ofNat n) ((cs.map lo8).map Value.int) := Or.inl ⟨rfl, by rw [hn], by simp [List.map_map, Function.comp_def], hb⟩
end StrChars.Road
end Jvm.Pilot.@@N@@
namespace Jvm.Pilot.@@N@@
open Jvm Jvm.ClassFile Sem Op Lib Jvm.Free Jvm.Stand Jvm.LawKit Jvm.RoadKit Bundle Jvm.Pilot.@@N@@.Jvm.D
section OwnKit
variable {p : Program} {l : Launch} {e : Env} {R : Room} {s : State} {m : MethodId} {args : Array Value} {below : List Frame} {meth : Method} {c : Code} {T : State} {Z : State} {own mn : String} {bytes : ByteArray} {ml n0 k n : Nat} {rt : Option FieldType} {h : Heap} {G : Outcome → State → Prop} {pc q : Nat} {L : Array Slot} {st rest : List Value} {a0 : Array Value}
/-- the run from S comes to an end of which G speaks -/
def Goes (p : Program) (e : Env) (below : List Frame) (G : Outcome → State → Prop) (S : State) : Prop := ∃ s₂ o, Steps p.tables e below S s₂ ∧ s₂.status = .running ∧ Ended s₂ below o ∧ G o s₂
theorem go_st {S S' : State} (f : ∀ t, Steps p.tables e below S' t → Steps p.tables e below S t) (r : Goes p e below G S') : Goes p e below G S := by
  obtain ⟨s₂, o, a, b⟩ := r; exact ⟨s₂, o, f _ a, b⟩
theorem go_tr {S S' : State} (f : Steps p.tables e below S S') (r : Goes p e below G S') : Goes p e below G S := by
  obtain ⟨s₂, o, a, b⟩ := r; exact ⟨s₂, o, f.trans a, b⟩
/-- what a body's walk knows from its start on -/
def Cx (p : Program) (s : State) (m : MethodId) (meth : Method) (c : Code) (Z : State) (own : String) (bytes : ByteArray) (ml : Nat) (rt : Option FieldType) (mn : String) : Prop :=
  p.tables.exec = Jvm.exec ∧ Z.Warmed39 s.vm ∧ s.vm.findClass own = some m.cls ∧ c.code = bytes ∧ c.maxLocals = ml ∧ meth.sig.returnType = rt ∧ meth.locks = false ∧ meth.name = mn
/-- where it stands: the heap is h; all that was written lies at n0 or above; at most k cells and n slots are new -/
def St (p : Program) (l : Launch) (e : Env) (R : Room) (s : State) (m : MethodId) (args : Array Value) (below : List Frame) (meth : Method) (c : Code) (n0 : Nat) (T : State) (h : Heap) (k n : Nat) : Prop :=
  ∃ locs cells slots, Stand p l e R s m args below meth c T locs cells slots ∧ Fr n0 locs ∧ T.heap = h ∧ cells ≤ k ∧ slots ≤ n
def FinN (Q : Option Value → Heap → Prop) (s : State) (n0 k n : Nat) (o : Outcome) (U : State) : Prop := ∃ v L, o = .returned v ∧ (Fr n0 L ∧ Q v U.heap) ∧ FrameEnd s o U L k n
def Met (l : Launch) (Z : State) (y : MethodName) (bytes : ByteArray) (ml : Nat) (rt : Option FieldType) (rm : Room) (as' : Array Value) (h0 : Heap) (n0 : Nat) (Q : Option Value → Heap → Prop) : Prop :=
  ∀ ws : List Jvm.Cond, MetFree l y (head1 (Jvm.Cond.code y bytes ml rt :: ws) rm) (fun a U => a = as' ∧ Z.Warmed39 U.vm ∧ U.heap = h0) (fun _ _ _ _ _ => True) (fun _ U o U' => ∃ v L, o = .returned v ∧ (Fr n0 L ∧ Q v U'.heap) ∧ FrameEnd U o U' L rm.cells rm.slots)
abbrev Met1 (l : Launch) (Z : State) (y : MethodName) (bytes : ByteArray) (ml : Nat) (rt : Option FieldType) (rm : Room) (as' : Array Value) (h0 : Heap) (n0 : Nat) (Q : Value → Heap → Prop) : Prop := Met l Z y bytes ml rt rm as' h0 n0 (fun v h => ∃ w, v = some w ∧ Q w h)
abbrev Met0 (l : Launch) (Z : State) (y : MethodName) (bytes : ByteArray) (ml : Nat) (rt : Option FieldType) (rm : Room) (as' : Array Value) (h0 : Heap) (n0 : Nat) (Q : Heap → Prop) : Prop := Met l Z y bytes ml rt rm as' h0 n0 (fun v h => v = none ∧ Q h)
theorem met_of {y : MethodName} {rm : Room} {as' : Array Value} {Q : Option Value → Heap → Prop} (hp : plainFor y = true) (hef : ∀ m, entryFrame m as' ml = mkF m 0 L [])
    (body : ∀ (p : Program) (e : Env) (s : State) (m : MethodId) (below : List Frame) (meth : Method) (c : Code) (T : State), Cx p s m meth c Z y.cls bytes ml rt y.name → St p l e rm s m as' below meth c n0 T h 0 0 → Goes p e below (FinN Q s n0 rm.cells rm.slots) (T.setTop (mkF m 0 L []))) :
    Met l Z y bytes ml rt rm as' h n0 Q := by
  intro ws
  refine MetFree.of_bodySF hp hisR ?_
  intro p e s m args below meth c s₁ Bd hml hP hK
  obtain ⟨rfl, hZ, hh⟩ := hP
  have e0 : s₁.heap = h := by rw [← hh, Bd.state]; rfl
  have b := body p e s m below meth c s₁ ⟨Bd.exec, hZ, findClass_of_methodNamed Bd.named, Bd.bytes, hml, Bd.returns, BodyLoose.notSynchronized Bd, (name_of_methodNamed Bd.named Bd.method).1⟩ ⟨[], 0, 0, Stand.of_body Bd, Fr.nil _, e0, Nat.le_refl _, Nat.le_refl _⟩
  rw [hef m]
  exact b
theorem St.mono {k' n' : Nat} (X : St p l e R s m args below meth c n0 T h k n) (hk : k ≤ k') (hn : n ≤ n') : St p l e R s m args below meth c n0 T h k' n' := by
  obtain ⟨a, b, d, x, y, z, u, v⟩ := X; exact ⟨a, b, d, x, y, z, Nat.le_trans u hk, Nat.le_trans v hn⟩
theorem g_aloadN (C : Cx p s m meth c Z own bytes ml rt mn) (X : St p l e R s m args below meth c n0 T h k n) {j : Fin 4} {v : Value} (hd : decode bytes pc = .ok (.aload_n j, 1)) (hq : pc + 1 = q) (hl : L[j.val]? = some (.val v)) (hv : v.isRef = true) (r : Goes p e below G (T.setTop (mkF m q L (v :: st)))) : Goes p e below G (T.setTop (mkF m pc L (st))) := by
  obtain ⟨hx, -, -, hby, -⟩ := C
  obtain ⟨_, _, _, X, -⟩ := X
  subst hq 
  exact go_st (fun t k => XS.aloadN X.here hx rfl (hb hby hd) hl hv k) r
theorem g_aload (C : Cx p s m meth c Z own bytes ml rt mn) (X : St p l e R s m args below meth c n0 T h k n) {j : Nat} {v : Value} (hd : decode bytes pc = .ok (.aload j, 2)) (hq : pc + 2 = q) (hl : L[j]? = some (.val v)) (hv : v.isRef = true) (r : Goes p e below G (T.setTop (mkF m q L (v :: st)))) : Goes p e below G (T.setTop (mkF m pc L (st))) := by
  obtain ⟨hx, -, -, hby, -⟩ := C
  obtain ⟨_, _, _, X, -⟩ := X
  subst hq 
  exact go_st (fun t k => XS.aload X.here hx rfl (hb hby hd) hl hv k) r
theorem g_iloadN (C : Cx p s m meth c Z own bytes ml rt mn) (X : St p l e R s m args below meth c n0 T h k n) {j : Fin 4} {v : Int32} (hd : decode bytes pc = .ok (.iload_n j, 1)) (hq : pc + 1 = q) (hl : L[j.val]? = some (.val (.int v))) (r : Goes p e below G (T.setTop (mkF m q L (.int v :: st)))) : Goes p e below G (T.setTop (mkF m pc L (st))) := by
  obtain ⟨hx, -, -, hby, -⟩ := C
  obtain ⟨_, _, _, X, -⟩ := X
  subst hq 
  exact go_st (fun t k => XS.iloadN X.here hx rfl (hb hby hd) hl k) r
theorem g_iload (C : Cx p s m meth c Z own bytes ml rt mn) (X : St p l e R s m args below meth c n0 T h k n) {j : Nat} {v : Int32} (hd : decode bytes pc = .ok (.iload j, 2)) (hq : pc + 2 = q) (hl : L[j]? = some (.val (.int v))) (r : Goes p e below G (T.setTop (mkF m q L (.int v :: st)))) : Goes p e below G (T.setTop (mkF m pc L (st))) := by
  obtain ⟨hx, -, -, hby, -⟩ := C
  obtain ⟨_, _, _, X, -⟩ := X
  subst hq 
  exact go_st (fun t k => XS.iload X.here hx rfl (hb hby hd) hl k) r
theorem g_lloadN (C : Cx p s m meth c Z own bytes ml rt mn) (X : St p l e R s m args below meth c n0 T h k n) {j : Fin 4} {v : Int64} (hd : decode bytes pc = .ok (.lload_n j, 1)) (hq : pc + 1 = q) (hl : L[j.val]? = some (.val (.long v))) (r : Goes p e below G (T.setTop (mkF m q L (.long v :: st)))) : Goes p e below G (T.setTop (mkF m pc L (st))) := by
  obtain ⟨hx, -, -, hby, -⟩ := C
  obtain ⟨_, _, _, X, -⟩ := X
  subst hq 
  exact go_st (fun t k => XS.lloadN X.here hx rfl (hb hby hd) hl k) r
theorem g_lload (C : Cx p s m meth c Z own bytes ml rt mn) (X : St p l e R s m args below meth c n0 T h k n) {j : Nat} {v : Int64} (hd : decode bytes pc = .ok (.lload j, 2)) (hq : pc + 2 = q) (hl : L[j]? = some (.val (.long v))) (r : Goes p e below G (T.setTop (mkF m q L (.long v :: st)))) : Goes p e below G (T.setTop (mkF m pc L (st))) := by
  obtain ⟨hx, -, -, hby, -⟩ := C
  obtain ⟨_, _, _, X, -⟩ := X
  subst hq 
  exact go_st (fun t k => XS.lload X.here hx rfl (hb hby hd) hl k) r
theorem g_iconst (C : Cx p s m meth c Z own bytes ml rt mn) (X : St p l e R s m args below meth c n0 T h k n) {i : Int} {z : Int32} (hd : decode bytes pc = .ok (.iconst i, 1)) (hq : pc + 1 = q) (hz : Int32.ofInt i = z) (r : Goes p e below G (T.setTop (mkF m q L (.int z :: st)))) : Goes p e below G (T.setTop (mkF m pc L (st))) := by
  obtain ⟨hx, -, -, hby, -⟩ := C
  obtain ⟨_, _, _, X, -⟩ := X
  subst hq hz
  exact go_st (fun t k => XS.iconst X.here hx rfl (hb hby hd)  k) r
theorem g_bipush (C : Cx p s m meth c Z own bytes ml rt mn) (X : St p l e R s m args below meth c n0 T h k n) {i : Int} {z : Int32} (hd : decode bytes pc = .ok (.bipush i, 2)) (hq : pc + 2 = q) (hz : (Int8.ofInt i).toInt32 = z) (r : Goes p e below G (T.setTop (mkF m q L (.int z :: st)))) : Goes p e below G (T.setTop (mkF m pc L (st))) := by
  obtain ⟨hx, -, -, hby, -⟩ := C
  obtain ⟨_, _, _, X, -⟩ := X
  subst hq hz
  exact go_st (fun t k => XS.bipush X.here hx rfl (hb hby hd)  k) r
theorem g_sipush (C : Cx p s m meth c Z own bytes ml rt mn) (X : St p l e R s m args below meth c n0 T h k n) {i : Int} {z : Int32} (hd : decode bytes pc = .ok (.sipush i, 3)) (hq : pc + 3 = q) (hz : (Int16.ofInt i).toInt32 = z) (r : Goes p e below G (T.setTop (mkF m q L (.int z :: st)))) : Goes p e below G (T.setTop (mkF m pc L (st))) := by
  obtain ⟨hx, -, -, hby, -⟩ := C
  obtain ⟨_, _, _, X, -⟩ := X
  subst hq hz
  exact go_st (fun t k => XS.sipush X.here hx rfl (hb hby hd)  k) r
theorem g_aconstNull (C : Cx p s m meth c Z own bytes ml rt mn) (X : St p l e R s m args below meth c n0 T h k n)  (hd : decode bytes pc = .ok (.aconst_null, 1)) (hq : pc + 1 = q)  (r : Goes p e below G (T.setTop (mkF m q L (.null :: st)))) : Goes p e below G (T.setTop (mkF m pc L (st))) := by
  obtain ⟨hx, -, -, hby, -⟩ := C
  obtain ⟨_, _, _, X, -⟩ := X
  subst hq 
  exact go_st (fun t k => XS.aconstNull X.here hx rfl (hb hby hd)  k) r
theorem g_iadd (C : Cx p s m meth c Z own bytes ml rt mn) (X : St p l e R s m args below meth c n0 T h k n) {x y z : Int32} (hd : decode bytes pc = .ok (.iadd, 1)) (hq : pc + 1 = q) (hz : x + y = z) (r : Goes p e below G (T.setTop (mkF m q L (.int z :: st)))) : Goes p e below G (T.setTop (mkF m pc L (.int y :: .int x :: st))) := by
  obtain ⟨hx, -, -, hby, -⟩ := C
  obtain ⟨_, _, _, X, -⟩ := X
  subst hq hz
  exact go_st (fun t k => XS.iadd X.here hx rfl (hb hby hd) rfl k) r
theorem g_isub (C : Cx p s m meth c Z own bytes ml rt mn) (X : St p l e R s m args below meth c n0 T h k n) {x y z : Int32} (hd : decode bytes pc = .ok (.isub, 1)) (hq : pc + 1 = q) (hz : x - y = z) (r : Goes p e below G (T.setTop (mkF m q L (.int z :: st)))) : Goes p e below G (T.setTop (mkF m pc L (.int y :: .int x :: st))) := by
  obtain ⟨hx, -, -, hby, -⟩ := C
  obtain ⟨_, _, _, X, -⟩ := X
  subst hq hz
  exact go_st (fun t k => XS.isub X.here hx rfl (hb hby hd) rfl k) r
theorem g_imul (C : Cx p s m meth c Z own bytes ml rt mn) (X : St p l e R s m args below meth c n0 T h k n) {x y z : Int32} (hd : decode bytes pc = .ok (.imul, 1)) (hq : pc + 1 = q) (hz : x * y = z) (r : Goes p e below G (T.setTop (mkF m q L (.int z :: st)))) : Goes p e below G (T.setTop (mkF m pc L (.int y :: .int x :: st))) := by
  obtain ⟨hx, -, -, hby, -⟩ := C
  obtain ⟨_, _, _, X, -⟩ := X
  subst hq hz
  exact go_st (fun t k => XS.imul X.here hx rfl (hb hby hd) rfl k) r
theorem g_iand (C : Cx p s m meth c Z own bytes ml rt mn) (X : St p l e R s m args below meth c n0 T h k n) {x y z : Int32} (hd : decode bytes pc = .ok (.iand, 1)) (hq : pc + 1 = q) (hz : x &&& y = z) (r : Goes p e below G (T.setTop (mkF m q L (.int z :: st)))) : Goes p e below G (T.setTop (mkF m pc L (.int y :: .int x :: st))) := by
  obtain ⟨hx, -, -, hby, -⟩ := C
  obtain ⟨_, _, _, X, -⟩ := X
  subst hq hz
  exact go_st (fun t k => XS.iand X.here hx rfl (hb hby hd) rfl k) r
theorem g_ior (C : Cx p s m meth c Z own bytes ml rt mn) (X : St p l e R s m args below meth c n0 T h k n) {x y z : Int32} (hd : decode bytes pc = .ok (.ior, 1)) (hq : pc + 1 = q) (hz : x ||| y = z) (r : Goes p e below G (T.setTop (mkF m q L (.int z :: st)))) : Goes p e below G (T.setTop (mkF m pc L (.int y :: .int x :: st))) := by
  obtain ⟨hx, -, -, hby, -⟩ := C
  obtain ⟨_, _, _, X, -⟩ := X
  subst hq hz
  exact go_st (fun t k => XS.ior X.here hx rfl (hb hby hd) rfl k) r
theorem g_ixor (C : Cx p s m meth c Z own bytes ml rt mn) (X : St p l e R s m args below meth c n0 T h k n) {x y z : Int32} (hd : decode bytes pc = .ok (.ixor, 1)) (hq : pc + 1 = q) (hz : x ^^^ y = z) (r : Goes p e below G (T.setTop (mkF m q L (.int z :: st)))) : Goes p e below G (T.setTop (mkF m pc L (.int y :: .int x :: st))) := by
  obtain ⟨hx, -, -, hby, -⟩ := C
  obtain ⟨_, _, _, X, -⟩ := X
  subst hq hz
  exact go_st (fun t k => XS.ixor X.here hx rfl (hb hby hd) rfl k) r
theorem g_ishl (C : Cx p s m meth c Z own bytes ml rt mn) (X : St p l e R s m args below meth c n0 T h k n) {x y z : Int32} (hd : decode bytes pc = .ok (.ishl, 1)) (hq : pc + 1 = q) (hz : x <<< (y &&& 31) = z) (r : Goes p e below G (T.setTop (mkF m q L (.int z :: st)))) : Goes p e below G (T.setTop (mkF m pc L (.int y :: .int x :: st))) := by
  obtain ⟨hx, -, -, hby, -⟩ := C
  obtain ⟨_, _, _, X, -⟩ := X
  subst hq hz
  exact go_st (fun t k => XS.ishl X.here hx rfl (hb hby hd) rfl k) r
theorem g_ishr (C : Cx p s m meth c Z own bytes ml rt mn) (X : St p l e R s m args below meth c n0 T h k n) {x y z : Int32} (hd : decode bytes pc = .ok (.ishr, 1)) (hq : pc + 1 = q) (hz : x >>> (y &&& 31) = z) (r : Goes p e below G (T.setTop (mkF m q L (.int z :: st)))) : Goes p e below G (T.setTop (mkF m pc L (.int y :: .int x :: st))) := by
  obtain ⟨hx, -, -, hby, -⟩ := C
  obtain ⟨_, _, _, X, -⟩ := X
  subst hq hz
  exact go_st (fun t k => XS.ishr X.here hx rfl (hb hby hd) rfl k) r
theorem g_iushr (C : Cx p s m meth c Z own bytes ml rt mn) (X : St p l e R s m args below meth c n0 T h k n) {x y z : Int32} (hd : decode bytes pc = .ok (.iushr, 1)) (hq : pc + 1 = q) (hz : (x.toUInt32 >>> (y &&& 31).toUInt32).toInt32 = z) (r : Goes p e below G (T.setTop (mkF m q L (.int z :: st)))) : Goes p e below G (T.setTop (mkF m pc L (.int y :: .int x :: st))) := by
  obtain ⟨hx, -, -, hby, -⟩ := C
  obtain ⟨_, _, _, X, -⟩ := X
  subst hq hz
  exact go_st (fun t k => XS.iushr X.here hx rfl (hb hby hd) rfl k) r
theorem g_idiv (C : Cx p s m meth c Z own bytes ml rt mn) (X : St p l e R s m args below meth c n0 T h k n) {x y z : Int32} (hd : decode bytes pc = .ok (.idiv, 1)) (hq : pc + 1 = q) (hy : y ≠ 0) (hz : x / y = z) (r : Goes p e below G (T.setTop (mkF m q L (.int z :: st)))) : Goes p e below G (T.setTop (mkF m pc L (.int y :: .int x :: st))) := by
  obtain ⟨hx, -, -, hby, -⟩ := C
  obtain ⟨_, _, _, X, -⟩ := X
  subst hq hz
  exact go_st (fun t k => XS.idiv X.here hx rfl (hb hby hd) rfl hy k) r
theorem g_irem (C : Cx p s m meth c Z own bytes ml rt mn) (X : St p l e R s m args below meth c n0 T h k n) {x y z : Int32} (hd : decode bytes pc = .ok (.irem, 1)) (hq : pc + 1 = q) (hy : y ≠ 0) (hz : x % y = z) (r : Goes p e below G (T.setTop (mkF m q L (.int z :: st)))) : Goes p e below G (T.setTop (mkF m pc L (.int y :: .int x :: st))) := by
  obtain ⟨hx, -, -, hby, -⟩ := C
  obtain ⟨_, _, _, X, -⟩ := X
  subst hq hz
  exact go_st (fun t k => iremM X hx rfl (hb hby hd) rfl hy k) r
theorem g_ineg (C : Cx p s m meth c Z own bytes ml rt mn) (X : St p l e R s m args below meth c n0 T h k n) {x z : Int32} (hd : decode bytes pc = .ok (.ineg, 1)) (hq : pc + 1 = q) (hz : -x = z) (r : Goes p e below G (T.setTop (mkF m q L (.int z :: st)))) : Goes p e below G (T.setTop (mkF m pc L (.int x :: st))) := by
  obtain ⟨hx, -, -, hby, -⟩ := C
  obtain ⟨_, _, _, X, -⟩ := X
  subst hq hz
  exact go_st (fun t k => XS.ineg X.here hx rfl (hb hby hd) rfl k) r
theorem g_ladd (C : Cx p s m meth c Z own bytes ml rt mn) (X : St p l e R s m args below meth c n0 T h k n) {x y z : Int64} (hd : decode bytes pc = .ok (.ladd, 1)) (hq : pc + 1 = q) (hz : x + y = z) (r : Goes p e below G (T.setTop (mkF m q L (.long z :: st)))) : Goes p e below G (T.setTop (mkF m pc L (.long y :: .long x :: st))) := by
  obtain ⟨hx, -, -, hby, -⟩ := C
  obtain ⟨_, _, _, X, -⟩ := X
  subst hq hz
  exact go_st (fun t k => XS.ladd X.here hx rfl (hb hby hd) rfl k) r
theorem g_lsub (C : Cx p s m meth c Z own bytes ml rt mn) (X : St p l e R s m args below meth c n0 T h k n) {x y z : Int64} (hd : decode bytes pc = .ok (.lsub, 1)) (hq : pc + 1 = q) (hz : x - y = z) (r : Goes p e below G (T.setTop (mkF m q L (.long z :: st)))) : Goes p e below G (T.setTop (mkF m pc L (.long y :: .long x :: st))) := by
  obtain ⟨hx, -, -, hby, -⟩ := C
  obtain ⟨_, _, _, X, -⟩ := X
  subst hq hz
  exact go_st (fun t k => XS.lsub X.here hx rfl (hb hby hd) rfl k) r
theorem g_lmul (C : Cx p s m meth c Z own bytes ml rt mn) (X : St p l e R s m args below meth c n0 T h k n) {x y z : Int64} (hd : decode bytes pc = .ok (.lmul, 1)) (hq : pc + 1 = q) (hz : x * y = z) (r : Goes p e below G (T.setTop (mkF m q L (.long z :: st)))) : Goes p e below G (T.setTop (mkF m pc L (.long y :: .long x :: st))) := by
  obtain ⟨hx, -, -, hby, -⟩ := C
  obtain ⟨_, _, _, X, -⟩ := X
  subst hq hz
  exact go_st (fun t k => XS.lmul X.here hx rfl (hb hby hd) rfl k) r
theorem g_land (C : Cx p s m meth c Z own bytes ml rt mn) (X : St p l e R s m args below meth c n0 T h k n) {x y z : Int64} (hd : decode bytes pc = .ok (.land, 1)) (hq : pc + 1 = q) (hz : x &&& y = z) (r : Goes p e below G (T.setTop (mkF m q L (.long z :: st)))) : Goes p e below G (T.setTop (mkF m pc L (.long y :: .long x :: st))) := by
  obtain ⟨hx, -, -, hby, -⟩ := C
  obtain ⟨_, _, _, X, -⟩ := X
  subst hq hz
  exact go_st (fun t k => XS.land X.here hx rfl (hb hby hd) rfl k) r
theorem g_lor (C : Cx p s m meth c Z own bytes ml rt mn) (X : St p l e R s m args below meth c n0 T h k n) {x y z : Int64} (hd : decode bytes pc = .ok (.lor, 1)) (hq : pc + 1 = q) (hz : x ||| y = z) (r : Goes p e below G (T.setTop (mkF m q L (.long z :: st)))) : Goes p e below G (T.setTop (mkF m pc L (.long y :: .long x :: st))) := by
  obtain ⟨hx, -, -, hby, -⟩ := C
  obtain ⟨_, _, _, X, -⟩ := X
  subst hq hz
  exact go_st (fun t k => XS.lor X.here hx rfl (hb hby hd) rfl k) r
theorem g_lxor (C : Cx p s m meth c Z own bytes ml rt mn) (X : St p l e R s m args below meth c n0 T h k n) {x y z : Int64} (hd : decode bytes pc = .ok (.lxor, 1)) (hq : pc + 1 = q) (hz : x ^^^ y = z) (r : Goes p e below G (T.setTop (mkF m q L (.long z :: st)))) : Goes p e below G (T.setTop (mkF m pc L (.long y :: .long x :: st))) := by
  obtain ⟨hx, -, -, hby, -⟩ := C
  obtain ⟨_, _, _, X, -⟩ := X
  subst hq hz
  exact go_st (fun t k => XS.lxor X.here hx rfl (hb hby hd) rfl k) r
theorem g_lshl (C : Cx p s m meth c Z own bytes ml rt mn) (X : St p l e R s m args below meth c n0 T h k n) {x z : Int64} {y : Int32} (hd : decode bytes pc = .ok (.lshl, 1)) (hq : pc + 1 = q) (hz : x <<< (y &&& 0x3f).toInt64 = z) (r : Goes p e below G (T.setTop (mkF m q L (.long z :: st)))) : Goes p e below G (T.setTop (mkF m pc L (.int y :: .long x :: st))) := by
  obtain ⟨hx, -, -, hby, -⟩ := C
  obtain ⟨_, _, _, X, -⟩ := X
  subst hq hz
  exact go_st (fun t k => XS.lshl X.here hx rfl (hb hby hd) rfl k) r
theorem g_lshr (C : Cx p s m meth c Z own bytes ml rt mn) (X : St p l e R s m args below meth c n0 T h k n) {x z : Int64} {y : Int32} (hd : decode bytes pc = .ok (.lshr, 1)) (hq : pc + 1 = q) (hz : x >>> (y &&& 0x3f).toInt64 = z) (r : Goes p e below G (T.setTop (mkF m q L (.long z :: st)))) : Goes p e below G (T.setTop (mkF m pc L (.int y :: .long x :: st))) := by
  obtain ⟨hx, -, -, hby, -⟩ := C
  obtain ⟨_, _, _, X, -⟩ := X
  subst hq hz
  exact go_st (fun t k => XS.lshr X.here hx rfl (hb hby hd) rfl k) r
theorem g_lushr (C : Cx p s m meth c Z own bytes ml rt mn) (X : St p l e R s m args below meth c n0 T h k n) {x z : Int64} {y : Int32} (hd : decode bytes pc = .ok (.lushr, 1)) (hq : pc + 1 = q) (hz : (x.toUInt64 >>> (y &&& 0x3f).toInt64.toUInt64).toInt64 = z) (r : Goes p e below G (T.setTop (mkF m q L (.long z :: st)))) : Goes p e below G (T.setTop (mkF m pc L (.int y :: .long x :: st))) := by
  obtain ⟨hx, -, -, hby, -⟩ := C
  obtain ⟨_, _, _, X, -⟩ := X
  subst hq hz
  exact go_st (fun t k => XS.lushr X.here hx rfl (hb hby hd) rfl k) r
theorem g_ldiv (C : Cx p s m meth c Z own bytes ml rt mn) (X : St p l e R s m args below meth c n0 T h k n) {x y z : Int64} (hd : decode bytes pc = .ok (.ldiv, 1)) (hq : pc + 1 = q) (hy : y ≠ 0) (hz : x / y = z) (r : Goes p e below G (T.setTop (mkF m q L (.long z :: st)))) : Goes p e below G (T.setTop (mkF m pc L (.long y :: .long x :: st))) := by
  obtain ⟨hx, -, -, hby, -⟩ := C
  obtain ⟨_, _, _, X, -⟩ := X
  subst hq hz
  exact go_st (fun t k => XS.ldiv X.here hx rfl (hb hby hd) rfl hy k) r
theorem g_lrem (C : Cx p s m meth c Z own bytes ml rt mn) (X : St p l e R s m args below meth c n0 T h k n) {x y z : Int64} (hd : decode bytes pc = .ok (.lrem, 1)) (hq : pc + 1 = q) (hy : y ≠ 0) (hz : x % y = z) (r : Goes p e below G (T.setTop (mkF m q L (.long z :: st)))) : Goes p e below G (T.setTop (mkF m pc L (.long y :: .long x :: st))) := by
  obtain ⟨hx, -, -, hby, -⟩ := C
  obtain ⟨_, _, _, X, -⟩ := X
  subst hq hz
  have w := lrem_mod x y
  exact go_st (fun t k => XS.lrem X.here hx rfl (hb hby hd) rfl hy (by rw [w]; exact k)) r
theorem g_lneg (C : Cx p s m meth c Z own bytes ml rt mn) (X : St p l e R s m args below meth c n0 T h k n) {x z : Int64} (hd : decode bytes pc = .ok (.lneg, 1)) (hq : pc + 1 = q) (hz : -x = z) (r : Goes p e below G (T.setTop (mkF m q L (.long z :: st)))) : Goes p e below G (T.setTop (mkF m pc L (.long x :: st))) := by
  obtain ⟨hx, -, -, hby, -⟩ := C
  obtain ⟨_, _, _, X, -⟩ := X
  subst hq hz
  exact go_st (fun t k => XS.lneg X.here hx rfl (hb hby hd) rfl k) r
theorem g_i2l (C : Cx p s m meth c Z own bytes ml rt mn) (X : St p l e R s m args below meth c n0 T h k n) {x : Int32} {z : Int64} (hd : decode bytes pc = .ok (.i2l, 1)) (hq : pc + 1 = q) (hz : x.toInt64 = z) (r : Goes p e below G (T.setTop (mkF m q L (.long z :: st)))) : Goes p e below G (T.setTop (mkF m pc L (.int x :: st))) := by
  obtain ⟨hx, -, -, hby, -⟩ := C
  obtain ⟨_, _, _, X, -⟩ := X
  subst hq hz
  exact go_st (fun t k => XS.i2l X.here hx rfl (hb hby hd) rfl k) r
theorem g_l2i (C : Cx p s m meth c Z own bytes ml rt mn) (X : St p l e R s m args below meth c n0 T h k n) {x : Int64} {z : Int32} (hd : decode bytes pc = .ok (.l2i, 1)) (hq : pc + 1 = q) (hz : x.toInt32 = z) (r : Goes p e below G (T.setTop (mkF m q L (.int z :: st)))) : Goes p e below G (T.setTop (mkF m pc L (.long x :: st))) := by
  obtain ⟨hx, -, -, hby, -⟩ := C
  obtain ⟨_, _, _, X, -⟩ := X
  subst hq hz
  exact go_st (fun t k => XS.l2i X.here hx rfl (hb hby hd) rfl k) r
theorem g_i2b (C : Cx p s m meth c Z own bytes ml rt mn) (X : St p l e R s m args below meth c n0 T h k n) {x z : Int32} (hd : decode bytes pc = .ok (.i2b, 1)) (hq : pc + 1 = q) (hz : x.toInt8.toInt32 = z) (r : Goes p e below G (T.setTop (mkF m q L (.int z :: st)))) : Goes p e below G (T.setTop (mkF m pc L (.int x :: st))) := by
  obtain ⟨hx, -, -, hby, -⟩ := C
  obtain ⟨_, _, _, X, -⟩ := X
  subst hq hz
  exact go_st (fun t k => XS.i2b X.here hx rfl (hb hby hd) rfl k) r
theorem g_i2s (C : Cx p s m meth c Z own bytes ml rt mn) (X : St p l e R s m args below meth c n0 T h k n) {x z : Int32} (hd : decode bytes pc = .ok (.i2s, 1)) (hq : pc + 1 = q) (hz : x.toInt16.toInt32 = z) (r : Goes p e below G (T.setTop (mkF m q L (.int z :: st)))) : Goes p e below G (T.setTop (mkF m pc L (.int x :: st))) := by
  obtain ⟨hx, -, -, hby, -⟩ := C
  obtain ⟨_, _, _, X, -⟩ := X
  subst hq hz
  exact go_st (fun t k => XS.i2s X.here hx rfl (hb hby hd) rfl k) r
theorem g_i2c (C : Cx p s m meth c Z own bytes ml rt mn) (X : St p l e R s m args below meth c n0 T h k n) {x z : Int32} (hd : decode bytes pc = .ok (.i2c, 1)) (hq : pc + 1 = q) (hz : x.toUInt32.toUInt16.toUInt32.toInt32 = z) (r : Goes p e below G (T.setTop (mkF m q L (.int z :: st)))) : Goes p e below G (T.setTop (mkF m pc L (.int x :: st))) := by
  obtain ⟨hx, -, -, hby, -⟩ := C
  obtain ⟨_, _, _, X, -⟩ := X
  subst hq hz
  exact go_st (fun t k => XS.i2c X.here hx rfl (hb hby hd) rfl k) r
theorem g_lconst (C : Cx p s m meth c Z own bytes ml rt mn) (X : St p l e R s m args below meth c n0 T h k n) {i : Fin 2} {z : Int64} (hd : decode bytes pc = .ok (.lconst i, 1)) (hq : pc + 1 = q) (hz : (i.val.toInt64) = z) (r : Goes p e below G (T.setTop (mkF m q L (.long z :: st)))) : Goes p e below G (T.setTop (mkF m pc L (st))) := by
  obtain ⟨hx, -, -, hby, -⟩ := C
  obtain ⟨_, _, _, X, -⟩ := X
  subst hq hz
  exact go_st (fun t k => XS.lconst X.here hx rfl (hb hby hd) k) r
theorem own_lcW (x y : Int64) : (if x > y then (1 : Int32) else if x = y then 0 else -1) = lcmpW x y := rfl
theorem g_lcmp (C : Cx p s m meth c Z own bytes ml rt mn) (X : St p l e R s m args below meth c n0 T h k n) {x y : Int64} {z : Int32} (hd : decode bytes pc = .ok (.lcmp, 1)) (hq : pc + 1 = q) (hz : lcmpW x y = z) (r : Goes p e below G (T.setTop (mkF m q L (.int z :: st)))) : Goes p e below G (T.setTop (mkF m pc L (.long y :: .long x :: st))) := by
  obtain ⟨hx, -, -, hby, -⟩ := C
  obtain ⟨_, _, _, X, -⟩ := X
  subst hq hz
  exact go_st (fun t k => XS.lcmp X.here hx rfl (hb hby hd) rfl k) r
theorem g_dup (C : Cx p s m meth c Z own bytes ml rt mn) (X : St p l e R s m args below meth c n0 T h k n) {x : Value} (hd : decode bytes pc = .ok (.dup, 1)) (hq : pc + 1 = q) (hc : x.category = 1) (r : Goes p e below G (T.setTop (mkF m q L (x :: x :: st)))) : Goes p e below G (T.setTop (mkF m pc L (x :: st))) := by
  obtain ⟨hx, -, -, hby, -⟩ := C
  obtain ⟨_, _, _, X, -⟩ := X
  subst hq 
  exact go_st (fun t k => XS.dup X.here hx rfl (hb hby hd) rfl hc k) r
theorem g_pop (C : Cx p s m meth c Z own bytes ml rt mn) (X : St p l e R s m args below meth c n0 T h k n) {x : Value} (hd : decode bytes pc = .ok (.pop, 1)) (hq : pc + 1 = q) (hc : x.category = 1) (r : Goes p e below G (T.setTop (mkF m q L (st)))) : Goes p e below G (T.setTop (mkF m pc L (x :: st))) := by
  obtain ⟨hx, -, -, hby, -⟩ := C
  obtain ⟨_, _, _, X, -⟩ := X
  subst hq 
  exact go_st (fun t k => XS.pop X.here hx rfl (hb hby hd) rfl hc k) r
theorem g_dupX1 (C : Cx p s m meth c Z own bytes ml rt mn) (X : St p l e R s m args below meth c n0 T h k n) {x y : Value} (hd : decode bytes pc = .ok (.dup_x1, 1)) (hq : pc + 1 = q) (hc : x.category = 1) (hc' : y.category = 1) (r : Goes p e below G (T.setTop (mkF m q L (x :: y :: x :: st)))) : Goes p e below G (T.setTop (mkF m pc L (x :: y :: st))) := by
  obtain ⟨hx, -, -, hby, -⟩ := C
  obtain ⟨_, _, _, X, -⟩ := X
  subst hq 
  exact go_st (fun t k => XS.dupX1 X.here hx rfl (hb hby hd) rfl hc hc' k) r
theorem g_dup2 (C : Cx p s m meth c Z own bytes ml rt mn) (X : St p l e R s m args below meth c n0 T h k n) {x y : Value} (hd : decode bytes pc = .ok (.dup2, 1)) (hq : pc + 1 = q) (hc : x.category = 1) (hc' : y.category = 1) (r : Goes p e below G (T.setTop (mkF m q L (x :: y :: x :: y :: st)))) : Goes p e below G (T.setTop (mkF m pc L (x :: y :: st))) := by
  obtain ⟨hx, -, -, hby, -⟩ := C
  obtain ⟨_, _, _, X, -⟩ := X
  subst hq 
  exact go_st (fun t k => Jvm.Free.XT.dup2 X.here hx rfl (hb hby hd) rfl hc hc' k) r
theorem g_istoreN (C : Cx p s m meth c Z own bytes ml rt mn) (X : St p l e R s m args below meth c n0 T h k n) {j : Fin 4} {x : Int32} {L' : Array Slot} (hd : decode bytes pc = .ok (.istore_n j, 1)) (hq : pc + 1 = q) (hl : storeLocals L j.val (.int x) = some L') (r : Goes p e below G (T.setTop (mkF m q L' (st)))) : Goes p e below G (T.setTop (mkF m pc L (.int x :: st))) := by
  obtain ⟨hx, -, -, hby, -⟩ := C
  obtain ⟨_, _, _, X, -⟩ := X
  subst hq 
  exact go_st (fun t k => XS.istoreN X.here hx rfl (hb hby hd) rfl hl k) r
theorem g_istore (C : Cx p s m meth c Z own bytes ml rt mn) (X : St p l e R s m args below meth c n0 T h k n) {j : Nat} {x : Int32} {L' : Array Slot} (hd : decode bytes pc = .ok (.istore j, 2)) (hq : pc + 2 = q) (hl : storeLocals L j (.int x) = some L') (r : Goes p e below G (T.setTop (mkF m q L' (st)))) : Goes p e below G (T.setTop (mkF m pc L (.int x :: st))) := by
  obtain ⟨hx, -, -, hby, -⟩ := C
  obtain ⟨_, _, _, X, -⟩ := X
  subst hq 
  exact go_st (fun t k => XS.istore X.here hx rfl (hb hby hd) rfl hl k) r
theorem g_lstoreN (C : Cx p s m meth c Z own bytes ml rt mn) (X : St p l e R s m args below meth c n0 T h k n) {j : Fin 4} {x : Int64} {L' : Array Slot} (hd : decode bytes pc = .ok (.lstore_n j, 1)) (hq : pc + 1 = q) (hl : storeLocals L j.val (.long x) = some L') (r : Goes p e below G (T.setTop (mkF m q L' (st)))) : Goes p e below G (T.setTop (mkF m pc L (.long x :: st))) := by
  obtain ⟨hx, -, -, hby, -⟩ := C
  obtain ⟨_, _, _, X, -⟩ := X
  subst hq 
  exact go_st (fun t k => XS.lstoreN X.here hx rfl (hb hby hd) rfl hl k) r
theorem g_lstore (C : Cx p s m meth c Z own bytes ml rt mn) (X : St p l e R s m args below meth c n0 T h k n) {j : Nat} {x : Int64} {L' : Array Slot} (hd : decode bytes pc = .ok (.lstore j, 2)) (hq : pc + 2 = q) (hl : storeLocals L j (.long x) = some L') (r : Goes p e below G (T.setTop (mkF m q L' (st)))) : Goes p e below G (T.setTop (mkF m pc L (.long x :: st))) := by
  obtain ⟨hx, -, -, hby, -⟩ := C
  obtain ⟨_, _, _, X, -⟩ := X
  subst hq 
  exact go_st (fun t k => XS.lstore X.here hx rfl (hb hby hd) rfl hl k) r
theorem g_astoreN (C : Cx p s m meth c Z own bytes ml rt mn) (X : St p l e R s m args below meth c n0 T h k n) {j : Fin 4} {x : Value} {L' : Array Slot} (hd : decode bytes pc = .ok (.astore_n j, 1)) (hq : pc + 1 = q) (hv : x.isRef = true) (hl : storeLocals L j.val x = some L') (r : Goes p e below G (T.setTop (mkF m q L' (st)))) : Goes p e below G (T.setTop (mkF m pc L (x :: st))) := by
  obtain ⟨hx, -, -, hby, -⟩ := C
  obtain ⟨_, _, _, X, -⟩ := X
  subst hq 
  exact go_st (fun t k => XS.astoreN X.here hx rfl (hb hby hd) rfl hv hl k) r
theorem g_astore (C : Cx p s m meth c Z own bytes ml rt mn) (X : St p l e R s m args below meth c n0 T h k n) {j : Nat} {x : Value} {L' : Array Slot} (hd : decode bytes pc = .ok (.astore j, 2)) (hq : pc + 2 = q) (hv : x.isRef = true) (hl : storeLocals L j x = some L') (r : Goes p e below G (T.setTop (mkF m q L' (st)))) : Goes p e below G (T.setTop (mkF m pc L (x :: st))) := by
  obtain ⟨hx, -, -, hby, -⟩ := C
  obtain ⟨_, _, _, X, -⟩ := X
  subst hq 
  exact go_st (fun t k => XS.astore X.here hx rfl (hb hby hd) rfl hv hl k) r
theorem g_iinc (C : Cx p s m meth c Z own bytes ml rt mn) (X : St p l e R s m args below meth c n0 T h k n) {j : Nat} {i : Int} {x z : Int32} {L' : Array Slot} (hd : decode bytes pc = .ok (.iinc j i, 3)) (hq : pc + 3 = q) (hl : L[j]? = some (.val (.int x))) (hz : x + Int32.ofInt i = z) (hl' : storeLocals L j (.int z) = some L') (r : Goes p e below G (T.setTop (mkF m q L' (st)))) : Goes p e below G (T.setTop (mkF m pc L (st))) := by
  obtain ⟨hx, -, -, hby, -⟩ := C
  obtain ⟨_, _, _, X, -⟩ := X
  subst hq hz
  exact go_st (fun t k => XS.iinc X.here hx rfl (hb hby hd) hl hl' k) r
theorem g_goto (C : Cx p s m meth c Z own bytes ml rt mn) (X : St p l e R s m args below meth c n0 T h k n)  {o : Int} (hd : decode bytes pc = .ok (.goto o, 3)) (ho : 0 ≤ (pc : Int) + o) (hq : ((pc : Int) + o).toNat = q)  (r : Goes p e below G (T.setTop (mkF m q L st))) : Goes p e below G (T.setTop (mkF m pc L (st))) := by
  obtain ⟨hx, -, -, hby, -⟩ := C
  obtain ⟨_, _, _, X, -⟩ := X
  exact go_st (fun t k => XS.goto X.here hx rfl rfl (hb hby hd) ho hq k) r
theorem g_ifY (C : Cx p s m meth c Z own bytes ml rt mn) (X : St p l e R s m args below meth c n0 T h k n) {cd : ClassFile.Cond} {x : Int32} {o : Int} (hd : decode bytes pc = .ok (.ifCond cd o, 3)) (ho : 0 ≤ (pc : Int) + o) (hq : ((pc : Int) + o).toNat = q) (hc : if_icmp.holds cd x 0 = true) (r : Goes p e below G (T.setTop (mkF m q L st))) : Goes p e below G (T.setTop (mkF m pc L (.int x :: st))) := by
  obtain ⟨hx, -, -, hby, -⟩ := C
  obtain ⟨_, _, _, X, -⟩ := X
  exact go_st (fun t k => XS.ifYes X.here hx rfl rfl (hb hby hd) rfl ((if0 _ _).trans hc) ho hq k) r
theorem g_ifN (C : Cx p s m meth c Z own bytes ml rt mn) (X : St p l e R s m args below meth c n0 T h k n) {cd : ClassFile.Cond} {x : Int32} {o : Int} (hd : decode bytes pc = .ok (.ifCond cd o, 3)) (hq : pc + 3 = q) (hc : if_icmp.holds cd x 0 = false) (r : Goes p e below G (T.setTop (mkF m q L st))) : Goes p e below G (T.setTop (mkF m pc L (.int x :: st))) := by
  obtain ⟨hx, -, -, hby, -⟩ := C
  obtain ⟨_, _, _, X, -⟩ := X
  subst hq
  exact go_st (fun t k => XS.ifNo X.here hx rfl (hb hby hd) rfl ((if0 _ _).trans hc) k) r
theorem g_icY (C : Cx p s m meth c Z own bytes ml rt mn) (X : St p l e R s m args below meth c n0 T h k n) {cd : ClassFile.Cond} {x y : Int32} {o : Int} (hd : decode bytes pc = .ok (.if_icmp cd o, 3)) (ho : 0 ≤ (pc : Int) + o) (hq : ((pc : Int) + o).toNat = q) (hc : if_icmp.holds cd x y = true) (r : Goes p e below G (T.setTop (mkF m q L st))) : Goes p e below G (T.setTop (mkF m pc L (.int y :: .int x :: st))) := by
  obtain ⟨hx, -, -, hby, -⟩ := C
  obtain ⟨_, _, _, X, -⟩ := X
  exact go_st (fun t k => XS.icmpYes X.here hx rfl rfl (hb hby hd) rfl hc ho hq k) r
theorem g_icN (C : Cx p s m meth c Z own bytes ml rt mn) (X : St p l e R s m args below meth c n0 T h k n) {cd : ClassFile.Cond} {x y : Int32} {o : Int} (hd : decode bytes pc = .ok (.if_icmp cd o, 3)) (hq : pc + 3 = q) (hc : if_icmp.holds cd x y = false) (r : Goes p e below G (T.setTop (mkF m q L st))) : Goes p e below G (T.setTop (mkF m pc L (.int y :: .int x :: st))) := by
  obtain ⟨hx, -, -, hby, -⟩ := C
  obtain ⟨_, _, _, X, -⟩ := X
  subst hq
  exact go_st (fun t k => XS.icmpNo X.here hx rfl (hb hby hd) rfl hc k) r
theorem g_nulY (C : Cx p s m meth c Z own bytes ml rt mn) (X : St p l e R s m args below meth c n0 T h k n)  {o : Int} (hd : decode bytes pc = .ok (.ifnull o, 3)) (ho : 0 ≤ (pc : Int) + o) (hq : ((pc : Int) + o).toNat = q)  (r : Goes p e below G (T.setTop (mkF m q L st))) : Goes p e below G (T.setTop (mkF m pc L (.null :: st))) := by
  obtain ⟨hx, -, -, hby, -⟩ := C
  obtain ⟨_, _, _, X, -⟩ := X
  exact go_st (fun t k => XS.ifnullYes X.here hx rfl rfl (hb hby hd) rfl ho hq k) r
theorem g_nulN (C : Cx p s m meth c Z own bytes ml rt mn) (X : St p l e R s m args below meth c n0 T h k n) {b : Addr} {o : Int} (hd : decode bytes pc = .ok (.ifnull o, 3)) (hq : pc + 3 = q)  (r : Goes p e below G (T.setTop (mkF m q L st))) : Goes p e below G (T.setTop (mkF m pc L (.ref b :: st))) := by
  obtain ⟨hx, -, -, hby, -⟩ := C
  obtain ⟨_, _, _, X, -⟩ := X
  subst hq
  exact go_st (fun t k => XS.ifnullNo X.here hx rfl (hb hby hd) rfl k) r
theorem g_nonY (C : Cx p s m meth c Z own bytes ml rt mn) (X : St p l e R s m args below meth c n0 T h k n) {b : Addr} {o : Int} (hd : decode bytes pc = .ok (.ifnonnull o, 3)) (ho : 0 ≤ (pc : Int) + o) (hq : ((pc : Int) + o).toNat = q)  (r : Goes p e below G (T.setTop (mkF m q L st))) : Goes p e below G (T.setTop (mkF m pc L (.ref b :: st))) := by
  obtain ⟨hx, -, -, hby, -⟩ := C
  obtain ⟨_, _, _, X, -⟩ := X
  exact go_st (fun t k => XS.ifnonnullYes X.here hx rfl rfl (hb hby hd) rfl ho hq k) r
theorem g_nonN (C : Cx p s m meth c Z own bytes ml rt mn) (X : St p l e R s m args below meth c n0 T h k n)  {o : Int} (hd : decode bytes pc = .ok (.ifnonnull o, 3)) (hq : pc + 3 = q)  (r : Goes p e below G (T.setTop (mkF m q L st))) : Goes p e below G (T.setTop (mkF m pc L (.null :: st))) := by
  obtain ⟨hx, -, -, hby, -⟩ := C
  obtain ⟨_, _, _, X, -⟩ := X
  subst hq
  exact go_st (fun t k => XS.ifnonnullNo X.here hx rfl (hb hby hd) rfl k) r
theorem g_boolF (C : Cx p s m meth c Z own bytes ml rt mn) (X : St p l e R s m args below meth c n0 T h k n) {cd : ClassFile.Cond} {x : Int32} (hd : decode bytes pc = .ok (.ifCond cd 7, 3)) (hd1 : decode bytes (pc + 3) = .ok (.iconst 1, 1)) (hd2 : decode bytes (pc + 4) = .ok (.goto 4, 3)) (hd3 : decode bytes (pc + 7) = .ok (.iconst 0, 1)) (hq : pc + 8 = q) (r : ∀ b : Int32, (if_icmp.holds cd x 0 = true → b = 0) → (if_icmp.holds cd x 0 = false → b = 1) → Goes p e below G (T.setTop (mkF m q L (.int b :: st)))) : Goes p e below G (T.setTop (mkF m pc L (.int x :: st))) := by
  subst hq
  cases hc : if_icmp.holds cd x 0
  · refine g_ifN C X hd (q := pc + 3) rfl hc ?_
    refine g_iconst C X hd1 (q := pc + 4) rfl (z := 1) rfl ?_
    refine g_goto C X hd2 (by omega) (q := pc + 8) (by omega) ?_
    exact r 1 (fun z => by rw [hc] at z; cases z) (fun _ => rfl)
  · refine g_ifY C X hd (by omega) (q := pc + 7) (by omega) hc ?_
    refine g_iconst C X hd3 (q := pc + 8) rfl (z := 0) rfl ?_
    exact r 0 (fun _ => rfl) (fun z => by rw [hc] at z; cases z)
theorem g_selF (C : Cx p s m meth c Z own bytes ml rt mn) (X : St p l e R s m args below meth c n0 T h k n) {cd : ClassFile.Cond} {x v1 v2 : Int32} {j1 j2 : Fin 4} (hd : decode bytes pc = .ok (.ifCond cd 7, 3)) (hd1 : decode bytes (pc + 3) = .ok (.iload_n j1, 1)) (hd2 : decode bytes (pc + 4) = .ok (.goto 4, 3)) (hd3 : decode bytes (pc + 7) = .ok (.iload_n j2, 1)) (hq : pc + 8 = q) (l1 : L[j1.val]? = some (.val (.int v1))) (l2 : L[j2.val]? = some (.val (.int v2))) (r : ∀ b : Int32, (if_icmp.holds cd x 0 = true → b = v2) → (if_icmp.holds cd x 0 = false → b = v1) → Goes p e below G (T.setTop (mkF m q L (.int b :: st)))) : Goes p e below G (T.setTop (mkF m pc L (.int x :: st))) := by
  subst hq
  cases hc : if_icmp.holds cd x 0
  · refine g_ifN C X hd (q := pc + 3) rfl hc ?_
    refine g_iloadN C X hd1 (q := pc + 4) rfl l1 ?_
    refine g_goto C X hd2 (by omega) (q := pc + 8) (by omega) ?_
    exact r v1 (fun z => by rw [hc] at z; cases z) (fun _ => rfl)
  · refine g_ifY C X hd (by omega) (q := pc + 7) (by omega) hc ?_
    refine g_iloadN C X hd3 (q := pc + 8) rfl l2 ?_
    exact r v2 (fun _ => rfl) (fun z => by rw [hc] at z; cases z)
theorem g_boolC (C : Cx p s m meth c Z own bytes ml rt mn) (X : St p l e R s m args below meth c n0 T h k n) {cd : ClassFile.Cond} {x y : Int32} (hd : decode bytes pc = .ok (.if_icmp cd 7, 3)) (hd1 : decode bytes (pc + 3) = .ok (.iconst 1, 1)) (hd2 : decode bytes (pc + 4) = .ok (.goto 4, 3)) (hd3 : decode bytes (pc + 7) = .ok (.iconst 0, 1)) (hq : pc + 8 = q) (r : ∀ b : Int32, (if_icmp.holds cd x y = true → b = 0) → (if_icmp.holds cd x y = false → b = 1) → Goes p e below G (T.setTop (mkF m q L (.int b :: st)))) : Goes p e below G (T.setTop (mkF m pc L (.int y :: .int x :: st))) := by
  subst hq
  cases hc : if_icmp.holds cd x y
  · refine g_icN C X hd (q := pc + 3) rfl hc ?_
    refine g_iconst C X hd1 (q := pc + 4) rfl (z := 1) rfl ?_
    refine g_goto C X hd2 (by omega) (q := pc + 8) (by omega) ?_
    exact r 1 (fun z => by rw [hc] at z; cases z) (fun _ => rfl)
  · refine g_icY C X hd (by omega) (q := pc + 7) (by omega) hc ?_
    refine g_iconst C X hd3 (q := pc + 8) rfl (z := 0) rfl ?_
    exact r 0 (fun _ => rfl) (fun z => by rw [hc] at z; cases z)
theorem g_acmp (C : Cx p s m meth c Z own bytes ml rt mn) (X : St p l e R s m args below meth c n0 T h k n) {cd : ACond} {x y : Value} {o : Int} {same : Bool} (hd : decode bytes pc = .ok (.if_acmp cd o, 3)) (h1 : x.isRef = true) (h2 : y.isRef = true) (hs : decide (x = y) = same) (ho : 0 ≤ (pc : Int) + o) (hq : q = if acV cd same = true then ((pc : Int) + o).toNat else pc + 3) (r : Goes p e below G (T.setTop (mkF m q L st))) : Goes p e below G (T.setTop (mkF m pc L (y :: x :: st))) := by
  obtain ⟨hx, -, -, hby, -⟩ := C
  obtain ⟨_, _, _, X, -⟩ := X
  exact go_st (fun t k => Jvm.RoadKit.acmp (g := mkF m pc L (y :: x :: st)) X hx rfl h1 h2 rfl (hb hby hd) rfl hs ho hq k) r
theorem g_lsw (C : Cx p s m meth c Z own bytes ml rt mn) (X : St p l e R s m args below meth c n0 T h k n) {d o : Int} {ps : Array (Int × Int)} {i : Int32} {len : Nat} (hd : decode bytes pc = .ok (.lookupswitch d ps, len)) (hinc : (ps.toList.zip (ps.toList.drop 1)).all (fun (a, next) => a.1 < next.1) = true) (hoff : lookupswitch.offset ps.toList d i.toInt = o) (ho : 0 ≤ (pc : Int) + o) (hq : ((pc : Int) + o).toNat = q) (r : Goes p e below G (T.setTop (mkF m q L st))) : Goes p e below G (T.setTop (mkF m pc L (.int i :: st))) := by
  obtain ⟨hx, -, -, hby, -⟩ := C
  obtain ⟨_, _, _, X, -⟩ := X
  subst hq
  refine go_st (fun t k => ?_) r
  have hd' := hb hby hd
  show Steps p.tables e below (T.setTop { method := m, pc := pc, locals := L, stack := .int i :: st, locked := none }) _
  jvm_step X.here [X.here.top, hx, hd', lookupswitch.wp_chain, hoff, ho]
  refine ⟨?_, k⟩
  intro a b a1 b1 hm
  simpa using List.all_eq_true.mp hinc ((a, b), a1, b1) (by simpa using hm)
theorem g_tswI (C : Cx p s m meth c Z own bytes ml rt mn) (X : St p l e R s m args below meth c n0 T h k n) {d lo hi o : Int} {offs : Array Int} {i : Int32} {len : Nat} (hd : decode bytes pc = .ok (.tableswitch d lo hi offs, len)) (hin : ¬ (i.toInt < lo ∨ i.toInt > hi)) (hoff : offs[(i.toInt - lo).toNat]? = some o) (ho : 0 ≤ (pc : Int) + o) (hq : ((pc : Int) + o).toNat = q) (r : Goes p e below G (T.setTop (mkF m q L st))) : Goes p e below G (T.setTop (mkF m pc L (.int i :: st))) := by
  obtain ⟨hx, -, -, hby, -⟩ := C
  obtain ⟨_, _, _, X, -⟩ := X
  exact go_st (fun t k => XS.tswIn X.here hx rfl rfl (hb hby hd) rfl hin hoff ho hq k) r
theorem g_tswO (C : Cx p s m meth c Z own bytes ml rt mn) (X : St p l e R s m args below meth c n0 T h k n) {d lo hi : Int} {offs : Array Int} {i : Int32} {len : Nat} (hd : decode bytes pc = .ok (.tableswitch d lo hi offs, len)) (hin : i.toInt < lo ∨ i.toInt > hi) (ho : 0 ≤ (pc : Int) + d) (hq : ((pc : Int) + d).toNat = q) (r : Goes p e below G (T.setTop (mkF m q L st))) : Goes p e below G (T.setTop (mkF m pc L (.int i :: st))) := by
  obtain ⟨hx, -, -, hby, -⟩ := C
  obtain ⟨_, _, _, X, -⟩ := X
  exact go_st (fun t k => XS.tswOut X.here hx rfl rfl (hb hby hd) rfl hin ho hq k) r
theorem g_ldcI (C : Cx p s m meth c Z own bytes ml rt mn) (X : St p l e R s m args below meth c n0 T h k n) {i : Nat} {v : Int32} (w : (Cond.constant own i v).before a0 Z = true) (hd : decode bytes pc = .ok (.ldc i, 2)) (hq : pc + 2 = q) (r : Goes p e below G (T.setTop (mkF m q L (.int v :: st)))) : Goes p e below G (T.setTop (mkF m pc L st)) := by
  obtain ⟨hx, hZ, hown, hby, -⟩ := C
  obtain ⟨_, _, _, X, -⟩ := X
  subst hq
  exact go_st (fun t k => X.ldcInt hx hown (mvT hZ w) (g := mkF m pc L st) rfl (hb hby hd) t k) r
theorem g_ldcJ (C : Cx p s m meth c Z own bytes ml rt mn) (X : St p l e R s m args below meth c n0 T h k n) {i : Nat} {v : Int64} (w : (Cond.constantLong own i v).before a0 Z = true) (hd : decode bytes pc = .ok (.ldc2_w i, 3)) (hq : pc + 3 = q) (r : Goes p e below G (T.setTop (mkF m q L (.long v :: st)))) : Goes p e below G (T.setTop (mkF m pc L st)) := by
  obtain ⟨hx, hZ, hown, hby, -⟩ := C
  obtain ⟨_, _, _, X, -⟩ := X
  subst hq
  exact go_st (fun t k => X.ldc2Long hx hown (mvT hZ w) (g := mkF m pc L st) rfl (hb hby hd) t k) r
theorem own_end (C : Cx p s m meth c Z own bytes ml rt mn) (X : St p l e R s m args below meth c n0 T h k n) {Q : Option Value → Heap → Prop} {K N : Nat} {S : State} {v : Option Value} (hv : rt = none → v = none) (hk : k ≤ K) (hn : n ≤ N) (hQ : Q v h)
    (f : ∀ locs cells slots fs, Stand p l e R s m args below meth c T locs cells slots → (∀ (f : JFrame) (acts : List Action), f.method = m → f.locked = none → f.entered = [] → (doReturn e (T.setTop f) acts v).1 = T.setFrames fs) → Steps p.tables e below S (T.setFrames fs)) : Goes p e below (FinN Q s n0 K N) S := by
  obtain ⟨hx, -, -, hby, -, hret, hlk, -⟩ := C
  obtain ⟨locs, cells, slots, X, hF, rfl, h1, h2⟩ := X
  obtain ⟨fs, hr, hrun, hended, hW, hsame⟩ := X.leave (v := v) (fun h => hv (hret.symm.trans h)) hlk
  exact ⟨_, _, f _ _ _ fs X hr, hrun, hended, _, _, rfl, ⟨hF, hQ⟩, ⟨_, rfl⟩, hW, hsame.mono (Nat.le_trans h1 hk) (Nat.le_trans h2 hn)⟩
theorem g_retI (C : Cx p s m meth c Z own bytes ml (some .int) mn) (X : St p l e R s m args below meth c n0 T h k n) {Q : Option Value → Heap → Prop} {K N : Nat} {z : Int32} (hd : decode bytes pc = .ok (.ireturn, 1)) (hk : k ≤ K) (hn : n ≤ N) (hQ : Q (some (.int z)) h) : Goes p e below (FinN Q s n0 K N) (T.setTop (mkF m pc L (.int z :: st))) := by
  refine own_end C X (by simp) hk hn hQ fun locs cells slots fs X hr => ?_
  obtain ⟨hx, -, -, hby, -, hret, hlk, -⟩ := C
  exact retOut X hx hret rfl (Or.inl ⟨rfl, Or.inl rfl, _, rfl⟩) (hb hby hd) hr
theorem g_retN {t : FieldType} (C : Cx p s m meth c Z own bytes ml (some t) mn) (X : St p l e R s m args below meth c n0 T h k n) {Q : Option Value → Heap → Prop} {K N : Nat} {z z' : Int32} (ht : t = .boolean ∨ t = .byte ∨ t = .char ∨ t = .short) (hz : nar t z = z') (hd : decode bytes pc = .ok (.ireturn, 1)) (hk : k ≤ K) (hn : n ≤ N) (hQ : Q (some (.int z')) h) : Goes p e below (FinN Q s n0 K N) (T.setTop (mkF m pc L (.int z :: st))) := by
  subst hz
  refine own_end C X (by simp) hk hn hQ fun locs cells slots fs X hr => ?_
  obtain ⟨hx, -, -, hby, -, hret, hlk, -⟩ := C
  exact retN X hx hret ht (hb hby hd) hr
theorem g_retA {t : FieldType} (C : Cx p s m meth c Z own bytes ml (some t) mn) (X : St p l e R s m args below meth c n0 T h k n) {Q : Option Value → Heap → Prop} {K N : Nat} {v : Value} (ht : t.isReference = true) (hv : v.isRef = true) (hd : decode bytes pc = .ok (.areturn, 1)) (hk : k ≤ K) (hn : n ≤ N) (hQ : Q (some v) h) : Goes p e below (FinN Q s n0 K N) (T.setTop (mkF m pc L (v :: st))) := by
  refine own_end C X (by simp) hk hn hQ fun locs cells slots fs X hr => ?_
  obtain ⟨hx, -, -, hby, -, hret, hlk, -⟩ := C
  have hn' : narrow t v = v := by rcases ref_cases hv with rfl | ⟨b, rfl⟩ <;> cases t <;> first | rfl | (cases ht)
  exact retOut X hx hret hn' (Or.inr (Or.inr (Or.inr (Or.inr ⟨rfl, ht, hv⟩)))) (hb hby hd) hr
theorem g_retJ (C : Cx p s m meth c Z own bytes ml (some .long) mn) (X : St p l e R s m args below meth c n0 T h k n) {Q : Option Value → Heap → Prop} {K N : Nat} {z : Int64} (hd : decode bytes pc = .ok (.lreturn, 1)) (hk : k ≤ K) (hn : n ≤ N) (hQ : Q (some (.long z)) h) : Goes p e below (FinN Q s n0 K N) (T.setTop (mkF m pc L (.long z :: st))) := by
  refine own_end C X (by simp) hk hn hQ fun locs cells slots fs X hr => ?_
  obtain ⟨hx, -, -, hby, -, hret, hlk, -⟩ := C
  exact retOut X hx hret rfl (Or.inr (Or.inl ⟨rfl, rfl, _, rfl⟩)) (hb hby hd) hr
theorem g_retV (C : Cx p s m meth c Z own bytes ml none mn) (X : St p l e R s m args below meth c n0 T h k n) {Q : Option Value → Heap → Prop} {K N : Nat} (hd : decode bytes pc = .ok (.return_, 1)) (hk : k ≤ K) (hn : n ≤ N) (hQ : Q none h) : Goes p e below (FinN Q s n0 K N) (T.setTop (mkF m pc L [])) := by
  refine own_end C X (fun _ => rfl) hk hn hQ fun locs cells slots fs X hr => ?_
  obtain ⟨hx, -, -, hby, -, hret, hlk, -⟩ := C
  exact X.returnOut hx hret (hb hby hd) hr
theorem g_dloadN (C : Cx p s m meth c Z own bytes ml rt mn) (X : St p l e R s m args below meth c n0 T h k n) {j : Fin 4} {v : UInt64} (hd : decode bytes pc = .ok (.dload_n j, 1)) (hq : pc + 1 = q) (hl : L[j.val]? = some (.val (.double v))) (r : Goes p e below G (T.setTop (mkF m q L (.double v :: st)))) : Goes p e below G (T.setTop (mkF m pc L (st))) := by
  obtain ⟨hx, -, -, hby, -⟩ := C
  obtain ⟨_, _, _, X, -⟩ := X
  subst hq 
  exact go_st (fun t k => XS.dloadN X.here hx rfl (hb hby hd) hl k) r
theorem g_dload (C : Cx p s m meth c Z own bytes ml rt mn) (X : St p l e R s m args below meth c n0 T h k n) {j : Nat} {v : UInt64} (hd : decode bytes pc = .ok (.dload j, 2)) (hq : pc + 2 = q) (hl : L[j]? = some (.val (.double v))) (r : Goes p e below G (T.setTop (mkF m q L (.double v :: st)))) : Goes p e below G (T.setTop (mkF m pc L (st))) := by
  obtain ⟨hx, -, -, hby, -⟩ := C
  obtain ⟨_, _, _, X, -⟩ := X
  subst hq 
  exact go_st (fun t k => XS.dload X.here hx rfl (hb hby hd) hl k) r
theorem g_dstoreN (C : Cx p s m meth c Z own bytes ml rt mn) (X : St p l e R s m args below meth c n0 T h k n) {j : Fin 4} {x : UInt64} {L' : Array Slot} (hd : decode bytes pc = .ok (.dstore_n j, 1)) (hq : pc + 1 = q) (hl : storeLocals L j.val (.double x) = some L') (r : Goes p e below G (T.setTop (mkF m q L' (st)))) : Goes p e below G (T.setTop (mkF m pc L (.double x :: st))) := by
  obtain ⟨hx, -, -, hby, -⟩ := C
  obtain ⟨_, _, _, X, -⟩ := X
  subst hq 
  exact go_st (fun t k => XS.dstoreN X.here hx rfl (hb hby hd) rfl hl k) r
theorem g_dstore (C : Cx p s m meth c Z own bytes ml rt mn) (X : St p l e R s m args below meth c n0 T h k n) {j : Nat} {x : UInt64} {L' : Array Slot} (hd : decode bytes pc = .ok (.dstore j, 2)) (hq : pc + 2 = q) (hl : storeLocals L j (.double x) = some L') (r : Goes p e below G (T.setTop (mkF m q L' (st)))) : Goes p e below G (T.setTop (mkF m pc L (.double x :: st))) := by
  obtain ⟨hx, -, -, hby, -⟩ := C
  obtain ⟨_, _, _, X, -⟩ := X
  subst hq 
  exact go_st (fun t k => XS.dstore X.here hx rfl (hb hby hd) rfl hl k) r
theorem g_i2d (C : Cx p s m meth c Z own bytes ml rt mn) (X : St p l e R s m args below meth c n0 T h k n) {x : Int32} {z : UInt64} (hd : decode bytes pc = .ok (.i2d, 1)) (hq : pc + 1 = q) (hz : FP.i2d x = z) (r : Goes p e below G (T.setTop (mkF m q L (.double z :: st)))) : Goes p e below G (T.setTop (mkF m pc L (.int x :: st))) := by
  obtain ⟨hx, -, -, hby, -⟩ := C
  obtain ⟨_, _, _, X, -⟩ := X
  subst hq 
  exact go_st (fun t k => XS.i2dS X.here hx rfl (hb hby hd) rfl hz k) r
theorem g_dcmp (C : Cx p s m meth c Z own bytes ml rt mn) (X : St p l e R s m args below meth c n0 T h k n) {o : CmpOp} {x y : UInt64} {z : Int32} (hd : decode bytes pc = .ok (.dcmp o, 1)) (hq : pc + 1 = q) (hz : cmpValue (FP.dcmp x y) o = z) (r : Goes p e below G (T.setTop (mkF m q L (.int z :: st)))) : Goes p e below G (T.setTop (mkF m pc L (.double y :: .double x :: st))) := by
  obtain ⟨hx, -, -, hby, -⟩ := C
  obtain ⟨_, _, _, X, -⟩ := X
  subst hq 
  exact go_st (fun t k => XS.dcmpS X.here hx rfl (hb hby hd) rfl hz k) r
theorem g_pop2 (C : Cx p s m meth c Z own bytes ml rt mn) (X : St p l e R s m args below meth c n0 T h k n) {x : Value} (hd : decode bytes pc = .ok (.pop2, 1)) (hq : pc + 1 = q) (hc : x.category = 2) (r : Goes p e below G (T.setTop (mkF m q L st))) : Goes p e below G (T.setTop (mkF m pc L (x :: st))) := by
  obtain ⟨hx, -, -, hby, -⟩ := C
  obtain ⟨_, _, _, X, -⟩ := X
  subst hq
  refine go_st (fun t k => ?_) r
  have hd' := hb hby hd
  show Steps p.tables e below (T.setTop { method := m, pc := pc, locals := L, stack := x :: st, locked := none }) _
  jvm_step X.here [X.here.top, hx, hd', hc]
  exact k
theorem g_dconst0 (C : Cx p s m meth c Z own bytes ml rt mn) (X : St p l e R s m args below meth c n0 T h k n) {z : UInt64} (hd : decode bytes pc = .ok (.dconst 0, 1)) (hq : pc + 1 = q) (hz : FP.dconst0 = z) (r : Goes p e below G (T.setTop (mkF m q L (.double z :: st)))) : Goes p e below G (T.setTop (mkF m pc L (st))) := by
  obtain ⟨hx, -, -, hby, -⟩ := C
  obtain ⟨_, _, _, X, -⟩ := X
  subst hq 
  exact go_st (fun t k => XS.dconst0 X.here hx rfl (hb hby hd) hz k) r
theorem g_dconst1 (C : Cx p s m meth c Z own bytes ml rt mn) (X : St p l e R s m args below meth c n0 T h k n) {z : UInt64} (hd : decode bytes pc = .ok (.dconst 1, 1)) (hq : pc + 1 = q) (hz : FP.dconst1 = z) (r : Goes p e below G (T.setTop (mkF m q L (.double z :: st)))) : Goes p e below G (T.setTop (mkF m pc L (st))) := by
  obtain ⟨hx, -, -, hby, -⟩ := C
  obtain ⟨_, _, _, X, -⟩ := X
  subst hq 
  exact go_st (fun t k => XS.dconst1 X.here hx rfl (hb hby hd) hz k) r
theorem g_retD (C : Cx p s m meth c Z own bytes ml (some .double) mn) (X : St p l e R s m args below meth c n0 T h k n) {Q : Option Value → Heap → Prop} {K N : Nat} {z : UInt64} (hd : decode bytes pc = .ok (.dreturn, 1)) (hk : k ≤ K) (hn : n ≤ N) (hQ : Q (some (.double z)) h) : Goes p e below (FinN Q s n0 K N) (T.setTop (mkF m pc L (.double z :: st))) := by
  refine own_end C X (by simp) hk hn hQ fun locs cells slots fs X hr => ?_
  obtain ⟨hx, -, -, hby, -, hret, hlk, -⟩ := C
  exact retOut X hx hret rfl (Or.inr (Or.inr (Or.inl ⟨rfl, rfl, _, rfl⟩))) (hb hby hd) hr
theorem g_getS (C : Cx p s m meth c Z own bytes ml rt mn) (X : St p l e R s m args below meth c n0 T h k n) {R0 O f d host : String} {i : Nat} {v : Value} (w : (Cond.fieldLink own i R0 f d).before a0 Z = true ∨ (Cond.fieldLinkNest own i R0 f d host).before a0 Z = true) (via : Via Z R0 O f d) (F : Sta Z h O f d v) (hd : decode bytes pc = .ok (.getstatic i, 3)) (hq : pc + 3 = q) (r : ∀ T', St p l e R s m args below meth c n0 T' h k n → Goes p e below G (T'.setTop (mkF m q L (v :: st)))) : Goes p e below G (T.setTop (mkF m pc L st)) := by
  obtain ⟨hx, hZ, hown, hby, -⟩ := C
  obtain ⟨_, _, _, X, hF, eT, h1, h2⟩ := X
  subst hq
  obtain ⟨T', X', e', st'⟩ := getS2 X hx hZ hown w via eT F (g := mkF m pc L st) rfl (hb hby hd)
  exact go_st st' (r T' ⟨_, _, _, X', hF, e', h1, h2⟩)
theorem g_getF (C : Cx p s m meth c Z own bytes ml rt mn) (X : St p l e R s m args below meth c n0 T h k n) {R0 O f d host : String} {i : Nat} {a : Addr} {v : Value} (w : (Cond.fieldLink own i R0 f d).before a0 Z = true ∨ (Cond.fieldLinkNest own i R0 f d host).before a0 Z = true) (via : Via Z R0 O f d) (F : Fld Z h a O f d v) (hd : decode bytes pc = .ok (.getfield i, 3)) (hq : pc + 3 = q) (r : ∀ T', St p l e R s m args below meth c n0 T' h k n → Goes p e below G (T'.setTop (mkF m q L (v :: st)))) : Goes p e below G (T.setTop (mkF m pc L (.ref a :: st))) := by
  obtain ⟨hx, hZ, hown, hby, -⟩ := C
  obtain ⟨_, _, _, X, hF, eT, h1, h2⟩ := X
  subst hq
  obtain ⟨T', X', e', st'⟩ := getF X hx hZ hown w via eT F (g := mkF m pc L (.ref a :: st)) rfl rfl (hb hby hd)
  exact go_st st' (r T' ⟨_, _, _, X', hF, e', h1, h2⟩)
theorem g_putF (C : Cx p s m meth c Z own bytes ml rt mn) (X : St p l e R s m args below meth c n0 T h k n) {R0 O f d host K : String} {i kk : Nat} {ty : FieldType} {a : Addr} {v old : Value} (w : (Cond.fieldLink own i R0 f d).before a0 Z = true ∨ (Cond.fieldLinkNest own i R0 f d host).before a0 Z = true) (via : Via Z R0 O f d) (F : Fld Z h a O f d old) (E : Exa Z h a K) (Ly : (Cond.lays K O f d).before a0 Z = true ∨ ((Cond.laysFinal K O f d).before a0 Z = true ∧ own = O ∧ mn = "<init>")) (wi : (Cond.instantiable K kk).before a0 Z = true)
    (hty : parseFieldDescriptor d = some ty) (hnn : narrow ty v = v) (hff : fits ty v = true) (hd : decode bytes pc = .ok (.putfield i, 3)) (hq : pc + 3 = q) (ha : n0 ≤ a) (r : ∀ T' h', St p l e R s m args below meth c n0 T' h' k n → Wr h h' a (Jvm.RoadKit.slotOf Z O f d) v → Goes p e below G (T'.setTop (mkF m q L st))) : Goes p e below G (T.setTop (mkF m pc L (v :: .ref a :: st))) := by
  obtain ⟨hx, hZ, hown, hby, -, -, -, hnm⟩ := C
  obtain ⟨_, _, _, X, hF, eT, h1, h2⟩ := X
  subst hq
  obtain ⟨T', h', X', e', W', st'⟩ := putF X hx hZ hown w via eT F E (Ly.imp id fun z => ⟨z.1, z.2.1, hnm.trans z.2.2⟩) wi hty hnn hff (g := mkF m pc L (v :: .ref a :: st)) rfl rfl (hb hby hd)
  exact go_st st' (r T' h' ⟨_, _, _, X', Fr.snoc X' hF ha, e', h1, h2⟩ W')
theorem g_putFN (C : Cx p s m meth c Z own bytes ml rt mn) (X : St p l e R s m args below meth c n0 T h k n) {R0 O f d K : String} {i kk : Nat} {ty : FieldType} {a : Addr} {v v' old : Value} (w : (Cond.fieldLink own i R0 f d).before a0 Z = true) (via : Via Z R0 O f d) (F : Fld Z h a O f d old) (E : Exa Z h a K) (Ly : (Cond.lays K O f d).before a0 Z = true ∨ ((Cond.laysFinal K O f d).before a0 Z = true ∧ own = O ∧ mn = "<init>")) (wi : (Cond.instantiable K kk).before a0 Z = true)
    (hty : parseFieldDescriptor d = some ty) (hnn : narrow ty v = v') (hff : fits ty v' = true) (hd : decode bytes pc = .ok (.putfield i, 3)) (hq : pc + 3 = q) (ha : n0 ≤ a) (r : ∀ T' h', St p l e R s m args below meth c n0 T' h' k n → Wr h h' a (Jvm.RoadKit.slotOf Z O f d) v' → Goes p e below G (T'.setTop (mkF m q L st))) : Goes p e below G (T.setTop (mkF m pc L (v :: .ref a :: st))) := by
  obtain ⟨hx, hZ, hown, hby, -, -, -, hnm⟩ := C
  obtain ⟨_, _, _, X, hF, eT, h1, h2⟩ := X
  subst hq
  obtain ⟨T', h', X', e', W', st'⟩ := putFN X hx hZ hown w via eT F E (Ly.imp id fun z => ⟨z.1, z.2.1, hnm.trans z.2.2⟩) wi hty hnn hff (g := mkF m pc L (v :: .ref a :: st)) rfl rfl (hb hby hd)
  exact go_st st' (r T' h' ⟨_, _, _, X', Fr.snoc X' hF ha, e', h1, h2⟩ W')
theorem g_new (C : Cx p s m meth c Z own bytes ml rt mn) (X : St p l e R s m args below meth c n0 T h k n) {K : String} {i z k' n' : Nat} (w : (Cond.classLink own i K).before a0 Z = true) (wi : (Cond.instantiable K z).before a0 Z = true) (wz : (Cond.initialized K).before a0 Z = true) (hd : decode bytes pc = .ok (.new i, 3)) (hq : pc + 3 = q) (hk : k + 1 = k') (hn : n + z = n') (hkR : k' ≤ R.cells) (hnR : n' ≤ R.slots)
    (r : ∀ T' h' a, a = h.size → St p l e R s m args below meth c n0 T' h' k' n' → Ext h h' → Exa Z h' a K → (∀ {O nm d : String} {ty : FieldType}, Laid Z a0 K O nm d → parseFieldDescriptor d = some ty → Fld Z h' a O nm d (defaultValue ty)) → Goes p e below G (T'.setTop (mkF m q L (.ref a :: st)))) : Goes p e below G (T.setTop (mkF m pc L st)) := by
  obtain ⟨hx, hZ, hown, hby, -⟩ := C
  obtain ⟨_, _, _, X, hF, eT, h1, h2⟩ := X
  subst hq hk hn
  obtain ⟨T', h', X', e', E', A', D', -, st'⟩ := newO X hx hZ hown w wi wz eT (g := mkF m pc L st) rfl (hb hby hd) (Nat.le_trans (Nat.add_le_add_right h1 1) hkR) (Nat.le_trans (Nat.add_le_add_right h2 z) hnR)
  exact go_st st' (r T' h' _ rfl ⟨_, _, _, X', hF, e', Nat.add_le_add_right h1 1, Nat.add_le_add_right h2 z⟩ E' A' D')
theorem g_newP (C : Cx p s m meth c Z own bytes ml rt mn) (X : St p l e R s m args below meth c n0 T h k n) {aty : ArrayType} {ty : FieldType} {z : Int32} {cap k' n' : Nat} (w : (Cond.arrayClass ty).before a0 Z = true) (hty : newarray.typeOf aty = ty) (hd : decode bytes pc = .ok (.newarray aty, 2)) (hq : pc + 2 = q) (hz : ¬ z < 0) (hcap : z.toNatClampNeg ≤ cap) (hcb : cap * 8 ≤ 536870912) (hk : k + 1 = k') (hn : n + cap = n') (hkR : k' ≤ R.cells) (hnR : n' ≤ R.slots)
    (r : ∀ T' h' cA a, a = h.size → St p l e R s m args below meth c n0 T' h' k' n' → Ext h h' → Arv Z h' a cA ty z [] (defaultValue ty) → Goes p e below G (T'.setTop (mkF m q L (.ref a :: st)))) : Goes p e below G (T.setTop (mkF m pc L (.int z :: st))) := by
  obtain ⟨hx, hZ, hown, hby, -⟩ := C
  obtain ⟨_, _, _, X, hF, eT, h1, h2⟩ := X
  subst hq hk hn hty
  obtain ⟨T', h', cA, X', e', E', A', st'⟩ := newP X hx hZ w eT (g := mkF m pc L (.int z :: st)) rfl (hb hby hd) rfl hz (cap := cap) hcap hcb (Nat.le_trans (Nat.add_le_add_right h1 1) hkR) (Nat.le_trans (Nat.add_le_add_right h2 cap) hnR)
  exact go_st st' (r T' h' cA _ rfl ⟨_, _, _, X', hF, e', Nat.add_le_add_right h1 1, Nat.add_le_add_right h2 cap⟩ E' (Arv.new A' hz))
theorem g_initO (C : Cx p s m meth c Z own bytes ml rt mn) (X : St p l e R s m args below meth c n0 T h k n) {i : Nat} {a : Addr} (w1 : (Cond.methodLink own i Lib.objectInit).before a0 Z = true) (w2 : (Cond.instanceMethod Lib.objectInit).before a0 Z = true) (w3 : (Cond.code Lib.objectInit ⟨#[0xb1]⟩ 1 none).before a0 Z = true) (hsz : L.size = ml) (hd : decode bytes pc = .ok (.invokespecial i, 3)) (hq : pc + 3 = q) (hf : 1 ≤ R.frames) (hW : (st.map fun v => v.category).sum + 12 ≤ R.locals)
    (r : ∀ T', St p l e R s m args below meth c n0 T' h k n → Goes p e below G (T'.setTop (mkF m q L st))) : Goes p e below G (T.setTop (mkF m pc L (.ref a :: st))) := by
  obtain ⟨hx, hZ, hown, hby, hml, -⟩ := C
  obtain ⟨_, _, _, X, hF, eT, h1, h2⟩ := X
  subst hq
  obtain ⟨T', X', e', st'⟩ := initO X hx hZ hown w1 w2 w3 eT (g := mkF m pc L (.ref a :: st)) rfl (hsz.trans hml.symm) rfl (hb hby hd) hf (W := (st.map fun v => v.category).sum) (by show 2 * 0 + _ ≤ _; omega) hW
  exact go_st st' (r T' ⟨_, _, _, X', hF, e', h1, h2⟩)
theorem g_iastore (C : Cx p s m meth c Z own bytes ml rt mn) (X : St p l e R s m args below meth c n0 T h k n) {a : Addr} {cA : ClassId} {z j : Int32} {vs vs' : List Value} {dv : Value} {i : Nat} {v : Int32} (V : Arv Z h a cA .int z vs dv) (hj : ¬ j < 0 ∧ j < z) (hi : j.toNatClampNeg = i) (hlt : i < vs.length) (hvs : vs.set i (.int v) = vs') (ha : n0 ≤ a) (hd : decode bytes pc = .ok (.iastore, 1)) (hq : pc + 1 = q)
    (r : ∀ T' h', St p l e R s m args below meth c n0 T' h' k n → Wr h h' a i (.int v) → Arv Z h' a cA .int z vs' dv → Goes p e below G (T'.setTop (mkF m q L st))) : Goes p e below G (T.setTop (mkF m pc L (.int v :: .int j :: .ref a :: st))) := by
  obtain ⟨hx, hZ, hown, hby, -⟩ := C
  obtain ⟨_, _, _, X, hF, eT, h1, h2⟩ := X
  subst hq hi hvs
  obtain ⟨cl, A, q1, Sz, q3, H, Gf⟩ := V
  obtain ⟨T', h', X', e', W', st'⟩ := stI X hx hZ eT A (j := j) (inb_of Sz hj) (g := mkF m pc L (.int v :: .int j :: .ref a :: st)) rfl rfl (hb hby hd)
  exact go_st st' (r T' h' ⟨_, _, _, X', Fr.snoc X' hF ha, e', h1, h2⟩ W' (Arv.set A q1 Sz q3 H Gf rfl W' _ rfl hlt))
theorem g_castore (C : Cx p s m meth c Z own bytes ml rt mn) (X : St p l e R s m args below meth c n0 T h k n) {a : Addr} {cA : ClassId} {z j : Int32} {vs vs' : List Value} {dv : Value} {i : Nat} {v : Int32} (V : Arv Z h a cA .char z vs dv) (hj : ¬ j < 0 ∧ j < z) (hi : j.toNatClampNeg = i) (hlt : i < vs.length) (hvs : vs.set i (.int (nar .char v)) = vs') (ha : n0 ≤ a) (hd : decode bytes pc = .ok (.castore, 1)) (hq : pc + 1 = q)
    (r : ∀ T' h', St p l e R s m args below meth c n0 T' h' k n → Wr h h' a i (.int (nar .char v)) → Arv Z h' a cA .char z vs' dv → Goes p e below G (T'.setTop (mkF m q L st))) : Goes p e below G (T.setTop (mkF m pc L (.int v :: .int j :: .ref a :: st))) := by
  obtain ⟨hx, hZ, hown, hby, -⟩ := C
  obtain ⟨_, _, _, X, hF, eT, h1, h2⟩ := X
  subst hq hi hvs
  obtain ⟨cl, A, q1, Sz, q3, H, Gf⟩ := V
  obtain ⟨T', h', X', e', W', st'⟩ := stC X hx hZ eT A (j := j) (inb_of Sz hj) (g := mkF m pc L (.int v :: .int j :: .ref a :: st)) rfl rfl (hb hby hd)
  exact go_st st' (r T' h' ⟨_, _, _, X', Fr.snoc X' hF ha, e', h1, h2⟩ W' (Arv.set A q1 Sz q3 H Gf (fits_nar_char _) W' _ rfl hlt))
theorem g_bastore (C : Cx p s m meth c Z own bytes ml rt mn) (X : St p l e R s m args below meth c n0 T h k n) {a : Addr} {cA : ClassId} {z j : Int32} {vs vs' : List Value} {dv : Value} {i : Nat} {v : Int32} (V : Arv Z h a cA .byte z vs dv) (hj : ¬ j < 0 ∧ j < z) (hi : j.toNatClampNeg = i) (hlt : i < vs.length) (hvs : vs.set i (.int (nar .byte v)) = vs') (ha : n0 ≤ a) (hd : decode bytes pc = .ok (.bastore, 1)) (hq : pc + 1 = q)
    (r : ∀ T' h', St p l e R s m args below meth c n0 T' h' k n → Wr h h' a i (.int (nar .byte v)) → Arv Z h' a cA .byte z vs' dv → Goes p e below G (T'.setTop (mkF m q L st))) : Goes p e below G (T.setTop (mkF m pc L (.int v :: .int j :: .ref a :: st))) := by
  obtain ⟨hx, hZ, hown, hby, -⟩ := C
  obtain ⟨_, _, _, X, hF, eT, h1, h2⟩ := X
  subst hq hi hvs
  obtain ⟨cl, A, q1, Sz, q3, H, Gf⟩ := V
  obtain ⟨T', h', X', e', W', st'⟩ := stB X hx hZ eT A (j := j) (inb_of Sz hj) (g := mkF m pc L (.int v :: .int j :: .ref a :: st)) rfl rfl (hb hby hd)
  exact go_st st' (r T' h' ⟨_, _, _, X', Fr.snoc X' hF ha, e', h1, h2⟩ W' (Arv.set A q1 Sz q3 H Gf (fits_nar_byte _) W' _ rfl hlt))
theorem g_zastore (C : Cx p s m meth c Z own bytes ml rt mn) (X : St p l e R s m args below meth c n0 T h k n) {a : Addr} {cA : ClassId} {z j : Int32} {vs vs' : List Value} {dv : Value} {i : Nat} {v : Int32} (V : Arv Z h a cA .boolean z vs dv) (hj : ¬ j < 0 ∧ j < z) (hi : j.toNatClampNeg = i) (hlt : i < vs.length) (hvs : vs.set i (.int (nar .boolean v)) = vs') (ha : n0 ≤ a) (hd : decode bytes pc = .ok (.bastore, 1)) (hq : pc + 1 = q)
    (r : ∀ T' h', St p l e R s m args below meth c n0 T' h' k n → Wr h h' a i (.int (nar .boolean v)) → Arv Z h' a cA .boolean z vs' dv → Goes p e below G (T'.setTop (mkF m q L st))) : Goes p e below G (T.setTop (mkF m pc L (.int v :: .int j :: .ref a :: st))) := by
  obtain ⟨hx, hZ, hown, hby, -⟩ := C
  obtain ⟨_, _, _, X, hF, eT, h1, h2⟩ := X
  subst hq hi hvs
  obtain ⟨cl, A, q1, Sz, q3, H, Gf⟩ := V
  obtain ⟨T', h', X', e', W', st'⟩ := stZ X hx hZ eT A (j := j) (inb_of Sz hj) (g := mkF m pc L (.int v :: .int j :: .ref a :: st)) rfl rfl (hb hby hd)
  exact go_st st' (r T' h' ⟨_, _, _, X', Fr.snoc X' hF ha, e', h1, h2⟩ W' (Arv.set A q1 Sz q3 H Gf (fits_nar_bool _) W' _ rfl hlt))
theorem g_lastore (C : Cx p s m meth c Z own bytes ml rt mn) (X : St p l e R s m args below meth c n0 T h k n) {a : Addr} {cA : ClassId} {z j : Int32} {vs vs' : List Value} {dv : Value} {i : Nat} {v : Int64} (V : Arv Z h a cA .long z vs dv) (hj : ¬ j < 0 ∧ j < z) (hi : j.toNatClampNeg = i) (hlt : i < vs.length) (hvs : vs.set i (.long v) = vs') (ha : n0 ≤ a) (hd : decode bytes pc = .ok (.lastore, 1)) (hq : pc + 1 = q)
    (r : ∀ T' h', St p l e R s m args below meth c n0 T' h' k n → Wr h h' a i (.long v) → Arv Z h' a cA .long z vs' dv → Goes p e below G (T'.setTop (mkF m q L st))) : Goes p e below G (T.setTop (mkF m pc L (.long v :: .int j :: .ref a :: st))) := by
  obtain ⟨hx, hZ, hown, hby, -⟩ := C
  obtain ⟨_, _, _, X, hF, eT, h1, h2⟩ := X
  subst hq hi hvs
  obtain ⟨cl, A, q1, Sz, q3, H, Gf⟩ := V
  obtain ⟨T', h', X', e', W', st'⟩ := stJ X hx hZ eT A (j := j) (inb_of Sz hj) (g := mkF m pc L (.long v :: .int j :: .ref a :: st)) rfl rfl (hb hby hd)
  exact go_st st' (r T' h' ⟨_, _, _, X', Fr.snoc X' hF ha, e', h1, h2⟩ W' (Arv.set A q1 Sz q3 H Gf rfl W' _ rfl hlt))
theorem g_dastore (C : Cx p s m meth c Z own bytes ml rt mn) (X : St p l e R s m args below meth c n0 T h k n) {a : Addr} {cA : ClassId} {z j : Int32} {vs vs' : List Value} {dv : Value} {i : Nat} {v : UInt64} (V : Arv Z h a cA .double z vs dv) (hj : ¬ j < 0 ∧ j < z) (hi : j.toNatClampNeg = i) (hlt : i < vs.length) (hvs : vs.set i (.double v) = vs') (ha : n0 ≤ a) (hd : decode bytes pc = .ok (.dastore, 1)) (hq : pc + 1 = q)
    (r : ∀ T' h', St p l e R s m args below meth c n0 T' h' k n → Wr h h' a i (.double v) → Arv Z h' a cA .double z vs' dv → Goes p e below G (T'.setTop (mkF m q L st))) : Goes p e below G (T.setTop (mkF m pc L (.double v :: .int j :: .ref a :: st))) := by
  obtain ⟨hx, hZ, hown, hby, -⟩ := C
  obtain ⟨_, _, _, X, hF, eT, h1, h2⟩ := X
  subst hq hi hvs
  obtain ⟨cl, A, q1, Sz, q3, H, Gf⟩ := V
  obtain ⟨T', h', X', e', W', st'⟩ := stD X hx hZ eT A (j := j) (inb_of Sz hj) (g := mkF m pc L (.double v :: .int j :: .ref a :: st)) rfl rfl (hb hby hd)
  exact go_st st' (r T' h' ⟨_, _, _, X', Fr.snoc X' hF ha, e', h1, h2⟩ W' (Arv.set A q1 Sz q3 H Gf rfl W' _ rfl hlt))
theorem g_aastore (C : Cx p s m meth c Z own bytes ml rt mn) (X : St p l e R s m args below meth c n0 T h k n) {a : Addr} {cA : ClassId} {z j : Int32} {vs vs' : List Value} {dv v : Value} {ty : FieldType} {i : Nat} (V : Arv Z h a cA ty z vs dv) (hty : ty.isReference = true) (F : Sto Z h a v) (hfv : fits ty v = true) (hj : ¬ j < 0 ∧ j < z) (hi : j.toNatClampNeg = i) (hlt : i < vs.length) (hvs : vs.set i v = vs') (ha : n0 ≤ a) (hd : decode bytes pc = .ok (.aastore, 1)) (hq : pc + 1 = q)
    (r : ∀ T' h', St p l e R s m args below meth c n0 T' h' k n → Wr h h' a i v → Arv Z h' a cA ty z vs' dv → Goes p e below G (T'.setTop (mkF m q L st))) : Goes p e below G (T.setTop (mkF m pc L (v :: .int j :: .ref a :: st))) := by
  obtain ⟨hx, hZ, hown, hby, -⟩ := C
  obtain ⟨_, _, _, X, hF, eT, h1, h2⟩ := X
  subst hq hi hvs
  obtain ⟨cl, A, q1, Sz, q3, H, Gf⟩ := V
  obtain ⟨T', h', X', e', W', st'⟩ := stR X hx hZ eT A (j := j) (inb_of Sz hj) hty F (g := mkF m pc L (v :: .int j :: .ref a :: st)) rfl rfl (hb hby hd)
  exact go_st st' (r T' h' ⟨_, _, _, X', Fr.snoc X' hF ha, e', h1, h2⟩ W' (Arv.set A q1 Sz q3 H Gf hfv W' _ rfl hlt))
theorem g_iaload (C : Cx p s m meth c Z own bytes ml rt mn) (X : St p l e R s m args below meth c n0 T h k n) {a : Addr} {cA : ClassId} {z j : Int32} {vs : List Value} {dv w : Value}  (V : Arv Z h a cA .int z vs dv) (hj : ¬ j < 0 ∧ j < z) (hv : vs.getD j.toNatClampNeg dv = w) (hd : decode bytes pc = .ok (.iaload, 1)) (hq : pc + 1 = q) (r : Goes p e below G (T.setTop (mkF m q L (w :: st)))) : Goes p e below G (T.setTop (mkF m pc L (.int j :: .ref a :: st))) := by
  obtain ⟨hx, hZ, hown, hby, -⟩ := C
  obtain ⟨_, _, _, X, hF, eT, h1, h2⟩ := X
  subst hq
  obtain ⟨cl, A, q1, Sz, q3, H, Gf⟩ := V
  exact go_st (fun t k => X.iaload hx (j := j) (v := w) (by rw [eT]; exact A.1) (State.isArrayOf_alike hZ.alike A.2.1) A.2.2 (inb_of Sz hj) (H.at (inb_of Sz hj) hv) (g := mkF m pc L (.int j :: .ref a :: st)) rfl rfl (hb hby hd) t k) r
theorem g_caload (C : Cx p s m meth c Z own bytes ml rt mn) (X : St p l e R s m args below meth c n0 T h k n) {a : Addr} {cA : ClassId} {z j : Int32} {vs : List Value} {dv w : Value}  (V : Arv Z h a cA .char z vs dv) (hj : ¬ j < 0 ∧ j < z) (hv : vs.getD j.toNatClampNeg dv = w) (hd : decode bytes pc = .ok (.caload, 1)) (hq : pc + 1 = q) (r : Goes p e below G (T.setTop (mkF m q L (w :: st)))) : Goes p e below G (T.setTop (mkF m pc L (.int j :: .ref a :: st))) := by
  obtain ⟨hx, hZ, hown, hby, -⟩ := C
  obtain ⟨_, _, _, X, hF, eT, h1, h2⟩ := X
  subst hq
  obtain ⟨cl, A, q1, Sz, q3, H, Gf⟩ := V
  exact go_st (fun t k => X.caload hx (j := j) (v := w) (by rw [eT]; exact A.1) (State.isArrayOf_alike hZ.alike A.2.1) A.2.2 (inb_of Sz hj) (H.at (inb_of Sz hj) hv) (g := mkF m pc L (.int j :: .ref a :: st)) rfl rfl (hb hby hd) t k) r
theorem g_baload (C : Cx p s m meth c Z own bytes ml rt mn) (X : St p l e R s m args below meth c n0 T h k n) {a : Addr} {cA : ClassId} {z j : Int32} {vs : List Value} {dv w : Value}  (V : Arv Z h a cA .byte z vs dv) (hj : ¬ j < 0 ∧ j < z) (hv : vs.getD j.toNatClampNeg dv = w) (hd : decode bytes pc = .ok (.baload, 1)) (hq : pc + 1 = q) (r : Goes p e below G (T.setTop (mkF m q L (w :: st)))) : Goes p e below G (T.setTop (mkF m pc L (.int j :: .ref a :: st))) := by
  obtain ⟨hx, hZ, hown, hby, -⟩ := C
  obtain ⟨_, _, _, X, hF, eT, h1, h2⟩ := X
  subst hq
  obtain ⟨cl, A, q1, Sz, q3, H, Gf⟩ := V
  exact go_st (fun t k => X.baloadBytes hx (j := j) (v := w) (by rw [eT]; exact A.1) (State.isArrayOf_alike hZ.alike A.2.1) A.2.2 (inb_of Sz hj) (H.at (inb_of Sz hj) hv) (g := mkF m pc L (.int j :: .ref a :: st)) rfl rfl (hb hby hd) t k) r
theorem g_zaload (C : Cx p s m meth c Z own bytes ml rt mn) (X : St p l e R s m args below meth c n0 T h k n) {a : Addr} {cA : ClassId} {z j : Int32} {vs : List Value} {dv w : Value}  (V : Arv Z h a cA .boolean z vs dv) (hj : ¬ j < 0 ∧ j < z) (hv : vs.getD j.toNatClampNeg dv = w) (hd : decode bytes pc = .ok (.baload, 1)) (hq : pc + 1 = q) (r : Goes p e below G (T.setTop (mkF m q L (w :: st)))) : Goes p e below G (T.setTop (mkF m pc L (.int j :: .ref a :: st))) := by
  obtain ⟨hx, hZ, hown, hby, -⟩ := C
  obtain ⟨_, _, _, X, hF, eT, h1, h2⟩ := X
  subst hq
  obtain ⟨cl, A, q1, Sz, q3, H, Gf⟩ := V
  exact go_st (fun t k => X.baloadBooleans hx (j := j) (v := w) (by rw [eT]; exact A.1) (State.isArrayOf_alike hZ.alike A.2.1) A.2.2 (inb_of Sz hj) (H.at (inb_of Sz hj) hv) (g := mkF m pc L (.int j :: .ref a :: st)) rfl rfl (hb hby hd) t k) r
theorem g_laload (C : Cx p s m meth c Z own bytes ml rt mn) (X : St p l e R s m args below meth c n0 T h k n) {a : Addr} {cA : ClassId} {z j : Int32} {vs : List Value} {dv w : Value}  (V : Arv Z h a cA .long z vs dv) (hj : ¬ j < 0 ∧ j < z) (hv : vs.getD j.toNatClampNeg dv = w) (hd : decode bytes pc = .ok (.laload, 1)) (hq : pc + 1 = q) (r : Goes p e below G (T.setTop (mkF m q L (w :: st)))) : Goes p e below G (T.setTop (mkF m pc L (.int j :: .ref a :: st))) := by
  obtain ⟨hx, hZ, hown, hby, -⟩ := C
  obtain ⟨_, _, _, X, hF, eT, h1, h2⟩ := X
  subst hq
  obtain ⟨cl, A, q1, Sz, q3, H, Gf⟩ := V
  exact go_st (fun t k => X.laload hx (j := j) (v := w) (by rw [eT]; exact A.1) (State.isArrayOf_alike hZ.alike A.2.1) A.2.2 (inb_of Sz hj) (H.at (inb_of Sz hj) hv) (g := mkF m pc L (.int j :: .ref a :: st)) rfl rfl (hb hby hd) t k) r
theorem g_daload (C : Cx p s m meth c Z own bytes ml rt mn) (X : St p l e R s m args below meth c n0 T h k n) {a : Addr} {cA : ClassId} {z j : Int32} {vs : List Value} {dv w : Value}  (V : Arv Z h a cA .double z vs dv) (hj : ¬ j < 0 ∧ j < z) (hv : vs.getD j.toNatClampNeg dv = w) (hd : decode bytes pc = .ok (.daload, 1)) (hq : pc + 1 = q) (r : Goes p e below G (T.setTop (mkF m q L (w :: st)))) : Goes p e below G (T.setTop (mkF m pc L (.int j :: .ref a :: st))) := by
  obtain ⟨hx, hZ, hown, hby, -⟩ := C
  obtain ⟨_, _, _, X, hF, eT, h1, h2⟩ := X
  subst hq
  obtain ⟨cl, A, q1, Sz, q3, H, Gf⟩ := V
  exact go_st (fun t k => X.daload hx (j := j) (v := w) (by rw [eT]; exact A.1) (State.isArrayOf_alike hZ.alike A.2.1) A.2.2 (inb_of Sz hj) (H.at (inb_of Sz hj) hv) (g := mkF m pc L (.int j :: .ref a :: st)) rfl rfl (hb hby hd) t k) r
theorem g_aaload (C : Cx p s m meth c Z own bytes ml rt mn) (X : St p l e R s m args below meth c n0 T h k n) {a : Addr} {cA : ClassId} {z j : Int32} {vs : List Value} {dv w : Value} {ty : FieldType} (hty : ty.isReference = true) (V : Arv Z h a cA ty z vs dv) (hj : ¬ j < 0 ∧ j < z) (hv : vs.getD j.toNatClampNeg dv = w) (hd : decode bytes pc = .ok (.aaload, 1)) (hq : pc + 1 = q) (r : Goes p e below G (T.setTop (mkF m q L (w :: st)))) : Goes p e below G (T.setTop (mkF m pc L (.int j :: .ref a :: st))) := by
  obtain ⟨hx, hZ, hown, hby, -⟩ := C
  obtain ⟨_, _, _, X, hF, eT, h1, h2⟩ := X
  subst hq
  obtain ⟨cl, A, q1, Sz, q3, H, Gf⟩ := V
  exact go_st (fun t k => X.aaload hx (j := j) (v := w) (by rw [eT]; exact A.1) (State.isArrayOf_alike hZ.alike A.2.1) hty A.2.2 (inb_of Sz hj) (H.at (inb_of Sz hj) hv) (g := mkF m pc L (.int j :: .ref a :: st)) rfl rfl (hb hby hd) t k) r
theorem g_alen (C : Cx p s m meth c Z own bytes ml rt mn) (X : St p l e R s m args below meth c n0 T h k n) {a : Addr} {cA : ClassId} {z : Int32} {vs : List Value} {dv : Value} {ty : FieldType} (V : Arv Z h a cA ty z vs dv) (hd : decode bytes pc = .ok (.arraylength, 1)) (hq : pc + 1 = q) (r : Goes p e below G (T.setTop (mkF m q L (.int z :: st)))) : Goes p e below G (T.setTop (mkF m pc L (.ref a :: st))) := by
  obtain ⟨hx, hZ, hown, hby, -⟩ := C
  obtain ⟨_, _, _, X, hF, eT, h1, h2⟩ := X
  subst hq
  obtain ⟨cl, A, q1, Sz, q3, H, Gf⟩ := V
  exact go_st (fun t k => X.arraylength hx (by rw [eT]; exact A.1) (State.isArrayOf_alike hZ.alike A.2.1) (g := mkF m pc L (.ref a :: st)) rfl rfl (hb hby hd) t (by rw [len_of Sz q3]; exact k)) r
theorem g_newR (C : Cx p s m meth c Z own bytes ml rt mn) (X : St p l e R s m args below meth c n0 T h k n) {K : String} {i cap k' n' : Nat} {z : Int32} (w1 : (Cond.classLink own i K).before a0 Z = true) (w2 : (Cond.arrayOver (.object K)).before a0 Z = true) (hd : decode bytes pc = .ok (.anewarray i, 3)) (hq : pc + 3 = q) (hz : ¬ z < 0) (hcap : z.toNatClampNeg ≤ cap) (hcb : cap * 8 ≤ 536870912) (hk : k + 1 = k') (hn : n + cap = n') (hkR : k' ≤ R.cells) (hnR : n' ≤ R.slots)
    (r : ∀ T' h' cA a, a = h.size → St p l e R s m args below meth c n0 T' h' k' n' → Ext h h' → Arv Z h' a cA (.object K) z [] .null → Ovr Z cA K → Goes p e below G (T'.setTop (mkF m q L (.ref a :: st)))) : Goes p e below G (T.setTop (mkF m pc L (.int z :: st))) := by
  obtain ⟨hx, hZ, hown, hby, -⟩ := C
  obtain ⟨_, _, _, X, hF, eT, h1, h2⟩ := X
  subst hq hk hn
  obtain ⟨T', h', cA, X', e', E', A', O', st'⟩ := newR X hx hZ hown w1 w2 eT (g := mkF m pc L (.int z :: st)) rfl (hb hby hd) rfl hz (cap := cap) hcap hcb (Nat.le_trans (Nat.add_le_add_right h1 1) hkR) (Nat.le_trans (Nat.add_le_add_right h2 cap) hnR)
  exact go_st st' (r T' h' cA _ rfl ⟨_, _, _, X', hF, e', Nat.add_le_add_right h1 1, Nat.add_le_add_right h2 cap⟩ E' (Arv.new A' hz) O')
theorem g_castY (C : Cx p s m meth c Z own bytes ml rt mn) (X : St p l e R s m args below meth c n0 T h k n) {K : String} {i : Nat} {a : Addr} (w : (Cond.classLink own i K).before a0 Z = true) (I : Ins Z h a K true) (hd : decode bytes pc = .ok (.checkcast i, 3)) (hq : pc + 3 = q) (r : ∀ T', St p l e R s m args below meth c n0 T' h k n → Goes p e below G (T'.setTop (mkF m q L (.ref a :: st)))) : Goes p e below G (T.setTop (mkF m pc L (.ref a :: st))) := by
  obtain ⟨hx, hZ, hown, hby, -⟩ := C
  obtain ⟨_, _, _, X, hF, eT, h1, h2⟩ := X
  subst hq
  obtain ⟨T', X', e', st'⟩ := castY X hx hZ hown w eT I (g := mkF m pc L (.ref a :: st)) rfl rfl (hb hby hd)
  exact go_st st' (r T' ⟨_, _, _, X', hF, e', h1, h2⟩)
theorem g_instY (C : Cx p s m meth c Z own bytes ml rt mn) (X : St p l e R s m args below meth c n0 T h k n) {K : String} {i : Nat} {a : Addr} (w : (Cond.classLink own i K).before a0 Z = true) (I : Ins Z h a K true) (hd : decode bytes pc = .ok (.instanceof i, 3)) (hq : pc + 3 = q) (r : ∀ T', St p l e R s m args below meth c n0 T' h k n → Goes p e below G (T'.setTop (mkF m q L (.int 1 :: st)))) : Goes p e below G (T.setTop (mkF m pc L (.ref a :: st))) := by
  obtain ⟨hx, hZ, hown, hby, -⟩ := C
  obtain ⟨_, _, _, X, hF, eT, h1, h2⟩ := X
  subst hq
  obtain ⟨T', X', e', st'⟩ := instY X hx hZ hown w eT I (g := mkF m pc L (.ref a :: st)) rfl rfl (hb hby hd)
  exact go_st st' (r T' ⟨_, _, _, X', hF, e', h1, h2⟩)
theorem g_instNo (C : Cx p s m meth c Z own bytes ml rt mn) (X : St p l e R s m args below meth c n0 T h k n) {K K' : String} {i : Nat} {a : Addr} (w : (Cond.classLink own i K).before a0 Z = true) (E : Exa Z h a K') (F : ∃ c t, Z.vm.findClass K' = some c ∧ Z.vm.findClass K = some t ∧ Z.vm.assignable c t = false) (hd : decode bytes pc = .ok (.instanceof i, 3)) (hq : pc + 3 = q) (r : ∀ T', St p l e R s m args below meth c n0 T' h k n → Goes p e below G (T'.setTop (mkF m q L (.int 0 :: st)))) : Goes p e below G (T.setTop (mkF m pc L (.ref a :: st))) := by
  obtain ⟨hx, hZ, hown, hby, -⟩ := C
  obtain ⟨_, _, _, X, hF, eT, h1, h2⟩ := X
  subst hq
  obtain ⟨T', X', e', st'⟩ := instNo X hx hZ hown w eT E F (g := mkF m pc L (.ref a :: st)) rfl rfl (hb hby hd)
  exact go_st st' (r T' ⟨_, _, _, X', hF, e', h1, h2⟩)
theorem g_instNull (C : Cx p s m meth c Z own bytes ml rt mn) (X : St p l e R s m args below meth c n0 T h k n) {i : Nat} (hd : decode bytes pc = .ok (.instanceof i, 3)) (hq : pc + 3 = q) (r : Goes p e below G (T.setTop (mkF m q L (.int 0 :: st)))) : Goes p e below G (T.setTop (mkF m pc L (.null :: st))) := by
  obtain ⟨hx, hZ, hown, hby, -⟩ := C
  obtain ⟨_, _, _, X, hF, eT, h1, h2⟩ := X
  subst hq
  exact go_st (fun t k => X.instanceofNull hx (g := mkF m pc L (.null :: st)) rfl rfl (hb hby hd) t k) r
theorem g_castNull (C : Cx p s m meth c Z own bytes ml rt mn) (X : St p l e R s m args below meth c n0 T h k n) {i : Nat} (hd : decode bytes pc = .ok (.checkcast i, 3)) (hq : pc + 3 = q) (r : Goes p e below G (T.setTop (mkF m q L (.null :: st)))) : Goes p e below G (T.setTop (mkF m pc L (.null :: st))) := by
  obtain ⟨hx, hZ, hown, hby, -⟩ := C
  obtain ⟨_, _, _, X, hF, eT, h1, h2⟩ := X
  subst hq
  exact go_st (fun t k => X.checkcastNull hx (g := mkF m pc L (.null :: st)) rfl rfl (hb hby hd) t k) r
theorem g_getClass (C : Cx p s m meth c Z own bytes ml rt mn) (X : St p l e R s m args below meth c n0 T h k n) {K : String} {i : Nat} {a mr : Addr} (w1 : (Cond.methodLink own i ⟨"java/lang/Object", "getClass", "()Ljava/lang/Class;"⟩).before a0 Z = true) (w2 : (Cond.declares ⟨"java/lang/Object", "getClass", "()Ljava/lang/Class;"⟩).before a0 Z = true) (w4 : (Cond.selects K ⟨"java/lang/Object", "getClass", "()Ljava/lang/Class;"⟩ ⟨"java/lang/Object", "getClass", "()Ljava/lang/Class;"⟩).before a0 Z = true)
    (w5 : (Cond.instanceMethod ⟨"java/lang/Object", "getClass", "()Ljava/lang/Class;"⟩).before a0 Z = true) (w6 : (Cond.native ⟨"java/lang/Object", "getClass", "()Ljava/lang/Class;"⟩).before a0 Z = true) (E : Exa Z h a K) (M : ∃ c k, Z.vm.findClass K = some c ∧ Z.vm.classes[c]? = some k ∧ k.mirror = some mr) (hsz : L.size = ml) (hd : decode bytes pc = .ok (.invokevirtual i, 3)) (hq : pc + 3 = q) (hf : 1 ≤ R.frames) (hl : (st.map fun v => v.category).sum + (nativeFrameWords "java/lang/Object" "getClass" 1 + 11) ≤ R.locals)
    (r : ∀ T', St p l e R s m args below meth c n0 T' h k n → Goes p e below G (T'.setTop (mkF m q L (.ref mr :: st)))) : Goes p e below G (T.setTop (mkF m pc L (.ref a :: st))) := by
  obtain ⟨hx, hZ, hown, hby, hml, -⟩ := C
  obtain ⟨_, _, _, X, hF, eT, h1, h2⟩ := X
  subst hq
  obtain ⟨cB, kB, i1, i2, i3⟩ := isOf hZ eT E
  obtain ⟨cc, kc, m1, m2, m3⟩ := M
  rw [hZ.alike.findClass] at i1
  cases i1.symm.trans m1
  obtain ⟨k', q, ek⟩ := hZ.alike.2.2 _ _ m2
  obtain ⟨vm', X', st'⟩ := X.getClassOf hx hown (mvT hZ w1) (mvT hZ w2) (notFace_of_selects (args := #[]) (mvT hZ w4)) (mvT hZ w4) (mvT hZ w5) (mvT hZ w6) (by rw [hZ.alike.findClass]; exact m1) i3 q (by rw [ek]; exact m3) (g := mkF m pc L (.ref a :: st)) rfl (hsz.trans hml.symm) rfl (hb hby hd) hf (by show 2 * 0 + _ + _ ≤ _; omega)
  exact go_st st' (r _ ⟨_, _, _, X', hF, eT, h1, h2⟩)
theorem g_callSb (C : Cx p s m meth c Z own bytes ml rt mn) (X : St p l e R s m args below meth c n0 T h k n) {as' : Array Value} {argsL : List Value} {ps : List FieldType} {rt' : Option FieldType} {k' n' W kc ks : Nat} {QL : Option Value → Heap → List Loc → Prop} {y : MethodName} {i : Nat} (hy : y.cls ≠ "java/lang/invoke/MethodHandle" ∧ y.cls ≠ "java/lang/invoke/VarHandle") (w1 : (Cond.methodLink own i y).before a0 Z = true) (w2 : (Cond.static y).before a0 Z = true) {bts : ByteArray} {mxl : Nat} {rty : Option FieldType} (w8 : (Cond.code y bts mxl rty).before a0 Z = true) (w9 : (Cond.initialized y.cls).before a0 Z = true) (bk : Back l R p e below s args y 3 W (fun A a => a = as' ∧ A.U.heap = h ∧ A.cells + kc ≤ R.cells ∧ A.slots + ks ≤ R.slots) (fun A _ v B => ∃ L, QL v B.U.heap L ∧ B.locs = A.locs ++ L ∧ B.cells = A.cells + kc ∧ B.slots = A.slots + ks)) (hk : k + kc = k') (hn : n + ks = n') (hkR : k' ≤ R.cells) (hnR : n' ≤ R.slots) (hsz : L.size = ml) (hdd : parseMethodDescriptor y.desc = some ⟨ps, rt'⟩) (hlen : argsL.length = ps.length) (hst : st = argsL.reverse ++ rest) (has : argsL.toArray = as') (hW : (rest.map fun v => v.category).sum = W) (hd : decode bytes pc = .ok (.invokestatic i, 3)) (hq : pc + 3 = q)
    (r : ∀ v T' h' L', St p l e R s m args below meth c n0 T' h' k' n' ∨ ¬ Fr n0 L' → QL v h' L' → Goes p e below G (T'.setTop (mkF m q L (v.toList ++ rest)))) : Goes p e below G (T.setTop (mkF m pc L st)) := by
  obtain ⟨hx, hZ, hown, hby, hml, -⟩ := C
  obtain ⟨_, cells, slots, X, hF, eT, h1, h2⟩ := X
  subst hq hk hn has hst hW
  obtain ⟨_, _, ⟨T', Lo, kk, nn⟩, -, X', ⟨Lc, hQ, q1, q2, q3⟩, st'⟩ := Jvm.LawKit.callS X hx hown (mvT hZ w1) (mvT hZ w2) (mvT hZ w9) (mvT hZ w8) hy bk (g := mkF m pc L (argsL.reverse ++ rest)) rfl (hsz.trans hml.symm) (argsL := argsL) (rest := rest) (lenOf hdd hlen) rfl (by show 2 * 0 + _ ≤ _; omega) (hb hby hd) (fun _ _ => ⟨rfl, eT, Nat.le_trans (Nat.add_le_add_right h1 _) hkR, Nat.le_trans (Nat.add_le_add_right h2 _) hnR⟩)
  dsimp only [Pt.U, Pt.locs, Pt.cells, Pt.slots] at X' q1 q2 q3 st' hQ
  subst q1 q2 q3
  refine go_st st' (r _ T' _ Lc ?_ hQ)
  by_cases hFr : Fr n0 Lc
  · exact Or.inl ⟨_, _, _, X', Fr.app hF hFr, rfl, Nat.add_le_add_right h1 _, Nat.add_le_add_right h2 _⟩
  · exact Or.inr hFr
theorem g_callS1 (C : Cx p s m meth c Z own bytes ml rt mn) (X : St p l e R s m args below meth c n0 T h k n) {rm : Room} {as' : Array Value} {bts : ByteArray} {mxl : Nat} {rty : Option FieldType} {argsL : List Value} {ps : List FieldType} {rt' : Option FieldType} {k' n' W : Nat} {Q : Value → Heap → Prop} {y : MethodName} {i : Nat} (hy : y.cls ≠ "java/lang/invoke/MethodHandle" ∧ y.cls ≠ "java/lang/invoke/VarHandle") (w1 : (Cond.methodLink own i y).before a0 Z = true) (w2 : (Cond.static y).before a0 Z = true) (w8 : (Cond.code y bts mxl rty).before a0 Z = true) (w9 : (Cond.initialized y.cls).before a0 Z = true) (hM : Met1 l Z y bts mxl rty rm as' h n0 Q) (hf : rm.frames + 1 ≤ R.frames) (hl : W + (mxl + 11) + rm.locals ≤ R.locals) (hk : k + rm.cells = k') (hn : n + rm.slots = n') (hkR : k' ≤ R.cells) (hnR : n' ≤ R.slots) (hsz : L.size = ml) (hdd : parseMethodDescriptor y.desc = some ⟨ps, rt'⟩) (hlen : argsL.length = ps.length) (hst : st = argsL.reverse ++ rest) (has : argsL.toArray = as') (hW : (rest.map fun v => v.category).sum = W) (hd : decode bytes pc = .ok (.invokestatic i, 3)) (hq : pc + 3 = q)
    (r : ∀ w T' h', St p l e R s m args below meth c n0 T' h' k' n' → Q w h' → Goes p e below G (T'.setTop (mkF m q L (w :: rest)))) : Goes p e below G (T.setTop (mkF m pc L st)) := by
  have bk := backOf (Q := fun v h L => Fr n0 L ∧ (∃ w, v = some w ∧ Q w h)) (R := R) (p := p) (e := e) (below := below) (s := s) (args := args) (len := 3) (W := W) (hM []) C.2.1 w8 w9 hf hl
  refine g_callSb C X (QL := fun v h L => Fr n0 L ∧ (∃ w, v = some w ∧ Q w h)) hy w1 w2 w8 w9 bk hk hn hkR hnR hsz hdd hlen hst has hW hd hq ?_
  rintro v T' h' L' hX ⟨hFr, hQ⟩
  obtain ⟨w, rfl, hQ⟩ := hQ
  exact r w T' h' (hX.resolve_right fun z => z hFr) hQ
theorem g_callS0 (C : Cx p s m meth c Z own bytes ml rt mn) (X : St p l e R s m args below meth c n0 T h k n) {rm : Room} {as' : Array Value} {bts : ByteArray} {mxl : Nat} {rty : Option FieldType} {argsL : List Value} {ps : List FieldType} {rt' : Option FieldType} {k' n' W : Nat} {Q : Heap → Prop} {y : MethodName} {i : Nat} (hy : y.cls ≠ "java/lang/invoke/MethodHandle" ∧ y.cls ≠ "java/lang/invoke/VarHandle") (w1 : (Cond.methodLink own i y).before a0 Z = true) (w2 : (Cond.static y).before a0 Z = true) (w8 : (Cond.code y bts mxl rty).before a0 Z = true) (w9 : (Cond.initialized y.cls).before a0 Z = true) (hM : Met0 l Z y bts mxl rty rm as' h n0 Q) (hf : rm.frames + 1 ≤ R.frames) (hl : W + (mxl + 11) + rm.locals ≤ R.locals) (hk : k + rm.cells = k') (hn : n + rm.slots = n') (hkR : k' ≤ R.cells) (hnR : n' ≤ R.slots) (hsz : L.size = ml) (hdd : parseMethodDescriptor y.desc = some ⟨ps, rt'⟩) (hlen : argsL.length = ps.length) (hst : st = argsL.reverse ++ rest) (has : argsL.toArray = as') (hW : (rest.map fun v => v.category).sum = W) (hd : decode bytes pc = .ok (.invokestatic i, 3)) (hq : pc + 3 = q)
    (r : ∀ T' h', St p l e R s m args below meth c n0 T' h' k' n' → Q h' → Goes p e below G (T'.setTop (mkF m q L rest))) : Goes p e below G (T.setTop (mkF m pc L st)) := by
  have bk := backOf (Q := fun v h L => Fr n0 L ∧ (v = none ∧ Q h)) (R := R) (p := p) (e := e) (below := below) (s := s) (args := args) (len := 3) (W := W) (hM []) C.2.1 w8 w9 hf hl
  refine g_callSb C X (QL := fun v h L => Fr n0 L ∧ (v = none ∧ Q h)) hy w1 w2 w8 w9 bk hk hn hkR hnR hsz hdd hlen hst has hW hd hq ?_
  rintro v T' h' L' hX ⟨hFr, hQ⟩
  obtain ⟨rfl, hQ⟩ := hQ
  exact r T' h' (hX.resolve_right fun z => z hFr) hQ
theorem g_callIb (C : Cx p s m meth c Z own bytes ml rt mn) (X : St p l e R s m args below meth c n0 T h k n) {as' : Array Value} {argsL : List Value} {ps : List FieldType} {rt' : Option FieldType} {k' n' W kc ks : Nat} {QL : Option Value → Heap → List Loc → Prop} {y : MethodName} {i : Nat} {a : Addr} (hy : y.cls ≠ "java/lang/invoke/MethodHandle" ∧ y.cls ≠ "java/lang/invoke/VarHandle") (hy1 : y.name = "<init>") (w1 : (Cond.methodLink own i y).before a0 Z = true) (w2 : (Cond.instanceMethod y).before a0 Z = true) {bts : ByteArray} {mxl : Nat} (w8 : (Cond.code y bts mxl none).before a0 Z = true) (bk : Back l R p e below s args y 3 W (fun A a => a = as' ∧ A.U.heap = h ∧ A.cells + kc ≤ R.cells ∧ A.slots + ks ≤ R.slots) (fun A _ v B => ∃ L, QL v B.U.heap L ∧ B.locs = A.locs ++ L ∧ B.cells = A.cells + kc ∧ B.slots = A.slots + ks)) (hk : k + kc = k') (hn : n + ks = n') (hkR : k' ≤ R.cells) (hnR : n' ≤ R.slots) (hsz : L.size = ml) (hdd : parseMethodDescriptor y.desc = some ⟨ps, rt'⟩) (hlen : argsL.length = ps.length) (hst : st = argsL.reverse ++ .ref a :: rest) (has : (.ref a :: argsL).toArray = as') (hW : (rest.map fun v => v.category).sum = W) (hd : decode bytes pc = .ok (.invokespecial i, 3)) (hq : pc + 3 = q)
    (r : ∀ v T' h' L', St p l e R s m args below meth c n0 T' h' k' n' ∨ ¬ Fr n0 L' → QL v h' L' → Goes p e below G (T'.setTop (mkF m q L (v.toList ++ rest)))) : Goes p e below G (T.setTop (mkF m pc L st)) := by
  obtain ⟨hx, hZ, hown, hby, hml, -⟩ := C
  obtain ⟨_, cells, slots, X, hF, eT, h1, h2⟩ := X
  subst hq hk hn has hst hW
  obtain ⟨_, _, ⟨T', Lo, kk, nn⟩, -, X', ⟨Lc, hQ, q1, q2, q3⟩, st'⟩ := X.specialBack hx hy1 hown (mvT hZ w1) (mvT hZ w2) (mvT hZ w8) hy bk (g := mkF m pc L (argsL.reverse ++ .ref a :: rest)) rfl (hsz.trans hml.symm) (Steps.refl _) (a := a) (argsL := argsL) (rest := rest) (lenOf hdd hlen) rfl (by show 2 * 0 + _ ≤ _; omega) (hb hby hd) (fun _ _ => ⟨rfl, eT, Nat.le_trans (Nat.add_le_add_right h1 _) hkR, Nat.le_trans (Nat.add_le_add_right h2 _) hnR⟩)
  dsimp only [Pt.U, Pt.locs, Pt.cells, Pt.slots] at X' q1 q2 q3 st' hQ
  subst q1 q2 q3
  refine go_tr st' (r _ T' _ Lc ?_ hQ)
  by_cases hFr : Fr n0 Lc
  · exact Or.inl ⟨_, _, _, X', Fr.app hF hFr, rfl, Nat.add_le_add_right h1 _, Nat.add_le_add_right h2 _⟩
  · exact Or.inr hFr
theorem g_callI0 (C : Cx p s m meth c Z own bytes ml rt mn) (X : St p l e R s m args below meth c n0 T h k n) {rm : Room} {as' : Array Value} {bts : ByteArray} {mxl : Nat} {argsL : List Value} {ps : List FieldType} {rt' : Option FieldType} {k' n' W : Nat} {Q : Heap → Prop} {y : MethodName} {i : Nat} {a : Addr} (hy : y.cls ≠ "java/lang/invoke/MethodHandle" ∧ y.cls ≠ "java/lang/invoke/VarHandle") (hy1 : y.name = "<init>") (w1 : (Cond.methodLink own i y).before a0 Z = true) (w2 : (Cond.instanceMethod y).before a0 Z = true) (w8 : (Cond.code y bts mxl none).before a0 Z = true) (w9 : (Cond.initialized y.cls).before a0 Z = true) (hM : Met0 l Z y bts mxl none rm as' h n0 Q) (hf : rm.frames + 1 ≤ R.frames) (hl : W + (mxl + 11) + rm.locals ≤ R.locals) (hk : k + rm.cells = k') (hn : n + rm.slots = n') (hkR : k' ≤ R.cells) (hnR : n' ≤ R.slots) (hsz : L.size = ml) (hdd : parseMethodDescriptor y.desc = some ⟨ps, rt'⟩) (hlen : argsL.length = ps.length) (hst : st = argsL.reverse ++ .ref a :: rest) (has : (.ref a :: argsL).toArray = as') (hW : (rest.map fun v => v.category).sum = W) (hd : decode bytes pc = .ok (.invokespecial i, 3)) (hq : pc + 3 = q)
    (r : ∀ T' h', St p l e R s m args below meth c n0 T' h' k' n' → Q h' → Goes p e below G (T'.setTop (mkF m q L rest))) : Goes p e below G (T.setTop (mkF m pc L st)) := by
  have bk := backOf (Q := fun v h L => Fr n0 L ∧ (v = none ∧ Q h)) (R := R) (p := p) (e := e) (below := below) (s := s) (args := args) (len := 3) (W := W) (hM []) C.2.1 w8 w9 hf hl
  refine g_callIb C X (QL := fun v h L => Fr n0 L ∧ (v = none ∧ Q h)) hy hy1 w1 w2 w8 bk hk hn hkR hnR hsz hdd hlen hst has hW hd hq ?_
  rintro v T' h' L' hX ⟨hFr, hQ⟩
  obtain ⟨rfl, hQ⟩ := hQ
  exact r T' h' (hX.resolve_right fun z => z hFr) hQ
theorem g_callVb (C : Cx p s m meth c Z own bytes ml rt mn) (X : St p l e R s m args below meth c n0 T h k n) {as' : Array Value} {argsL : List Value} {ps : List FieldType} {rt' : Option FieldType} {k' n' W kc ks : Nat} {QL : Option Value → Heap → List Loc → Prop} {y z : MethodName} {i : Nat} {a : Addr} {K : String} (hy : y.cls ≠ "java/lang/invoke/MethodHandle" ∧ y.cls ≠ "java/lang/invoke/VarHandle") (w1 : (Cond.methodLink own i y).before a0 Z = true) (w2 : (Cond.declares y).before a0 Z = true) (w3 : (Cond.selects K y z).before a0 Z = true) (w4 : (Cond.instanceMethod z).before a0 Z = true) (hnf : ∀ s' : State, Z.Warmed39 s'.vm → NotFace s' y) (E : Exa Z h a K) (bk : Back l R p e below s args z 3 W (fun A a => a = as' ∧ A.U.heap = h ∧ A.cells + kc ≤ R.cells ∧ A.slots + ks ≤ R.slots) (fun A _ v B => ∃ L, QL v B.U.heap L ∧ B.locs = A.locs ++ L ∧ B.cells = A.cells + kc ∧ B.slots = A.slots + ks)) (hk : k + kc = k') (hn : n + ks = n') (hkR : k' ≤ R.cells) (hnR : n' ≤ R.slots) (hsz : L.size = ml) (hdd : parseMethodDescriptor y.desc = some ⟨ps, rt'⟩) (hlen : argsL.length = ps.length) (hst : st = argsL.reverse ++ .ref a :: rest) (has : (.ref a :: argsL).toArray = as') (hW : (rest.map fun v => v.category).sum = W) (hd : decode bytes pc = .ok (.invokevirtual i, 3)) (hq : pc + 3 = q)
    (r : ∀ v T' h' L', St p l e R s m args below meth c n0 T' h' k' n' ∨ ¬ Fr n0 L' → QL v h' L' → Goes p e below G (T'.setTop (mkF m q L (v.toList ++ rest)))) : Goes p e below G (T.setTop (mkF m pc L st)) := by
  obtain ⟨hx, hZ, hown, hby, hml, -⟩ := C
  obtain ⟨_, cells, slots, X, hF, eT, h1, h2⟩ := X
  subst hq hk hn has hst hW
  obtain ⟨cB, kB, qa, qb, qc⟩ := isOf hZ eT E
  obtain ⟨_, _, ⟨T', Lo, kk, nn⟩, -, X', ⟨Lc, hQ, q1, q2, q3⟩, st'⟩ := X.virtualBack hx hown (mvT hZ w1) (mvT hZ w2) (hnf s hZ) (mvT hZ w3) (mvT hZ w4) hy bk qa qc (g := mkF m pc L (argsL.reverse ++ .ref a :: rest)) rfl (hsz.trans hml.symm) (Steps.refl _) (argsL := argsL) (rest := rest) (lenOf hdd hlen) rfl (by show 2 * 0 + _ ≤ _; omega) (hb hby hd) (fun _ _ => ⟨rfl, eT, Nat.le_trans (Nat.add_le_add_right h1 _) hkR, Nat.le_trans (Nat.add_le_add_right h2 _) hnR⟩)
  dsimp only [Pt.U, Pt.locs, Pt.cells, Pt.slots] at X' q1 q2 q3 st' hQ
  subst q1 q2 q3
  refine go_tr st' (r _ T' _ Lc ?_ hQ)
  by_cases hFr : Fr n0 Lc
  · exact Or.inl ⟨_, _, _, X', Fr.app hF hFr, rfl, Nat.add_le_add_right h1 _, Nat.add_le_add_right h2 _⟩
  · exact Or.inr hFr
theorem g_callV1 (C : Cx p s m meth c Z own bytes ml rt mn) (X : St p l e R s m args below meth c n0 T h k n) {rm : Room} {as' : Array Value} {bts : ByteArray} {mxl : Nat} {rty : Option FieldType} {argsL : List Value} {ps : List FieldType} {rt' : Option FieldType} {k' n' W : Nat} {Q : Value → Heap → Prop} {y z : MethodName} {i : Nat} {a : Addr} {K : String} (hy : y.cls ≠ "java/lang/invoke/MethodHandle" ∧ y.cls ≠ "java/lang/invoke/VarHandle") (w1 : (Cond.methodLink own i y).before a0 Z = true) (w2 : (Cond.declares y).before a0 Z = true) (w3 : (Cond.selects K y z).before a0 Z = true) (w4 : (Cond.instanceMethod z).before a0 Z = true) (hnf : ∀ s' : State, Z.Warmed39 s'.vm → NotFace s' y) (E : Exa Z h a K) (w8 : (Cond.code z bts mxl rty).before a0 Z = true) (w9 : (Cond.initialized z.cls).before a0 Z = true) (hM : Met1 l Z z bts mxl rty rm as' h n0 Q) (hf : rm.frames + 1 ≤ R.frames) (hl : W + (mxl + 11) + rm.locals ≤ R.locals) (hk : k + rm.cells = k') (hn : n + rm.slots = n') (hkR : k' ≤ R.cells) (hnR : n' ≤ R.slots) (hsz : L.size = ml) (hdd : parseMethodDescriptor y.desc = some ⟨ps, rt'⟩) (hlen : argsL.length = ps.length) (hst : st = argsL.reverse ++ .ref a :: rest) (has : (.ref a :: argsL).toArray = as') (hW : (rest.map fun v => v.category).sum = W) (hd : decode bytes pc = .ok (.invokevirtual i, 3)) (hq : pc + 3 = q)
    (r : ∀ w T' h', St p l e R s m args below meth c n0 T' h' k' n' → Q w h' → Goes p e below G (T'.setTop (mkF m q L (w :: rest)))) : Goes p e below G (T.setTop (mkF m pc L st)) := by
  have bk := backOf (Q := fun v h L => Fr n0 L ∧ (∃ w, v = some w ∧ Q w h)) (R := R) (p := p) (e := e) (below := below) (s := s) (args := args) (len := 3) (W := W) (hM []) C.2.1 w8 w9 hf hl
  refine g_callVb C X (QL := fun v h L => Fr n0 L ∧ (∃ w, v = some w ∧ Q w h)) hy w1 w2 w3 w4 hnf E bk hk hn hkR hnR hsz hdd hlen hst has hW hd hq ?_
  rintro v T' h' L' hX ⟨hFr, hQ⟩
  obtain ⟨w, rfl, hQ⟩ := hQ
  exact r w T' h' (hX.resolve_right fun z => z hFr) hQ
theorem g_callV0 (C : Cx p s m meth c Z own bytes ml rt mn) (X : St p l e R s m args below meth c n0 T h k n) {rm : Room} {as' : Array Value} {bts : ByteArray} {mxl : Nat} {rty : Option FieldType} {argsL : List Value} {ps : List FieldType} {rt' : Option FieldType} {k' n' W : Nat} {Q : Heap → Prop} {y z : MethodName} {i : Nat} {a : Addr} {K : String} (hy : y.cls ≠ "java/lang/invoke/MethodHandle" ∧ y.cls ≠ "java/lang/invoke/VarHandle") (w1 : (Cond.methodLink own i y).before a0 Z = true) (w2 : (Cond.declares y).before a0 Z = true) (w3 : (Cond.selects K y z).before a0 Z = true) (w4 : (Cond.instanceMethod z).before a0 Z = true) (hnf : ∀ s' : State, Z.Warmed39 s'.vm → NotFace s' y) (E : Exa Z h a K) (w8 : (Cond.code z bts mxl rty).before a0 Z = true) (w9 : (Cond.initialized z.cls).before a0 Z = true) (hM : Met0 l Z z bts mxl rty rm as' h n0 Q) (hf : rm.frames + 1 ≤ R.frames) (hl : W + (mxl + 11) + rm.locals ≤ R.locals) (hk : k + rm.cells = k') (hn : n + rm.slots = n') (hkR : k' ≤ R.cells) (hnR : n' ≤ R.slots) (hsz : L.size = ml) (hdd : parseMethodDescriptor y.desc = some ⟨ps, rt'⟩) (hlen : argsL.length = ps.length) (hst : st = argsL.reverse ++ .ref a :: rest) (has : (.ref a :: argsL).toArray = as') (hW : (rest.map fun v => v.category).sum = W) (hd : decode bytes pc = .ok (.invokevirtual i, 3)) (hq : pc + 3 = q)
    (r : ∀ T' h', St p l e R s m args below meth c n0 T' h' k' n' → Q h' → Goes p e below G (T'.setTop (mkF m q L rest))) : Goes p e below G (T.setTop (mkF m pc L st)) := by
  have bk := backOf (Q := fun v h L => Fr n0 L ∧ (v = none ∧ Q h)) (R := R) (p := p) (e := e) (below := below) (s := s) (args := args) (len := 3) (W := W) (hM []) C.2.1 w8 w9 hf hl
  refine g_callVb C X (QL := fun v h L => Fr n0 L ∧ (v = none ∧ Q h)) hy w1 w2 w3 w4 hnf E bk hk hn hkR hnR hsz hdd hlen hst has hW hd hq ?_
  rintro v T' h' L' hX ⟨hFr, hQ⟩
  obtain ⟨rfl, hQ⟩ := hQ
  exact r T' h' (hX.resolve_right fun z => z hFr) hQ
theorem g_callUb (C : Cx p s m meth c Z own bytes ml rt mn) (X : St p l e R s m args below meth c n0 T h k n) {as' : Array Value} {argsL : List Value} {ps : List FieldType} {rt' : Option FieldType} {k' n' W kc ks : Nat} {QL : Option Value → Heap → List Loc → Prop} {y z : MethodName} {i : Nat} {a : Addr} {K owner : String} (hy : owner ≠ "java/lang/invoke/MethodHandle" ∧ owner ≠ "java/lang/invoke/VarHandle") (w1 : (Cond.methodLink own i y).before a0 Z = true) (w2 : (Cond.sameMethod y.cls owner y.name y.desc).before a0 Z = true) (w2' : (Cond.declares ⟨owner, y.name, y.desc⟩).before a0 Z = true) (w3 : (Cond.selects K y z).before a0 Z = true) (w4 : (Cond.instanceMethod z).before a0 Z = true) (E : Exa Z h a K) (bk : Back l R p e below s args z 3 W (fun A a => a = as' ∧ A.U.heap = h ∧ A.cells + kc ≤ R.cells ∧ A.slots + ks ≤ R.slots) (fun A _ v B => ∃ L, QL v B.U.heap L ∧ B.locs = A.locs ++ L ∧ B.cells = A.cells + kc ∧ B.slots = A.slots + ks)) (hk : k + kc = k') (hn : n + ks = n') (hkR : k' ≤ R.cells) (hnR : n' ≤ R.slots) (hsz : L.size = ml) (hdd : parseMethodDescriptor y.desc = some ⟨ps, rt'⟩) (hlen : argsL.length = ps.length) (hst : st = argsL.reverse ++ .ref a :: rest) (has : (.ref a :: argsL).toArray = as') (hW : (rest.map fun v => v.category).sum = W) (hd : decode bytes pc = .ok (.invokevirtual i, 3)) (hq : pc + 3 = q)
    (r : ∀ v T' h' L', St p l e R s m args below meth c n0 T' h' k' n' ∨ ¬ Fr n0 L' → QL v h' L' → Goes p e below G (T'.setTop (mkF m q L (v.toList ++ rest)))) : Goes p e below G (T.setTop (mkF m pc L st)) := by
  obtain ⟨hx, hZ, hown, hby, hml, -⟩ := C
  obtain ⟨_, cells, slots, X, hF, eT, h1, h2⟩ := X
  subst hq hk hn has hst hW
  obtain ⟨cB, kB, qa, qb, qc⟩ := isOf hZ eT E
  obtain ⟨_, _, ⟨T', Lo, kk, nn⟩, -, X', ⟨Lc, hQ, q1, q2, q3⟩, st'⟩ := X.virtualBackUp hx hown (mvT hZ w1) (mvT hZ w2) (mvT hZ w2') hy (mvT hZ w3) (mvT hZ w4) bk qa qc (g := mkF m pc L (argsL.reverse ++ .ref a :: rest)) rfl (hsz.trans hml.symm) (Steps.refl _) (argsL := argsL) (rest := rest) (lenOf hdd hlen) rfl (by show 2 * 0 + _ ≤ _; omega) (hb hby hd) (fun _ _ => ⟨rfl, eT, Nat.le_trans (Nat.add_le_add_right h1 _) hkR, Nat.le_trans (Nat.add_le_add_right h2 _) hnR⟩)
  dsimp only [Pt.U, Pt.locs, Pt.cells, Pt.slots] at X' q1 q2 q3 st' hQ
  subst q1 q2 q3
  refine go_tr st' (r _ T' _ Lc ?_ hQ)
  by_cases hFr : Fr n0 Lc
  · exact Or.inl ⟨_, _, _, X', Fr.app hF hFr, rfl, Nat.add_le_add_right h1 _, Nat.add_le_add_right h2 _⟩
  · exact Or.inr hFr
theorem g_callU1 (C : Cx p s m meth c Z own bytes ml rt mn) (X : St p l e R s m args below meth c n0 T h k n) {rm : Room} {as' : Array Value} {bts : ByteArray} {mxl : Nat} {rty : Option FieldType} {argsL : List Value} {ps : List FieldType} {rt' : Option FieldType} {k' n' W : Nat} {Q : Value → Heap → Prop} {y z : MethodName} {i : Nat} {a : Addr} {K owner : String} (hy : owner ≠ "java/lang/invoke/MethodHandle" ∧ owner ≠ "java/lang/invoke/VarHandle") (w1 : (Cond.methodLink own i y).before a0 Z = true) (w2 : (Cond.sameMethod y.cls owner y.name y.desc).before a0 Z = true) (w2' : (Cond.declares ⟨owner, y.name, y.desc⟩).before a0 Z = true) (w3 : (Cond.selects K y z).before a0 Z = true) (w4 : (Cond.instanceMethod z).before a0 Z = true) (E : Exa Z h a K) (w8 : (Cond.code z bts mxl rty).before a0 Z = true) (w9 : (Cond.initialized z.cls).before a0 Z = true) (hM : Met1 l Z z bts mxl rty rm as' h n0 Q) (hf : rm.frames + 1 ≤ R.frames) (hl : W + (mxl + 11) + rm.locals ≤ R.locals) (hk : k + rm.cells = k') (hn : n + rm.slots = n') (hkR : k' ≤ R.cells) (hnR : n' ≤ R.slots) (hsz : L.size = ml) (hdd : parseMethodDescriptor y.desc = some ⟨ps, rt'⟩) (hlen : argsL.length = ps.length) (hst : st = argsL.reverse ++ .ref a :: rest) (has : (.ref a :: argsL).toArray = as') (hW : (rest.map fun v => v.category).sum = W) (hd : decode bytes pc = .ok (.invokevirtual i, 3)) (hq : pc + 3 = q)
    (r : ∀ w T' h', St p l e R s m args below meth c n0 T' h' k' n' → Q w h' → Goes p e below G (T'.setTop (mkF m q L (w :: rest)))) : Goes p e below G (T.setTop (mkF m pc L st)) := by
  have bk := backOf (Q := fun v h L => Fr n0 L ∧ (∃ w, v = some w ∧ Q w h)) (R := R) (p := p) (e := e) (below := below) (s := s) (args := args) (len := 3) (W := W) (hM []) C.2.1 w8 w9 hf hl
  refine g_callUb C X (QL := fun v h L => Fr n0 L ∧ (∃ w, v = some w ∧ Q w h)) hy w1 w2 w2' w3 w4 E bk hk hn hkR hnR hsz hdd hlen hst has hW hd hq ?_
  rintro v T' h' L' hX ⟨hFr, hQ⟩
  obtain ⟨w, rfl, hQ⟩ := hQ
  exact r w T' h' (hX.resolve_right fun z => z hFr) hQ
theorem g_callU0 (C : Cx p s m meth c Z own bytes ml rt mn) (X : St p l e R s m args below meth c n0 T h k n) {rm : Room} {as' : Array Value} {bts : ByteArray} {mxl : Nat} {rty : Option FieldType} {argsL : List Value} {ps : List FieldType} {rt' : Option FieldType} {k' n' W : Nat} {Q : Heap → Prop} {y z : MethodName} {i : Nat} {a : Addr} {K owner : String} (hy : owner ≠ "java/lang/invoke/MethodHandle" ∧ owner ≠ "java/lang/invoke/VarHandle") (w1 : (Cond.methodLink own i y).before a0 Z = true) (w2 : (Cond.sameMethod y.cls owner y.name y.desc).before a0 Z = true) (w2' : (Cond.declares ⟨owner, y.name, y.desc⟩).before a0 Z = true) (w3 : (Cond.selects K y z).before a0 Z = true) (w4 : (Cond.instanceMethod z).before a0 Z = true) (E : Exa Z h a K) (w8 : (Cond.code z bts mxl rty).before a0 Z = true) (w9 : (Cond.initialized z.cls).before a0 Z = true) (hM : Met0 l Z z bts mxl rty rm as' h n0 Q) (hf : rm.frames + 1 ≤ R.frames) (hl : W + (mxl + 11) + rm.locals ≤ R.locals) (hk : k + rm.cells = k') (hn : n + rm.slots = n') (hkR : k' ≤ R.cells) (hnR : n' ≤ R.slots) (hsz : L.size = ml) (hdd : parseMethodDescriptor y.desc = some ⟨ps, rt'⟩) (hlen : argsL.length = ps.length) (hst : st = argsL.reverse ++ .ref a :: rest) (has : (.ref a :: argsL).toArray = as') (hW : (rest.map fun v => v.category).sum = W) (hd : decode bytes pc = .ok (.invokevirtual i, 3)) (hq : pc + 3 = q)
    (r : ∀ T' h', St p l e R s m args below meth c n0 T' h' k' n' → Q h' → Goes p e below G (T'.setTop (mkF m q L rest))) : Goes p e below G (T.setTop (mkF m pc L st)) := by
  have bk := backOf (Q := fun v h L => Fr n0 L ∧ (v = none ∧ Q h)) (R := R) (p := p) (e := e) (below := below) (s := s) (args := args) (len := 3) (W := W) (hM []) C.2.1 w8 w9 hf hl
  refine g_callUb C X (QL := fun v h L => Fr n0 L ∧ (v = none ∧ Q h)) hy w1 w2 w2' w3 w4 E bk hk hn hkR hnR hsz hdd hlen hst has hW hd hq ?_
  rintro v T' h' L' hX ⟨hFr, hQ⟩
  obtain ⟨rfl, hQ⟩ := hQ
  exact r T' h' (hX.resolve_right fun z => z hFr) hQ
theorem g_callPb (C : Cx p s m meth c Z own bytes ml rt mn) (X : St p l e R s m args below meth c n0 T h k n) {as' : Array Value} {argsL : List Value} {ps : List FieldType} {rt' : Option FieldType} {k' n' W kc ks : Nat} {QL : Option Value → Heap → List Loc → Prop} {y : MethodName} {i : Nat} {a : Addr} {K : String} (hy : y.cls ≠ "java/lang/invoke/MethodHandle" ∧ y.cls ≠ "java/lang/invoke/VarHandle") (w1 : (Cond.methodLink own i y).before a0 Z = true) (w3 : (Cond.selects y.cls y y).before a0 Z = true) (w4 : (Cond.instanceMethod y).before a0 Z = true) (w5 : (Cond.privateMethod y).before a0 Z = true) (E : Exa Z h a K) {bts : ByteArray} {mxl : Nat} {rty : Option FieldType} (w8 : (Cond.code y bts mxl rty).before a0 Z = true) (bk : Back l R p e below s args y 3 W (fun A a => a = as' ∧ A.U.heap = h ∧ A.cells + kc ≤ R.cells ∧ A.slots + ks ≤ R.slots) (fun A _ v B => ∃ L, QL v B.U.heap L ∧ B.locs = A.locs ++ L ∧ B.cells = A.cells + kc ∧ B.slots = A.slots + ks)) (hk : k + kc = k') (hn : n + ks = n') (hkR : k' ≤ R.cells) (hnR : n' ≤ R.slots) (hsz : L.size = ml) (hdd : parseMethodDescriptor y.desc = some ⟨ps, rt'⟩) (hlen : argsL.length = ps.length) (hst : st = argsL.reverse ++ .ref a :: rest) (has : (.ref a :: argsL).toArray = as') (hW : (rest.map fun v => v.category).sum = W) (hd : decode bytes pc = .ok (.invokevirtual i, 3)) (hq : pc + 3 = q)
    (r : ∀ v T' h' L', St p l e R s m args below meth c n0 T' h' k' n' ∨ ¬ Fr n0 L' → QL v h' L' → Goes p e below G (T'.setTop (mkF m q L (v.toList ++ rest)))) : Goes p e below G (T.setTop (mkF m pc L st)) := by
  obtain ⟨hx, hZ, hown, hby, hml, -⟩ := C
  obtain ⟨_, cells, slots, X, hF, eT, h1, h2⟩ := X
  subst hq hk hn has hst hW
  obtain ⟨cq, qa, qb⟩ := E.cell
  obtain ⟨_, _, ⟨T', Lo, kk, nn⟩, -, X', ⟨Lc, hQ, q1, q2, q3⟩, st'⟩ := X.privateBack hx hown (mvT hZ w1) (mvT hZ w4) (mvT hZ w3) (Cond.privateMethod_at (mvP hZ w5 (args := #[]))) (mvT hZ w8) hy bk (g := mkF m pc L (argsL.reverse ++ .ref a :: rest)) rfl (hsz.trans hml.symm) (Steps.refl _) (a := a) (by rw [eT]; exact qa) qb (argsL := argsL) (rest := rest) (lenOf hdd hlen) rfl (by show 2 * 0 + _ ≤ _; omega) (hb hby hd) (fun _ _ => ⟨rfl, eT, Nat.le_trans (Nat.add_le_add_right h1 _) hkR, Nat.le_trans (Nat.add_le_add_right h2 _) hnR⟩)
  dsimp only [Pt.U, Pt.locs, Pt.cells, Pt.slots] at X' q1 q2 q3 st' hQ
  subst q1 q2 q3
  refine go_tr st' (r _ T' _ Lc ?_ hQ)
  by_cases hFr : Fr n0 Lc
  · exact Or.inl ⟨_, _, _, X', Fr.app hF hFr, rfl, Nat.add_le_add_right h1 _, Nat.add_le_add_right h2 _⟩
  · exact Or.inr hFr
theorem g_callP1 (C : Cx p s m meth c Z own bytes ml rt mn) (X : St p l e R s m args below meth c n0 T h k n) {rm : Room} {as' : Array Value} {bts : ByteArray} {mxl : Nat} {rty : Option FieldType} {argsL : List Value} {ps : List FieldType} {rt' : Option FieldType} {k' n' W : Nat} {Q : Value → Heap → Prop} {y : MethodName} {i : Nat} {a : Addr} {K : String} (hy : y.cls ≠ "java/lang/invoke/MethodHandle" ∧ y.cls ≠ "java/lang/invoke/VarHandle") (w1 : (Cond.methodLink own i y).before a0 Z = true) (w3 : (Cond.selects y.cls y y).before a0 Z = true) (w4 : (Cond.instanceMethod y).before a0 Z = true) (w5 : (Cond.privateMethod y).before a0 Z = true) (E : Exa Z h a K) (w8 : (Cond.code y bts mxl rty).before a0 Z = true) (w9 : (Cond.initialized y.cls).before a0 Z = true) (hM : Met1 l Z y bts mxl rty rm as' h n0 Q) (hf : rm.frames + 1 ≤ R.frames) (hl : W + (mxl + 11) + rm.locals ≤ R.locals) (hk : k + rm.cells = k') (hn : n + rm.slots = n') (hkR : k' ≤ R.cells) (hnR : n' ≤ R.slots) (hsz : L.size = ml) (hdd : parseMethodDescriptor y.desc = some ⟨ps, rt'⟩) (hlen : argsL.length = ps.length) (hst : st = argsL.reverse ++ .ref a :: rest) (has : (.ref a :: argsL).toArray = as') (hW : (rest.map fun v => v.category).sum = W) (hd : decode bytes pc = .ok (.invokevirtual i, 3)) (hq : pc + 3 = q)
    (r : ∀ w T' h', St p l e R s m args below meth c n0 T' h' k' n' → Q w h' → Goes p e below G (T'.setTop (mkF m q L (w :: rest)))) : Goes p e below G (T.setTop (mkF m pc L st)) := by
  have bk := backOf (Q := fun v h L => Fr n0 L ∧ (∃ w, v = some w ∧ Q w h)) (R := R) (p := p) (e := e) (below := below) (s := s) (args := args) (len := 3) (W := W) (hM []) C.2.1 w8 w9 hf hl
  refine g_callPb C X (QL := fun v h L => Fr n0 L ∧ (∃ w, v = some w ∧ Q w h)) hy w1 w3 w4 w5 E w8 bk hk hn hkR hnR hsz hdd hlen hst has hW hd hq ?_
  rintro v T' h' L' hX ⟨hFr, hQ⟩
  obtain ⟨w, rfl, hQ⟩ := hQ
  exact r w T' h' (hX.resolve_right fun z => z hFr) hQ
theorem g_callP0 (C : Cx p s m meth c Z own bytes ml rt mn) (X : St p l e R s m args below meth c n0 T h k n) {rm : Room} {as' : Array Value} {bts : ByteArray} {mxl : Nat} {rty : Option FieldType} {argsL : List Value} {ps : List FieldType} {rt' : Option FieldType} {k' n' W : Nat} {Q : Heap → Prop} {y : MethodName} {i : Nat} {a : Addr} {K : String} (hy : y.cls ≠ "java/lang/invoke/MethodHandle" ∧ y.cls ≠ "java/lang/invoke/VarHandle") (w1 : (Cond.methodLink own i y).before a0 Z = true) (w3 : (Cond.selects y.cls y y).before a0 Z = true) (w4 : (Cond.instanceMethod y).before a0 Z = true) (w5 : (Cond.privateMethod y).before a0 Z = true) (E : Exa Z h a K) (w8 : (Cond.code y bts mxl rty).before a0 Z = true) (w9 : (Cond.initialized y.cls).before a0 Z = true) (hM : Met0 l Z y bts mxl rty rm as' h n0 Q) (hf : rm.frames + 1 ≤ R.frames) (hl : W + (mxl + 11) + rm.locals ≤ R.locals) (hk : k + rm.cells = k') (hn : n + rm.slots = n') (hkR : k' ≤ R.cells) (hnR : n' ≤ R.slots) (hsz : L.size = ml) (hdd : parseMethodDescriptor y.desc = some ⟨ps, rt'⟩) (hlen : argsL.length = ps.length) (hst : st = argsL.reverse ++ .ref a :: rest) (has : (.ref a :: argsL).toArray = as') (hW : (rest.map fun v => v.category).sum = W) (hd : decode bytes pc = .ok (.invokevirtual i, 3)) (hq : pc + 3 = q)
    (r : ∀ T' h', St p l e R s m args below meth c n0 T' h' k' n' → Q h' → Goes p e below G (T'.setTop (mkF m q L rest))) : Goes p e below G (T.setTop (mkF m pc L st)) := by
  have bk := backOf (Q := fun v h L => Fr n0 L ∧ (v = none ∧ Q h)) (R := R) (p := p) (e := e) (below := below) (s := s) (args := args) (len := 3) (W := W) (hM []) C.2.1 w8 w9 hf hl
  refine g_callPb C X (QL := fun v h L => Fr n0 L ∧ (v = none ∧ Q h)) hy w1 w3 w4 w5 E w8 bk hk hn hkR hnR hsz hdd hlen hst has hW hd hq ?_
  rintro v T' h' L' hX ⟨hFr, hQ⟩
  obtain ⟨rfl, hQ⟩ := hQ
  exact r T' h' (hX.resolve_right fun z => z hFr) hQ
theorem sel_priv {y : MethodName} {kk : Nat} (wi : (Cond.instantiable y.cls kk).before a0 Z = true) (w4 : (Cond.instanceMethod y).before a0 Z = true) (w5 : (Cond.privateMethod y).before a0 Z = true) (hy : y.cls ≠ "java/lang/invoke/MethodHandle" ∧ y.cls ≠ "java/lang/invoke/VarHandle") : (Cond.selects y.cls y y).before a0 Z = true := by
  obtain ⟨c1, k1, i1, i2, -, i4, -⟩ := Cond.instantiable_spec wi
  exact Stand.selects_self_of_private i1 i2 (by simp only [Bool.or_eq_false_iff] at i4; exact i4.1) (Cond.privateMethod_at w5) w4 hy
theorem own_noInst {K O Ko : String} {nn : Nat} (wO : (Cond.noSuperclass O).before a0 Z = true) (wC : (Cond.superclass Ko O).before a0 Z = true) (wK : (Cond.instantiable K nn).before a0 Z = true) (h1 : Ko ≠ K) (h2 : O ≠ K) : ∃ c t, Z.vm.findClass Ko = some c ∧ Z.vm.findClass K = some t ∧ Z.vm.assignable c t = false := by
  obtain ⟨t, kt, g1, g2, g3, g4, -⟩ := Cond.instantiable_spec wK
  obtain ⟨o, ko, o1, o2, o3, -, -⟩ := Cond.noSuperclass_spec wO
  have neO := ids_ne o1 g1 h2
  have nO : NS Z O K := ⟨o, t, o1, g1, fun fuel => by
    cases fuel with
    | zero => rfl
    | succ f => simp [Vm.isSubclassAux, neO, o2, o3]⟩
  obtain ⟨c, t', h0, g0, n3⟩ := NS.step wC nO h1
  cases g1.symm.trans g0
  obtain ⟨p, k, kp, q1, q2, q3, q4, q5, -, q7⟩ := Cond.superclass_spec h0 wC
  have neC := ids_ne h0 g1 h1
  simp only [Bool.or_eq_false_iff] at g4
  refine ⟨c, t, h0, g1, ?_⟩
  show Z.vm.assignableAux (255 + 1) c t = false
  simp [Vm.assignableAux, neC, q2, g2, q5, g3, g4.1, Vm.isSubclass, n3]
theorem own_nb {b : Int32} {t : Bool} (h1 : t = true → b = 0) (h2 : t = false → b = 1) : nar .boolean b = b := by
  cases t
  · rw [h2 rfl]; decide
  · rw [h1 rfl]; decide
theorem nf_sel {y : MethodName} {K : String} (w : (Cond.selects K y y).before a0 Z = true) : ∀ s' : State, Z.Warmed39 s'.vm → NotFace s' y := fun s' hZ => notFace_of_selects (args := #[]) (mvT hZ w)
end OwnKit
theorem own_i32 {x y : Int32} (h : x.toInt = y.toInt) : x = y := Int32.toInt_inj.mp h
theorem own_r1 {u w : Int32} {hi : Int} (h : u.toInt ≤ hi) (hw : hi < w.toInt) : u < w := Int32.lt_iff_toInt_lt.mpr (Int.lt_of_le_of_lt h hw)
theorem own_r2 {u w : Int32} {lo : Int} (h : lo ≤ u.toInt) (hw : w.toInt ≤ lo) : ¬ u < w := fun q => by have := Int32.lt_iff_toInt_lt.mp q; omega
theorem own_r3 {u w : Int32} {lo : Int} (h : lo ≤ w.toInt) (hu : u.toInt < lo) : u < w := Int32.lt_iff_toInt_lt.mpr (by omega)
theorem own_r4 {u w : Int32} {hi : Int} (h : w.toInt ≤ hi) (hu : hi ≤ u.toInt) : ¬ u < w := fun q => by have := Int32.lt_iff_toInt_lt.mp q; omega
theorem own_r5 {u w : Int32} {lo : Int} (h : lo ≤ u.toInt) (hw : w.toInt < lo) : ¬ u = w := fun q => by subst q; omega
theorem own_r6 {u w : Int32} {hi : Int} (h : u.toInt ≤ hi) (hw : hi < w.toInt) : ¬ u = w := fun q => by subst q; omega
theorem own_f0 {u w : Int32} {z : Int} (h1 : z ≤ u.toInt) (h2 : u.toInt ≤ z) (hz : w.toInt = z) : u = w := own_i32 (by omega)
theorem own_f1 {u w : Int32} {z : Int} (h : u < w) (hz : w.toInt = z + 1) : u.toInt ≤ z := by have := Int32.lt_iff_toInt_lt.mp h; omega
theorem own_f2 {u w : Int32} {z : Int} (h : ¬ u < w) (hz : w.toInt = z) : z ≤ u.toInt := by rw [Int32.lt_iff_toInt_lt] at h; omega
theorem own_f3 {u w : Int32} {z : Int} (h : w < u) (hz : w.toInt + 1 = z) : z ≤ u.toInt := by have := Int32.lt_iff_toInt_lt.mp h; omega
theorem own_f4 {u w : Int32} {z : Int} (h : ¬ w < u) (hz : w.toInt = z) : u.toInt ≤ z := by rw [Int32.lt_iff_toInt_lt] at h; omega
theorem own_f5 {u w : Int32} {z lo : Int} (h : ¬ u = w) (hl : lo ≤ u.toInt) (hz : w.toInt = lo ∧ z = lo + 1) : z ≤ u.toInt := by
  have : u.toInt ≠ w.toInt := fun q => h (own_i32 q)
  omega
theorem own_f6 {u w : Int32} {z hi : Int} (h : ¬ u = w) (hl : u.toInt ≤ hi) (hz : w.toInt = hi ∧ z = hi - 1) : u.toInt ≤ z := by
  have : u.toInt ≠ w.toInt := fun q => h (own_i32 q)
  omega
theorem own_i2c {v : Int32} {lo hi : Int} (h1 : lo ≤ v.toInt) (h2 : v.toInt ≤ hi) (h3 : 0 ≤ lo) (h4 : hi ≤ 65535) : v.toUInt32.toUInt16.toUInt32.toInt32 = v := by
  have h := c_i2c v
  apply own_i32
  omega
theorem own_narC {v : Int32} {lo hi : Int} (h1 : lo ≤ v.toInt) (h2 : v.toInt ≤ hi) (h3 : 0 ≤ lo) (h4 : hi ≤ 65535) : nar .char v = v := own_i2c h1 h2 h3 h4
theorem own_ch {v : Int32} {lo hi : Int} (h1 : lo ≤ v.toInt) (h2 : v.toInt ≤ hi) (h3 : 0 ≤ lo) (h4 : hi ≤ 255) : ¬ v < 0 ∧ ¬ (255 : Int32) < v := ⟨own_r2 h1 h3, own_r4 h2 h4⟩
theorem own_rem {x y : Int32} {d : Int} (hy : y.toInt = d + 1) (hd : 0 < d + 1) (hx : 0 ≤ x.toInt) : 0 ≤ (x % y).toInt ∧ (x % y).toInt ≤ d := by
  have h := (c_irem x y (d + 1) hy).1 hx
  rw [h]
  have := Int.emod_nonneg x.toInt (show d + 1 ≠ 0 by omega)
  have := Int.emod_lt_of_pos x.toInt hd
  omega
theorem own_ne {a b : Addr} {h : Heap} (h1 : a < h.size) (h2 : b = h.size) : a ≠ b := fun q => by subst q; subst h2; exact Nat.lt_irrefl _ h1
theorem own_ge {Z : State} {n0 : Nat} {h : Heap} {a : Addr} (O : Old Z n0 h) (g : a = h.size) : n0 ≤ a := by rw [g, ← O.1]; exact O.2.1
theorem own_szO {Z : State} {n0 : Nat} {h : Heap} (O : Old Z n0 h) : n0 ≤ h.size := by rw [← O.1]; exact O.2.1
theorem own_sz {h h' : Heap} {a : Addr} (q : h.size ≤ h'.size) (g : a = h'.size) : h.size ≤ a := g ▸ q
theorem own_neO {Z : State} {n0 : Nat} {h : Heap} {a b : Addr} (q : a < Z.heap.size) (O : Old Z n0 h) (r : n0 ≤ b) : a ≠ b := O.ne q r
theorem own_sta {s : State} {args : Array Value} {C n d K : String} (h : (Jvm.Cond.exactly (.static C n d) K).value args s none s [] = some true) (hi : (Jvm.Cond.initializedFor C n d).before args s = true ∨ ((Jvm.Cond.initialized C).before args s = true ∧ (Jvm.Cond.laysStatic C n d).before args s = true)) : ∃ a, (Term.static C n d).eval args s none [] s = some (.ref a) ∧ Sta s s.heap C n d (.ref a) ∧ Exa s s.heap a K := by
  obtain ⟨a, ev⟩ := exa_v h
  exact ⟨a, ev, Sta.start ev hi, Exa.start ev h⟩
theorem own_fldI {s : State} {args : Array Value} {t : Term} {C n d : String} {v : Int32} {a : Addr} (ev : t.eval args s none [] s = some (.ref a)) (h : (Jvm.Cond.eq (.field t C n d) (.int v)).value args s none s [] = some true) : Fld s s.heap a C n d (.int v) := by
  apply Fld.start
  cases hf : s.fieldOf? a C n d with
  | none => simp [Cond.value, Term.eval, ev, hf] at h
  | some x => cases x <;> simp [Cond.value, Term.eval, ev, hf] at h; subst h; rfl
theorem own_fldN {s : State} {args : Array Value} {t : Term} {C n d : String} {a : Addr} (ev : t.eval args s none [] s = some (.ref a)) (h : (Jvm.Cond.eq (.field t C n d) .null).value args s none s [] = some true) : Fld s s.heap a C n d .null := by
  apply Fld.start
  have := null_v h
  rw [fld_at ev] at this
  exact this
theorem own_fldR {s : State} {args : Array Value} {t : Term} {C n d K : String} {a : Addr} (ev : t.eval args s none [] s = some (.ref a)) (h : (Jvm.Cond.exactly (.field t C n d) K).value args s none s [] = some true) : ∃ b, (Term.field t C n d).eval args s none [] s = some (.ref b) ∧ Fld s s.heap a C n d (.ref b) ∧ Exa s s.heap b K := by
  obtain ⟨b, e2⟩ := exa_v h
  refine ⟨b, e2, Fld.start ?_, Exa.start e2 h⟩
  rw [← fld_at ev]; exact e2
section OwnWide
variable {p : Program} {l : Launch} {e : Env} {R : Room} {s : State} {m : MethodId} {args : Array Value} {below : List Frame} {meth : Method} {c : Code} {T : State} {Z : State} {own mn : String} {bytes : ByteArray} {ml n0 k n : Nat} {rt : Option FieldType} {h h' : Heap} {G : Outcome → State → Prop} {pc q : Nat} {L : Array Slot} {st rest : List Value} {a0 : Array Value} {EL : List (String × Nat)} {vm : Vm}
def FinW (Z : State) (EL : List (String × Nat)) (Q : Option Value → Heap → Prop) (s : State) (n0 k n : Nat) (o : Outcome) (U : State) : Prop := ∃ v L, o = .returned v ∧ (Fr n0 L ∧ Q v U.heap) ∧ CHr Z EL s.vm s.heap U.vm U.heap ∧ ReturnedEndW s o U L k n
def MetW (l : Launch) (Z : State) (EL : List (String × Nat)) (y : MethodName) (bytes : ByteArray) (ml : Nat) (rt : Option FieldType) (rm : Room) (as' : Array Value) (h0 : Heap) (n0 : Nat) (Q : Option Value → Heap → Prop) : Prop :=
  ∀ ws : List Jvm.Cond, MetFree l y (head1 (Jvm.Cond.code y bytes ml rt :: ws) rm) (fun a U => a = as' ∧ Z.Warmed39 U.vm ∧ U.heap = h0 ∧ CHv Z EL U.vm h0) (fun _ _ _ _ _ => True) (fun _ U o U' => ∃ v L, o = .returned v ∧ (Fr n0 L ∧ Q v U'.heap) ∧ CHr Z EL U.vm U.heap U'.vm U'.heap ∧ ReturnedEndW U o U' L rm.cells rm.slots)
abbrev MetW1 (l : Launch) (Z : State) (EL : List (String × Nat)) (y : MethodName) (bytes : ByteArray) (ml : Nat) (rt : Option FieldType) (rm : Room) (as' : Array Value) (h0 : Heap) (n0 : Nat) (Q : Value → Heap → Prop) : Prop := MetW l Z EL y bytes ml rt rm as' h0 n0 (fun v h => ∃ w, v = some w ∧ Q w h)
abbrev MetW0 (l : Launch) (Z : State) (EL : List (String × Nat)) (y : MethodName) (bytes : ByteArray) (ml : Nat) (rt : Option FieldType) (rm : Room) (as' : Array Value) (h0 : Heap) (n0 : Nat) (Q : Heap → Prop) : Prop := MetW l Z EL y bytes ml rt rm as' h0 n0 (fun v h => v = none ∧ Q h)
/-- what a wide walk bears besides: its tables come of the start's, and what they book is said -/
def Wx (Z : State) (EL : List (String × Nat)) (s : State) (vm : Vm) (h : Heap) : Prop := (∃ k0, s.Since vm k0 ∧ k0 ≤ h.size) ∧ CHr Z EL s.vm s.heap vm h
theorem Wx.ext (Y : Wx Z EL s vm h) (E : Ext h h') : Wx Z EL s vm h' := by
  obtain ⟨⟨k0, h1, h2⟩, h3⟩ := Y
  exact ⟨⟨k0, h1, Nat.le_trans h2 E.1⟩, h3.trans (CHr.ext E h3.1)⟩
theorem Wx.wr (Y : Wx Z EL s vm h) {a : Addr} {sl : Nat} {v : Value} (W : Wr h h' a sl v) (S : Safe Z EL vm h a) : Wx Z EL s vm h' := by
  obtain ⟨⟨k0, h1, h2⟩, h3⟩ := Y
  exact ⟨⟨k0, h1, by rw [W.size]; exact h2⟩, h3.trans (CHr.wr W S h3.1)⟩
theorem Wx.keep (Y : Wx Z EL s vm h) {ws : List Addr} (K : Keep h h' ws) (S : ∀ x ∈ ws, Safe Z EL vm h x) : Wx Z EL s vm h' := by
  obtain ⟨⟨k0, h1, h2⟩, h3⟩ := Y
  exact ⟨⟨k0, h1, Nat.le_trans h2 K.1⟩, h3.trans (CHr.keep K S h3.1)⟩
theorem Wx.safe0 (Y : Wx Z EL s vm h) {x : Addr} (hx : h.size ≤ x) : Safe Z EL vm h x := Safe.new hx
theorem Wx.safeE (Y : Wx Z EL s vm h) {x : Addr} (S : Safe Z EL vm h x) (E : Ext h h') : Safe Z EL vm h' x := Safe.ext E Y.2.1 S
theorem Wx.safeW (Y : Wx Z EL s vm h) {a x : Addr} {sl : Nat} {v : Value} (S : Safe Z EL vm h x) (W : Wr h h' a sl v) (Sa : Safe Z EL vm h a) : Safe Z EL vm h' x := Safe.wr W Sa Y.2.1 S
theorem Wx.safeK (Y : Wx Z EL s vm h) {x : Addr} {ws : List Addr} (S : Safe Z EL vm h x) (K : Keep h h' ws) (Sa : ∀ x ∈ ws, Safe Z EL vm h x) : Safe Z EL vm h' x := Safe.keep K Sa Y.2.1 S
theorem Cx.alike (C : Cx p (s.setVm vm) m meth c Z own bytes ml rt mn) : Z.vm.Alike vm := C.2.1.alike
theorem metW_of {y : MethodName} {rm : Room} {as' : Array Value} {Q : Option Value → Heap → Prop} (hp : plainFor y = true) (hef : ∀ m, entryFrame m as' ml = mkF m 0 L [])
    (body : ∀ (p : Program) (e : Env) (s : State) (m : MethodId) (below : List Frame) (meth : Method) (c : Code) (T : State) (vm : Vm), Cx p (s.setVm vm) m meth c Z y.cls bytes ml rt y.name → St p l e rm (s.setVm vm) m as' below meth c n0 T h 0 0 → Wx Z EL s vm h → Goes p e below (FinW Z EL Q s n0 rm.cells rm.slots) (T.setTop (mkF m 0 L []))) :
    MetW l Z EL y bytes ml rt rm as' h n0 Q := by
  intro ws
  refine MetFree.of_bodySF hp hisR ?_
  intro p e s m args below meth c s₁ Bd hml hP hK
  obtain ⟨rfl, hZ, hh, hCH⟩ := hP
  have e0 : s₁.heap = h := by rw [← hh, Bd.state]; rfl
  have b := body p e s m below meth c s₁ s.vm ⟨Bd.exec, hZ, findClass_of_methodNamed Bd.named, Bd.bytes, hml, Bd.returns, BodyLoose.notSynchronized Bd, (name_of_methodNamed Bd.named Bd.method).1⟩ ⟨[], 0, 0, Stand.of_body Bd, Fr.nil _, e0, Nat.le_refl _, Nat.le_refl _⟩
    ⟨⟨0, (State.WarmedH.refl s).since 0, Nat.zero_le _⟩, by rw [hh]; exact CHr.refl hCH⟩
  rw [hef m]
  exact b
theorem own_endW (C : Cx p (s.setVm vm) m meth c Z own bytes ml rt mn) (X : St p l e R (s.setVm vm) m args below meth c n0 T h k n) (Y : Wx Z EL s vm h) (hEL : EW Z a0 EL) {Q : Option Value → Heap → Prop} {K N : Nat} {S : State} {v : Option Value} (hv : rt = none → v = none) (hk : k ≤ K) (hn : n ≤ N) (hQ : Q v h)
    (f : ∀ locs cells slots fs, Stand p l e R (s.setVm vm) m args below meth c T locs cells slots → (∀ (f : JFrame) (acts : List Action), f.method = m → f.locked = none → f.entered = [] → (doReturn e (T.setTop f) acts v).1 = T.setFrames fs) → Steps p.tables e below S (T.setFrames fs)) : Goes p e below (FinW Z EL Q s n0 K N) S := by
  obtain ⟨hx, hZ, -, hby, -, hret, hlk, -⟩ := C
  obtain ⟨locs, cells, slots, X, hF, rfl, h1, h2⟩ := X
  obtain ⟨⟨k0, hS, hk0⟩, hC⟩ := Y
  have hA := CHv.at X hZ hEL hC.1
  obtain ⟨fs, hr, hrun, hended, hW, hsame⟩ := X.leave (v := v) (fun h => hv (hret.symm.trans h)) hlk
  have hS2 : s.Since (T.setFrames fs).vm T.heap.size := hS.trans (hW.since _) hk0
  refine ⟨_, _, f _ _ _ fs X hr, hrun, hended, _, _, rfl, ⟨hF, hQ⟩, hC.trans hA, ⟨_, rfl⟩, hS2.1, ?_, ?_⟩
  · intro j pp hj hp
    exact hS2.2 j pp hj hp
  · exact (hsame.setVm s.vm).mono (Nat.le_trans h1 hk) (Nat.le_trans h2 hn)
theorem gW_retI (C : Cx p (s.setVm vm) m meth c Z own bytes ml (some .int) mn) (X : St p l e R (s.setVm vm) m args below meth c n0 T h k n) (Y : Wx Z EL s vm h) (hEL : EW Z a0 EL) {Q : Option Value → Heap → Prop} {K N : Nat} {z : Int32} (hd : decode bytes pc = .ok (.ireturn, 1)) (hk : k ≤ K) (hn : n ≤ N) (hQ : Q (some (.int z)) h) : Goes p e below (FinW Z EL Q s n0 K N) (T.setTop (mkF m pc L (.int z :: st))) := by
  refine own_endW C X Y hEL (by simp) hk hn hQ fun locs cells slots fs X hr => ?_
  obtain ⟨hx, -, -, hby, -, hret, hlk, -⟩ := C
  exact retOut X hx hret rfl (Or.inl ⟨rfl, Or.inl rfl, _, rfl⟩) (hb hby hd) hr
theorem gW_retN {t : FieldType} (C : Cx p (s.setVm vm) m meth c Z own bytes ml (some t) mn) (X : St p l e R (s.setVm vm) m args below meth c n0 T h k n) (Y : Wx Z EL s vm h) (hEL : EW Z a0 EL) {Q : Option Value → Heap → Prop} {K N : Nat} {z z' : Int32} (ht : t = .boolean ∨ t = .byte ∨ t = .char ∨ t = .short) (hz : nar t z = z') (hd : decode bytes pc = .ok (.ireturn, 1)) (hk : k ≤ K) (hn : n ≤ N) (hQ : Q (some (.int z')) h) : Goes p e below (FinW Z EL Q s n0 K N) (T.setTop (mkF m pc L (.int z :: st))) := by
  subst hz
  refine own_endW C X Y hEL (by simp) hk hn hQ fun locs cells slots fs X hr => ?_
  obtain ⟨hx, -, -, hby, -, hret, hlk, -⟩ := C
  exact retN X hx hret ht (hb hby hd) hr
theorem gW_retA {t : FieldType} (C : Cx p (s.setVm vm) m meth c Z own bytes ml (some t) mn) (X : St p l e R (s.setVm vm) m args below meth c n0 T h k n) (Y : Wx Z EL s vm h) (hEL : EW Z a0 EL) {Q : Option Value → Heap → Prop} {K N : Nat} {v : Value} (ht : t.isReference = true) (hv : v.isRef = true) (hd : decode bytes pc = .ok (.areturn, 1)) (hk : k ≤ K) (hn : n ≤ N) (hQ : Q (some v) h) : Goes p e below (FinW Z EL Q s n0 K N) (T.setTop (mkF m pc L (v :: st))) := by
  refine own_endW C X Y hEL (by simp) hk hn hQ fun locs cells slots fs X hr => ?_
  obtain ⟨hx, -, -, hby, -, hret, hlk, -⟩ := C
  have hn' : narrow t v = v := by rcases ref_cases hv with rfl | ⟨b, rfl⟩ <;> cases t <;> first | rfl | (cases ht)
  exact retOut X hx hret hn' (Or.inr (Or.inr (Or.inr (Or.inr ⟨rfl, ht, hv⟩)))) (hb hby hd) hr
theorem gW_retV (C : Cx p (s.setVm vm) m meth c Z own bytes ml none mn) (X : St p l e R (s.setVm vm) m args below meth c n0 T h k n) (Y : Wx Z EL s vm h) (hEL : EW Z a0 EL) {Q : Option Value → Heap → Prop} {K N : Nat} (hd : decode bytes pc = .ok (.return_, 1)) (hk : k ≤ K) (hn : n ≤ N) (hQ : Q none h) : Goes p e below (FinW Z EL Q s n0 K N) (T.setTop (mkF m pc L [])) := by
  refine own_endW C X Y hEL (fun _ => rfl) hk hn hQ fun locs cells slots fs X hr => ?_
  obtain ⟨hx, -, -, hby, -, hret, hlk, -⟩ := C
  exact X.returnOut hx hret (hb hby hd) hr
theorem gW_ldcO (C : Cx p (s.setVm vm) m meth c Z own bytes ml rt mn) (X : St p l e R (s.setVm vm) m args below meth c n0 T h k n) (Y : Wx Z EL s vm h) (hEL : EW Z a0 EL) {text : String} {i nn k' n' : Nat} (w : (Cond.stringLink own i text).before a0 Z = true) (wS : ∀ a ∈ Bundle.stringAtoms, a.before a0 Z = true) (hd : decode bytes pc = .ok (.ldc i, 2)) (hq : pc + 2 = q) (hnn : 4 * text.toList.length ≤ nn) (hbig : nn ≤ 536870912) (hk : k + 2 = k') (hn : n + (nn + 4) = n') (hkR : k' ≤ R.cells) (hnR : n' ≤ R.slots)
    (r : ∀ a T' h' vm', Cx p (s.setVm vm') m meth c Z own bytes ml rt mn → St p l e R (s.setVm vm') m args below meth c n0 T' h' k' n' → Wx Z EL s vm' h' → Ext h h' → CHr Z EL vm h vm' h' → Goes p e below G (T'.setTop (mkF m q L (.ref a :: st)))) : Goes p e below G (T.setTop (mkF m pc L st)) := by
  obtain ⟨hx, hZ, hown, hby, hml, hret, hlk, hnm⟩ := C
  obtain ⟨locs, cells, slots, X, hF, eT, h1, h2⟩ := X
  obtain ⟨⟨k0, hS, hk0⟩, hC⟩ := Y
  subst hq hk hn
  obtain ⟨a, T', h', k1, X', e', E', hS', hk1, hZ', hown', hC', -, st'⟩ := ldcOH X hx hZ hown w wS eT hS hk0 hEL hC.1 (g := mkF m pc L st) rfl (hb hby hd) hnn hbig (Nat.le_trans (Nat.add_le_add_right h1 2) hkR) (Nat.le_trans (Nat.add_le_add_right h2 _) hnR)
  exact go_st st' (r a T' h' T'.vm ⟨hx, hZ', hown', hby, hml, hret, hlk, hnm⟩ ⟨_, _, _, X', hF, e', Nat.add_le_add_right h1 2, Nat.add_le_add_right h2 _⟩ ⟨⟨k1, hS', hk1⟩, hC.trans hC'⟩ E' hC')
theorem gW_ldcC (C : Cx p (s.setVm vm) m meth c Z own bytes ml rt mn) (X : St p l e R (s.setVm vm) m args below meth c n0 T h k n) (Y : Wx Z EL s vm h) (hEL : EW Z a0 EL) {text : String} {i nn k' n' : Nat} {vs : List Value} {z : Int32} (w : (Cond.stringLink own i text).before a0 Z = true) (wS : ∀ a ∈ Bundle.stringAtoms, a.before a0 Z = true) (hmem : (own, i) ∈ EL) (ht : (∀ c ∈ text.toList, c.toNat < 256) ∧ text.toList.map (fun c => Value.int (Jvm.Lit.byteI c.toNat.toUInt16)) = vs) (hz : ¬ z < 0) (hl : z.toNatClampNeg = vs.length) (hd : decode bytes pc = .ok (.ldc i, 2)) (hq : pc + 2 = q) (hnn : 4 * text.toList.length ≤ nn) (hbig : nn ≤ 536870912) (hk : k + 2 = k') (hn : n + (nn + 4) = n') (hkR : k' ≤ R.cells) (hnR : n' ≤ R.slots)
    (r : ∀ a b kk T' h' vm', Cx p (s.setVm vm') m meth c Z own bytes ml rt mn → St p l e R (s.setVm vm') m args below meth c n0 T' h' k' n' → Wx Z EL s vm' h' → Ext h h' → CHr Z EL vm h vm' h' → Exa Z h' a "java/lang/String" → Fld Z h' a "java/lang/String" "coder" "B" (.int 0) → Fld Z h' a "java/lang/String" "value" "[B" (.ref b) → Arv Z h' b kk .byte z vs (.int 0) → (∀ x, Safe Z EL vm' h' x → x ≠ a ∧ x ≠ b) → Goes p e below G (T'.setTop (mkF m q L (.ref a :: st)))) : Goes p e below G (T.setTop (mkF m pc L st)) := by
  obtain ⟨hx, hZ, hown, hby, hml, hret, hlk, hnm⟩ := C
  obtain ⟨locs, cells, slots, X, hF, eT, h1, h2⟩ := X
  obtain ⟨⟨k0, hS, hk0⟩, hC⟩ := Y
  subst hq hk hn
  obtain ⟨a, T', h', k1, b, kk, X', e', E', hS', hk1, hZ', hown', f1, f2, f3, f4, -, -, hC', -, hsf, st'⟩ := ldcCH X hx hZ hown w wS eT hS hk0 hEL hmem hC.1 ht hz hl (g := mkF m pc L st) rfl (hb hby hd) hnn hbig (Nat.le_trans (Nat.add_le_add_right h1 2) hkR) (Nat.le_trans (Nat.add_le_add_right h2 _) hnR)
  exact go_st st' (r a b kk T' h' T'.vm ⟨hx, hZ', hown', hby, hml, hret, hlk, hnm⟩ ⟨_, _, _, X', hF, e', Nat.add_le_add_right h1 2, Nat.add_le_add_right h2 _⟩ ⟨⟨k1, hS', hk1⟩, hC.trans hC'⟩ E' hC' f1 f2 f3 f4 hsf)
theorem gW_callS1 (C : Cx p (s.setVm vm) m meth c Z own bytes ml rt mn) (X : St p l e R (s.setVm vm) m args below meth c n0 T h k n) (Y : Wx Z EL s vm h) (hEL : EW Z a0 EL) {rm : Room} {as' : Array Value} {bts : ByteArray} {mxl : Nat} {rty : Option FieldType} {argsL : List Value} {ps : List FieldType} {rt' : Option FieldType} {k' n' W : Nat} {Q : Value → Heap → Prop} {y : MethodName} {i : Nat} (hy : y.cls ≠ "java/lang/invoke/MethodHandle" ∧ y.cls ≠ "java/lang/invoke/VarHandle") (w1 : (Cond.methodLink own i y).before a0 Z = true) (w2 : (Cond.static y).before a0 Z = true) (w8 : (Cond.code y bts mxl rty).before a0 Z = true) (w9 : (Cond.initialized y.cls).before a0 Z = true) (hM : MetW1 l Z EL y bts mxl rty rm as' h n0 Q) (hf : rm.frames + 1 ≤ R.frames) (hl : W + (mxl + 11) + rm.locals ≤ R.locals) (hk : k + rm.cells = k') (hn : n + rm.slots = n') (hkR : k' ≤ R.cells) (hnR : n' ≤ R.slots) (hsz : L.size = ml) (hdd : parseMethodDescriptor y.desc = some ⟨ps, rt'⟩) (hlen : argsL.length = ps.length) (hst : st = argsL.reverse ++ rest) (has : argsL.toArray = as') (hW : (rest.map fun v => v.category).sum = W) (hd : decode bytes pc = .ok (.invokestatic i, 3)) (hq : pc + 3 = q)
    (r : ∀ w T' h' vm', Cx p (s.setVm vm') m meth c Z own bytes ml rt mn → St p l e R (s.setVm vm') m args below meth c n0 T' h' k' n' → Wx Z EL s vm' h' → CHr Z EL vm h vm' h' → Q w h' → Goes p e below G (T'.setTop (mkF m q L (w :: rest)))) : Goes p e below G (T.setTop (mkF m pc L st)) := by
  obtain ⟨hx, hZ, hown, hby, hml, hret, hlk, hnm⟩ := C
  obtain ⟨_, cells, slots, X, hF, eT, h1, h2⟩ := X
  obtain ⟨⟨k0, hS, hk0⟩, hC⟩ := Y
  subst hq hk hn has hst hW
  have bk := backOfSH (Q := fun v h L => Fr n0 L ∧ (∃ w, v = some w ∧ Q w h)) (R := R) (p := p) (e := e) (below := below) (s := s) (args := args) (len := 3) (W := (rest.map fun v => v.category).sum) (hM []) hZ w8 w9 hf hl hEL hC.1
  obtain ⟨_, _, ⟨T', Lo, kk, nn⟩, -, X', hS', hg', ⟨Lc, hQ, q1, q2, q3, hC'⟩, st'⟩ := callSS X hx hown (mvT hZ w1) (mvT hZ w2) (mvT hZ w9) (mvT hZ w8) hy bk (g := mkF m pc L (argsL.reverse ++ rest)) rfl (hsz.trans hml.symm) (argsL := argsL) (rest := rest) (lenOf hdd hlen) rfl (by show 2 * 0 + _ ≤ _; omega) (hb hby hd) (fun _ _ => ⟨rfl, eT, Nat.le_trans (Nat.add_le_add_right h1 _) hkR, Nat.le_trans (Nat.add_le_add_right h2 _) hnR⟩)
  dsimp only [Pt.U, Pt.locs, Pt.cells, Pt.slots] at X' hS' hg' q1 q2 q3 st' hQ hC'
  subst q1 q2 q3
  obtain ⟨hFr, hQ'⟩ := hQ
  obtain ⟨w, rfl, hQ'⟩ := hQ'
  rw [eT] at hg'
  obtain ⟨X2, hS2, hZ2, hown2⟩ := rebS hS hk0 X' hS' hg' hZ hown
  exact go_tr st' (r w T' _ T'.vm ⟨hx, hZ2, hown2, hby, hml, hret, hlk, hnm⟩ ⟨_, _, _, X2, Fr.app hF hFr, rfl, Nat.add_le_add_right h1 _, Nat.add_le_add_right h2 _⟩ ⟨⟨_, hS2, Nat.le_refl _⟩, hC.trans hC'⟩ hC' hQ')
theorem gW_callS0 (C : Cx p (s.setVm vm) m meth c Z own bytes ml rt mn) (X : St p l e R (s.setVm vm) m args below meth c n0 T h k n) (Y : Wx Z EL s vm h) (hEL : EW Z a0 EL) {rm : Room} {as' : Array Value} {bts : ByteArray} {mxl : Nat} {rty : Option FieldType} {argsL : List Value} {ps : List FieldType} {rt' : Option FieldType} {k' n' W : Nat} {Q : Heap → Prop} {y : MethodName} {i : Nat} (hy : y.cls ≠ "java/lang/invoke/MethodHandle" ∧ y.cls ≠ "java/lang/invoke/VarHandle") (w1 : (Cond.methodLink own i y).before a0 Z = true) (w2 : (Cond.static y).before a0 Z = true) (w8 : (Cond.code y bts mxl rty).before a0 Z = true) (w9 : (Cond.initialized y.cls).before a0 Z = true) (hM : MetW0 l Z EL y bts mxl rty rm as' h n0 Q) (hf : rm.frames + 1 ≤ R.frames) (hl : W + (mxl + 11) + rm.locals ≤ R.locals) (hk : k + rm.cells = k') (hn : n + rm.slots = n') (hkR : k' ≤ R.cells) (hnR : n' ≤ R.slots) (hsz : L.size = ml) (hdd : parseMethodDescriptor y.desc = some ⟨ps, rt'⟩) (hlen : argsL.length = ps.length) (hst : st = argsL.reverse ++ rest) (has : argsL.toArray = as') (hW : (rest.map fun v => v.category).sum = W) (hd : decode bytes pc = .ok (.invokestatic i, 3)) (hq : pc + 3 = q)
    (r : ∀ T' h' vm', Cx p (s.setVm vm') m meth c Z own bytes ml rt mn → St p l e R (s.setVm vm') m args below meth c n0 T' h' k' n' → Wx Z EL s vm' h' → CHr Z EL vm h vm' h' → Q h' → Goes p e below G (T'.setTop (mkF m q L rest))) : Goes p e below G (T.setTop (mkF m pc L st)) := by
  obtain ⟨hx, hZ, hown, hby, hml, hret, hlk, hnm⟩ := C
  obtain ⟨_, cells, slots, X, hF, eT, h1, h2⟩ := X
  obtain ⟨⟨k0, hS, hk0⟩, hC⟩ := Y
  subst hq hk hn has hst hW
  have bk := backOfSH (Q := fun v h L => Fr n0 L ∧ (v = none ∧ Q h)) (R := R) (p := p) (e := e) (below := below) (s := s) (args := args) (len := 3) (W := (rest.map fun v => v.category).sum) (hM []) hZ w8 w9 hf hl hEL hC.1
  obtain ⟨_, _, ⟨T', Lo, kk, nn⟩, -, X', hS', hg', ⟨Lc, hQ, q1, q2, q3, hC'⟩, st'⟩ := callSS X hx hown (mvT hZ w1) (mvT hZ w2) (mvT hZ w9) (mvT hZ w8) hy bk (g := mkF m pc L (argsL.reverse ++ rest)) rfl (hsz.trans hml.symm) (argsL := argsL) (rest := rest) (lenOf hdd hlen) rfl (by show 2 * 0 + _ ≤ _; omega) (hb hby hd) (fun _ _ => ⟨rfl, eT, Nat.le_trans (Nat.add_le_add_right h1 _) hkR, Nat.le_trans (Nat.add_le_add_right h2 _) hnR⟩)
  dsimp only [Pt.U, Pt.locs, Pt.cells, Pt.slots] at X' hS' hg' q1 q2 q3 st' hQ hC'
  subst q1 q2 q3
  obtain ⟨hFr, hQ'⟩ := hQ
  obtain ⟨rfl, hQ'⟩ := hQ'
  rw [eT] at hg'
  obtain ⟨X2, hS2, hZ2, hown2⟩ := rebS hS hk0 X' hS' hg' hZ hown
  exact go_tr st' (r T' _ T'.vm ⟨hx, hZ2, hown2, hby, hml, hret, hlk, hnm⟩ ⟨_, _, _, X2, Fr.app hF hFr, rfl, Nat.add_le_add_right h1 _, Nat.add_le_add_right h2 _⟩ ⟨⟨_, hS2, Nat.le_refl _⟩, hC.trans hC'⟩ hC' hQ')
theorem gW_callI1 (C : Cx p (s.setVm vm) m meth c Z own bytes ml rt mn) (X : St p l e R (s.setVm vm) m args below meth c n0 T h k n) (Y : Wx Z EL s vm h) (hEL : EW Z a0 EL) {rm : Room} {as' : Array Value} {bts : ByteArray} {mxl : Nat} {rty : Option FieldType} {argsL : List Value} {ps : List FieldType} {rt' : Option FieldType} {k' n' W : Nat} {Q : Value → Heap → Prop} {y : MethodName} {i : Nat} {a : Addr} (hy : y.cls ≠ "java/lang/invoke/MethodHandle" ∧ y.cls ≠ "java/lang/invoke/VarHandle") (hy1 : y.name = "<init>") (hrn : rty = none) (w1 : (Cond.methodLink own i y).before a0 Z = true) (w2 : (Cond.instanceMethod y).before a0 Z = true) (w8 : (Cond.code y bts mxl rty).before a0 Z = true) (w9 : (Cond.initialized y.cls).before a0 Z = true) (hM : MetW1 l Z EL y bts mxl rty rm as' h n0 Q) (hf : rm.frames + 1 ≤ R.frames) (hl : W + (mxl + 11) + rm.locals ≤ R.locals) (hk : k + rm.cells = k') (hn : n + rm.slots = n') (hkR : k' ≤ R.cells) (hnR : n' ≤ R.slots) (hsz : L.size = ml) (hdd : parseMethodDescriptor y.desc = some ⟨ps, rt'⟩) (hlen : argsL.length = ps.length) (hst : st = argsL.reverse ++ .ref a :: rest) (has : (.ref a :: argsL).toArray = as') (hW : (rest.map fun v => v.category).sum = W) (hd : decode bytes pc = .ok (.invokespecial i, 3)) (hq : pc + 3 = q)
    (r : ∀ w T' h' vm', Cx p (s.setVm vm') m meth c Z own bytes ml rt mn → St p l e R (s.setVm vm') m args below meth c n0 T' h' k' n' → Wx Z EL s vm' h' → CHr Z EL vm h vm' h' → Q w h' → Goes p e below G (T'.setTop (mkF m q L (w :: rest)))) : Goes p e below G (T.setTop (mkF m pc L st)) := by
  obtain ⟨hx, hZ, hown, hby, hml, hret, hlk, hnm⟩ := C
  obtain ⟨_, cells, slots, X, hF, eT, h1, h2⟩ := X
  obtain ⟨⟨k0, hS, hk0⟩, hC⟩ := Y
  subst hq hk hn has hst hW
  have bk := backOfSH (Q := fun v h L => Fr n0 L ∧ (∃ w, v = some w ∧ Q w h)) (R := R) (p := p) (e := e) (below := below) (s := s) (args := args) (len := 3) (W := (rest.map fun v => v.category).sum) (hM []) hZ w8 w9 hf hl hEL hC.1
  subst hrn
  obtain ⟨_, _, ⟨T', Lo, kk, nn⟩, -, X', hS', hg', ⟨Lc, hQ, q1, q2, q3, hC'⟩, st'⟩ := X.specialBackS hx hy1 hown (mvT hZ w1) (mvT hZ w2) (mvT hZ w8) hy bk (g := mkF m pc L (argsL.reverse ++ .ref a :: rest)) rfl (hsz.trans hml.symm) (Steps.refl _) (a := a) (argsL := argsL) (rest := rest) (lenOf hdd hlen) rfl (by show 2 * 0 + _ ≤ _; omega) (hb hby hd) (fun _ _ => ⟨rfl, eT, Nat.le_trans (Nat.add_le_add_right h1 _) hkR, Nat.le_trans (Nat.add_le_add_right h2 _) hnR⟩)
  dsimp only [Pt.U, Pt.locs, Pt.cells, Pt.slots] at X' hS' hg' q1 q2 q3 st' hQ hC'
  subst q1 q2 q3
  obtain ⟨hFr, hQ'⟩ := hQ
  obtain ⟨w, rfl, hQ'⟩ := hQ'
  rw [eT] at hg'
  obtain ⟨X2, hS2, hZ2, hown2⟩ := rebS hS hk0 X' hS' hg' hZ hown
  exact go_tr st' (r w T' _ T'.vm ⟨hx, hZ2, hown2, hby, hml, hret, hlk, hnm⟩ ⟨_, _, _, X2, Fr.app hF hFr, rfl, Nat.add_le_add_right h1 _, Nat.add_le_add_right h2 _⟩ ⟨⟨_, hS2, Nat.le_refl _⟩, hC.trans hC'⟩ hC' hQ')
theorem gW_callI0 (C : Cx p (s.setVm vm) m meth c Z own bytes ml rt mn) (X : St p l e R (s.setVm vm) m args below meth c n0 T h k n) (Y : Wx Z EL s vm h) (hEL : EW Z a0 EL) {rm : Room} {as' : Array Value} {bts : ByteArray} {mxl : Nat} {rty : Option FieldType} {argsL : List Value} {ps : List FieldType} {rt' : Option FieldType} {k' n' W : Nat} {Q : Heap → Prop} {y : MethodName} {i : Nat} {a : Addr} (hy : y.cls ≠ "java/lang/invoke/MethodHandle" ∧ y.cls ≠ "java/lang/invoke/VarHandle") (hy1 : y.name = "<init>") (hrn : rty = none) (w1 : (Cond.methodLink own i y).before a0 Z = true) (w2 : (Cond.instanceMethod y).before a0 Z = true) (w8 : (Cond.code y bts mxl rty).before a0 Z = true) (w9 : (Cond.initialized y.cls).before a0 Z = true) (hM : MetW0 l Z EL y bts mxl rty rm as' h n0 Q) (hf : rm.frames + 1 ≤ R.frames) (hl : W + (mxl + 11) + rm.locals ≤ R.locals) (hk : k + rm.cells = k') (hn : n + rm.slots = n') (hkR : k' ≤ R.cells) (hnR : n' ≤ R.slots) (hsz : L.size = ml) (hdd : parseMethodDescriptor y.desc = some ⟨ps, rt'⟩) (hlen : argsL.length = ps.length) (hst : st = argsL.reverse ++ .ref a :: rest) (has : (.ref a :: argsL).toArray = as') (hW : (rest.map fun v => v.category).sum = W) (hd : decode bytes pc = .ok (.invokespecial i, 3)) (hq : pc + 3 = q)
    (r : ∀ T' h' vm', Cx p (s.setVm vm') m meth c Z own bytes ml rt mn → St p l e R (s.setVm vm') m args below meth c n0 T' h' k' n' → Wx Z EL s vm' h' → CHr Z EL vm h vm' h' → Q h' → Goes p e below G (T'.setTop (mkF m q L rest))) : Goes p e below G (T.setTop (mkF m pc L st)) := by
  obtain ⟨hx, hZ, hown, hby, hml, hret, hlk, hnm⟩ := C
  obtain ⟨_, cells, slots, X, hF, eT, h1, h2⟩ := X
  obtain ⟨⟨k0, hS, hk0⟩, hC⟩ := Y
  subst hq hk hn has hst hW
  have bk := backOfSH (Q := fun v h L => Fr n0 L ∧ (v = none ∧ Q h)) (R := R) (p := p) (e := e) (below := below) (s := s) (args := args) (len := 3) (W := (rest.map fun v => v.category).sum) (hM []) hZ w8 w9 hf hl hEL hC.1
  subst hrn
  obtain ⟨_, _, ⟨T', Lo, kk, nn⟩, -, X', hS', hg', ⟨Lc, hQ, q1, q2, q3, hC'⟩, st'⟩ := X.specialBackS hx hy1 hown (mvT hZ w1) (mvT hZ w2) (mvT hZ w8) hy bk (g := mkF m pc L (argsL.reverse ++ .ref a :: rest)) rfl (hsz.trans hml.symm) (Steps.refl _) (a := a) (argsL := argsL) (rest := rest) (lenOf hdd hlen) rfl (by show 2 * 0 + _ ≤ _; omega) (hb hby hd) (fun _ _ => ⟨rfl, eT, Nat.le_trans (Nat.add_le_add_right h1 _) hkR, Nat.le_trans (Nat.add_le_add_right h2 _) hnR⟩)
  dsimp only [Pt.U, Pt.locs, Pt.cells, Pt.slots] at X' hS' hg' q1 q2 q3 st' hQ hC'
  subst q1 q2 q3
  obtain ⟨hFr, hQ'⟩ := hQ
  obtain ⟨rfl, hQ'⟩ := hQ'
  rw [eT] at hg'
  obtain ⟨X2, hS2, hZ2, hown2⟩ := rebS hS hk0 X' hS' hg' hZ hown
  exact go_tr st' (r T' _ T'.vm ⟨hx, hZ2, hown2, hby, hml, hret, hlk, hnm⟩ ⟨_, _, _, X2, Fr.app hF hFr, rfl, Nat.add_le_add_right h1 _, Nat.add_le_add_right h2 _⟩ ⟨⟨_, hS2, Nat.le_refl _⟩, hC.trans hC'⟩ hC' hQ')
theorem gW_callV1 (C : Cx p (s.setVm vm) m meth c Z own bytes ml rt mn) (X : St p l e R (s.setVm vm) m args below meth c n0 T h k n) (Y : Wx Z EL s vm h) (hEL : EW Z a0 EL) {rm : Room} {as' : Array Value} {bts : ByteArray} {mxl : Nat} {rty : Option FieldType} {argsL : List Value} {ps : List FieldType} {rt' : Option FieldType} {k' n' W : Nat} {Q : Value → Heap → Prop} {y z : MethodName} {i : Nat} {a : Addr} {K : String} (hy : y.cls ≠ "java/lang/invoke/MethodHandle" ∧ y.cls ≠ "java/lang/invoke/VarHandle") (w1 : (Cond.methodLink own i y).before a0 Z = true) (w2 : (Cond.declares y).before a0 Z = true) (w3 : (Cond.selects K y z).before a0 Z = true) (w4 : (Cond.instanceMethod z).before a0 Z = true) (hnf : ∀ s' : State, Z.Warmed39 s'.vm → NotFace s' y) (E : Exa Z h a K) (w8 : (Cond.code z bts mxl rty).before a0 Z = true) (w9 : (Cond.initialized z.cls).before a0 Z = true) (hM : MetW1 l Z EL z bts mxl rty rm as' h n0 Q) (hf : rm.frames + 1 ≤ R.frames) (hl : W + (mxl + 11) + rm.locals ≤ R.locals) (hk : k + rm.cells = k') (hn : n + rm.slots = n') (hkR : k' ≤ R.cells) (hnR : n' ≤ R.slots) (hsz : L.size = ml) (hdd : parseMethodDescriptor y.desc = some ⟨ps, rt'⟩) (hlen : argsL.length = ps.length) (hst : st = argsL.reverse ++ .ref a :: rest) (has : (.ref a :: argsL).toArray = as') (hW : (rest.map fun v => v.category).sum = W) (hd : decode bytes pc = .ok (.invokevirtual i, 3)) (hq : pc + 3 = q)
    (r : ∀ w T' h' vm', Cx p (s.setVm vm') m meth c Z own bytes ml rt mn → St p l e R (s.setVm vm') m args below meth c n0 T' h' k' n' → Wx Z EL s vm' h' → CHr Z EL vm h vm' h' → Q w h' → Goes p e below G (T'.setTop (mkF m q L (w :: rest)))) : Goes p e below G (T.setTop (mkF m pc L st)) := by
  obtain ⟨hx, hZ, hown, hby, hml, hret, hlk, hnm⟩ := C
  obtain ⟨_, cells, slots, X, hF, eT, h1, h2⟩ := X
  obtain ⟨⟨k0, hS, hk0⟩, hC⟩ := Y
  subst hq hk hn has hst hW
  have bk := backOfSH (Q := fun v h L => Fr n0 L ∧ (∃ w, v = some w ∧ Q w h)) (R := R) (p := p) (e := e) (below := below) (s := s) (args := args) (len := 3) (W := (rest.map fun v => v.category).sum) (hM []) hZ w8 w9 hf hl hEL hC.1
  obtain ⟨cB, kB, qa, qb, qc⟩ := isOf hZ eT E
  obtain ⟨_, _, ⟨T', Lo, kk, nn⟩, -, X', hS', hg', ⟨Lc, hQ, q1, q2, q3, hC'⟩, st'⟩ := X.virtualBackS hx hown (mvT hZ w1) (mvT hZ w2) (hnf _ hZ) (mvT hZ w3) (mvT hZ w4) hy bk qa qc (g := mkF m pc L (argsL.reverse ++ .ref a :: rest)) rfl (hsz.trans hml.symm) (Steps.refl _) (argsL := argsL) (rest := rest) (lenOf hdd hlen) rfl (by show 2 * 0 + _ ≤ _; omega) (hb hby hd) (fun _ _ => ⟨rfl, eT, Nat.le_trans (Nat.add_le_add_right h1 _) hkR, Nat.le_trans (Nat.add_le_add_right h2 _) hnR⟩)
  dsimp only [Pt.U, Pt.locs, Pt.cells, Pt.slots] at X' hS' hg' q1 q2 q3 st' hQ hC'
  subst q1 q2 q3
  obtain ⟨hFr, hQ'⟩ := hQ
  obtain ⟨w, rfl, hQ'⟩ := hQ'
  rw [eT] at hg'
  obtain ⟨X2, hS2, hZ2, hown2⟩ := rebS hS hk0 X' hS' hg' hZ hown
  exact go_tr st' (r w T' _ T'.vm ⟨hx, hZ2, hown2, hby, hml, hret, hlk, hnm⟩ ⟨_, _, _, X2, Fr.app hF hFr, rfl, Nat.add_le_add_right h1 _, Nat.add_le_add_right h2 _⟩ ⟨⟨_, hS2, Nat.le_refl _⟩, hC.trans hC'⟩ hC' hQ')
theorem gW_callV0 (C : Cx p (s.setVm vm) m meth c Z own bytes ml rt mn) (X : St p l e R (s.setVm vm) m args below meth c n0 T h k n) (Y : Wx Z EL s vm h) (hEL : EW Z a0 EL) {rm : Room} {as' : Array Value} {bts : ByteArray} {mxl : Nat} {rty : Option FieldType} {argsL : List Value} {ps : List FieldType} {rt' : Option FieldType} {k' n' W : Nat} {Q : Heap → Prop} {y z : MethodName} {i : Nat} {a : Addr} {K : String} (hy : y.cls ≠ "java/lang/invoke/MethodHandle" ∧ y.cls ≠ "java/lang/invoke/VarHandle") (w1 : (Cond.methodLink own i y).before a0 Z = true) (w2 : (Cond.declares y).before a0 Z = true) (w3 : (Cond.selects K y z).before a0 Z = true) (w4 : (Cond.instanceMethod z).before a0 Z = true) (hnf : ∀ s' : State, Z.Warmed39 s'.vm → NotFace s' y) (E : Exa Z h a K) (w8 : (Cond.code z bts mxl rty).before a0 Z = true) (w9 : (Cond.initialized z.cls).before a0 Z = true) (hM : MetW0 l Z EL z bts mxl rty rm as' h n0 Q) (hf : rm.frames + 1 ≤ R.frames) (hl : W + (mxl + 11) + rm.locals ≤ R.locals) (hk : k + rm.cells = k') (hn : n + rm.slots = n') (hkR : k' ≤ R.cells) (hnR : n' ≤ R.slots) (hsz : L.size = ml) (hdd : parseMethodDescriptor y.desc = some ⟨ps, rt'⟩) (hlen : argsL.length = ps.length) (hst : st = argsL.reverse ++ .ref a :: rest) (has : (.ref a :: argsL).toArray = as') (hW : (rest.map fun v => v.category).sum = W) (hd : decode bytes pc = .ok (.invokevirtual i, 3)) (hq : pc + 3 = q)
    (r : ∀ T' h' vm', Cx p (s.setVm vm') m meth c Z own bytes ml rt mn → St p l e R (s.setVm vm') m args below meth c n0 T' h' k' n' → Wx Z EL s vm' h' → CHr Z EL vm h vm' h' → Q h' → Goes p e below G (T'.setTop (mkF m q L rest))) : Goes p e below G (T.setTop (mkF m pc L st)) := by
  obtain ⟨hx, hZ, hown, hby, hml, hret, hlk, hnm⟩ := C
  obtain ⟨_, cells, slots, X, hF, eT, h1, h2⟩ := X
  obtain ⟨⟨k0, hS, hk0⟩, hC⟩ := Y
  subst hq hk hn has hst hW
  have bk := backOfSH (Q := fun v h L => Fr n0 L ∧ (v = none ∧ Q h)) (R := R) (p := p) (e := e) (below := below) (s := s) (args := args) (len := 3) (W := (rest.map fun v => v.category).sum) (hM []) hZ w8 w9 hf hl hEL hC.1
  obtain ⟨cB, kB, qa, qb, qc⟩ := isOf hZ eT E
  obtain ⟨_, _, ⟨T', Lo, kk, nn⟩, -, X', hS', hg', ⟨Lc, hQ, q1, q2, q3, hC'⟩, st'⟩ := X.virtualBackS hx hown (mvT hZ w1) (mvT hZ w2) (hnf _ hZ) (mvT hZ w3) (mvT hZ w4) hy bk qa qc (g := mkF m pc L (argsL.reverse ++ .ref a :: rest)) rfl (hsz.trans hml.symm) (Steps.refl _) (argsL := argsL) (rest := rest) (lenOf hdd hlen) rfl (by show 2 * 0 + _ ≤ _; omega) (hb hby hd) (fun _ _ => ⟨rfl, eT, Nat.le_trans (Nat.add_le_add_right h1 _) hkR, Nat.le_trans (Nat.add_le_add_right h2 _) hnR⟩)
  dsimp only [Pt.U, Pt.locs, Pt.cells, Pt.slots] at X' hS' hg' q1 q2 q3 st' hQ hC'
  subst q1 q2 q3
  obtain ⟨hFr, hQ'⟩ := hQ
  obtain ⟨rfl, hQ'⟩ := hQ'
  rw [eT] at hg'
  obtain ⟨X2, hS2, hZ2, hown2⟩ := rebS hS hk0 X' hS' hg' hZ hown
  exact go_tr st' (r T' _ T'.vm ⟨hx, hZ2, hown2, hby, hml, hret, hlk, hnm⟩ ⟨_, _, _, X2, Fr.app hF hFr, rfl, Nat.add_le_add_right h1 _, Nat.add_le_add_right h2 _⟩ ⟨⟨_, hS2, Nat.le_refl _⟩, hC.trans hC'⟩ hC' hQ')
end OwnWide
section OwnStr
variable {p : Program} {l : Launch} {e : Env} {R : Room} {s : State} {m : MethodId} {args : Array Value} {below : List Frame} {meth : Method} {c : Code} {T : State} {Z : State} {own mn : String} {bytes : ByteArray} {ml n0 k n : Nat} {rt : Option FieldType} {h h' : Heap} {G : Outcome → State → Prop} {pc q : Nat} {L : Array Slot} {st rest : List Value} {a0 : Array Value} {x y o : Addr} {cs ds : List Int32} {sl : Nat} {v : Value} {ws : List Addr} {ty : FieldType}
/-- the String x spells cs -/
def Str (Z : State) (h : Heap) (x : Addr) (cs : List Int32) : Prop := ∃ (t : Addr) (kb : ClassId), Exa Z h x "java/lang/String" ∧ Fld Z h x "java/lang/String" "value" "[B" (.ref t) ∧ Fld Z h x "java/lang/String" "coder" "B" (.int 0) ∧ Arv Z h t kb .byte (Int32.ofNat cs.length) ((cs.map (fun c => c.toInt8.toInt32)).map Value.int) (.int 0) ∧ (∀ c ∈ cs, ¬ c < 0 ∧ ¬ (255 : Int32) < c) ∧ cs.length ≤ 4000
def Yar (Z : State) (h : Heap) (a : Addr) (ty : FieldType) : Prop := ∃ c : Cell, Arr Z h a c ty
theorem Yar.of {cA : ClassId} {z : Int32} {vs : List Value} {dv : Value} (V : Arv Z h o cA ty z vs dv) : Yar Z h o ty := by obtain ⟨c, A, -⟩ := V; exact ⟨c, A⟩
theorem Yar.ext (Y : Yar Z h o ty) (E : Ext h h') : Yar Z h' o ty := by obtain ⟨c, A⟩ := Y; exact ⟨c, A.ext E⟩
theorem Yar.wr (Y : Yar Z h o ty) (W : Wr h h' x sl v) : Yar Z h' o ty := by
  obtain ⟨c, A⟩ := Y
  by_cases q : o = x
  · subst q; exact ⟨_, A.same W⟩
  · exact ⟨_, A.other W q⟩
theorem Yar.keep (Y : Yar Z h o ty) (K : Keep h h' ws) : Yar Z h' o ty := by
  obtain ⟨c, A1, ⟨A2, kc, A3, comp, A4⟩, A5⟩ := Y
  obtain ⟨c', q1, q2, q3, -⟩ := K.2.2 _ _ A1
  exact ⟨c', q1, ⟨fun r z => A2 r (by rw [← q3]; exact z), kc, by rw [q2]; exact A3, comp, A4⟩, by rw [q3]; exact A5⟩
/-- neither a String nor a byte[] -/
def NoS (Z : State) (h : Heap) (o : Addr) : Prop := (∀ x, Exa Z h x "java/lang/String" → o ≠ x) ∧ ∀ t c, Arr Z h t c .byte → o ≠ t
theorem NoS.exa {K : String} {nn : Nat} (E : Exa Z h o K) (hK : K ≠ "java/lang/String") (wi : (Cond.instantiable K nn).before a0 Z = true) : NoS Z h o := ⟨fun x F => ne_exa E F hK, fun t c A => ne_arr E wi A⟩
theorem NoS.arr {nn : Nat} (Y : Yar Z h o ty) (ht : ty ≠ .byte) (wi : (Cond.instantiable "java/lang/String" nn).before a0 Z = true) : NoS Z h o := by
  obtain ⟨c, A⟩ := Y
  refine ⟨fun x F => Ne.symm (ne_arr F wi A), fun t c' B q => ?_⟩
  subst q
  obtain ⟨A1, ⟨-, k1, A3, comp, A4⟩, -⟩ := A
  obtain ⟨B1, ⟨-, k2, B3, comp', B4⟩, -⟩ := B
  cases A1.symm.trans B1
  cases A3.symm.trans B3
  rw [A4] at B4
  injection B4 with z1 z2
  exact ht z2
theorem Str.lt (F : Str Z h x cs) : x < h.size := by obtain ⟨t, kb, E, -⟩ := F; exact E.lt
theorem Str.exa (F : Str Z h x cs) : Exa Z h x "java/lang/String" := by obtain ⟨t, kb, E, -⟩ := F; exact E
theorem Str.rng (F : Str Z h x cs) : ∀ c ∈ cs, ¬ c < 0 ∧ ¬ (255 : Int32) < c := by obtain ⟨t, kb, -, -, -, -, r, -⟩ := F; exact r
theorem Str.ext (F : Str Z h x cs) (E : Ext h h') : Str Z h' x cs := by obtain ⟨t, kb, f1, f2, f3, f4, r⟩ := F; exact ⟨t, kb, f1.ext E, f2.ext E, f3.ext E, f4.ext E, r⟩
theorem Str.wr (F : Str Z h x cs) (W : Wr h h' o sl v) (N : NoS Z h o) : Str Z h' x cs := by
  obtain ⟨t, kb, f1, f2, f3, f4, r⟩ := F
  have n1 : x ≠ o := Ne.symm (N.1 x f1)
  have n2 : t ≠ o := by obtain ⟨c, A, -⟩ := f4; exact Ne.symm (N.2 t c A)
  exact ⟨t, kb, f1.wr W, f2.other W (Or.inl n1), f3.other W (Or.inl n1), f4.other W n2, r⟩
theorem Str.keep (F : Str Z h x cs) (K : Keep h h' ws) (N : ∀ o ∈ ws, NoS Z h o) : Str Z h' x cs := by
  obtain ⟨t, kb, f1, f2, f3, f4, r⟩ := F
  have n1 : x ∉ ws := fun q => (N x q).1 x f1 rfl
  have n2 : t ∉ ws := fun q => by obtain ⟨c, A, -⟩ := f4; exact (N t q).2 t c A rfl
  exact ⟨t, kb, f1.keep K, f2.keep K n1, f3.keep K n1, f4.keep K n2, r⟩
theorem Str.keepS {nn : Nat} (F : Str Z h x cs) (K : Keep h h' [y]) (hne : x ≠ y) (E : Exa Z h y "java/lang/String") (wi : (Cond.instantiable "java/lang/String" nn).before a0 Z = true) : Str Z h' x cs := by
  obtain ⟨t, kb, f1, f2, f3, f4, r⟩ := F
  have n1 : x ∉ [y] := ninS hne nin0
  have n2 : t ∉ [y] := ninS (by obtain ⟨c, A, -⟩ := f4; exact Ne.symm (ne_arr E wi A)) nin0
  exact ⟨t, kb, f1.keep K, f2.keep K n1, f3.keep K n1, f4.keep K n2, r⟩
theorem Str.cod (hr : ∀ c ∈ cs, ¬ c < 0 ∧ ¬ (255 : Int32) < c) : StrChars.Road.CodA cs 0 (Int32.ofNat cs.length) ((cs.map (fun c => c.toInt8.toInt32)).map Value.int) := StrChars.Road.codOf rfl fun c hc => (hr c hc).2
theorem Str.up (hr : ∀ c ∈ cs, ¬ c < 0 ∧ ¬ (255 : Int32) < c) : ∀ c ∈ cs, ¬ c < 0 ∧ ¬ (65535 : Int32) < c := fun c hc => ⟨(hr c hc).1, fun z => (hr c hc).2 (Int32.lt_trans (by decide) z)⟩
theorem g_strNew (C : Cx p s m meth c Z own bytes ml rt mn) (X : St p l e R s m args below meth c n0 T h k n) {i len k' n' W : Nat} {b : Addr} {kC : ClassId} {d v0 c0 : Value} {z N : Int32} (hwS : ∀ d ∈ StrChars.Road.words, d.before a0 Z = true) (wi : (Cond.instantiable "java/lang/String" 4).before a0 Z = true) (w1 : (Cond.methodLink own i ⟨"java/lang/String", "<init>", "([C)V"⟩).before a0 Z = true) (w2 : (Cond.instanceMethod ⟨"java/lang/String", "<init>", "([C)V"⟩).before a0 Z = true)
    (E : Exa Z h x "java/lang/String") (V : Fld Z h x "java/lang/String" "value" "[B" v0) (Cd : Fld Z h x "java/lang/String" "coder" "B" c0) (K : Arv Z h b kC .char N (cs.map Value.int) d) (S : Sta Z h "java/lang/String" "COMPACT_STRINGS" "Z" (.int z)) (hz : ¬ z = 0) (hlen : cs.length = len) (hN : N = Int32.ofNat len) (l0 : 0 < len) (l2 : len ≤ 4000) (hp : ∀ c ∈ cs, ¬ c < 0 ∧ ¬ (255 : Int32) < c) (hx0 : n0 ≤ x) (hh0 : n0 ≤ h.size)
    (hfr : 4 ≤ R.frames) (hlo : W + 65 ≤ R.locals) (hk : k + 1 = k') (hn : n + len = n') (hkR : k' ≤ R.cells) (hnR : n' ≤ R.slots) (hsz : L.size = ml) (hW : (rest.map fun v => v.category).sum = W) (hd : decode bytes pc = .ok (.invokespecial i, 3)) (hq : pc + 3 = q)
    (r : ∀ T' h', St p l e R s m args below meth c n0 T' h' k' n' → Keep h h' [x] → Str Z h' x cs → Goes p e below G (T'.setTop (mkF m q L rest))) : Goes p e below G (T.setTop (mkF m pc L (.ref b :: .ref x :: rest))) := by
  refine g_callIb C X (y := ⟨"java/lang/String", "<init>", "([C)V"⟩) (a := x) (by decide) rfl w1 w2 (hwS _ (List.mem_cons_self ..)) (StrChars.Road.backV (W := W) C.2.1 hwS (kI := 4) wi (bs := cs.map (fun c => c.toInt8.toInt32)) hx0 hh0 E V Cd K S hz hlen hN l0 l2 hp rfl hfr hlo) hk hn hkR hnR hsz (show parseMethodDescriptor "([C)V" = some ⟨[.array .char], none⟩ by decide +kernel) (argsL := [.ref b]) rfl (rest := rest) rfl rfl hW hd hq ?_
  rintro v T' h' L' hX ⟨rfl, hFr, K', E', C', t, kb, -, -, -, V', A'⟩
  subst hlen hN
  exact r T' h' (hX.resolve_right fun z => z hFr) K' ⟨t, kb, E', V', C', A', hp, l2⟩
theorem g_strEq (C : Cx p s m meth c Z own bytes ml rt mn) (X : St p l e R s m args below meth c n0 T h k n) {i W : Nat} {z : Int32} (hwE : ∀ d ∈ StrChars.Road.wordsEq, d.before a0 Z = true) (wi : (Cond.instantiable "java/lang/String" 4).before a0 Z = true) (w1 : (Cond.methodLink own i ⟨"java/lang/String", "equals", "(Ljava/lang/Object;)Z"⟩).before a0 Z = true) (w2 : (Cond.declares ⟨"java/lang/String", "equals", "(Ljava/lang/Object;)Z"⟩).before a0 Z = true) (w3 : (Cond.selects "java/lang/String" ⟨"java/lang/String", "equals", "(Ljava/lang/Object;)Z"⟩ ⟨"java/lang/String", "equals", "(Ljava/lang/Object;)Z"⟩).before a0 Z = true) (w4 : (Cond.instanceMethod ⟨"java/lang/String", "equals", "(Ljava/lang/Object;)Z"⟩).before a0 Z = true)
    (F : Str Z h x cs) (F' : Str Z h y ds) (S : Sta Z h "java/lang/String" "COMPACT_STRINGS" "Z" (.int z)) (hz : ¬ z = 0) (hfr : 2 ≤ R.frames) (hlo : W + 28 ≤ R.locals) (hkR : k ≤ R.cells) (hnR : n ≤ R.slots) (hsz : L.size = ml) (hW : (rest.map fun v => v.category).sum = W) (hd : decode bytes pc = .ok (.invokevirtual i, 3)) (hq : pc + 3 = q)
    (r : ∀ T', St p l e R s m args below meth c n0 T' h k n → Goes p e below G (T'.setTop (mkF m q L (.int (if cs = ds then 1 else 0) :: rest)))) : Goes p e below G (T.setTop (mkF m pc L (.ref y :: .ref x :: rest))) := by
  obtain ⟨t, kb, E, V, Cd, K, hr, l2⟩ := F
  obtain ⟨t', kb', E', V', Cd', K', hr', l2'⟩ := F'
  refine g_callVb C X (QL := fun v h' L => ((v = some (.int 1) ∧ cs = ds) ∨ (v = some (.int 0) ∧ ¬ cs = ds)) ∧ L = [] ∧ h' = h) (kc := 0) (ks := 0) (y := ⟨"java/lang/String", "equals", "(Ljava/lang/Object;)Z"⟩) (z := ⟨"java/lang/String", "equals", "(Ljava/lang/Object;)Z"⟩) (a := x) (by decide) w1 w2 w3 w4 (nf_sel w3) E (StrChars.Road.eqW (W := W) C.2.1 hwE (kI := 4) wi E V Cd K (Str.cod hr) (Str.up hr) l2 E' V' Cd' K' (Str.cod hr') (Str.up hr') l2' S hz hfr hlo) (k' := k) rfl (n' := n) rfl hkR hnR hsz (show parseMethodDescriptor "(Ljava/lang/Object;)Z" = some ⟨[.object "java/lang/Object"], some .boolean⟩ by decide +kernel) (argsL := [.ref y]) rfl (rest := rest) rfl rfl hW hd hq ?_
  rintro v T' h' L' hX ⟨hv, rfl, rfl⟩
  have r' := r T' (hX.resolve_right fun z => z (Fr.nil _))
  rcases hv with ⟨rfl, hcd⟩ | ⟨rfl, hcd⟩
  · rw [if_pos hcd] at r'; exact r'
  · rw [if_neg hcd] at r'; exact r'
end OwnStr
theorem own_safeY {Z : State} {EL : List (String × Nat)} {vm : Vm} {h : Heap} {o : Addr} {ty : FieldType} (hal : Z.vm.Alike vm) (Y : Yar Z h o ty) (ht : ty ≠ .byte) : Safe Z EL vm h o := by obtain ⟨c, A⟩ := Y; exact Safe.arr hal A ht
theorem own_safeN {Z : State} {EL : List (String × Nat)} {vm : Vm} {h : Heap} {x : Addr} (hal : Z.vm.Alike vm) (E : Exa Z h x "java/lang/String") (F : Fld Z h x "java/lang/String" "value" "[B" .null) : Safe Z EL vm h x := fun B => by
  obtain ⟨p, -, u, a, -, q, -, G, rfl | rfl⟩ := B
  · obtain ⟨cell, cf, k, i, f, h1, h2, h3, h4, h5, h6, h7⟩ := F
    cases (show h[q.sa]? = some q.sC from G.ha).symm.trans h1
    obtain ⟨cS, ⟨⟨-, -, -, ⟨c1, k1, i1, f1, -⟩, -, -, -, v1, -⟩, -⟩, -⟩ := G
    obtain ⟨k3, e3, -⟩ := State.fieldFound?_setVm (s := Z) hal h2
    have e4 := (show (Wst Z vm h).fieldFound? _ _ _ = _ from e3).symm.trans f1
    simp only [Option.some.injEq, Prod.mk.injEq] at e4
    rw [← e4.2.2.2, h7] at v1
    simp at v1
  · obtain ⟨cell, k, e1, e2, e3, -, -⟩ := E
    cases (show h[q.sd]? = some q.SA from G.hd).symm.trans e1
    obtain ⟨cS, -, -, f, -⟩ := G
    have f' : Z.vm.findClass "[B" = some q.SA.cls := by rw [← hal.findClass]; exact f
    obtain ⟨k1, q1, q2⟩ := Vm.findClass_spec f'
    obtain ⟨k2, q3, q4⟩ := Vm.findClass_spec e2
    cases q1.symm.trans q3
    exact absurd (q2.symm.trans q4) (by decide)
def Wd (Z : State) (cz : Int32) : Prop := Sta Z Z.heap "java/lang/String" "COMPACT_STRINGS" "Z" (.int cz) ∧ ¬ cz = 0
theorem own_words {Z : State} {a0 : Array Value} (hw : ∀ d ∈ tables_1, d.before a0 Z = true) : ∀ d ∈ StrChars.Road.words, d.before a0 Z = true := fun d hd => hw d ((by decide +kernel : ∀ d ∈ StrChars.Road.words, d ∈ tables_1) d hd)
theorem own_wordsEq {Z : State} {a0 : Array Value} (hw : ∀ d ∈ tables_1, d.before a0 Z = true) : ∀ d ∈ StrChars.Road.wordsEq, d.before a0 Z = true := fun d hd => hw d ((by decide +kernel : ∀ d ∈ StrChars.Road.wordsEq, d ∈ tables_1) d hd)

theorem d12_0 : decode method_3_code 0 = .ok (.iload_n 0, 1) := by decide +kernel
theorem d12_1 : decode method_3_code 1 = .ok (.iload_n 3, 1) := by decide +kernel
theorem d12_2 : decode method_3_code 2 = .ok (.if_icmp .eq 5, 3) := by decide +kernel
theorem d12_7 : decode method_3_code 7 = .ok (.iload_n 0, 1) := by decide +kernel
theorem d12_8 : decode method_3_code 8 = .ok (.iconst 1, 1) := by decide +kernel
theorem d12_9 : decode method_3_code 9 = .ok (.if_icmp .lt 11, 3) := by decide +kernel
theorem d12_20 : decode method_3_code 20 = .ok (.iload_n 0, 1) := by decide +kernel
theorem d12_21 : decode method_3_code 21 = .ok (.iconst 2, 1) := by decide +kernel
theorem d12_22 : decode method_3_code 22 = .ok (.if_icmp .lt 11, 3) := by decide +kernel
theorem d12_33 : decode method_3_code 33 = .ok (.iconst 1, 1) := by decide +kernel
theorem d12_34 : decode method_3_code 34 = .ok (.ireturn, 1) := by decide +kernel
theorem d12_25 : decode method_3_code 25 = .ok (.iload_n 2, 1) := by decide +kernel
theorem d12_26 : decode method_3_code 26 = .ok (.iload 5, 2) := by decide +kernel
theorem d12_28 : decode method_3_code 28 = .ok (.if_icmp .eq 5, 3) := by decide +kernel
theorem d12_31 : decode method_3_code 31 = .ok (.iconst 0, 1) := by decide +kernel
theorem d12_32 : decode method_3_code 32 = .ok (.ireturn, 1) := by decide +kernel
theorem d12_12 : decode method_3_code 12 = .ok (.iload_n 1, 1) := by decide +kernel
theorem d12_13 : decode method_3_code 13 = .ok (.iload 4, 2) := by decide +kernel
theorem d12_15 : decode method_3_code 15 = .ok (.if_icmp .eq 5, 3) := by decide +kernel
theorem d12_18 : decode method_3_code 18 = .ok (.iconst 0, 1) := by decide +kernel
theorem d12_19 : decode method_3_code 19 = .ok (.ireturn, 1) := by decide +kernel
theorem d12_5 : decode method_3_code 5 = .ok (.iconst 0, 1) := by decide +kernel
theorem d12_6 : decode method_3_code 6 = .ok (.ireturn, 1) := by decide +kernel
theorem pn_23 : plainName "com/example/isolate_to_replay/isolatetoreplay/envelope/OriginEqualsPinLaw" = true := by first | (simp [plainName, overriddenIn]; done) | decide +kernel
theorem d2_0 : decode method_2_code 0 = .ok (.iload_n 0, 1) := by decide +kernel
theorem d2_1 : decode method_2_code 1 = .ok (.ifCond .ne 14, 3) := by decide +kernel
theorem d2_4 : decode method_2_code 4 = .ok (.new 7, 3) := by decide +kernel
theorem w10 {Z : State} {a0 : Array Value} (hw : ∀ d ∈ tables_1, d.before a0 Z = true) : (Jvm.Cond.classLink "com/example/isolate_to_replay/isolatetoreplay/envelope/OriginEqualsPinLaw" (7 : Nat) "java/lang/String").before a0 Z = true := hw _ (List.mem_of_getElem? (i := 10) rfl)
theorem w11 {Z : State} {a0 : Array Value} (hw : ∀ d ∈ tables_1, d.before a0 Z = true) : (Jvm.Cond.instantiable "java/lang/String" (4 : Nat)).before a0 Z = true := hw _ (List.mem_of_getElem? (i := 11) rfl)
theorem w12 {Z : State} {a0 : Array Value} (hw : ∀ d ∈ tables_1, d.before a0 Z = true) : (Jvm.Cond.initialized "java/lang/String").before a0 Z = true := hw _ (List.mem_of_getElem? (i := 12) rfl)
theorem w26 {Z : State} {a0 : Array Value} (hw : ∀ d ∈ tables_1, d.before a0 Z = true) : (Jvm.Cond.laysFinal "java/lang/String" "java/lang/String" "value" "[B").before a0 Z = true := hw _ (List.mem_of_getElem? (i := 26) rfl)
theorem w27 {Z : State} {a0 : Array Value} (hw : ∀ d ∈ tables_1, d.before a0 Z = true) : (Jvm.Cond.laysFinal "java/lang/String" "java/lang/String" "coder" "B").before a0 Z = true := hw _ (List.mem_of_getElem? (i := 27) rfl)
theorem d2_7 : decode method_2_code 7 = .ok (.dup, 1) := by decide +kernel
theorem d2_8 : decode method_2_code 8 = .ok (.iconst 0, 1) := by decide +kernel
theorem d2_9 : decode method_2_code 9 = .ok (.newarray .char, 2) := by decide +kernel
theorem w13 {Z : State} {a0 : Array Value} (hw : ∀ d ∈ tables_1, d.before a0 Z = true) : (Jvm.Cond.arrayClass Jvm.ClassFile.FieldType.char).before a0 Z = true := hw _ (List.mem_of_getElem? (i := 13) rfl)
theorem d2_11 : decode method_2_code 11 = .ok (.invokespecial 9, 3) := by decide +kernel
theorem w14 {Z : State} {a0 : Array Value} (hw : ∀ d ∈ tables_1, d.before a0 Z = true) : (Jvm.Cond.methodLink "com/example/isolate_to_replay/isolatetoreplay/envelope/OriginEqualsPinLaw" (9 : Nat) ({ cls := "java/lang/String", name := "<init>", desc := "([C)V" } : Jvm.MethodName)).before a0 Z = true := hw _ (List.mem_of_getElem? (i := 14) rfl)
theorem d3_0 : decode jdk_42_method_3_code 0 = .ok (.aload_n 0, 1) := by decide +kernel
theorem d3_1 : decode jdk_42_method_3_code 1 = .ok (.aload_n 1, 1) := by decide +kernel
theorem d3_2 : decode jdk_42_method_3_code 2 = .ok (.iconst 0, 1) := by decide +kernel
theorem d3_3 : decode jdk_42_method_3_code 3 = .ok (.aload_n 1, 1) := by decide +kernel
theorem d3_4 : decode jdk_42_method_3_code 4 = .ok (.arraylength, 1) := by decide +kernel
theorem d3_5 : decode jdk_42_method_3_code 5 = .ok (.aconst_null, 1) := by decide +kernel
theorem d3_6 : decode jdk_42_method_3_code 6 = .ok (.invokespecial 27, 3) := by decide +kernel
theorem w17 {Z : State} {a0 : Array Value} (hw : ∀ d ∈ tables_1, d.before a0 Z = true) : (Jvm.Cond.methodLink "java/lang/String" (27 : Nat) ({ cls := "java/lang/String", name := "<init>", desc := "([CIILjava/lang/Void;)V" } : Jvm.MethodName)).before a0 Z = true := hw _ (List.mem_of_getElem? (i := 17) rfl)
theorem d4_0 : decode jdk_42_method_149_code 0 = .ok (.aload_n 0, 1) := by decide +kernel
theorem d4_1 : decode jdk_42_method_149_code 1 = .ok (.invokespecial 1, 3) := by decide +kernel
theorem w21 {Z : State} {a0 : Array Value} (hw : ∀ d ∈ tables_1, d.before a0 Z = true) : (Jvm.Cond.methodLink "java/lang/String" (1 : Nat) ({ cls := "java/lang/Object", name := "<init>", desc := "()V" } : Jvm.MethodName)).before a0 Z = true := hw _ (List.mem_of_getElem? (i := 21) rfl)
theorem w22 {Z : State} {a0 : Array Value} (hw : ∀ d ∈ tables_1, d.before a0 Z = true) : (Jvm.Cond.instanceMethod ({ cls := "java/lang/Object", name := "<init>", desc := "()V" } : Jvm.MethodName)).before a0 Z = true := hw _ (List.mem_of_getElem? (i := 22) rfl)
theorem w23 {Z : State} {a0 : Array Value} (hw : ∀ d ∈ tables_1, d.before a0 Z = true) : (Jvm.Cond.code ({ cls := "java/lang/Object", name := "<init>", desc := "()V" } : Jvm.MethodName) object_method_1_code (1 : Nat) (Option.none : Option Jvm.ClassFile.FieldType)).before a0 Z = true := hw _ (List.mem_of_getElem? (i := 23) rfl)
theorem d4_4 : decode jdk_42_method_149_code 4 = .ok (.iload_n 3, 1) := by decide +kernel
theorem d4_5 : decode jdk_42_method_149_code 5 = .ok (.ifCond .ne 22, 3) := by decide +kernel
theorem d4_8 : decode jdk_42_method_149_code 8 = .ok (.aload_n 0, 1) := by decide +kernel
theorem d4_9 : decode jdk_42_method_149_code 9 = .ok (.ldc 7, 2) := by decide +kernel
theorem w24 {Z : State} {a0 : Array Value} (hw : ∀ d ∈ tables_1, d.before a0 Z = true) : (Jvm.Cond.stringLink "java/lang/String" (7 : Nat) "").before a0 Z = true := hw _ (List.mem_of_getElem? (i := 24) rfl)
theorem d4_11 : decode jdk_42_method_149_code 11 = .ok (.getfield 9, 3) := by decide +kernel
theorem w30 {Z : State} {a0 : Array Value} (hw : ∀ d ∈ tables_1, d.before a0 Z = true) : (Jvm.Cond.fieldLink "java/lang/String" (9 : Nat) "java/lang/String" "value" "[B").before a0 Z = true := hw _ (List.mem_of_getElem? (i := 30) rfl)
theorem d4_14 : decode jdk_42_method_149_code 14 = .ok (.putfield 9, 3) := by decide +kernel
theorem d4_17 : decode jdk_42_method_149_code 17 = .ok (.aload_n 0, 1) := by decide +kernel
theorem d4_18 : decode jdk_42_method_149_code 18 = .ok (.ldc 7, 2) := by decide +kernel
theorem d4_20 : decode jdk_42_method_149_code 20 = .ok (.getfield 15, 3) := by decide +kernel
theorem w31 {Z : State} {a0 : Array Value} (hw : ∀ d ∈ tables_1, d.before a0 Z = true) : (Jvm.Cond.fieldLink "java/lang/String" (15 : Nat) "java/lang/String" "coder" "B").before a0 Z = true := hw _ (List.mem_of_getElem? (i := 31) rfl)
theorem d4_23 : decode jdk_42_method_149_code 23 = .ok (.putfield 15, 3) := by decide +kernel
theorem d4_26 : decode jdk_42_method_149_code 26 = .ok (.return_, 1) := by decide +kernel
theorem pn_51 : plainName "java/lang/String" = true := by first | (simp [plainName, overriddenIn]; done) | decide +kernel
theorem w20 {Z : State} {a0 : Array Value} (hw : ∀ d ∈ tables_1, d.before a0 Z = true) : (Jvm.Cond.code ({ cls := "java/lang/String", name := "<init>", desc := "([CIILjava/lang/Void;)V" } : Jvm.MethodName) jdk_42_method_149_code (6 : Nat) (Option.none : Option Jvm.ClassFile.FieldType)).before a0 Z = true := hw _ (List.mem_of_getElem? (i := 20) rfl)
theorem pd_52 : parseMethodDescriptor "([CIILjava/lang/Void;)V" = some ⟨[(.array .char), .int, .int, (.object "java/lang/Void")], none⟩ := by decide +kernel
theorem w18 {Z : State} {a0 : Array Value} (hw : ∀ d ∈ tables_1, d.before a0 Z = true) : (Jvm.Cond.instanceMethod ({ cls := "java/lang/String", name := "<init>", desc := "([CIILjava/lang/Void;)V" } : Jvm.MethodName)).before a0 Z = true := hw _ (List.mem_of_getElem? (i := 18) rfl)
theorem d3_9 : decode jdk_42_method_3_code 9 = .ok (.return_, 1) := by decide +kernel
theorem w16 {Z : State} {a0 : Array Value} (hw : ∀ d ∈ tables_1, d.before a0 Z = true) : (Jvm.Cond.code ({ cls := "java/lang/String", name := "<init>", desc := "([C)V" } : Jvm.MethodName) jdk_42_method_3_code (2 : Nat) (Option.none : Option Jvm.ClassFile.FieldType)).before a0 Z = true := hw _ (List.mem_of_getElem? (i := 16) rfl)
theorem pd_54 : parseMethodDescriptor "([C)V" = some ⟨[(.array .char)], none⟩ := by decide +kernel
theorem w15 {Z : State} {a0 : Array Value} (hw : ∀ d ∈ tables_1, d.before a0 Z = true) : (Jvm.Cond.instanceMethod ({ cls := "java/lang/String", name := "<init>", desc := "([C)V" } : Jvm.MethodName)).before a0 Z = true := hw _ (List.mem_of_getElem? (i := 15) rfl)
theorem d2_14 : decode method_2_code 14 = .ok (.areturn, 1) := by decide +kernel
theorem d2_15 : decode method_2_code 15 = .ok (.iload_n 0, 1) := by decide +kernel
theorem d2_16 : decode method_2_code 16 = .ok (.iconst 1, 1) := by decide +kernel
theorem d2_17 : decode method_2_code 17 = .ok (.if_icmp .ne 19, 3) := by decide +kernel
theorem d2_20 : decode method_2_code 20 = .ok (.new 7, 3) := by decide +kernel
theorem d2_23 : decode method_2_code 23 = .ok (.dup, 1) := by decide +kernel
theorem d2_24 : decode method_2_code 24 = .ok (.iconst 1, 1) := by decide +kernel
theorem d2_25 : decode method_2_code 25 = .ok (.newarray .char, 2) := by decide +kernel
theorem d2_27 : decode method_2_code 27 = .ok (.dup, 1) := by decide +kernel
theorem d2_28 : decode method_2_code 28 = .ok (.iconst 0, 1) := by decide +kernel
theorem d2_29 : decode method_2_code 29 = .ok (.iload_n 1, 1) := by decide +kernel
theorem d2_30 : decode method_2_code 30 = .ok (.i2c, 1) := by decide +kernel
theorem d2_31 : decode method_2_code 31 = .ok (.castore, 1) := by decide +kernel
theorem d2_32 : decode method_2_code 32 = .ok (.invokespecial 9, 3) := by decide +kernel
theorem d2_35 : decode method_2_code 35 = .ok (.areturn, 1) := by decide +kernel
theorem d2_36 : decode method_2_code 36 = .ok (.new 7, 3) := by decide +kernel
theorem d2_39 : decode method_2_code 39 = .ok (.dup, 1) := by decide +kernel
theorem d2_40 : decode method_2_code 40 = .ok (.iconst 2, 1) := by decide +kernel
theorem d2_41 : decode method_2_code 41 = .ok (.newarray .char, 2) := by decide +kernel
theorem d2_43 : decode method_2_code 43 = .ok (.dup, 1) := by decide +kernel
theorem d2_44 : decode method_2_code 44 = .ok (.iconst 0, 1) := by decide +kernel
theorem d2_45 : decode method_2_code 45 = .ok (.iload_n 1, 1) := by decide +kernel
theorem d2_46 : decode method_2_code 46 = .ok (.i2c, 1) := by decide +kernel
theorem d2_47 : decode method_2_code 47 = .ok (.castore, 1) := by decide +kernel
theorem d2_48 : decode method_2_code 48 = .ok (.dup, 1) := by decide +kernel
theorem d2_49 : decode method_2_code 49 = .ok (.iconst 1, 1) := by decide +kernel
theorem d2_50 : decode method_2_code 50 = .ok (.iload_n 2, 1) := by decide +kernel
theorem d2_51 : decode method_2_code 51 = .ok (.i2c, 1) := by decide +kernel
theorem d2_52 : decode method_2_code 52 = .ok (.castore, 1) := by decide +kernel
theorem d2_53 : decode method_2_code 53 = .ok (.invokespecial 9, 3) := by decide +kernel
theorem d2_56 : decode method_2_code 56 = .ok (.areturn, 1) := by decide +kernel
theorem d1_0 : decode method_4_code 0 = .ok (.iload_n 0, 1) := by decide +kernel
theorem d1_1 : decode method_4_code 1 = .ok (.iload_n 1, 1) := by decide +kernel
theorem d1_2 : decode method_4_code 2 = .ok (.iushr, 1) := by decide +kernel
theorem d1_3 : decode method_4_code 3 = .ok (.iconst 1, 1) := by decide +kernel
theorem d1_4 : decode method_4_code 4 = .ok (.iand, 1) := by decide +kernel
theorem d1_5 : decode method_4_code 5 = .ok (.ifCond .eq 5, 3) := by decide +kernel
theorem d1_10 : decode method_4_code 10 = .ok (.iload_n 3, 1) := by decide +kernel
theorem d1_11 : decode method_4_code 11 = .ok (.ireturn, 1) := by decide +kernel
theorem d1_8 : decode method_4_code 8 = .ok (.iload_n 2, 1) := by decide +kernel
theorem d1_9 : decode method_4_code 9 = .ok (.ireturn, 1) := by decide +kernel
theorem w0 {Z : State} {a0 : Array Value} (hw : ∀ d ∈ tables_1, d.before a0 Z = true) : (Jvm.Cond.methodLink "com/example/isolate_to_replay/isolatetoreplay/envelope/OriginEqualsPinLaw" (12 : Nat) ({ cls := "com/example/isolate_to_replay/isolatetoreplay/envelope/OriginEqualsPinLaw", name := "pick", desc := "(IIII)I" } : Jvm.MethodName)).before a0 Z = true := hw _ (List.mem_of_getElem? (i := 0) rfl)
theorem w3 {Z : State} {a0 : Array Value} (hw : ∀ d ∈ tables_1, d.before a0 Z = true) : (Jvm.Cond.code ({ cls := "com/example/isolate_to_replay/isolatetoreplay/envelope/OriginEqualsPinLaw", name := "pick", desc := "(IIII)I" } : Jvm.MethodName) method_4_code (4 : Nat) (Option.some Jvm.ClassFile.FieldType.int)).before a0 Z = true := hw _ (List.mem_of_getElem? (i := 3) rfl)
theorem w2 {Z : State} {a0 : Array Value} (hw : ∀ d ∈ tables_1, d.before a0 Z = true) : (Jvm.Cond.initialized "com/example/isolate_to_replay/isolatetoreplay/envelope/OriginEqualsPinLaw").before a0 Z = true := hw _ (List.mem_of_getElem? (i := 2) rfl)
theorem pd_96 : parseMethodDescriptor "(IIII)I" = some ⟨[.int, .int, .int, .int], some .int⟩ := by decide +kernel
theorem w1 {Z : State} {a0 : Array Value} (hw : ∀ d ∈ tables_1, d.before a0 Z = true) : (Jvm.Cond.static ({ cls := "com/example/isolate_to_replay/isolatetoreplay/envelope/OriginEqualsPinLaw", name := "pick", desc := "(IIII)I" } : Jvm.MethodName)).before a0 Z = true := hw _ (List.mem_of_getElem? (i := 1) rfl)
theorem w4 {Z : State} {a0 : Array Value} (hw : ∀ d ∈ tables_1, d.before a0 Z = true) : (Jvm.Cond.classLink "com/example/isolate_to_replay/isolatetoreplay/envelope/OriginEqualsPinLaw" (18 : Nat) "com/example/isolate_to_replay/isolatetoreplay/envelope/Origin").before a0 Z = true := hw _ (List.mem_of_getElem? (i := 4) rfl)
theorem w5 {Z : State} {a0 : Array Value} (hw : ∀ d ∈ tables_1, d.before a0 Z = true) : (Jvm.Cond.instantiable "com/example/isolate_to_replay/isolatetoreplay/envelope/Origin" (3 : Nat)).before a0 Z = true := hw _ (List.mem_of_getElem? (i := 5) rfl)
theorem w6 {Z : State} {a0 : Array Value} (hw : ∀ d ∈ tables_1, d.before a0 Z = true) : (Jvm.Cond.initialized "com/example/isolate_to_replay/isolatetoreplay/envelope/Origin").before a0 Z = true := hw _ (List.mem_of_getElem? (i := 6) rfl)
theorem w43 {Z : State} {a0 : Array Value} (hw : ∀ d ∈ tables_1, d.before a0 Z = true) : (Jvm.Cond.laysFinal "com/example/isolate_to_replay/isolatetoreplay/envelope/Origin" "com/example/isolate_to_replay/isolatetoreplay/envelope/Origin" "queue" "Ljava/lang/String;").before a0 Z = true := hw _ (List.mem_of_getElem? (i := 43) rfl)
theorem w46 {Z : State} {a0 : Array Value} (hw : ∀ d ∈ tables_1, d.before a0 Z = true) : (Jvm.Cond.laysFinal "com/example/isolate_to_replay/isolatetoreplay/envelope/Origin" "com/example/isolate_to_replay/isolatetoreplay/envelope/Origin" "exchange" "Ljava/lang/String;").before a0 Z = true := hw _ (List.mem_of_getElem? (i := 46) rfl)
theorem w49 {Z : State} {a0 : Array Value} (hw : ∀ d ∈ tables_1, d.before a0 Z = true) : (Jvm.Cond.laysFinal "com/example/isolate_to_replay/isolatetoreplay/envelope/Origin" "com/example/isolate_to_replay/isolatetoreplay/envelope/Origin" "routingKey" "Ljava/lang/String;").before a0 Z = true := hw _ (List.mem_of_getElem? (i := 49) rfl)
theorem w7 {Z : State} {a0 : Array Value} (hw : ∀ d ∈ tables_1, d.before a0 Z = true) : (Jvm.Cond.methodLink "com/example/isolate_to_replay/isolatetoreplay/envelope/OriginEqualsPinLaw" (20 : Nat) ({ cls := "com/example/isolate_to_replay/isolatetoreplay/envelope/OriginEqualsPinLaw", name := "mk", desc := "(III)Ljava/lang/String;" } : Jvm.MethodName)).before a0 Z = true := hw _ (List.mem_of_getElem? (i := 7) rfl)
theorem w9 {Z : State} {a0 : Array Value} (hw : ∀ d ∈ tables_1, d.before a0 Z = true) : (Jvm.Cond.code ({ cls := "com/example/isolate_to_replay/isolatetoreplay/envelope/OriginEqualsPinLaw", name := "mk", desc := "(III)Ljava/lang/String;" } : Jvm.MethodName) method_2_code (3 : Nat) (Option.some (Jvm.ClassFile.FieldType.object "java/lang/String"))).before a0 Z = true := hw _ (List.mem_of_getElem? (i := 9) rfl)
theorem pd_97 : parseMethodDescriptor "(III)Ljava/lang/String;" = some ⟨[.int, .int, .int], some (.object "java/lang/String")⟩ := by decide +kernel
theorem w8 {Z : State} {a0 : Array Value} (hw : ∀ d ∈ tables_1, d.before a0 Z = true) : (Jvm.Cond.static ({ cls := "com/example/isolate_to_replay/isolatetoreplay/envelope/OriginEqualsPinLaw", name := "mk", desc := "(III)Ljava/lang/String;" } : Jvm.MethodName)).before a0 Z = true := hw _ (List.mem_of_getElem? (i := 8) rfl)
theorem w32 {Z : State} {a0 : Array Value} (hw : ∀ d ∈ tables_1, d.before a0 Z = true) : (Jvm.Cond.methodLink "com/example/isolate_to_replay/isolatetoreplay/envelope/OriginEqualsPinLaw" (24 : Nat) ({ cls := "com/example/isolate_to_replay/isolatetoreplay/envelope/Origin", name := "<init>", desc := "(Ljava/lang/String;Ljava/lang/String;Ljava/lang/String;)V" } : Jvm.MethodName)).before a0 Z = true := hw _ (List.mem_of_getElem? (i := 32) rfl)
theorem d6_0 : decode prog_9_method_1_code 0 = .ok (.aload_n 0, 1) := by decide +kernel
theorem d6_1 : decode prog_9_method_1_code 1 = .ok (.invokespecial 1, 3) := by decide +kernel
theorem w35 {Z : State} {a0 : Array Value} (hw : ∀ d ∈ tables_1, d.before a0 Z = true) : (Jvm.Cond.methodLink "com/example/isolate_to_replay/isolatetoreplay/envelope/Origin" (1 : Nat) ({ cls := "java/lang/Object", name := "<init>", desc := "()V" } : Jvm.MethodName)).before a0 Z = true := hw _ (List.mem_of_getElem? (i := 35) rfl)
theorem d6_4 : decode prog_9_method_1_code 4 = .ok (.aload_n 0, 1) := by decide +kernel
theorem d6_5 : decode prog_9_method_1_code 5 = .ok (.aload_n 1, 1) := by decide +kernel
theorem d6_6 : decode prog_9_method_1_code 6 = .ok (.ldc 7, 2) := by decide +kernel
theorem w36 {Z : State} {a0 : Array Value} (hw : ∀ d ∈ tables_1, d.before a0 Z = true) : (Jvm.Cond.stringLink "com/example/isolate_to_replay/isolatetoreplay/envelope/Origin" (7 : Nat) "queue").before a0 Z = true := hw _ (List.mem_of_getElem? (i := 36) rfl)
theorem d6_8 : decode prog_9_method_1_code 8 = .ok (.invokestatic 9, 3) := by decide +kernel
theorem w37 {Z : State} {a0 : Array Value} (hw : ∀ d ∈ tables_1, d.before a0 Z = true) : (Jvm.Cond.methodLink "com/example/isolate_to_replay/isolatetoreplay/envelope/Origin" (9 : Nat) ({ cls := "java/util/Objects", name := "requireNonNull", desc := "(Ljava/lang/Object;Ljava/lang/String;)Ljava/lang/Object;" } : Jvm.MethodName)).before a0 Z = true := hw _ (List.mem_of_getElem? (i := 37) rfl)
theorem d7_0 : decode jdk_31_method_11_code 0 = .ok (.aload_n 0, 1) := by decide +kernel
theorem d7_1 : decode jdk_31_method_11_code 1 = .ok (.ifnonnull 12, 3) := by decide +kernel
theorem d7_13 : decode jdk_31_method_11_code 13 = .ok (.aload_n 0, 1) := by decide +kernel
theorem d7_14 : decode jdk_31_method_11_code 14 = .ok (.areturn, 1) := by decide +kernel
theorem pn_108 : plainName "java/util/Objects" = true := by first | (simp [plainName, overriddenIn]; done) | decide +kernel
theorem w40 {Z : State} {a0 : Array Value} (hw : ∀ d ∈ tables_1, d.before a0 Z = true) : (Jvm.Cond.code ({ cls := "java/util/Objects", name := "requireNonNull", desc := "(Ljava/lang/Object;Ljava/lang/String;)Ljava/lang/Object;" } : Jvm.MethodName) jdk_31_method_11_code (2 : Nat) (Option.some (Jvm.ClassFile.FieldType.object "java/lang/Object"))).before a0 Z = true := hw _ (List.mem_of_getElem? (i := 40) rfl)
theorem w39 {Z : State} {a0 : Array Value} (hw : ∀ d ∈ tables_1, d.before a0 Z = true) : (Jvm.Cond.initialized "java/util/Objects").before a0 Z = true := hw _ (List.mem_of_getElem? (i := 39) rfl)
theorem pd_109 : parseMethodDescriptor "(Ljava/lang/Object;Ljava/lang/String;)Ljava/lang/Object;" = some ⟨[(.object "java/lang/Object"), (.object "java/lang/String")], some (.object "java/lang/Object")⟩ := by decide +kernel
theorem w38 {Z : State} {a0 : Array Value} (hw : ∀ d ∈ tables_1, d.before a0 Z = true) : (Jvm.Cond.static ({ cls := "java/util/Objects", name := "requireNonNull", desc := "(Ljava/lang/Object;Ljava/lang/String;)Ljava/lang/Object;" } : Jvm.MethodName)).before a0 Z = true := hw _ (List.mem_of_getElem? (i := 38) rfl)
theorem d6_11 : decode prog_9_method_1_code 11 = .ok (.checkcast 15, 3) := by decide +kernel
theorem w41 {Z : State} {a0 : Array Value} (hw : ∀ d ∈ tables_1, d.before a0 Z = true) : (Jvm.Cond.classLink "com/example/isolate_to_replay/isolatetoreplay/envelope/Origin" (15 : Nat) "java/lang/String").before a0 Z = true := hw _ (List.mem_of_getElem? (i := 41) rfl)
theorem d6_14 : decode prog_9_method_1_code 14 = .ok (.putfield 17, 3) := by decide +kernel
theorem w42 {Z : State} {a0 : Array Value} (hw : ∀ d ∈ tables_1, d.before a0 Z = true) : (Jvm.Cond.fieldLink "com/example/isolate_to_replay/isolatetoreplay/envelope/Origin" (17 : Nat) "com/example/isolate_to_replay/isolatetoreplay/envelope/Origin" "queue" "Ljava/lang/String;").before a0 Z = true := hw _ (List.mem_of_getElem? (i := 42) rfl)
theorem d6_17 : decode prog_9_method_1_code 17 = .ok (.aload_n 0, 1) := by decide +kernel
theorem d6_18 : decode prog_9_method_1_code 18 = .ok (.aload_n 2, 1) := by decide +kernel
theorem d6_19 : decode prog_9_method_1_code 19 = .ok (.ldc 22, 2) := by decide +kernel
theorem w44 {Z : State} {a0 : Array Value} (hw : ∀ d ∈ tables_1, d.before a0 Z = true) : (Jvm.Cond.stringLink "com/example/isolate_to_replay/isolatetoreplay/envelope/Origin" (22 : Nat) "exchange").before a0 Z = true := hw _ (List.mem_of_getElem? (i := 44) rfl)
theorem d6_21 : decode prog_9_method_1_code 21 = .ok (.invokestatic 9, 3) := by decide +kernel
theorem d6_24 : decode prog_9_method_1_code 24 = .ok (.checkcast 15, 3) := by decide +kernel
theorem d6_27 : decode prog_9_method_1_code 27 = .ok (.putfield 24, 3) := by decide +kernel
theorem w45 {Z : State} {a0 : Array Value} (hw : ∀ d ∈ tables_1, d.before a0 Z = true) : (Jvm.Cond.fieldLink "com/example/isolate_to_replay/isolatetoreplay/envelope/Origin" (24 : Nat) "com/example/isolate_to_replay/isolatetoreplay/envelope/Origin" "exchange" "Ljava/lang/String;").before a0 Z = true := hw _ (List.mem_of_getElem? (i := 45) rfl)
theorem d6_30 : decode prog_9_method_1_code 30 = .ok (.aload_n 0, 1) := by decide +kernel
theorem d6_31 : decode prog_9_method_1_code 31 = .ok (.aload_n 3, 1) := by decide +kernel
theorem d6_32 : decode prog_9_method_1_code 32 = .ok (.ldc 26, 2) := by decide +kernel
theorem w47 {Z : State} {a0 : Array Value} (hw : ∀ d ∈ tables_1, d.before a0 Z = true) : (Jvm.Cond.stringLink "com/example/isolate_to_replay/isolatetoreplay/envelope/Origin" (26 : Nat) "routingKey").before a0 Z = true := hw _ (List.mem_of_getElem? (i := 47) rfl)
theorem d6_34 : decode prog_9_method_1_code 34 = .ok (.invokestatic 9, 3) := by decide +kernel
theorem d6_37 : decode prog_9_method_1_code 37 = .ok (.checkcast 15, 3) := by decide +kernel
theorem d6_40 : decode prog_9_method_1_code 40 = .ok (.putfield 28, 3) := by decide +kernel
theorem w48 {Z : State} {a0 : Array Value} (hw : ∀ d ∈ tables_1, d.before a0 Z = true) : (Jvm.Cond.fieldLink "com/example/isolate_to_replay/isolatetoreplay/envelope/Origin" (28 : Nat) "com/example/isolate_to_replay/isolatetoreplay/envelope/Origin" "routingKey" "Ljava/lang/String;").before a0 Z = true := hw _ (List.mem_of_getElem? (i := 48) rfl)
theorem d6_43 : decode prog_9_method_1_code 43 = .ok (.return_, 1) := by decide +kernel
theorem pn_125 : plainName "com/example/isolate_to_replay/isolatetoreplay/envelope/Origin" = true := by first | (simp [plainName, overriddenIn]; done) | decide +kernel
theorem w34 {Z : State} {a0 : Array Value} (hw : ∀ d ∈ tables_1, d.before a0 Z = true) : (Jvm.Cond.code ({ cls := "com/example/isolate_to_replay/isolatetoreplay/envelope/Origin", name := "<init>", desc := "(Ljava/lang/String;Ljava/lang/String;Ljava/lang/String;)V" } : Jvm.MethodName) prog_9_method_1_code (4 : Nat) (Option.none : Option Jvm.ClassFile.FieldType)).before a0 Z = true := hw _ (List.mem_of_getElem? (i := 34) rfl)
theorem pd_126 : parseMethodDescriptor "(Ljava/lang/String;Ljava/lang/String;Ljava/lang/String;)V" = some ⟨[(.object "java/lang/String"), (.object "java/lang/String"), (.object "java/lang/String")], none⟩ := by decide +kernel
theorem w33 {Z : State} {a0 : Array Value} (hw : ∀ d ∈ tables_1, d.before a0 Z = true) : (Jvm.Cond.instanceMethod ({ cls := "com/example/isolate_to_replay/isolatetoreplay/envelope/Origin", name := "<init>", desc := "(Ljava/lang/String;Ljava/lang/String;Ljava/lang/String;)V" } : Jvm.MethodName)).before a0 Z = true := hw _ (List.mem_of_getElem? (i := 33) rfl)
theorem w50 {Z : State} {a0 : Array Value} (hw : ∀ d ∈ tables_1, d.before a0 Z = true) : (Jvm.Cond.methodLink "com/example/isolate_to_replay/isolatetoreplay/envelope/OriginEqualsPinLaw" (31 : Nat) ({ cls := "com/example/isolate_to_replay/isolatetoreplay/envelope/Origin", name := "equals", desc := "(Ljava/lang/Object;)Z" } : Jvm.MethodName)).before a0 Z = true := hw _ (List.mem_of_getElem? (i := 50) rfl)
theorem d8_0 : decode prog_9_method_5_code 0 = .ok (.aload_n 1, 1) := by decide +kernel
theorem d8_1 : decode prog_9_method_5_code 1 = .ok (.instanceof 18, 3) := by decide +kernel
theorem w69 {Z : State} {a0 : Array Value} (hw : ∀ d ∈ tables_1, d.before a0 Z = true) : (Jvm.Cond.classLink "com/example/isolate_to_replay/isolatetoreplay/envelope/Origin" (18 : Nat) "com/example/isolate_to_replay/isolatetoreplay/envelope/Origin").before a0 Z = true := hw _ (List.mem_of_getElem? (i := 69) rfl)
theorem d8_4 : decode prog_9_method_5_code 4 = .ok (.ifCond .ne 5, 3) := by decide +kernel
theorem d8_7 : decode prog_9_method_5_code 7 = .ok (.iconst 0, 1) := by decide +kernel
theorem d8_8 : decode prog_9_method_5_code 8 = .ok (.ireturn, 1) := by decide +kernel
theorem w54 {Z : State} {a0 : Array Value} (hw : ∀ d ∈ tables_1, d.before a0 Z = true) : (Jvm.Cond.code ({ cls := "com/example/isolate_to_replay/isolatetoreplay/envelope/Origin", name := "equals", desc := "(Ljava/lang/Object;)Z" } : Jvm.MethodName) prog_9_method_5_code (3 : Nat) (Option.some Jvm.ClassFile.FieldType.boolean)).before a0 Z = true := hw _ (List.mem_of_getElem? (i := 54) rfl)
theorem pd_132 : parseMethodDescriptor "(Ljava/lang/Object;)Z" = some ⟨[(.object "java/lang/Object")], some .boolean⟩ := by decide +kernel
theorem w51 {Z : State} {a0 : Array Value} (hw : ∀ d ∈ tables_1, d.before a0 Z = true) : (Jvm.Cond.declares ({ cls := "com/example/isolate_to_replay/isolatetoreplay/envelope/Origin", name := "equals", desc := "(Ljava/lang/Object;)Z" } : Jvm.MethodName)).before a0 Z = true := hw _ (List.mem_of_getElem? (i := 51) rfl)
theorem w53 {Z : State} {a0 : Array Value} (hw : ∀ d ∈ tables_1, d.before a0 Z = true) : (Jvm.Cond.selects "com/example/isolate_to_replay/isolatetoreplay/envelope/Origin" ({ cls := "com/example/isolate_to_replay/isolatetoreplay/envelope/Origin", name := "equals", desc := "(Ljava/lang/Object;)Z" } : Jvm.MethodName) ({ cls := "com/example/isolate_to_replay/isolatetoreplay/envelope/Origin", name := "equals", desc := "(Ljava/lang/Object;)Z" } : Jvm.MethodName)).before a0 Z = true := hw _ (List.mem_of_getElem? (i := 53) rfl)
theorem w52 {Z : State} {a0 : Array Value} (hw : ∀ d ∈ tables_1, d.before a0 Z = true) : (Jvm.Cond.instanceMethod ({ cls := "com/example/isolate_to_replay/isolatetoreplay/envelope/Origin", name := "equals", desc := "(Ljava/lang/Object;)Z" } : Jvm.MethodName)).before a0 Z = true := hw _ (List.mem_of_getElem? (i := 52) rfl)
theorem w82 {Z : State} {a0 : Array Value} (hw : ∀ d ∈ tables_1, d.before a0 Z = true) : (Jvm.Cond.noSuperclass "java/lang/Object").before a0 Z = true := hw _ (List.mem_of_getElem? (i := 82) rfl)
theorem w81 {Z : State} {a0 : Array Value} (hw : ∀ d ∈ tables_1, d.before a0 Z = true) : (Jvm.Cond.superclass "java/lang/String" "java/lang/Object").before a0 Z = true := hw _ (List.mem_of_getElem? (i := 81) rfl)
theorem w66 {Z : State} {a0 : Array Value} (hw : ∀ d ∈ tables_1, d.before a0 Z = true) : (Jvm.Cond.methodLink "com/example/isolate_to_replay/isolatetoreplay/envelope/OriginEqualsPinLaw" (27 : Nat) ({ cls := "com/example/isolate_to_replay/isolatetoreplay/envelope/OriginEqualsPinLaw", name := "same", desc := "(IIIIII)Z" } : Jvm.MethodName)).before a0 Z = true := hw _ (List.mem_of_getElem? (i := 66) rfl)
theorem w68 {Z : State} {a0 : Array Value} (hw : ∀ d ∈ tables_1, d.before a0 Z = true) : (Jvm.Cond.code ({ cls := "com/example/isolate_to_replay/isolatetoreplay/envelope/OriginEqualsPinLaw", name := "same", desc := "(IIIIII)Z" } : Jvm.MethodName) method_3_code (6 : Nat) (Option.some Jvm.ClassFile.FieldType.boolean)).before a0 Z = true := hw _ (List.mem_of_getElem? (i := 68) rfl)
theorem pd_133 : parseMethodDescriptor "(IIIIII)Z" = some ⟨[.int, .int, .int, .int, .int, .int], some .boolean⟩ := by decide +kernel
theorem w67 {Z : State} {a0 : Array Value} (hw : ∀ d ∈ tables_1, d.before a0 Z = true) : (Jvm.Cond.static ({ cls := "com/example/isolate_to_replay/isolatetoreplay/envelope/OriginEqualsPinLaw", name := "same", desc := "(IIIIII)Z" } : Jvm.MethodName)).before a0 Z = true := hw _ (List.mem_of_getElem? (i := 67) rfl)
theorem d8_9 : decode prog_9_method_5_code 9 = .ok (.aload_n 1, 1) := by decide +kernel
theorem d8_10 : decode prog_9_method_5_code 10 = .ok (.checkcast 18, 3) := by decide +kernel
theorem d8_13 : decode prog_9_method_5_code 13 = .ok (.astore_n 2, 1) := by decide +kernel
theorem d8_14 : decode prog_9_method_5_code 14 = .ok (.aload_n 0, 1) := by decide +kernel
theorem d8_15 : decode prog_9_method_5_code 15 = .ok (.getfield 17, 3) := by decide +kernel
theorem d8_18 : decode prog_9_method_5_code 18 = .ok (.aload_n 2, 1) := by decide +kernel
theorem d8_19 : decode prog_9_method_5_code 19 = .ok (.getfield 17, 3) := by decide +kernel
theorem d8_22 : decode prog_9_method_5_code 22 = .ok (.invokevirtual 30, 3) := by decide +kernel
theorem w71 {Z : State} {a0 : Array Value} (hw : ∀ d ∈ tables_1, d.before a0 Z = true) : (Jvm.Cond.methodLink "com/example/isolate_to_replay/isolatetoreplay/envelope/Origin" (30 : Nat) ({ cls := "java/lang/String", name := "equals", desc := "(Ljava/lang/Object;)Z" } : Jvm.MethodName)).before a0 Z = true := hw _ (List.mem_of_getElem? (i := 71) rfl)
theorem w72 {Z : State} {a0 : Array Value} (hw : ∀ d ∈ tables_1, d.before a0 Z = true) : (Jvm.Cond.declares ({ cls := "java/lang/String", name := "equals", desc := "(Ljava/lang/Object;)Z" } : Jvm.MethodName)).before a0 Z = true := hw _ (List.mem_of_getElem? (i := 72) rfl)
theorem w74 {Z : State} {a0 : Array Value} (hw : ∀ d ∈ tables_1, d.before a0 Z = true) : (Jvm.Cond.selects "java/lang/String" ({ cls := "java/lang/String", name := "equals", desc := "(Ljava/lang/Object;)Z" } : Jvm.MethodName) ({ cls := "java/lang/String", name := "equals", desc := "(Ljava/lang/Object;)Z" } : Jvm.MethodName)).before a0 Z = true := hw _ (List.mem_of_getElem? (i := 74) rfl)
theorem w73 {Z : State} {a0 : Array Value} (hw : ∀ d ∈ tables_1, d.before a0 Z = true) : (Jvm.Cond.instanceMethod ({ cls := "java/lang/String", name := "equals", desc := "(Ljava/lang/Object;)Z" } : Jvm.MethodName)).before a0 Z = true := hw _ (List.mem_of_getElem? (i := 73) rfl)
theorem d8_25 : decode prog_9_method_5_code 25 = .ok (.ifCond .eq 35, 3) := by decide +kernel
theorem d8_28 : decode prog_9_method_5_code 28 = .ok (.aload_n 0, 1) := by decide +kernel
theorem d8_29 : decode prog_9_method_5_code 29 = .ok (.getfield 24, 3) := by decide +kernel
theorem d8_32 : decode prog_9_method_5_code 32 = .ok (.aload_n 2, 1) := by decide +kernel
theorem d8_33 : decode prog_9_method_5_code 33 = .ok (.getfield 24, 3) := by decide +kernel
theorem d8_36 : decode prog_9_method_5_code 36 = .ok (.invokevirtual 30, 3) := by decide +kernel
theorem d8_39 : decode prog_9_method_5_code 39 = .ok (.ifCond .eq 21, 3) := by decide +kernel
theorem d8_42 : decode prog_9_method_5_code 42 = .ok (.aload_n 0, 1) := by decide +kernel
theorem d8_43 : decode prog_9_method_5_code 43 = .ok (.getfield 28, 3) := by decide +kernel
theorem d8_46 : decode prog_9_method_5_code 46 = .ok (.aload_n 2, 1) := by decide +kernel
theorem d8_47 : decode prog_9_method_5_code 47 = .ok (.getfield 28, 3) := by decide +kernel
theorem d8_50 : decode prog_9_method_5_code 50 = .ok (.invokevirtual 30, 3) := by decide +kernel
theorem d8_53 : decode prog_9_method_5_code 53 = .ok (.ifCond .eq 7, 3) := by decide +kernel
theorem d8_56 : decode prog_9_method_5_code 56 = .ok (.iconst 1, 1) := by decide +kernel
theorem d8_57 : decode prog_9_method_5_code 57 = .ok (.goto 4, 3) := by decide +kernel
theorem d8_61 : decode prog_9_method_5_code 61 = .ok (.ireturn, 1) := by decide +kernel
theorem d8_60 : decode prog_9_method_5_code 60 = .ok (.iconst 0, 1) := by decide +kernel
theorem own_EL {Z : State} {a0 : Array Value} (hw : ∀ d ∈ tables_1, d.before a0 Z = true) : EW Z a0 consts_1 := (EW.cons (w36 hw) (by decide) (EW.cons (w44 hw) (by decide) (EW.cons (w47 hw) (by decide) (EW.cons (w24 hw) (by decide) EW.nil))))
theorem own_SA {Z : State} {a0 : Array Value} (hw : ∀ d ∈ tables_1, d.before a0 Z = true) : ∀ d ∈ Bundle.stringAtoms, d.before a0 Z = true := fun d hd => hw d ((by decide +kernel : ∀ d ∈ Bundle.stringAtoms, d ∈ tables_1) d hd)
theorem w25 {Z : State} {a0 : Array Value} (hw : ∀ d ∈ tables_1, d.before a0 Z = true) : (Jvm.Cond.arrayClass Jvm.ClassFile.FieldType.byte).before a0 Z = true := hw _ (List.mem_of_getElem? (i := 25) rfl)
def own_same (p0 : Int32) (p1 : Int32) (p2 : Int32) (p3 : Int32) (p4 : Int32) (p5 : Int32) : Int32 := (if p0 = p3 then (if p0 < (1 : Int32) then (if p0 < (2 : Int32) then (1 : Int32) else (if p2 = p5 then (1 : Int32) else (0 : Int32))) else (if p1 = p4 then (if p0 < (2 : Int32) then (1 : Int32) else (if p2 = p5 then (1 : Int32) else (0 : Int32))) else (0 : Int32))) else (0 : Int32))
set_option maxRecDepth 65536 in
set_option maxHeartbeats 40000000 in
theorem rm_own_same {l : Launch} {Z : State} {a0 : Array Value} (hw : ∀ d ∈ tables_1, d.before a0 Z = true) {p0 : Int32} {p1 : Int32} {p2 : Int32} {p3 : Int32} {p4 : Int32} {p5 : Int32} {h0 : Heap} {n0 : Nat} (O : Old Z n0 h0)  :
    Met1 l Z (⟨"com/example/isolate_to_replay/isolatetoreplay/envelope/OriginEqualsPinLaw", "same", "(IIIIII)Z"⟩ : MethodName) method_3_code 6 (some .boolean) ({ frames := 0, cells := 0, slots := 0, locals := 0 } : Room) #[(.int p0), (.int p1), (.int p2), (.int p3), (.int p4), (.int p5)] h0 n0 (fun v h => v = .int (own_same p0 p1 p2 p3 p4 p5) ∧ h0 = h) := by
  refine met_of (L := #[.val (.int p0), .val (.int p1), .val (.int p2), .val (.int p3), .val (.int p4), .val (.int p5)]) (plainFor_of_name pn_23) (fun m => by first | (simp [entryFrame, mkF, argsToLocals, Value.category]; done) | rfl) ?_
  intro p e s m below meth c T C X
  change Cx p s m meth c Z "com/example/isolate_to_replay/isolatetoreplay/envelope/OriginEqualsPinLaw" method_3_code 6 (some .boolean) "same" at C
  refine g_iloadN C X d12_0 (q := 1) rfl rfl ?_
  refine g_iloadN C X d12_1 (q := 2) rfl rfl ?_
  by_cases hc1 : p0 = p3
  · refine g_icY C X d12_2 (by decide) (q := 7) (by decide) (teq hc1).1 ?_
    refine g_iloadN C X d12_7 (q := 8) rfl rfl ?_
    refine g_iconst C X d12_8 (q := 9) rfl (z := (1 : Int32)) rfl ?_
    by_cases hc2 : p0 < (1 : Int32)
    · refine g_icY C X d12_9 (by decide) (q := 20) (by decide) (tlt hc2).1 ?_
      refine g_iloadN C X d12_20 (q := 21) rfl rfl ?_
      refine g_iconst C X d12_21 (q := 22) rfl (z := (2 : Int32)) rfl ?_
      by_cases hc3 : p0 < (2 : Int32)
      · refine g_icY C X d12_22 (by decide) (q := 33) (by decide) (tlt hc3).1 ?_
        refine g_iconst C X d12_33 (q := 34) rfl (z := (1 : Int32)) rfl ?_
        exact g_retN C X (Or.inl rfl) (z' := (1 : Int32)) (by decide) d12_34 (by decide) (by decide) ⟨_, rfl, by unfold own_same; rw [if_pos hc1, if_pos hc2, if_pos hc3], rfl⟩
      · refine g_icN C X d12_22 (q := 25) rfl (flt hc3).1 ?_
        refine g_iloadN C X d12_25 (q := 26) rfl rfl ?_
        refine g_iload C X d12_26 (q := 28) rfl rfl ?_
        by_cases hc4 : p2 = p5
        · refine g_icY C X d12_28 (by decide) (q := 33) (by decide) (teq hc4).1 ?_
          refine g_iconst C X d12_33 (q := 34) rfl (z := (1 : Int32)) rfl ?_
          exact g_retN C X (Or.inl rfl) (z' := (1 : Int32)) (by decide) d12_34 (by decide) (by decide) ⟨_, rfl, by unfold own_same; rw [if_pos hc1, if_pos hc2, if_neg hc3, if_pos hc4], rfl⟩
        · refine g_icN C X d12_28 (q := 31) rfl (feq hc4).1 ?_
          refine g_iconst C X d12_31 (q := 32) rfl (z := (0 : Int32)) rfl ?_
          exact g_retN C X (Or.inl rfl) (z' := (0 : Int32)) (by decide) d12_32 (by decide) (by decide) ⟨_, rfl, by unfold own_same; rw [if_pos hc1, if_pos hc2, if_neg hc3, if_neg hc4], rfl⟩
    · refine g_icN C X d12_9 (q := 12) rfl (flt hc2).1 ?_
      refine g_iloadN C X d12_12 (q := 13) rfl rfl ?_
      refine g_iload C X d12_13 (q := 15) rfl rfl ?_
      by_cases hc5 : p1 = p4
      · refine g_icY C X d12_15 (by decide) (q := 20) (by decide) (teq hc5).1 ?_
        refine g_iloadN C X d12_20 (q := 21) rfl rfl ?_
        refine g_iconst C X d12_21 (q := 22) rfl (z := (2 : Int32)) rfl ?_
        by_cases hc6 : p0 < (2 : Int32)
        · refine g_icY C X d12_22 (by decide) (q := 33) (by decide) (tlt hc6).1 ?_
          refine g_iconst C X d12_33 (q := 34) rfl (z := (1 : Int32)) rfl ?_
          exact g_retN C X (Or.inl rfl) (z' := (1 : Int32)) (by decide) d12_34 (by decide) (by decide) ⟨_, rfl, by unfold own_same; rw [if_pos hc1, if_neg hc2, if_pos hc5, if_pos hc6], rfl⟩
        · refine g_icN C X d12_22 (q := 25) rfl (flt hc6).1 ?_
          refine g_iloadN C X d12_25 (q := 26) rfl rfl ?_
          refine g_iload C X d12_26 (q := 28) rfl rfl ?_
          by_cases hc7 : p2 = p5
          · refine g_icY C X d12_28 (by decide) (q := 33) (by decide) (teq hc7).1 ?_
            refine g_iconst C X d12_33 (q := 34) rfl (z := (1 : Int32)) rfl ?_
            exact g_retN C X (Or.inl rfl) (z' := (1 : Int32)) (by decide) d12_34 (by decide) (by decide) ⟨_, rfl, by unfold own_same; rw [if_pos hc1, if_neg hc2, if_pos hc5, if_neg hc6, if_pos hc7], rfl⟩
          · refine g_icN C X d12_28 (q := 31) rfl (feq hc7).1 ?_
            refine g_iconst C X d12_31 (q := 32) rfl (z := (0 : Int32)) rfl ?_
            exact g_retN C X (Or.inl rfl) (z' := (0 : Int32)) (by decide) d12_32 (by decide) (by decide) ⟨_, rfl, by unfold own_same; rw [if_pos hc1, if_neg hc2, if_pos hc5, if_neg hc6, if_neg hc7], rfl⟩
      · refine g_icN C X d12_15 (q := 18) rfl (feq hc5).1 ?_
        refine g_iconst C X d12_18 (q := 19) rfl (z := (0 : Int32)) rfl ?_
        exact g_retN C X (Or.inl rfl) (z' := (0 : Int32)) (by decide) d12_19 (by decide) (by decide) ⟨_, rfl, by unfold own_same; rw [if_pos hc1, if_neg hc2, if_neg hc5], rfl⟩
  · refine g_icN C X d12_2 (q := 5) rfl (feq hc1).1 ?_
    refine g_iconst C X d12_5 (q := 6) rfl (z := (0 : Int32)) rfl ?_
    exact g_retN C X (Or.inl rfl) (z' := (0 : Int32)) (by decide) d12_6 (by decide) (by decide) ⟨_, rfl, by unfold own_same; rw [if_neg hc1], rfl⟩
def own_mk (p0 p1 p2 : Int32) : List Int32 := (if p0 = (0 : Int32) then [] else (if p0 = (1 : Int32) then [p1] else [p1, p2]))
set_option maxRecDepth 65536 in
set_option maxHeartbeats 40000000 in
theorem rm_str4_0 {l : Launch} {Z : State} {a0 : Array Value} (hw : ∀ d ∈ tables_1, d.before a0 Z = true) {cz : Int32} {o0 : Addr} {o1 : Addr} {h0 : Heap} {n0 : Nat} (O : Old Z n0 h0) (W : Wd Z cz)  (P0 : Exa Z h0 o0 "java/lang/String") (P1 : Fld Z h0 o0 "java/lang/String" "value" "[B" .null) (P2 : Fld Z h0 o0 "java/lang/String" "coder" "B" (.int (0 : Int32))) (G0 : n0 ≤ o0) :
    MetW0 l Z consts_1 (⟨"java/lang/String", "<init>", "([CIILjava/lang/Void;)V"⟩ : MethodName) jdk_42_method_149_code 6 none ({ frames := 1, cells := 4, slots := 8, locals := 12 } : Room) #[(.ref o0), (.ref o1), (.int (0 : Int32)), (.int (0 : Int32)), .null] h0 n0 (fun h => Keep h0 h [o0] ∧ Exa Z h o0 "java/lang/String" ∧ Str Z h o0 []) := by
  refine metW_of (L := #[.val (.ref o0), .val (.ref o1), .val (.int (0 : Int32)), .val (.int (0 : Int32)), .val .null, .unset]) (plainFor_of_name pn_51) (fun m => by first | (simp [entryFrame, mkF, argsToLocals, Value.category]; done) | rfl) ?_
  intro p e s m below meth c T vm C X Y
  change Cx p (s.setVm vm) m meth c Z "java/lang/String" jdk_42_method_149_code 6 none "<init>" at C
  have sf1 := own_safeN (EL := consts_1) (Cx.alike C) P0 P1
  refine g_aloadN C X d4_0 (q := 1) rfl rfl rfl ?_
  refine g_initO C X (w21 hw) (w22 hw) (w23 hw) rfl d4_1 (q := 4) rfl (by decide) (by decide) ?_
  intro T2 X3
  refine g_iloadN C X3 d4_4 (q := 5) rfl rfl ?_
  refine g_ifN C X3 d4_5 (q := 8) rfl (by decide) ?_
  refine g_aloadN C X3 d4_8 (q := 9) rfl rfl rfl ?_
  refine gW_ldcC C X3 Y (own_EL hw) (vs := []) (z := 0) (w24 hw) (own_SA hw) (List.mem_of_getElem? (i := 3) rfl) ⟨by decide, by decide +kernel⟩ (by decide) rfl d4_9 (q := 11) rfl (nn := 0) (by decide) (by decide) (k' := 2) rfl (n' := 4) rfl (by decide) (by decide) ?_
  intro b4 b12 kA13 T5 h6 vm7 C X8 Y9 E10 R11 f14 f15 f16 f17 sf18
  have O19 := O.ext E10
  have F20 : Str Z h6 b4 [] := ⟨b12, kA13, f14, f16, f15, f17, by decide, by decide⟩
  refine g_getF C X8 (host := "") (Or.inl (w30 hw)) Via.refl f16 d4_11 (q := 14) rfl ?_
  intro T21 X22
  have f23 := (P1.ext E10)
  have f24 := (P0.ext E10)
  refine g_putF C X22 (host := "") (Or.inl (w30 hw)) Via.refl f23 f24 (Or.inr ⟨(w26 hw), rfl, rfl⟩) (w11 hw) (ty := (.array .byte)) (by decide) rfl rfl d4_14 (q := 17) rfl G0 ?_
  intro T25 h27 X26 W28
  have FW28 := Fld.same W28 f23
  have Y29 := Wx.wr Y9 W28 (CHr.safe R11 P0.lt sf1)
  have O30 := O19.wr W28 G0
  refine g_aloadN C X26 d4_17 (q := 18) rfl rfl rfl ?_
  refine gW_ldcC C X26 Y29 (own_EL hw) (vs := []) (z := 0) (w24 hw) (own_SA hw) (List.mem_of_getElem? (i := 3) rfl) ⟨by decide, by decide +kernel⟩ (by decide) rfl d4_18 (q := 20) rfl (nn := 0) (by decide) (by decide) (k' := 4) rfl (n' := 8) rfl (by decide) (by decide) ?_
  intro b31 b39 kA40 T32 h33 vm34 C X35 Y36 E37 R38 f41 f42 f43 f44 sf45
  have O46 := O30.ext E37
  have F47 : Str Z h33 b31 [] := ⟨b39, kA40, f41, f43, f42, f44, by decide, by decide⟩
  refine g_getF C X35 (host := "") (Or.inl (w31 hw)) Via.refl f42 d4_20 (q := 23) rfl ?_
  intro T48 X49
  have f50 := (((P2.ext E10).other W28 (Or.inr (slot_ne (Or.inr (w27 hw)) (Or.inr (w26 hw)) (by decide) (t := .byte) (t' := (.array .byte)) (by decide) (by decide)))).ext E37)
  have f51 := ((f24.wr W28).ext E37)
  refine g_putF C X49 (host := "") (Or.inl (w31 hw)) Via.refl f50 f51 (Or.inr ⟨(w27 hw), rfl, rfl⟩) (w11 hw) (ty := .byte) (by decide) rfl rfl d4_23 (q := 26) rfl G0 ?_
  intro T52 h54 X53 W55
  have FW55 := Fld.same W55 f50
  have Y56 := Wx.wr Y36 W55 (CHr.safe R38 (Nat.lt_of_lt_of_le P0.lt (Nat.le_trans E10.1 (Nat.le_of_eq (Wr.size W28).symm))) (Wx.safeW Y9 (CHr.safe R11 P0.lt sf1) W28 (CHr.safe R11 P0.lt sf1)))
  have O57 := O46.wr W55 G0
  have f58 := (f51.wr W55)
  have f59 := ((FW28.ext E37).other W55 (Or.inr (slot_ne (Or.inr (w26 hw)) (Or.inr (w27 hw)) (by decide) (t := (.array .byte)) (t' := .byte) (by decide) (by decide))))
  have f60 := (((f17.other W28 (Ne.symm (sf18 _ (CHr.safe R11 P0.lt sf1)).2)).ext E37).other W55 (Ne.symm (sf18 _ (CHr.safe R11 P0.lt sf1)).2))
  have F61 : Str Z h54 o0 [] := ⟨b12, _, f58, f59, FW55, f60, by decide, by decide⟩
  exact gW_retV C X53 Y56 (own_EL hw) d4_26 (by decide) (by decide) ⟨rfl, (((((Keep.refl h0 [o0]).ext E10).wr W28 (Or.inl (List.mem_of_getElem? (i := 0) rfl))).ext E37).wr W55 (Or.inl (List.mem_of_getElem? (i := 0) rfl))), f58, F61⟩
set_option maxRecDepth 65536 in
set_option maxHeartbeats 40000000 in
theorem rm_str1_0 {l : Launch} {Z : State} {a0 : Array Value} (hw : ∀ d ∈ tables_1, d.before a0 Z = true) {cz : Int32} {o0 : Addr} {o1 : Addr} {kc2 : ClassId} {h0 : Heap} {n0 : Nat} (O : Old Z n0 h0) (W : Wd Z cz)  (P0 : Exa Z h0 o0 "java/lang/String") (P1 : Fld Z h0 o0 "java/lang/String" "value" "[B" .null) (P2 : Fld Z h0 o0 "java/lang/String" "coder" "B" (.int (0 : Int32))) (P3 : Arv Z h0 o1 kc2 .char (0 : Int32) [] (.int (0 : Int32))) (G0 : n0 ≤ o0) (G1 : n0 ≤ o1) (N0_1 : o0 ≠ o1) :
    MetW0 l Z consts_1 (⟨"java/lang/String", "<init>", "([C)V"⟩ : MethodName) jdk_42_method_3_code 2 none ({ frames := 2, cells := 4, slots := 8, locals := 29 } : Room) #[(.ref o0), (.ref o1)] h0 n0 (fun h => Keep h0 h [o0] ∧ Exa Z h o0 "java/lang/String" ∧ Str Z h o0 []) := by
  refine metW_of (L := #[.val (.ref o0), .val (.ref o1)]) (plainFor_of_name pn_51) (fun m => by first | (simp [entryFrame, mkF, argsToLocals, Value.category]; done) | rfl) ?_
  intro p e s m below meth c T vm C X Y
  change Cx p (s.setVm vm) m meth c Z "java/lang/String" jdk_42_method_3_code 2 none "<init>" at C
  have sf1 := own_safeN (EL := consts_1) (Cx.alike C) P0 P1
  refine g_aloadN C X d3_0 (q := 1) rfl rfl rfl ?_
  refine g_aloadN C X d3_1 (q := 2) rfl rfl rfl ?_
  refine g_iconst C X d3_2 (q := 3) rfl (z := (0 : Int32)) rfl ?_
  refine g_aloadN C X d3_3 (q := 4) rfl rfl rfl ?_
  refine g_alen C X P3 d3_4 (q := 5) rfl ?_
  refine g_aconstNull C X d3_5 (q := 6) rfl ?_
  refine gW_callI0 C X Y (own_EL hw) (y := (⟨"java/lang/String", "<init>", "([CIILjava/lang/Void;)V"⟩ : MethodName)) (a := o0) (by decide) rfl rfl (w17 hw) (w18 hw) (w20 hw) (w12 hw) (rm_str4_0 hw (o0 := o0) (o1 := o1) O W P0 P1 P2 G0) (W := 0) (by decide) (by decide) (k' := 4) rfl (n' := 8) rfl (by decide) (by decide) rfl pd_52 (argsL := [(.ref o1), (.int (0 : Int32)), (.int (0 : Int32)), .null]) rfl (rest := []) rfl rfl rfl d3_6 (q := 9) rfl ?_
  rintro T2 h4 vm8 C X3 Y9 R10 ⟨K5, f6, f7⟩
  have O11 := O.keep K5 (allS G0 all0)
  exact gW_retV C X3 Y9 (own_EL hw) d3_9 (by decide) (by decide) ⟨rfl, ((Keep.refl h0 [o0]).trans K5 (allS (Or.inl (List.mem_of_getElem? (i := 0) rfl)) all0)), f6, f7⟩
set_option maxRecDepth 65536 in
set_option maxHeartbeats 40000000 in
theorem rm_mk {l : Launch} {Z : State} {a0 : Array Value} (hw : ∀ d ∈ tables_1, d.before a0 Z = true) {p0 p1 p2 : Int32} {cz : Int32} {h0 : Heap} {n0 : Nat} (O : Old Z n0 h0) (W : Wd Z cz) (l1 : 0 ≤ p1.toInt) (u1 : p1.toInt ≤ 255) (l2 : 0 ≤ p2.toInt) (u2 : p2.toInt ≤ 255) :
    MetW1 l Z consts_1 (⟨"com/example/isolate_to_replay/isolatetoreplay/envelope/OriginEqualsPinLaw", "mk", "(III)Ljava/lang/String;"⟩ : MethodName) method_2_code 3 (some (.object "java/lang/String")) ({ frames := 4, cells := 6, slots := 12, locals := 66 } : Room) #[(.int p0), (.int p1), (.int p2)] h0 n0 (fun v h => ∃ a : Addr, v = .ref a ∧ Keep h0 h [] ∧ n0 ≤ a ∧ h0.size ≤ a ∧ Exa Z h a "java/lang/String" ∧ Str Z h a (own_mk p0 p1 p2)) := by
  refine metW_of (L := #[.val (.int p0), .val (.int p1), .val (.int p2)]) (plainFor_of_name pn_23) (fun m => by first | (simp [entryFrame, mkF, argsToLocals, Value.category]; done) | rfl) ?_
  intro p e s m below meth c T vm C X Y
  change Cx p (s.setVm vm) m meth c Z "com/example/isolate_to_replay/isolatetoreplay/envelope/OriginEqualsPinLaw" method_2_code 3 (some (.object "java/lang/String")) "mk" at C
  refine g_iloadN C X d2_0 (q := 1) rfl rfl ?_
  by_cases hc1 : p0 = (0 : Int32)
  · refine g_ifN C X d2_1 (q := 4) rfl (teq hc1).2 ?_
    refine g_new C X (w10 hw) (w11 hw) (w12 hw) d2_4 (q := 7) rfl (k' := 1) rfl (n' := 4) rfl (by decide) (by decide) ?_
    intro T3 h4 b2 g6 X5 E7 A8 D9
    have ge10 : n0 ≤ b2 := own_ge O g6
    have sf11 := Wx.safe0 Y (Nat.le_of_eq g6.symm)
    have Y12 := Wx.ext Y E7
    have O13 := O.ext E7
    have f14 : Fld Z h4 b2 "java/lang/String" "value" "[B" .null := D9 (Or.inr (w26 hw)) (ty := (.array .byte)) (by decide)
    have f15 : Fld Z h4 b2 "java/lang/String" "coder" "B" (.int (0 : Int32)) := D9 (Or.inr (w27 hw)) (ty := .byte) (by decide)
    refine g_dup C X5 d2_7 (q := 8) rfl rfl ?_
    refine g_iconst C X5 d2_8 (q := 9) rfl (z := (0 : Int32)) rfl ?_
    refine g_newP C X5 (w13 hw) rfl d2_9 (q := 11) rfl (by decide) (cap := 0) (by decide) (by decide) (k' := 2) rfl (n' := 4) rfl (by decide) (by decide) ?_
    intro T17 h18 kA19 b16 g21 X20 E22 V23
    have ge24 : n0 ≤ b16 := own_ge O13 g21
    have Y25 := Wx.ext Y12 E22
    have O26 := O13.ext E22
    have Y27 := Yar.of V23
    have f28 := (A8.ext E22)
    have f29 := (f14.ext E22)
    have f30 := (f15.ext E22)
    refine gW_callI0 C X20 Y25 (own_EL hw) (y := (⟨"java/lang/String", "<init>", "([C)V"⟩ : MethodName)) (a := b2) (by decide) rfl rfl (w14 hw) (w15 hw) (w16 hw) (w12 hw) (rm_str1_0 hw (o0 := b2) (o1 := b16) (kc2 := kA19) O26 W f28 f29 f30 V23 ge10 ge24 (own_ne A8.lt g21)) (W := 1) (by decide) (by decide) (k' := 6) rfl (n' := 12) rfl (by decide) (by decide) rfl pd_54 (argsL := [(.ref b16)]) rfl (rest := [(.ref b2)]) rfl rfl rfl d2_11 (q := 14) rfl ?_
    rintro T31 h33 vm37 C X32 Y38 R39 ⟨K34, f35, f36⟩
    have O40 := O26.keep K34 (allS ge10 all0)
    have q41 : own_mk p0 p1 p2 = [] := by unfold own_mk; rw [if_pos hc1]
    exact gW_retA C X32 Y38 (own_EL hw) rfl rfl d2_14 (by decide) (by decide) ⟨_, rfl, b2, rfl, ((((Keep.refl h0 []).ext E7).ext E22).trans K34 (allS (Or.inr (own_sz (Keep.refl h0 []).1 g6)) all0)), ge10, (own_sz (Keep.refl h0 []).1 g6), f35, q41 ▸ f36⟩
  · refine g_ifY C X d2_1 (by decide) (q := 15) (by decide) (feq hc1).2 ?_
    refine g_iloadN C X d2_15 (q := 16) rfl rfl ?_
    refine g_iconst C X d2_16 (q := 17) rfl (z := (1 : Int32)) rfl ?_
    by_cases hc42 : p0 = (1 : Int32)
    · refine g_icN C X d2_17 (q := 20) rfl (teq hc42).2 ?_
      refine g_new C X (w10 hw) (w11 hw) (w12 hw) d2_20 (q := 23) rfl (k' := 1) rfl (n' := 4) rfl (by decide) (by decide) ?_
      intro T44 h45 b43 g47 X46 E48 A49 D50
      have ge51 : n0 ≤ b43 := own_ge O g47
      have sf52 := Wx.safe0 Y (Nat.le_of_eq g47.symm)
      have Y53 := Wx.ext Y E48
      have O54 := O.ext E48
      have f55 : Fld Z h45 b43 "java/lang/String" "value" "[B" .null := D50 (Or.inr (w26 hw)) (ty := (.array .byte)) (by decide)
      have f56 : Fld Z h45 b43 "java/lang/String" "coder" "B" (.int (0 : Int32)) := D50 (Or.inr (w27 hw)) (ty := .byte) (by decide)
      refine g_dup C X46 d2_23 (q := 24) rfl rfl ?_
      refine g_iconst C X46 d2_24 (q := 25) rfl (z := (1 : Int32)) rfl ?_
      refine g_newP C X46 (w13 hw) rfl d2_25 (q := 27) rfl (by decide) (cap := 1) (by decide) (by decide) (k' := 2) rfl (n' := 5) rfl (by decide) (by decide) ?_
      intro T58 h59 kA60 b57 g62 X61 E63 V64
      have ge65 : n0 ≤ b57 := own_ge O54 g62
      have Y66 := Wx.ext Y53 E63
      have O67 := O54.ext E63
      have V68 : Arv Z h59 b57 kA60 .char (1 : Int32) [(.int (0 : Int32))] (.int (0 : Int32)) := Arv.pad V64 (pad_rep [] _ 1)
      have Y69 := Yar.of V68
      refine g_dup C X61 d2_27 (q := 28) rfl rfl ?_
      refine g_iconst C X61 d2_28 (q := 29) rfl (z := (0 : Int32)) rfl ?_
      refine g_iloadN C X61 d2_29 (q := 30) rfl rfl ?_
      refine g_i2c C X61 d2_30 (q := 31) rfl (z := p1) (own_i2c l1 u1 (by decide) (by decide)) ?_
      refine g_castore C X61 V68 (by decide) (i := 0) (by decide) (Nat.le_of_ble_eq_true rfl) (vs' := [(.int p1)]) (by rw [own_narC l1 u1 (by decide) (by decide)]; rfl) ge65 d2_31 (q := 32) rfl ?_
      intro T70 h71 X72 W73 V74
      have Y75 := Wx.wr Y66 W73 (own_safeY (Cx.alike C) Y69 (by decide))
      have O76 := O67.wr W73 ge65
      have f77 := ((A49.ext E63).wr W73)
      have f78 := ((f55.ext E63).other W73 (Or.inl (own_ne A49.lt g62)))
      have f79 := ((f56.ext E63).other W73 (Or.inl (own_ne A49.lt g62)))
      refine g_strNew C X72 (cs := [p1]) (own_words hw) (w11 hw) (w14 hw) (w15 hw) f77 f78 f79 V74 (W.1.ext O76.2) W.2 (len := 1) rfl rfl (by decide) (by decide) (List.forall_mem_cons.mpr ⟨(own_ch l1 u1 (by decide) (by decide)), (fun _ z => nomatch z)⟩) ge51 (own_szO O76) (W := 1) (by decide) (by decide) (k' := 3) rfl (n' := 6) rfl (by decide) (by decide) rfl rfl d2_32 (q := 35) rfl ?_
      intro T80 h81 X82 K83 F84
      have Y85 := Wx.keep Y75 K83 (sfS (Wx.safeW Y66 (Wx.safeE Y53 (Wx.safeE Y sf52 E48) E63) W73 (own_safeY (Cx.alike C) Y69 (by decide))) sf0)
      have O86 := O76.keep K83 (allS ge51 all0)
      have f87 := (f77.keep K83)
      have q88 : own_mk p0 p1 p2 = [p1] := by unfold own_mk; rw [if_neg hc1, if_pos hc42]
      exact gW_retA C X82 Y85 (own_EL hw) rfl rfl d2_35 (by decide) (by decide) ⟨_, rfl, b43, rfl, (((((Keep.refl h0 []).ext E48).ext E63).wr W73 (Or.inr (own_sz ((Keep.refl h0 []).ext E48).1 g62))).trans K83 (allS (Or.inr (own_sz (Keep.refl h0 []).1 g47)) all0)), ge51, (own_sz (Keep.refl h0 []).1 g47), f87, q88 ▸ F84⟩
    · refine g_icY C X d2_17 (by decide) (q := 36) (by decide) (feq hc42).2 ?_
      refine g_new C X (w10 hw) (w11 hw) (w12 hw) d2_36 (q := 39) rfl (k' := 1) rfl (n' := 4) rfl (by decide) (by decide) ?_
      intro T90 h91 b89 g93 X92 E94 A95 D96
      have ge97 : n0 ≤ b89 := own_ge O g93
      have sf98 := Wx.safe0 Y (Nat.le_of_eq g93.symm)
      have Y99 := Wx.ext Y E94
      have O100 := O.ext E94
      have f101 : Fld Z h91 b89 "java/lang/String" "value" "[B" .null := D96 (Or.inr (w26 hw)) (ty := (.array .byte)) (by decide)
      have f102 : Fld Z h91 b89 "java/lang/String" "coder" "B" (.int (0 : Int32)) := D96 (Or.inr (w27 hw)) (ty := .byte) (by decide)
      refine g_dup C X92 d2_39 (q := 40) rfl rfl ?_
      refine g_iconst C X92 d2_40 (q := 41) rfl (z := (2 : Int32)) rfl ?_
      refine g_newP C X92 (w13 hw) rfl d2_41 (q := 43) rfl (by decide) (cap := 2) (by decide) (by decide) (k' := 2) rfl (n' := 6) rfl (by decide) (by decide) ?_
      intro T104 h105 kA106 b103 g108 X107 E109 V110
      have ge111 : n0 ≤ b103 := own_ge O100 g108
      have Y112 := Wx.ext Y99 E109
      have O113 := O100.ext E109
      have V114 : Arv Z h105 b103 kA106 .char (2 : Int32) [(.int (0 : Int32)), (.int (0 : Int32))] (.int (0 : Int32)) := Arv.pad V110 (pad_rep [] _ 2)
      have Y115 := Yar.of V114
      refine g_dup C X107 d2_43 (q := 44) rfl rfl ?_
      refine g_iconst C X107 d2_44 (q := 45) rfl (z := (0 : Int32)) rfl ?_
      refine g_iloadN C X107 d2_45 (q := 46) rfl rfl ?_
      refine g_i2c C X107 d2_46 (q := 47) rfl (z := p1) (own_i2c l1 u1 (by decide) (by decide)) ?_
      refine g_castore C X107 V114 (by decide) (i := 0) (by decide) (Nat.le_of_ble_eq_true rfl) (vs' := [(.int p1), (.int (0 : Int32))]) (by rw [own_narC l1 u1 (by decide) (by decide)]; rfl) ge111 d2_47 (q := 48) rfl ?_
      intro T116 h117 X118 W119 V120
      have Y121 := Wx.wr Y112 W119 (own_safeY (Cx.alike C) Y115 (by decide))
      have O122 := O113.wr W119 ge111
      refine g_dup C X118 d2_48 (q := 49) rfl rfl ?_
      refine g_iconst C X118 d2_49 (q := 50) rfl (z := (1 : Int32)) rfl ?_
      refine g_iloadN C X118 d2_50 (q := 51) rfl rfl ?_
      refine g_i2c C X118 d2_51 (q := 52) rfl (z := p2) (own_i2c l2 u2 (by decide) (by decide)) ?_
      refine g_castore C X118 V120 (by decide) (i := 1) (by decide) (Nat.le_of_ble_eq_true rfl) (vs' := [(.int p1), (.int p2)]) (by rw [own_narC l2 u2 (by decide) (by decide)]; rfl) ge111 d2_52 (q := 53) rfl ?_
      intro T123 h124 X125 W126 V127
      have f128 := (Y115.wr W119)
      have Y129 := Wx.wr Y121 W126 (own_safeY (Cx.alike C) f128 (by decide))
      have O130 := O122.wr W126 ge111
      have f131 := (((A95.ext E109).wr W119).wr W126)
      have f132 := (((f101.ext E109).other W119 (Or.inl (own_ne A95.lt g108))).other W126 (Or.inl (own_ne A95.lt g108)))
      have f133 := (((f102.ext E109).other W119 (Or.inl (own_ne A95.lt g108))).other W126 (Or.inl (own_ne A95.lt g108)))
      refine g_strNew C X125 (cs := [p1, p2]) (own_words hw) (w11 hw) (w14 hw) (w15 hw) f131 f132 f133 V127 (W.1.ext O130.2) W.2 (len := 2) rfl rfl (by decide) (by decide) (List.forall_mem_cons.mpr ⟨(own_ch l1 u1 (by decide) (by decide)), (List.forall_mem_cons.mpr ⟨(own_ch l2 u2 (by decide) (by decide)), (fun _ z => nomatch z)⟩)⟩) ge97 (own_szO O130) (W := 1) (by decide) (by decide) (k' := 3) rfl (n' := 8) rfl (by decide) (by decide) rfl rfl d2_53 (q := 56) rfl ?_
      intro T134 h135 X136 K137 F138
      have Y139 := Wx.keep Y129 K137 (sfS (Wx.safeW Y121 (Wx.safeW Y112 (Wx.safeE Y99 (Wx.safeE Y sf98 E94) E109) W119 (own_safeY (Cx.alike C) Y115 (by decide))) W126 (own_safeY (Cx.alike C) f128 (by decide))) sf0)
      have O140 := O130.keep K137 (allS ge97 all0)
      have f141 := (f131.keep K137)
      have q142 : own_mk p0 p1 p2 = [p1, p2] := by unfold own_mk; rw [if_neg hc1, if_neg hc42]
      exact gW_retA C X136 Y139 (own_EL hw) rfl rfl d2_56 (by decide) (by decide) ⟨_, rfl, b89, rfl, ((((((Keep.refl h0 []).ext E94).ext E109).wr W119 (Or.inr (own_sz ((Keep.refl h0 []).ext E94).1 g108))).wr W126 (Or.inr (own_sz ((Keep.refl h0 []).ext E94).1 g108))).trans K137 (allS (Or.inr (own_sz (Keep.refl h0 []).1 g93)) all0)), ge97, (own_sz (Keep.refl h0 []).1 g93), f141, q142 ▸ F138⟩
def own_pick (p0 : Int32) (p1 : Int32) (p2 : Int32) (p3 : Int32) : Int32 := (if (((p0.toUInt32 >>> (p1 &&& 31).toUInt32).toInt32) &&& (1 : Int32)) = (0 : Int32) then p3 else p2)
set_option maxRecDepth 65536 in
set_option maxHeartbeats 40000000 in
theorem rm_own_pick {l : Launch} {Z : State} {a0 : Array Value} (hw : ∀ d ∈ tables_1, d.before a0 Z = true) {p0 : Int32} {p1 : Int32} {p2 : Int32} {p3 : Int32} {h0 : Heap} {n0 : Nat} (O : Old Z n0 h0)  :
    Met1 l Z (⟨"com/example/isolate_to_replay/isolatetoreplay/envelope/OriginEqualsPinLaw", "pick", "(IIII)I"⟩ : MethodName) method_4_code 4 (some .int) ({ frames := 0, cells := 0, slots := 0, locals := 0 } : Room) #[(.int p0), (.int p1), (.int p2), (.int p3)] h0 n0 (fun v h => v = .int (own_pick p0 p1 p2 p3) ∧ h0 = h) := by
  refine met_of (L := #[.val (.int p0), .val (.int p1), .val (.int p2), .val (.int p3)]) (plainFor_of_name pn_23) (fun m => by first | (simp [entryFrame, mkF, argsToLocals, Value.category]; done) | rfl) ?_
  intro p e s m below meth c T C X
  change Cx p s m meth c Z "com/example/isolate_to_replay/isolatetoreplay/envelope/OriginEqualsPinLaw" method_4_code 4 (some .int) "pick" at C
  refine g_iloadN C X d1_0 (q := 1) rfl rfl ?_
  refine g_iloadN C X d1_1 (q := 2) rfl rfl ?_
  refine g_iushr C X d1_2 (q := 3) rfl (z := ((p0.toUInt32 >>> (p1 &&& 31).toUInt32).toInt32)) rfl ?_
  refine g_iconst C X d1_3 (q := 4) rfl (z := (1 : Int32)) rfl ?_
  refine g_iand C X d1_4 (q := 5) rfl (z := (((p0.toUInt32 >>> (p1 &&& 31).toUInt32).toInt32) &&& (1 : Int32))) rfl ?_
  by_cases hc1 : (((p0.toUInt32 >>> (p1 &&& 31).toUInt32).toInt32) &&& (1 : Int32)) = (0 : Int32)
  · refine g_ifY C X d1_5 (by decide) (q := 10) (by decide) (teq hc1).1 ?_
    refine g_iloadN C X d1_10 (q := 11) rfl rfl ?_
    exact g_retI C X d1_11 (by decide) (by decide) ⟨_, rfl, by unfold own_pick; rw [if_pos hc1], rfl⟩
  · refine g_ifN C X d1_5 (q := 8) rfl (feq hc1).1 ?_
    refine g_iloadN C X d1_8 (q := 9) rfl rfl ?_
    exact g_retI C X d1_9 (by decide) (by decide) ⟨_, rfl, by unfold own_pick; rw [if_neg hc1], rfl⟩
theorem own_split3 {v : Int32} (h1 : 0 ≤ v.toInt) (h2 : v.toInt < 3) : v = 0 ∨ v = 1 ∨ v = 2 := by
  have h : v.toInt = 0 ∨ v.toInt = 1 ∨ v.toInt = 2 := by omega
  rcases h with h | h | h
  · exact Or.inl (own_i32 h)
  · exact Or.inr (Or.inl (own_i32 h))
  · exact Or.inr (Or.inr (own_i32 h))
theorem own_sm {l1 x0 x1 l2 y0 y1 : Int32} (a1 : 0 ≤ l1.toInt) (a2 : l1.toInt ≤ 2) (b1 : 0 ≤ l2.toInt) (b2 : l2.toInt ≤ 2) : own_same l1 x0 x1 l2 y0 y1 = 0 ↔ ¬ own_mk l1 x0 x1 = own_mk l2 y0 y1 := by
  have A := own_split3 a1 (by omega)
  have B := own_split3 b1 (by omega)
  simp only [own_same, own_mk]
  rcases A with rfl | rfl | rfl <;> rcases B with rfl | rfl | rfl <;> by_cases h1 : x0 = y0 <;> by_cases h2 : x1 = y1 <;> simp [h1, h2]
theorem own_pickR {e b x y : Int32} {hi : Int} (x1 : 0 ≤ x.toInt) (x2 : x.toInt ≤ hi) (y1 : 0 ≤ y.toInt) (y2 : y.toInt ≤ hi) : 0 ≤ (own_pick e b x y).toInt ∧ (own_pick e b x y).toInt ≤ hi := by
  unfold own_pick
  split <;> exact ⟨by assumption, by assumption⟩

set_option maxRecDepth 65536 in
set_option maxHeartbeats 40000000 in
theorem rm_req_0 {l : Launch} {Z : State} {a0 : Array Value} (hw : ∀ d ∈ tables_1, d.before a0 Z = true) {cz : Int32} {o0 : Addr} {o1 : Addr} {h0 : Heap} {n0 : Nat} (O : Old Z n0 h0) (W : Wd Z cz)  :
    Met1 l Z (⟨"java/util/Objects", "requireNonNull", "(Ljava/lang/Object;Ljava/lang/String;)Ljava/lang/Object;"⟩ : MethodName) jdk_31_method_11_code 2 (some (.object "java/lang/Object")) ({ frames := 0, cells := 0, slots := 0, locals := 0 } : Room) #[(.ref o0), (.ref o1)] h0 n0 (fun v h => v = (.ref o0) ∧ h0 = h) := by
  refine met_of (L := #[.val (.ref o0), .val (.ref o1)]) (plainFor_of_name pn_108) (fun m => by first | (simp [entryFrame, mkF, argsToLocals, Value.category]; done) | rfl) ?_
  intro p e s m below meth c T C X
  change Cx p s m meth c Z "java/util/Objects" jdk_31_method_11_code 2 (some (.object "java/lang/Object")) "requireNonNull" at C
  refine g_aloadN C X d7_0 (q := 1) rfl rfl rfl ?_
  refine g_nonY C X d7_1 (by decide) (q := 13) (by decide) ?_
  refine g_aloadN C X d7_13 (q := 14) rfl rfl rfl ?_
  exact g_retA C X rfl rfl d7_14 (by decide) (by decide) ⟨_, rfl, rfl, rfl⟩
set_option maxRecDepth 65536 in
set_option maxHeartbeats 40000000 in
theorem rm_init_0 {l : Launch} {Z : State} {a0 : Array Value} (hw : ∀ d ∈ tables_1, d.before a0 Z = true) {cz : Int32} {o0 : Addr} {o1 : Addr} {o2 : Addr} {o3 : Addr} {cs4 : (List Int32)} {cs5 : (List Int32)} {cs6 : (List Int32)} {h0 : Heap} {n0 : Nat} (O : Old Z n0 h0) (W : Wd Z cz)  (P0 : Exa Z h0 o0 "com/example/isolate_to_replay/isolatetoreplay/envelope/Origin") (P1 : Fld Z h0 o0 "com/example/isolate_to_replay/isolatetoreplay/envelope/Origin" "queue" "Ljava/lang/String;" .null) (P2 : Fld Z h0 o0 "com/example/isolate_to_replay/isolatetoreplay/envelope/Origin" "exchange" "Ljava/lang/String;" .null) (P3 : Fld Z h0 o0 "com/example/isolate_to_replay/isolatetoreplay/envelope/Origin" "routingKey" "Ljava/lang/String;" .null) (P4 : Exa Z h0 o1 "java/lang/String") (P5 : Str Z h0 o1 cs4) (P6 : Exa Z h0 o2 "java/lang/String") (P7 : Str Z h0 o2 cs5) (P8 : Exa Z h0 o3 "java/lang/String") (P9 : Str Z h0 o3 cs6) (G0 : n0 ≤ o0) (G1 : n0 ≤ o1) (G2 : n0 ≤ o2) (G3 : n0 ≤ o3) (N0_1 : o0 ≠ o1) (N0_2 : o0 ≠ o2) (N0_3 : o0 ≠ o3) (N1_2 : o1 ≠ o2) (N1_3 : o1 ≠ o3) (N2_3 : o2 ≠ o3) :
    MetW0 l Z consts_1 (⟨"com/example/isolate_to_replay/isolatetoreplay/envelope/Origin", "<init>", "(Ljava/lang/String;Ljava/lang/String;Ljava/lang/String;)V"⟩ : MethodName) prog_9_method_1_code 4 none ({ frames := 1, cells := 6, slots := 104, locals := 14 } : Room) #[(.ref o0), (.ref o1), (.ref o2), (.ref o3)] h0 n0 (fun h => Keep h0 h [o0] ∧ Exa Z h o0 "com/example/isolate_to_replay/isolatetoreplay/envelope/Origin" ∧ Fld Z h o0 "com/example/isolate_to_replay/isolatetoreplay/envelope/Origin" "queue" "Ljava/lang/String;" (.ref o1) ∧ Fld Z h o0 "com/example/isolate_to_replay/isolatetoreplay/envelope/Origin" "exchange" "Ljava/lang/String;" (.ref o2) ∧ Fld Z h o0 "com/example/isolate_to_replay/isolatetoreplay/envelope/Origin" "routingKey" "Ljava/lang/String;" (.ref o3)) := by
  refine metW_of (L := #[.val (.ref o0), .val (.ref o1), .val (.ref o2), .val (.ref o3)]) (plainFor_of_name pn_125) (fun m => by first | (simp [entryFrame, mkF, argsToLocals, Value.category]; done) | rfl) ?_
  intro p e s m below meth c T vm C X Y
  change Cx p (s.setVm vm) m meth c Z "com/example/isolate_to_replay/isolatetoreplay/envelope/Origin" prog_9_method_1_code 4 none "<init>" at C
  refine g_aloadN C X d6_0 (q := 1) rfl rfl rfl ?_
  refine g_initO C X (w35 hw) (w22 hw) (w23 hw) rfl d6_1 (q := 4) rfl (by decide) (by decide) ?_
  intro T1 X2
  refine g_aloadN C X2 d6_4 (q := 5) rfl rfl rfl ?_
  refine g_aloadN C X2 d6_5 (q := 6) rfl rfl rfl ?_
  refine gW_ldcC C X2 Y (own_EL hw) (vs := [(.int (113 : Int32)), (.int (117 : Int32)), (.int (101 : Int32)), (.int (117 : Int32)), (.int (101 : Int32))]) (z := 5) (w36 hw) (own_SA hw) (List.mem_of_getElem? (i := 0) rfl) ⟨by decide, by decide +kernel⟩ (by decide) rfl d6_6 (q := 8) rfl (nn := 20) (by decide) (by decide) (k' := 2) rfl (n' := 24) rfl (by decide) (by decide) ?_
  intro b3 b11 kA12 T4 h5 vm6 C X7 Y8 E9 R10 f13 f14 f15 f16 sf17
  have O18 := O.ext E9
  have F19 : Str Z h5 b3 [(113 : Int32), (117 : Int32), (101 : Int32), (117 : Int32), (101 : Int32)] := ⟨b11, kA12, f13, f15, f14, f16, by decide, by decide⟩
  refine g_callS1 C X7 (y := (⟨"java/util/Objects", "requireNonNull", "(Ljava/lang/Object;Ljava/lang/String;)Ljava/lang/Object;"⟩ : MethodName)) (by decide) (w37 hw) (w38 hw) (w40 hw) (w39 hw) (rm_req_0 hw (o0 := o1) (o1 := b3) O18 W ) (W := 1) (by decide) (by decide) (k' := 2) rfl (n' := 24) rfl (by decide) (by decide) rfl pd_109 (argsL := [(.ref o1), (.ref b3)]) rfl (rest := [(.ref o0)]) rfl rfl rfl d6_8 (q := 11) rfl ?_
  rintro _ T20 _ X21 ⟨rfl, rfl⟩
  have f22 := (P4.ext E9)
  refine g_castY C X21 (w41 hw) (Ins.self f22) d6_11 (q := 14) rfl ?_
  intro T23 X24
  have f25 := (P1.ext E9)
  have f26 := (P0.ext E9)
  refine g_putF C X24 (host := "") (Or.inl (w42 hw)) Via.refl f25 f26 (Or.inr ⟨(w43 hw), rfl, rfl⟩) (w5 hw) (ty := (.object "java/lang/String")) (by decide) rfl rfl d6_14 (q := 17) rfl G0 ?_
  intro T27 h29 X28 W30
  have FW30 := Fld.same W30 f25
  have Y31 := Wx.wr Y8 W30 (Safe.exa (Cx.alike C) f26 (by decide) (by decide))
  have O32 := O18.wr W30 G0
  refine g_aloadN C X28 d6_17 (q := 18) rfl rfl rfl ?_
  refine g_aloadN C X28 d6_18 (q := 19) rfl rfl rfl ?_
  refine gW_ldcC C X28 Y31 (own_EL hw) (vs := [(.int (101 : Int32)), (.int (120 : Int32)), (.int (99 : Int32)), (.int (104 : Int32)), (.int (97 : Int32)), (.int (110 : Int32)), (.int (103 : Int32)), (.int (101 : Int32))]) (z := 8) (w44 hw) (own_SA hw) (List.mem_of_getElem? (i := 1) rfl) ⟨by decide, by decide +kernel⟩ (by decide) rfl d6_19 (q := 21) rfl (nn := 32) (by decide) (by decide) (k' := 4) rfl (n' := 60) rfl (by decide) (by decide) ?_
  intro b33 b41 kA42 T34 h35 vm36 C X37 Y38 E39 R40 f43 f44 f45 f46 sf47
  have O48 := O32.ext E39
  have F49 : Str Z h35 b33 [(101 : Int32), (120 : Int32), (99 : Int32), (104 : Int32), (97 : Int32), (110 : Int32), (103 : Int32), (101 : Int32)] := ⟨b41, kA42, f43, f45, f44, f46, by decide, by decide⟩
  refine g_callS1 C X37 (y := (⟨"java/util/Objects", "requireNonNull", "(Ljava/lang/Object;Ljava/lang/String;)Ljava/lang/Object;"⟩ : MethodName)) (by decide) (w37 hw) (w38 hw) (w40 hw) (w39 hw) (rm_req_0 hw (o0 := o2) (o1 := b33) O48 W ) (W := 1) (by decide) (by decide) (k' := 4) rfl (n' := 60) rfl (by decide) (by decide) rfl pd_109 (argsL := [(.ref o2), (.ref b33)]) rfl (rest := [(.ref o0)]) rfl rfl rfl d6_21 (q := 24) rfl ?_
  rintro _ T50 _ X51 ⟨rfl, rfl⟩
  have f52 := (((P6.ext E9).wr W30).ext E39)
  refine g_castY C X51 (w41 hw) (Ins.self f52) d6_24 (q := 27) rfl ?_
  intro T53 X54
  have f55 := (((P2.ext E9).other W30 (Or.inr (slot_ne (Or.inr (w46 hw)) (Or.inr (w43 hw)) (by decide) (t := (.object "java/lang/String")) (t' := (.object "java/lang/String")) (by decide) (by decide)))).ext E39)
  have f56 := ((f26.wr W30).ext E39)
  refine g_putF C X54 (host := "") (Or.inl (w45 hw)) Via.refl f55 f56 (Or.inr ⟨(w46 hw), rfl, rfl⟩) (w5 hw) (ty := (.object "java/lang/String")) (by decide) rfl rfl d6_27 (q := 30) rfl G0 ?_
  intro T57 h59 X58 W60
  have FW60 := Fld.same W60 f55
  have Y61 := Wx.wr Y38 W60 (Safe.exa (Cx.alike C) f56 (by decide) (by decide))
  have O62 := O48.wr W60 G0
  refine g_aloadN C X58 d6_30 (q := 31) rfl rfl rfl ?_
  refine g_aloadN C X58 d6_31 (q := 32) rfl rfl rfl ?_
  refine gW_ldcC C X58 Y61 (own_EL hw) (vs := [(.int (114 : Int32)), (.int (111 : Int32)), (.int (117 : Int32)), (.int (116 : Int32)), (.int (105 : Int32)), (.int (110 : Int32)), (.int (103 : Int32)), (.int (75 : Int32)), (.int (101 : Int32)), (.int (121 : Int32))]) (z := 10) (w47 hw) (own_SA hw) (List.mem_of_getElem? (i := 2) rfl) ⟨by decide, by decide +kernel⟩ (by decide) rfl d6_32 (q := 34) rfl (nn := 40) (by decide) (by decide) (k' := 6) rfl (n' := 104) rfl (by decide) (by decide) ?_
  intro b63 b71 kA72 T64 h65 vm66 C X67 Y68 E69 R70 f73 f74 f75 f76 sf77
  have O78 := O62.ext E69
  have F79 : Str Z h65 b63 [(114 : Int32), (111 : Int32), (117 : Int32), (116 : Int32), (105 : Int32), (110 : Int32), (103 : Int32), (75 : Int32), (101 : Int32), (121 : Int32)] := ⟨b71, kA72, f73, f75, f74, f76, by decide, by decide⟩
  refine g_callS1 C X67 (y := (⟨"java/util/Objects", "requireNonNull", "(Ljava/lang/Object;Ljava/lang/String;)Ljava/lang/Object;"⟩ : MethodName)) (by decide) (w37 hw) (w38 hw) (w40 hw) (w39 hw) (rm_req_0 hw (o0 := o3) (o1 := b63) O78 W ) (W := 1) (by decide) (by decide) (k' := 6) rfl (n' := 104) rfl (by decide) (by decide) rfl pd_109 (argsL := [(.ref o3), (.ref b63)]) rfl (rest := [(.ref o0)]) rfl rfl rfl d6_34 (q := 37) rfl ?_
  rintro _ T80 _ X81 ⟨rfl, rfl⟩
  have f82 := (((((P8.ext E9).wr W30).ext E39).wr W60).ext E69)
  refine g_castY C X81 (w41 hw) (Ins.self f82) d6_37 (q := 40) rfl ?_
  intro T83 X84
  have f85 := (((((P3.ext E9).other W30 (Or.inr (slot_ne (Or.inr (w49 hw)) (Or.inr (w43 hw)) (by decide) (t := (.object "java/lang/String")) (t' := (.object "java/lang/String")) (by decide) (by decide)))).ext E39).other W60 (Or.inr (slot_ne (Or.inr (w49 hw)) (Or.inr (w46 hw)) (by decide) (t := (.object "java/lang/String")) (t' := (.object "java/lang/String")) (by decide) (by decide)))).ext E69)
  have f86 := ((f56.wr W60).ext E69)
  refine g_putF C X84 (host := "") (Or.inl (w48 hw)) Via.refl f85 f86 (Or.inr ⟨(w49 hw), rfl, rfl⟩) (w5 hw) (ty := (.object "java/lang/String")) (by decide) rfl rfl d6_40 (q := 43) rfl G0 ?_
  intro T87 h89 X88 W90
  have FW90 := Fld.same W90 f85
  have Y91 := Wx.wr Y68 W90 (Safe.exa (Cx.alike C) f86 (by decide) (by decide))
  have O92 := O78.wr W90 G0
  exact gW_retV C X88 Y91 (own_EL hw) d6_43 (by decide) (by decide) ⟨rfl, (((((((Keep.refl h0 [o0]).ext E9).wr W30 (Or.inl (List.mem_of_getElem? (i := 0) rfl))).ext E39).wr W60 (Or.inl (List.mem_of_getElem? (i := 0) rfl))).ext E69).wr W90 (Or.inl (List.mem_of_getElem? (i := 0) rfl))), (f86.wr W90), ((((FW30.ext E39).other W60 (Or.inr (slot_ne (Or.inr (w43 hw)) (Or.inr (w46 hw)) (by decide) (t := (.object "java/lang/String")) (t' := (.object "java/lang/String")) (by decide) (by decide)))).ext E69).other W90 (Or.inr (slot_ne (Or.inr (w43 hw)) (Or.inr (w49 hw)) (by decide) (t := (.object "java/lang/String")) (t' := (.object "java/lang/String")) (by decide) (by decide)))), ((FW60.ext E69).other W90 (Or.inr (slot_ne (Or.inr (w46 hw)) (Or.inr (w49 hw)) (by decide) (t := (.object "java/lang/String")) (t' := (.object "java/lang/String")) (by decide) (by decide)))), FW90⟩
set_option maxRecDepth 65536 in
set_option maxHeartbeats 40000000 in
theorem rm_eq0_0 {l : Launch} {Z : State} {a0 : Array Value} (hw : ∀ d ∈ tables_1, d.before a0 Z = true) {cz : Int32} {o0 : Addr} {o1 : Addr} {o2 : Addr} {o3 : Addr} {h0 : Heap} {n0 : Nat} (O : Old Z n0 h0) (W : Wd Z cz)  (P0 : Exa Z h0 o0 "com/example/isolate_to_replay/isolatetoreplay/envelope/Origin") (P1 : Fld Z h0 o0 "com/example/isolate_to_replay/isolatetoreplay/envelope/Origin" "queue" "Ljava/lang/String;" (.ref o1)) (P2 : Fld Z h0 o0 "com/example/isolate_to_replay/isolatetoreplay/envelope/Origin" "exchange" "Ljava/lang/String;" (.ref o2)) (P3 : Fld Z h0 o0 "com/example/isolate_to_replay/isolatetoreplay/envelope/Origin" "routingKey" "Ljava/lang/String;" (.ref o3)) (G0 : n0 ≤ o0) :
    Met1 l Z (⟨"com/example/isolate_to_replay/isolatetoreplay/envelope/Origin", "equals", "(Ljava/lang/Object;)Z"⟩ : MethodName) prog_9_method_5_code 3 (some .boolean) ({ frames := 0, cells := 0, slots := 0, locals := 0 } : Room) #[(.ref o0), .null] h0 n0 (fun v h => v = (.int (0 : Int32)) ∧ h0 = h) := by
  refine met_of (L := #[.val (.ref o0), .val .null, .unset]) (plainFor_of_name pn_125) (fun m => by first | (simp [entryFrame, mkF, argsToLocals, Value.category]; done) | rfl) ?_
  intro p e s m below meth c T C X
  change Cx p s m meth c Z "com/example/isolate_to_replay/isolatetoreplay/envelope/Origin" prog_9_method_5_code 3 (some .boolean) "equals" at C
  refine g_aloadN C X d8_0 (q := 1) rfl rfl rfl ?_
  refine g_instNull C X d8_1 (q := 4) rfl ?_
  refine g_ifN C X d8_4 (q := 7) rfl (by decide) ?_
  refine g_iconst C X d8_7 (q := 8) rfl (z := (0 : Int32)) rfl ?_
  exact g_retN C X (Or.inl rfl) (z' := (0 : Int32)) (by decide) d8_8 (by decide) (by decide) ⟨_, rfl, rfl, rfl⟩
set_option maxRecDepth 65536 in
set_option maxHeartbeats 40000000 in
theorem rm_eq0_1 {l : Launch} {Z : State} {a0 : Array Value} (hw : ∀ d ∈ tables_1, d.before a0 Z = true) {cz : Int32} {o0 : Addr} {o1 : Addr} {o2 : Addr} {o3 : Addr} {o4 : Addr} {cs5 : (List Int32)} {h0 : Heap} {n0 : Nat} (O : Old Z n0 h0) (W : Wd Z cz)  (P0 : Exa Z h0 o0 "com/example/isolate_to_replay/isolatetoreplay/envelope/Origin") (P1 : Fld Z h0 o0 "com/example/isolate_to_replay/isolatetoreplay/envelope/Origin" "queue" "Ljava/lang/String;" (.ref o2)) (P2 : Fld Z h0 o0 "com/example/isolate_to_replay/isolatetoreplay/envelope/Origin" "exchange" "Ljava/lang/String;" (.ref o3)) (P3 : Fld Z h0 o0 "com/example/isolate_to_replay/isolatetoreplay/envelope/Origin" "routingKey" "Ljava/lang/String;" (.ref o4)) (P4 : Exa Z h0 o1 "java/lang/String") (P5 : Str Z h0 o1 cs5) (G0 : n0 ≤ o0) (G1 : n0 ≤ o1) (N0_1 : o0 ≠ o1) :
    Met1 l Z (⟨"com/example/isolate_to_replay/isolatetoreplay/envelope/Origin", "equals", "(Ljava/lang/Object;)Z"⟩ : MethodName) prog_9_method_5_code 3 (some .boolean) ({ frames := 0, cells := 0, slots := 0, locals := 0 } : Room) #[(.ref o0), (.ref o1)] h0 n0 (fun v h => v = (.int (0 : Int32)) ∧ h0 = h) := by
  refine met_of (L := #[.val (.ref o0), .val (.ref o1), .unset]) (plainFor_of_name pn_125) (fun m => by first | (simp [entryFrame, mkF, argsToLocals, Value.category]; done) | rfl) ?_
  intro p e s m below meth c T C X
  change Cx p s m meth c Z "com/example/isolate_to_replay/isolatetoreplay/envelope/Origin" prog_9_method_5_code 3 (some .boolean) "equals" at C
  refine g_aloadN C X d8_0 (q := 1) rfl rfl rfl ?_
  refine g_instNo C X (w69 hw) P4 (own_noInst (w82 hw) (w81 hw) (w5 hw) (by decide) (by decide)) d8_1 (q := 4) rfl ?_
  intro T1 X2
  refine g_ifN C X2 d8_4 (q := 7) rfl (by decide) ?_
  refine g_iconst C X2 d8_7 (q := 8) rfl (z := (0 : Int32)) rfl ?_
  exact g_retN C X2 (Or.inl rfl) (z' := (0 : Int32)) (by decide) d8_8 (by decide) (by decide) ⟨_, rfl, rfl, rfl⟩
set_option maxRecDepth 65536 in
set_option maxHeartbeats 40000000 in
theorem rm_eq {l : Launch} {Z : State} {a0 : Array Value} (hw : ∀ d ∈ tables_1, d.before a0 Z = true) {a b sa0 sa1 sa2 sb0 sb1 sb2 : Addr} {ca0 ca1 ca2 cb0 cb1 cb2 : List Int32} {cz : Int32} {h0 : Heap} {n0 : Nat} (O : Old Z n0 h0) (W : Wd Z cz) (Ea : Exa Z h0 a "com/example/isolate_to_replay/isolatetoreplay/envelope/Origin") (Fa0 : Fld Z h0 a "com/example/isolate_to_replay/isolatetoreplay/envelope/Origin" "queue" "Ljava/lang/String;" (.ref sa0)) (Fa1 : Fld Z h0 a "com/example/isolate_to_replay/isolatetoreplay/envelope/Origin" "exchange" "Ljava/lang/String;" (.ref sa1)) (Fa2 : Fld Z h0 a "com/example/isolate_to_replay/isolatetoreplay/envelope/Origin" "routingKey" "Ljava/lang/String;" (.ref sa2)) (Eb : Exa Z h0 b "com/example/isolate_to_replay/isolatetoreplay/envelope/Origin") (Fb0 : Fld Z h0 b "com/example/isolate_to_replay/isolatetoreplay/envelope/Origin" "queue" "Ljava/lang/String;" (.ref sb0)) (Fb1 : Fld Z h0 b "com/example/isolate_to_replay/isolatetoreplay/envelope/Origin" "exchange" "Ljava/lang/String;" (.ref sb1)) (Fb2 : Fld Z h0 b "com/example/isolate_to_replay/isolatetoreplay/envelope/Origin" "routingKey" "Ljava/lang/String;" (.ref sb2)) (Ta0 : Str Z h0 sa0 ca0) (Ta1 : Str Z h0 sa1 ca1) (Ta2 : Str Z h0 sa2 ca2) (Tb0 : Str Z h0 sb0 cb0) (Tb1 : Str Z h0 sb1 cb1) (Tb2 : Str Z h0 sb2 cb2) (Nab : a ≠ b) :
    Met1 l Z (⟨"com/example/isolate_to_replay/isolatetoreplay/envelope/Origin", "equals", "(Ljava/lang/Object;)Z"⟩ : MethodName) prog_9_method_5_code 3 (some .boolean) ({ frames := 2, cells := 0, slots := 0, locals := 28 } : Room) #[(.ref a), (.ref b)] h0 n0 (fun v h => v = .int (if ca0 = cb0 ∧ ca1 = cb1 ∧ ca2 = cb2 then 1 else 0) ∧ h0 = h) := by
  refine met_of (L := #[.val (.ref a), .val (.ref b), .unset]) (plainFor_of_name pn_125) (fun m => by first | (simp [entryFrame, mkF, argsToLocals, Value.category]; done) | rfl) ?_
  intro p e s m below meth c T C X
  change Cx p s m meth c Z "com/example/isolate_to_replay/isolatetoreplay/envelope/Origin" prog_9_method_5_code 3 (some .boolean) "equals" at C
  refine g_aloadN C X d8_0 (q := 1) rfl rfl rfl ?_
  refine g_instY C X (w69 hw) (Ins.self Eb) d8_1 (q := 4) rfl ?_
  intro T1 X2
  refine g_ifY C X2 d8_4 (by decide) (q := 9) (by decide) (by decide) ?_
  refine g_aloadN C X2 d8_9 (q := 10) rfl rfl rfl ?_
  refine g_castY C X2 (w69 hw) (Ins.self Eb) d8_10 (q := 13) rfl ?_
  intro T3 X4
  refine g_astoreN C X4 d8_13 (q := 14) rfl rfl (L' := #[.val (.ref a), .val (.ref b), .val (.ref b)]) rfl ?_
  refine g_aloadN C X4 d8_14 (q := 15) rfl rfl rfl ?_
  refine g_getF C X4 (host := "") (Or.inl (w42 hw)) Via.refl Fa0 d8_15 (q := 18) rfl ?_
  intro T5 X6
  refine g_aloadN C X6 d8_18 (q := 19) rfl rfl rfl ?_
  refine g_getF C X6 (host := "") (Or.inl (w42 hw)) Via.refl Fb0 d8_19 (q := 22) rfl ?_
  intro T7 X8
  refine g_strEq C X8 (own_wordsEq hw) (w11 hw) (w71 hw) (w72 hw) (w74 hw) (w73 hw) Ta0 Tb0 (W.1.ext O.2) W.2 (W := 0) (by decide) (by decide) (by decide) (by decide) rfl rfl d8_22 (q := 25) rfl ?_
  intro T9 X10
  by_cases hx11 : ca0 = cb0
  · rw [if_pos hx11]
    refine g_ifN C X10 d8_25 (q := 28) rfl (by decide) ?_
    refine g_aloadN C X10 d8_28 (q := 29) rfl rfl rfl ?_
    refine g_getF C X10 (host := "") (Or.inl (w45 hw)) Via.refl Fa1 d8_29 (q := 32) rfl ?_
    intro T12 X13
    refine g_aloadN C X13 d8_32 (q := 33) rfl rfl rfl ?_
    refine g_getF C X13 (host := "") (Or.inl (w45 hw)) Via.refl Fb1 d8_33 (q := 36) rfl ?_
    intro T14 X15
    refine g_strEq C X15 (own_wordsEq hw) (w11 hw) (w71 hw) (w72 hw) (w74 hw) (w73 hw) Ta1 Tb1 (W.1.ext O.2) W.2 (W := 0) (by decide) (by decide) (by decide) (by decide) rfl rfl d8_36 (q := 39) rfl ?_
    intro T16 X17
    by_cases hx18 : ca1 = cb1
    · rw [if_pos hx18]
      refine g_ifN C X17 d8_39 (q := 42) rfl (by decide) ?_
      refine g_aloadN C X17 d8_42 (q := 43) rfl rfl rfl ?_
      refine g_getF C X17 (host := "") (Or.inl (w48 hw)) Via.refl Fa2 d8_43 (q := 46) rfl ?_
      intro T19 X20
      refine g_aloadN C X20 d8_46 (q := 47) rfl rfl rfl ?_
      refine g_getF C X20 (host := "") (Or.inl (w48 hw)) Via.refl Fb2 d8_47 (q := 50) rfl ?_
      intro T21 X22
      refine g_strEq C X22 (own_wordsEq hw) (w11 hw) (w71 hw) (w72 hw) (w74 hw) (w73 hw) Ta2 Tb2 (W.1.ext O.2) W.2 (W := 0) (by decide) (by decide) (by decide) (by decide) rfl rfl d8_50 (q := 53) rfl ?_
      intro T23 X24
      by_cases hx25 : ca2 = cb2
      · rw [if_pos hx25]
        refine g_ifN C X24 d8_53 (q := 56) rfl (by decide) ?_
        refine g_iconst C X24 d8_56 (q := 57) rfl (z := (1 : Int32)) rfl ?_
        refine g_goto C X24 d8_57 (by decide) (q := 61) (by decide) ?_
        exact g_retN C X24 (Or.inl rfl) (z' := 1) (by decide) d8_61 (by decide) (by decide) ⟨_, rfl, by simp [*], rfl⟩
      · rw [if_neg hx25]
        refine g_ifY C X24 d8_53 (by decide) (q := 60) (by decide) (by decide) ?_
        refine g_iconst C X24 d8_60 (q := 61) rfl (z := (0 : Int32)) rfl ?_
        exact g_retN C X24 (Or.inl rfl) (z' := 0) (by decide) d8_61 (by decide) (by decide) ⟨_, rfl, by simp [*], rfl⟩
    · rw [if_neg hx18]
      refine g_ifY C X17 d8_39 (by decide) (q := 60) (by decide) (by decide) ?_
      refine g_iconst C X17 d8_60 (q := 61) rfl (z := (0 : Int32)) rfl ?_
      exact g_retN C X17 (Or.inl rfl) (z' := 0) (by decide) d8_61 (by decide) (by decide) ⟨_, rfl, by simp [*], rfl⟩
  · rw [if_neg hx11]
    refine g_ifY C X10 d8_25 (by decide) (q := 60) (by decide) (by decide) ?_
    refine g_iconst C X10 d8_60 (q := 61) rfl (z := (0 : Int32)) rfl ?_
    exact g_retN C X10 (Or.inl rfl) (z' := 0) (by decide) d8_61 (by decide) (by decide) ⟨_, rfl, by simp [*], rfl⟩
set_option maxRecDepth 65536 in
set_option maxHeartbeats 40000000 in
theorem rmLaw {l : Launch} {Z : State} {a0 : Array Value} (hw : ∀ d ∈ tables_1, d.before a0 Z = true) {p0 p1 p2 p3 p4 : Int32} {cz : Int32} {h0 : Heap} {n0 : Nat} (O : Old Z n0 h0) (W : Wd Z cz) :
    MetW1 l Z consts_1 x code maxLocals ret room_1 #[(.int p0), (.int p1), (.int p2), (.int p3), (.int p4)] h0 n0 (fun v h => v = .int 1 ∧ True) := by
  refine metW_of (L := #[.val (.int p0), .val (.int p1), .val (.int p2), .val (.int p3), .val (.int p4), .unset, .unset, .unset, .unset, .unset, .unset, .unset, .unset, .unset, .unset, .unset, .unset, .unset, .unset, .unset, .unset, .unset, .unset, .unset, .unset, .unset, .unset]) (plainFor_of_name pn_23) (fun m => by first | (simp [entryFrame, mkF, argsToLocals, Value.category, maxLocals]; done) | rfl) ?_
  intro p e s m below meth c T vm C X Y
  change Cx p (s.setVm vm) m meth c Z "com/example/isolate_to_replay/isolatetoreplay/envelope/OriginEqualsPinLaw" code 27 (some .boolean) "law" at C
  change Goes p e below (FinW Z consts_1 _ s n0 56 4288) _
  refine g_iloadN C X at_0 (q := 1) rfl rfl ?_
  refine g_sipush C X at_1 (q := 4) rfl (z := (255 : Int32)) rfl ?_
  obtain ⟨v1, ev1⟩ : ∃ z, (p0 &&& (255 : Int32)) = z := ⟨_, rfl⟩
  have hl2 : 0 ≤ v1.toInt := by rw [← ev1]; exact (c_and p0 (255 : Int32) (by decide)).1
  have hh3 : v1.toInt ≤ 255 := by rw [← ev1]; exact (c_and p0 (255 : Int32) (by decide)).2
  refine g_iand C X at_4 (q := 5) rfl (z := v1) ev1 ?_
  refine g_istore C X at_5 (q := 7) rfl (L' := #[.val (.int p0), .val (.int p1), .val (.int p2), .val (.int p3), .val (.int p4), .val (.int v1), .unset, .unset, .unset, .unset, .unset, .unset, .unset, .unset, .unset, .unset, .unset, .unset, .unset, .unset, .unset, .unset, .unset, .unset, .unset, .unset, .unset]) rfl ?_
  refine g_iloadN C X at_7 (q := 8) rfl rfl ?_
  refine g_bipush C X at_8 (q := 10) rfl (z := (8 : Int32)) rfl ?_
  refine g_iushr C X at_10 (q := 11) rfl (z := ((p0.toUInt32 >>> ((8 : Int32) &&& 31).toUInt32).toInt32)) rfl ?_
  refine g_sipush C X at_11 (q := 14) rfl (z := (255 : Int32)) rfl ?_
  obtain ⟨v4, ev4⟩ : ∃ z, (((p0.toUInt32 >>> ((8 : Int32) &&& 31).toUInt32).toInt32) &&& (255 : Int32)) = z := ⟨_, rfl⟩
  have hl5 : 0 ≤ v4.toInt := by rw [← ev4]; exact (c_and ((p0.toUInt32 >>> ((8 : Int32) &&& 31).toUInt32).toInt32) (255 : Int32) (by decide)).1
  have hh6 : v4.toInt ≤ 255 := by rw [← ev4]; exact (c_and ((p0.toUInt32 >>> ((8 : Int32) &&& 31).toUInt32).toInt32) (255 : Int32) (by decide)).2
  refine g_iand C X at_14 (q := 15) rfl (z := v4) ev4 ?_
  refine g_istore C X at_15 (q := 17) rfl (L' := #[.val (.int p0), .val (.int p1), .val (.int p2), .val (.int p3), .val (.int p4), .val (.int v1), .val (.int v4), .unset, .unset, .unset, .unset, .unset, .unset, .unset, .unset, .unset, .unset, .unset, .unset, .unset, .unset, .unset, .unset, .unset, .unset, .unset, .unset]) rfl ?_
  refine g_iloadN C X at_17 (q := 18) rfl rfl ?_
  refine g_bipush C X at_18 (q := 20) rfl (z := (16 : Int32)) rfl ?_
  refine g_iushr C X at_20 (q := 21) rfl (z := ((p0.toUInt32 >>> ((16 : Int32) &&& 31).toUInt32).toInt32)) rfl ?_
  refine g_sipush C X at_21 (q := 24) rfl (z := (255 : Int32)) rfl ?_
  obtain ⟨v7, ev7⟩ : ∃ z, (((p0.toUInt32 >>> ((16 : Int32) &&& 31).toUInt32).toInt32) &&& (255 : Int32)) = z := ⟨_, rfl⟩
  have hl8 : 0 ≤ v7.toInt := by rw [← ev7]; exact (c_and ((p0.toUInt32 >>> ((16 : Int32) &&& 31).toUInt32).toInt32) (255 : Int32) (by decide)).1
  have hh9 : v7.toInt ≤ 255 := by rw [← ev7]; exact (c_and ((p0.toUInt32 >>> ((16 : Int32) &&& 31).toUInt32).toInt32) (255 : Int32) (by decide)).2
  refine g_iand C X at_24 (q := 25) rfl (z := v7) ev7 ?_
  refine g_istore C X at_25 (q := 27) rfl (L' := #[.val (.int p0), .val (.int p1), .val (.int p2), .val (.int p3), .val (.int p4), .val (.int v1), .val (.int v4), .val (.int v7), .unset, .unset, .unset, .unset, .unset, .unset, .unset, .unset, .unset, .unset, .unset, .unset, .unset, .unset, .unset, .unset, .unset, .unset, .unset]) rfl ?_
  refine g_iloadN C X at_27 (q := 28) rfl rfl ?_
  refine g_bipush C X at_28 (q := 30) rfl (z := (24 : Int32)) rfl ?_
  refine g_iushr C X at_30 (q := 31) rfl (z := ((p0.toUInt32 >>> ((24 : Int32) &&& 31).toUInt32).toInt32)) rfl ?_
  refine g_sipush C X at_31 (q := 34) rfl (z := (255 : Int32)) rfl ?_
  obtain ⟨v10, ev10⟩ : ∃ z, (((p0.toUInt32 >>> ((24 : Int32) &&& 31).toUInt32).toInt32) &&& (255 : Int32)) = z := ⟨_, rfl⟩
  have hl11 : 0 ≤ v10.toInt := by rw [← ev10]; exact (c_and ((p0.toUInt32 >>> ((24 : Int32) &&& 31).toUInt32).toInt32) (255 : Int32) (by decide)).1
  have hh12 : v10.toInt ≤ 255 := by rw [← ev10]; exact (c_and ((p0.toUInt32 >>> ((24 : Int32) &&& 31).toUInt32).toInt32) (255 : Int32) (by decide)).2
  refine g_iand C X at_34 (q := 35) rfl (z := v10) ev10 ?_
  refine g_istore C X at_35 (q := 37) rfl (L' := #[.val (.int p0), .val (.int p1), .val (.int p2), .val (.int p3), .val (.int p4), .val (.int v1), .val (.int v4), .val (.int v7), .val (.int v10), .unset, .unset, .unset, .unset, .unset, .unset, .unset, .unset, .unset, .unset, .unset, .unset, .unset, .unset, .unset, .unset, .unset, .unset]) rfl ?_
  refine g_iloadN C X at_37 (q := 38) rfl rfl ?_
  refine g_sipush C X at_38 (q := 41) rfl (z := (255 : Int32)) rfl ?_
  obtain ⟨v13, ev13⟩ : ∃ z, (p1 &&& (255 : Int32)) = z := ⟨_, rfl⟩
  have hl14 : 0 ≤ v13.toInt := by rw [← ev13]; exact (c_and p1 (255 : Int32) (by decide)).1
  have hh15 : v13.toInt ≤ 255 := by rw [← ev13]; exact (c_and p1 (255 : Int32) (by decide)).2
  refine g_iand C X at_41 (q := 42) rfl (z := v13) ev13 ?_
  refine g_istore C X at_42 (q := 44) rfl (L' := #[.val (.int p0), .val (.int p1), .val (.int p2), .val (.int p3), .val (.int p4), .val (.int v1), .val (.int v4), .val (.int v7), .val (.int v10), .val (.int v13), .unset, .unset, .unset, .unset, .unset, .unset, .unset, .unset, .unset, .unset, .unset, .unset, .unset, .unset, .unset, .unset, .unset]) rfl ?_
  refine g_iloadN C X at_44 (q := 45) rfl rfl ?_
  refine g_bipush C X at_45 (q := 47) rfl (z := (8 : Int32)) rfl ?_
  refine g_iushr C X at_47 (q := 48) rfl (z := ((p1.toUInt32 >>> ((8 : Int32) &&& 31).toUInt32).toInt32)) rfl ?_
  refine g_sipush C X at_48 (q := 51) rfl (z := (255 : Int32)) rfl ?_
  obtain ⟨v16, ev16⟩ : ∃ z, (((p1.toUInt32 >>> ((8 : Int32) &&& 31).toUInt32).toInt32) &&& (255 : Int32)) = z := ⟨_, rfl⟩
  have hl17 : 0 ≤ v16.toInt := by rw [← ev16]; exact (c_and ((p1.toUInt32 >>> ((8 : Int32) &&& 31).toUInt32).toInt32) (255 : Int32) (by decide)).1
  have hh18 : v16.toInt ≤ 255 := by rw [← ev16]; exact (c_and ((p1.toUInt32 >>> ((8 : Int32) &&& 31).toUInt32).toInt32) (255 : Int32) (by decide)).2
  refine g_iand C X at_51 (q := 52) rfl (z := v16) ev16 ?_
  refine g_istore C X at_52 (q := 54) rfl (L' := #[.val (.int p0), .val (.int p1), .val (.int p2), .val (.int p3), .val (.int p4), .val (.int v1), .val (.int v4), .val (.int v7), .val (.int v10), .val (.int v13), .val (.int v16), .unset, .unset, .unset, .unset, .unset, .unset, .unset, .unset, .unset, .unset, .unset, .unset, .unset, .unset, .unset, .unset]) rfl ?_
  refine g_iloadN C X at_54 (q := 55) rfl rfl ?_
  refine g_bipush C X at_55 (q := 57) rfl (z := (16 : Int32)) rfl ?_
  refine g_iushr C X at_57 (q := 58) rfl (z := ((p1.toUInt32 >>> ((16 : Int32) &&& 31).toUInt32).toInt32)) rfl ?_
  refine g_iconst C X at_58 (q := 59) rfl (z := (3 : Int32)) rfl ?_
  obtain ⟨v19, ev19⟩ : ∃ z, (((p1.toUInt32 >>> ((16 : Int32) &&& 31).toUInt32).toInt32) &&& (3 : Int32)) = z := ⟨_, rfl⟩
  have hl20 : 0 ≤ v19.toInt := by rw [← ev19]; exact (c_and ((p1.toUInt32 >>> ((16 : Int32) &&& 31).toUInt32).toInt32) (3 : Int32) (by decide)).1
  have hh21 : v19.toInt ≤ 3 := by rw [← ev19]; exact (c_and ((p1.toUInt32 >>> ((16 : Int32) &&& 31).toUInt32).toInt32) (3 : Int32) (by decide)).2
  refine g_iand C X at_59 (q := 60) rfl (z := v19) ev19 ?_
  refine g_iconst C X at_60 (q := 61) rfl (z := (3 : Int32)) rfl ?_
  obtain ⟨v22, ev22⟩ : ∃ z, (v19 % (3 : Int32)) = z := ⟨_, rfl⟩
  have hl23 : 0 ≤ v22.toInt := by rw [← ev22]; exact (own_rem (y := (3 : Int32)) (d := 2) (by decide) (by decide) (Int.le_trans (by decide) hl20)).1
  have hh24 : v22.toInt ≤ 2 := by rw [← ev22]; exact (own_rem (y := (3 : Int32)) (d := 2) (by decide) (by decide) (Int.le_trans (by decide) hl20)).2
  refine g_irem C X at_61 (q := 62) rfl (by decide) (z := v22) ev22 ?_
  refine g_istore C X at_62 (q := 64) rfl (L' := #[.val (.int p0), .val (.int p1), .val (.int p2), .val (.int p3), .val (.int p4), .val (.int v1), .val (.int v4), .val (.int v7), .val (.int v10), .val (.int v13), .val (.int v16), .val (.int v22), .unset, .unset, .unset, .unset, .unset, .unset, .unset, .unset, .unset, .unset, .unset, .unset, .unset, .unset, .unset]) rfl ?_
  refine g_iloadN C X at_64 (q := 65) rfl rfl ?_
  refine g_bipush C X at_65 (q := 67) rfl (z := (18 : Int32)) rfl ?_
  refine g_iushr C X at_67 (q := 68) rfl (z := ((p1.toUInt32 >>> ((18 : Int32) &&& 31).toUInt32).toInt32)) rfl ?_
  refine g_iconst C X at_68 (q := 69) rfl (z := (3 : Int32)) rfl ?_
  obtain ⟨v25, ev25⟩ : ∃ z, (((p1.toUInt32 >>> ((18 : Int32) &&& 31).toUInt32).toInt32) &&& (3 : Int32)) = z := ⟨_, rfl⟩
  have hl26 : 0 ≤ v25.toInt := by rw [← ev25]; exact (c_and ((p1.toUInt32 >>> ((18 : Int32) &&& 31).toUInt32).toInt32) (3 : Int32) (by decide)).1
  have hh27 : v25.toInt ≤ 3 := by rw [← ev25]; exact (c_and ((p1.toUInt32 >>> ((18 : Int32) &&& 31).toUInt32).toInt32) (3 : Int32) (by decide)).2
  refine g_iand C X at_69 (q := 70) rfl (z := v25) ev25 ?_
  refine g_iconst C X at_70 (q := 71) rfl (z := (3 : Int32)) rfl ?_
  obtain ⟨v28, ev28⟩ : ∃ z, (v25 % (3 : Int32)) = z := ⟨_, rfl⟩
  have hl29 : 0 ≤ v28.toInt := by rw [← ev28]; exact (own_rem (y := (3 : Int32)) (d := 2) (by decide) (by decide) (Int.le_trans (by decide) hl26)).1
  have hh30 : v28.toInt ≤ 2 := by rw [← ev28]; exact (own_rem (y := (3 : Int32)) (d := 2) (by decide) (by decide) (Int.le_trans (by decide) hl26)).2
  refine g_irem C X at_71 (q := 72) rfl (by decide) (z := v28) ev28 ?_
  refine g_istore C X at_72 (q := 74) rfl (L' := #[.val (.int p0), .val (.int p1), .val (.int p2), .val (.int p3), .val (.int p4), .val (.int v1), .val (.int v4), .val (.int v7), .val (.int v10), .val (.int v13), .val (.int v16), .val (.int v22), .val (.int v28), .unset, .unset, .unset, .unset, .unset, .unset, .unset, .unset, .unset, .unset, .unset, .unset, .unset, .unset]) rfl ?_
  refine g_iloadN C X at_74 (q := 75) rfl rfl ?_
  refine g_bipush C X at_75 (q := 77) rfl (z := (20 : Int32)) rfl ?_
  refine g_iushr C X at_77 (q := 78) rfl (z := ((p1.toUInt32 >>> ((20 : Int32) &&& 31).toUInt32).toInt32)) rfl ?_
  refine g_iconst C X at_78 (q := 79) rfl (z := (3 : Int32)) rfl ?_
  obtain ⟨v31, ev31⟩ : ∃ z, (((p1.toUInt32 >>> ((20 : Int32) &&& 31).toUInt32).toInt32) &&& (3 : Int32)) = z := ⟨_, rfl⟩
  have hl32 : 0 ≤ v31.toInt := by rw [← ev31]; exact (c_and ((p1.toUInt32 >>> ((20 : Int32) &&& 31).toUInt32).toInt32) (3 : Int32) (by decide)).1
  have hh33 : v31.toInt ≤ 3 := by rw [← ev31]; exact (c_and ((p1.toUInt32 >>> ((20 : Int32) &&& 31).toUInt32).toInt32) (3 : Int32) (by decide)).2
  refine g_iand C X at_79 (q := 80) rfl (z := v31) ev31 ?_
  refine g_iconst C X at_80 (q := 81) rfl (z := (3 : Int32)) rfl ?_
  obtain ⟨v34, ev34⟩ : ∃ z, (v31 % (3 : Int32)) = z := ⟨_, rfl⟩
  have hl35 : 0 ≤ v34.toInt := by rw [← ev34]; exact (own_rem (y := (3 : Int32)) (d := 2) (by decide) (by decide) (Int.le_trans (by decide) hl32)).1
  have hh36 : v34.toInt ≤ 2 := by rw [← ev34]; exact (own_rem (y := (3 : Int32)) (d := 2) (by decide) (by decide) (Int.le_trans (by decide) hl32)).2
  refine g_irem C X at_81 (q := 82) rfl (by decide) (z := v34) ev34 ?_
  refine g_istore C X at_82 (q := 84) rfl (L' := #[.val (.int p0), .val (.int p1), .val (.int p2), .val (.int p3), .val (.int p4), .val (.int v1), .val (.int v4), .val (.int v7), .val (.int v10), .val (.int v13), .val (.int v16), .val (.int v22), .val (.int v28), .val (.int v34), .unset, .unset, .unset, .unset, .unset, .unset, .unset, .unset, .unset, .unset, .unset, .unset, .unset]) rfl ?_
  refine g_iloadN C X at_84 (q := 85) rfl rfl ?_
  refine g_bipush C X at_85 (q := 87) rfl (z := (22 : Int32)) rfl ?_
  refine g_iushr C X at_87 (q := 88) rfl (z := ((p1.toUInt32 >>> ((22 : Int32) &&& 31).toUInt32).toInt32)) rfl ?_
  refine g_iconst C X at_88 (q := 89) rfl (z := (3 : Int32)) rfl ?_
  obtain ⟨v37, ev37⟩ : ∃ z, (((p1.toUInt32 >>> ((22 : Int32) &&& 31).toUInt32).toInt32) &&& (3 : Int32)) = z := ⟨_, rfl⟩
  have hl38 : 0 ≤ v37.toInt := by rw [← ev37]; exact (c_and ((p1.toUInt32 >>> ((22 : Int32) &&& 31).toUInt32).toInt32) (3 : Int32) (by decide)).1
  have hh39 : v37.toInt ≤ 3 := by rw [← ev37]; exact (c_and ((p1.toUInt32 >>> ((22 : Int32) &&& 31).toUInt32).toInt32) (3 : Int32) (by decide)).2
  refine g_iand C X at_89 (q := 90) rfl (z := v37) ev37 ?_
  refine g_istore C X at_90 (q := 92) rfl (L' := #[.val (.int p0), .val (.int p1), .val (.int p2), .val (.int p3), .val (.int p4), .val (.int v1), .val (.int v4), .val (.int v7), .val (.int v10), .val (.int v13), .val (.int v16), .val (.int v22), .val (.int v28), .val (.int v34), .val (.int v37), .unset, .unset, .unset, .unset, .unset, .unset, .unset, .unset, .unset, .unset, .unset, .unset]) rfl ?_
  refine g_iload C X at_92 (q := 94) rfl rfl ?_
  refine g_iconst C X at_94 (q := 95) rfl (z := (0 : Int32)) rfl ?_
  refine g_iload C X at_95 (q := 97) rfl rfl ?_
  refine g_iloadN C X at_97 (q := 98) rfl rfl ?_
  refine g_sipush C X at_98 (q := 101) rfl (z := (255 : Int32)) rfl ?_
  obtain ⟨v40, ev40⟩ : ∃ z, (p2 &&& (255 : Int32)) = z := ⟨_, rfl⟩
  have hl41 : 0 ≤ v40.toInt := by rw [← ev40]; exact (c_and p2 (255 : Int32) (by decide)).1
  have hh42 : v40.toInt ≤ 255 := by rw [← ev40]; exact (c_and p2 (255 : Int32) (by decide)).2
  refine g_iand C X at_101 (q := 102) rfl (z := v40) ev40 ?_
  obtain ⟨v43, ev43⟩ : ∃ z, (own_pick p4 (0 : Int32) v1 v40) = z := ⟨_, rfl⟩
  have hl44 : 0 ≤ v43.toInt := by rw [← ev43]; exact (own_pickR hl2 hh3 hl41 hh42).1
  have hh45 : v43.toInt ≤ 255 := by rw [← ev43]; exact (own_pickR hl2 hh3 hl41 hh42).2
  refine g_callS1 C X (y := (⟨"com/example/isolate_to_replay/isolatetoreplay/envelope/OriginEqualsPinLaw", "pick", "(IIII)I"⟩ : MethodName)) (by decide) (w0 hw) (w1 hw) (w3 hw) (w2 hw) (rm_own_pick hw (p0 := p4) (p1 := (0 : Int32)) (p2 := v1) (p3 := v40) O) (W := 0) (by decide) (by decide) (k' := 0) rfl (n' := 0) rfl (by decide) (by decide) rfl pd_96 (argsL := [(.int p4), (.int (0 : Int32)), (.int v1), (.int v40)]) rfl (rest := []) rfl rfl rfl at_102 (q := 105) rfl ?_
  rintro _ T46 _ X47 ⟨rfl, rfl⟩
  rw [ev43]
  refine g_istore C X47 at_105 (q := 107) rfl (L' := #[.val (.int p0), .val (.int p1), .val (.int p2), .val (.int p3), .val (.int p4), .val (.int v1), .val (.int v4), .val (.int v7), .val (.int v10), .val (.int v13), .val (.int v16), .val (.int v22), .val (.int v28), .val (.int v34), .val (.int v37), .val (.int v43), .unset, .unset, .unset, .unset, .unset, .unset, .unset, .unset, .unset, .unset, .unset]) rfl ?_
  refine g_iload C X47 at_107 (q := 109) rfl rfl ?_
  refine g_iconst C X47 at_109 (q := 110) rfl (z := (1 : Int32)) rfl ?_
  refine g_iload C X47 at_110 (q := 112) rfl rfl ?_
  refine g_iloadN C X47 at_112 (q := 113) rfl rfl ?_
  refine g_bipush C X47 at_113 (q := 115) rfl (z := (8 : Int32)) rfl ?_
  refine g_iushr C X47 at_115 (q := 116) rfl (z := ((p2.toUInt32 >>> ((8 : Int32) &&& 31).toUInt32).toInt32)) rfl ?_
  refine g_sipush C X47 at_116 (q := 119) rfl (z := (255 : Int32)) rfl ?_
  obtain ⟨v48, ev48⟩ : ∃ z, (((p2.toUInt32 >>> ((8 : Int32) &&& 31).toUInt32).toInt32) &&& (255 : Int32)) = z := ⟨_, rfl⟩
  have hl49 : 0 ≤ v48.toInt := by rw [← ev48]; exact (c_and ((p2.toUInt32 >>> ((8 : Int32) &&& 31).toUInt32).toInt32) (255 : Int32) (by decide)).1
  have hh50 : v48.toInt ≤ 255 := by rw [← ev48]; exact (c_and ((p2.toUInt32 >>> ((8 : Int32) &&& 31).toUInt32).toInt32) (255 : Int32) (by decide)).2
  refine g_iand C X47 at_119 (q := 120) rfl (z := v48) ev48 ?_
  obtain ⟨v51, ev51⟩ : ∃ z, (own_pick p4 (1 : Int32) v4 v48) = z := ⟨_, rfl⟩
  have hl52 : 0 ≤ v51.toInt := by rw [← ev51]; exact (own_pickR hl5 hh6 hl49 hh50).1
  have hh53 : v51.toInt ≤ 255 := by rw [← ev51]; exact (own_pickR hl5 hh6 hl49 hh50).2
  refine g_callS1 C X47 (y := (⟨"com/example/isolate_to_replay/isolatetoreplay/envelope/OriginEqualsPinLaw", "pick", "(IIII)I"⟩ : MethodName)) (by decide) (w0 hw) (w1 hw) (w3 hw) (w2 hw) (rm_own_pick hw (p0 := p4) (p1 := (1 : Int32)) (p2 := v4) (p3 := v48) O) (W := 0) (by decide) (by decide) (k' := 0) rfl (n' := 0) rfl (by decide) (by decide) rfl pd_96 (argsL := [(.int p4), (.int (1 : Int32)), (.int v4), (.int v48)]) rfl (rest := []) rfl rfl rfl at_120 (q := 123) rfl ?_
  rintro _ T54 _ X55 ⟨rfl, rfl⟩
  rw [ev51]
  refine g_istore C X55 at_123 (q := 125) rfl (L' := #[.val (.int p0), .val (.int p1), .val (.int p2), .val (.int p3), .val (.int p4), .val (.int v1), .val (.int v4), .val (.int v7), .val (.int v10), .val (.int v13), .val (.int v16), .val (.int v22), .val (.int v28), .val (.int v34), .val (.int v37), .val (.int v43), .val (.int v51), .unset, .unset, .unset, .unset, .unset, .unset, .unset, .unset, .unset, .unset]) rfl ?_
  refine g_iload C X55 at_125 (q := 127) rfl rfl ?_
  refine g_iconst C X55 at_127 (q := 128) rfl (z := (2 : Int32)) rfl ?_
  refine g_iload C X55 at_128 (q := 130) rfl rfl ?_
  refine g_iloadN C X55 at_130 (q := 131) rfl rfl ?_
  refine g_bipush C X55 at_131 (q := 133) rfl (z := (16 : Int32)) rfl ?_
  refine g_iushr C X55 at_133 (q := 134) rfl (z := ((p2.toUInt32 >>> ((16 : Int32) &&& 31).toUInt32).toInt32)) rfl ?_
  refine g_sipush C X55 at_134 (q := 137) rfl (z := (255 : Int32)) rfl ?_
  obtain ⟨v56, ev56⟩ : ∃ z, (((p2.toUInt32 >>> ((16 : Int32) &&& 31).toUInt32).toInt32) &&& (255 : Int32)) = z := ⟨_, rfl⟩
  have hl57 : 0 ≤ v56.toInt := by rw [← ev56]; exact (c_and ((p2.toUInt32 >>> ((16 : Int32) &&& 31).toUInt32).toInt32) (255 : Int32) (by decide)).1
  have hh58 : v56.toInt ≤ 255 := by rw [← ev56]; exact (c_and ((p2.toUInt32 >>> ((16 : Int32) &&& 31).toUInt32).toInt32) (255 : Int32) (by decide)).2
  refine g_iand C X55 at_137 (q := 138) rfl (z := v56) ev56 ?_
  obtain ⟨v59, ev59⟩ : ∃ z, (own_pick p4 (2 : Int32) v7 v56) = z := ⟨_, rfl⟩
  have hl60 : 0 ≤ v59.toInt := by rw [← ev59]; exact (own_pickR hl8 hh9 hl57 hh58).1
  have hh61 : v59.toInt ≤ 255 := by rw [← ev59]; exact (own_pickR hl8 hh9 hl57 hh58).2
  refine g_callS1 C X55 (y := (⟨"com/example/isolate_to_replay/isolatetoreplay/envelope/OriginEqualsPinLaw", "pick", "(IIII)I"⟩ : MethodName)) (by decide) (w0 hw) (w1 hw) (w3 hw) (w2 hw) (rm_own_pick hw (p0 := p4) (p1 := (2 : Int32)) (p2 := v7) (p3 := v56) O) (W := 0) (by decide) (by decide) (k' := 0) rfl (n' := 0) rfl (by decide) (by decide) rfl pd_96 (argsL := [(.int p4), (.int (2 : Int32)), (.int v7), (.int v56)]) rfl (rest := []) rfl rfl rfl at_138 (q := 141) rfl ?_
  rintro _ T62 _ X63 ⟨rfl, rfl⟩
  rw [ev59]
  refine g_istore C X63 at_141 (q := 143) rfl (L' := #[.val (.int p0), .val (.int p1), .val (.int p2), .val (.int p3), .val (.int p4), .val (.int v1), .val (.int v4), .val (.int v7), .val (.int v10), .val (.int v13), .val (.int v16), .val (.int v22), .val (.int v28), .val (.int v34), .val (.int v37), .val (.int v43), .val (.int v51), .val (.int v59), .unset, .unset, .unset, .unset, .unset, .unset, .unset, .unset, .unset]) rfl ?_
  refine g_iload C X63 at_143 (q := 145) rfl rfl ?_
  refine g_iconst C X63 at_145 (q := 146) rfl (z := (3 : Int32)) rfl ?_
  refine g_iload C X63 at_146 (q := 148) rfl rfl ?_
  refine g_iloadN C X63 at_148 (q := 149) rfl rfl ?_
  refine g_bipush C X63 at_149 (q := 151) rfl (z := (24 : Int32)) rfl ?_
  refine g_iushr C X63 at_151 (q := 152) rfl (z := ((p2.toUInt32 >>> ((24 : Int32) &&& 31).toUInt32).toInt32)) rfl ?_
  refine g_sipush C X63 at_152 (q := 155) rfl (z := (255 : Int32)) rfl ?_
  obtain ⟨v64, ev64⟩ : ∃ z, (((p2.toUInt32 >>> ((24 : Int32) &&& 31).toUInt32).toInt32) &&& (255 : Int32)) = z := ⟨_, rfl⟩
  have hl65 : 0 ≤ v64.toInt := by rw [← ev64]; exact (c_and ((p2.toUInt32 >>> ((24 : Int32) &&& 31).toUInt32).toInt32) (255 : Int32) (by decide)).1
  have hh66 : v64.toInt ≤ 255 := by rw [← ev64]; exact (c_and ((p2.toUInt32 >>> ((24 : Int32) &&& 31).toUInt32).toInt32) (255 : Int32) (by decide)).2
  refine g_iand C X63 at_155 (q := 156) rfl (z := v64) ev64 ?_
  obtain ⟨v67, ev67⟩ : ∃ z, (own_pick p4 (3 : Int32) v10 v64) = z := ⟨_, rfl⟩
  have hl68 : 0 ≤ v67.toInt := by rw [← ev67]; exact (own_pickR hl11 hh12 hl65 hh66).1
  have hh69 : v67.toInt ≤ 255 := by rw [← ev67]; exact (own_pickR hl11 hh12 hl65 hh66).2
  refine g_callS1 C X63 (y := (⟨"com/example/isolate_to_replay/isolatetoreplay/envelope/OriginEqualsPinLaw", "pick", "(IIII)I"⟩ : MethodName)) (by decide) (w0 hw) (w1 hw) (w3 hw) (w2 hw) (rm_own_pick hw (p0 := p4) (p1 := (3 : Int32)) (p2 := v10) (p3 := v64) O) (W := 0) (by decide) (by decide) (k' := 0) rfl (n' := 0) rfl (by decide) (by decide) rfl pd_96 (argsL := [(.int p4), (.int (3 : Int32)), (.int v10), (.int v64)]) rfl (rest := []) rfl rfl rfl at_156 (q := 159) rfl ?_
  rintro _ T70 _ X71 ⟨rfl, rfl⟩
  rw [ev67]
  refine g_istore C X71 at_159 (q := 161) rfl (L' := #[.val (.int p0), .val (.int p1), .val (.int p2), .val (.int p3), .val (.int p4), .val (.int v1), .val (.int v4), .val (.int v7), .val (.int v10), .val (.int v13), .val (.int v16), .val (.int v22), .val (.int v28), .val (.int v34), .val (.int v37), .val (.int v43), .val (.int v51), .val (.int v59), .val (.int v67), .unset, .unset, .unset, .unset, .unset, .unset, .unset, .unset]) rfl ?_
  refine g_iload C X71 at_161 (q := 163) rfl rfl ?_
  refine g_iconst C X71 at_163 (q := 164) rfl (z := (4 : Int32)) rfl ?_
  refine g_iload C X71 at_164 (q := 166) rfl rfl ?_
  refine g_iloadN C X71 at_166 (q := 167) rfl rfl ?_
  refine g_sipush C X71 at_167 (q := 170) rfl (z := (255 : Int32)) rfl ?_
  obtain ⟨v72, ev72⟩ : ∃ z, (p3 &&& (255 : Int32)) = z := ⟨_, rfl⟩
  have hl73 : 0 ≤ v72.toInt := by rw [← ev72]; exact (c_and p3 (255 : Int32) (by decide)).1
  have hh74 : v72.toInt ≤ 255 := by rw [← ev72]; exact (c_and p3 (255 : Int32) (by decide)).2
  refine g_iand C X71 at_170 (q := 171) rfl (z := v72) ev72 ?_
  obtain ⟨v75, ev75⟩ : ∃ z, (own_pick p4 (4 : Int32) v13 v72) = z := ⟨_, rfl⟩
  have hl76 : 0 ≤ v75.toInt := by rw [← ev75]; exact (own_pickR hl14 hh15 hl73 hh74).1
  have hh77 : v75.toInt ≤ 255 := by rw [← ev75]; exact (own_pickR hl14 hh15 hl73 hh74).2
  refine g_callS1 C X71 (y := (⟨"com/example/isolate_to_replay/isolatetoreplay/envelope/OriginEqualsPinLaw", "pick", "(IIII)I"⟩ : MethodName)) (by decide) (w0 hw) (w1 hw) (w3 hw) (w2 hw) (rm_own_pick hw (p0 := p4) (p1 := (4 : Int32)) (p2 := v13) (p3 := v72) O) (W := 0) (by decide) (by decide) (k' := 0) rfl (n' := 0) rfl (by decide) (by decide) rfl pd_96 (argsL := [(.int p4), (.int (4 : Int32)), (.int v13), (.int v72)]) rfl (rest := []) rfl rfl rfl at_171 (q := 174) rfl ?_
  rintro _ T78 _ X79 ⟨rfl, rfl⟩
  rw [ev75]
  refine g_istore C X79 at_174 (q := 176) rfl (L' := #[.val (.int p0), .val (.int p1), .val (.int p2), .val (.int p3), .val (.int p4), .val (.int v1), .val (.int v4), .val (.int v7), .val (.int v10), .val (.int v13), .val (.int v16), .val (.int v22), .val (.int v28), .val (.int v34), .val (.int v37), .val (.int v43), .val (.int v51), .val (.int v59), .val (.int v67), .val (.int v75), .unset, .unset, .unset, .unset, .unset, .unset, .unset]) rfl ?_
  refine g_iload C X79 at_176 (q := 178) rfl rfl ?_
  refine g_iconst C X79 at_178 (q := 179) rfl (z := (5 : Int32)) rfl ?_
  refine g_iload C X79 at_179 (q := 181) rfl rfl ?_
  refine g_iloadN C X79 at_181 (q := 182) rfl rfl ?_
  refine g_bipush C X79 at_182 (q := 184) rfl (z := (8 : Int32)) rfl ?_
  refine g_iushr C X79 at_184 (q := 185) rfl (z := ((p3.toUInt32 >>> ((8 : Int32) &&& 31).toUInt32).toInt32)) rfl ?_
  refine g_sipush C X79 at_185 (q := 188) rfl (z := (255 : Int32)) rfl ?_
  obtain ⟨v80, ev80⟩ : ∃ z, (((p3.toUInt32 >>> ((8 : Int32) &&& 31).toUInt32).toInt32) &&& (255 : Int32)) = z := ⟨_, rfl⟩
  have hl81 : 0 ≤ v80.toInt := by rw [← ev80]; exact (c_and ((p3.toUInt32 >>> ((8 : Int32) &&& 31).toUInt32).toInt32) (255 : Int32) (by decide)).1
  have hh82 : v80.toInt ≤ 255 := by rw [← ev80]; exact (c_and ((p3.toUInt32 >>> ((8 : Int32) &&& 31).toUInt32).toInt32) (255 : Int32) (by decide)).2
  refine g_iand C X79 at_188 (q := 189) rfl (z := v80) ev80 ?_
  obtain ⟨v83, ev83⟩ : ∃ z, (own_pick p4 (5 : Int32) v16 v80) = z := ⟨_, rfl⟩
  have hl84 : 0 ≤ v83.toInt := by rw [← ev83]; exact (own_pickR hl17 hh18 hl81 hh82).1
  have hh85 : v83.toInt ≤ 255 := by rw [← ev83]; exact (own_pickR hl17 hh18 hl81 hh82).2
  refine g_callS1 C X79 (y := (⟨"com/example/isolate_to_replay/isolatetoreplay/envelope/OriginEqualsPinLaw", "pick", "(IIII)I"⟩ : MethodName)) (by decide) (w0 hw) (w1 hw) (w3 hw) (w2 hw) (rm_own_pick hw (p0 := p4) (p1 := (5 : Int32)) (p2 := v16) (p3 := v80) O) (W := 0) (by decide) (by decide) (k' := 0) rfl (n' := 0) rfl (by decide) (by decide) rfl pd_96 (argsL := [(.int p4), (.int (5 : Int32)), (.int v16), (.int v80)]) rfl (rest := []) rfl rfl rfl at_189 (q := 192) rfl ?_
  rintro _ T86 _ X87 ⟨rfl, rfl⟩
  rw [ev83]
  refine g_istore C X87 at_192 (q := 194) rfl (L' := #[.val (.int p0), .val (.int p1), .val (.int p2), .val (.int p3), .val (.int p4), .val (.int v1), .val (.int v4), .val (.int v7), .val (.int v10), .val (.int v13), .val (.int v16), .val (.int v22), .val (.int v28), .val (.int v34), .val (.int v37), .val (.int v43), .val (.int v51), .val (.int v59), .val (.int v67), .val (.int v75), .val (.int v83), .unset, .unset, .unset, .unset, .unset, .unset]) rfl ?_
  refine g_iload C X87 at_194 (q := 196) rfl rfl ?_
  refine g_bipush C X87 at_196 (q := 198) rfl (z := (6 : Int32)) rfl ?_
  refine g_iload C X87 at_198 (q := 200) rfl rfl ?_
  refine g_iloadN C X87 at_200 (q := 201) rfl rfl ?_
  refine g_bipush C X87 at_201 (q := 203) rfl (z := (16 : Int32)) rfl ?_
  refine g_iushr C X87 at_203 (q := 204) rfl (z := ((p3.toUInt32 >>> ((16 : Int32) &&& 31).toUInt32).toInt32)) rfl ?_
  refine g_iconst C X87 at_204 (q := 205) rfl (z := (3 : Int32)) rfl ?_
  obtain ⟨v88, ev88⟩ : ∃ z, (((p3.toUInt32 >>> ((16 : Int32) &&& 31).toUInt32).toInt32) &&& (3 : Int32)) = z := ⟨_, rfl⟩
  have hl89 : 0 ≤ v88.toInt := by rw [← ev88]; exact (c_and ((p3.toUInt32 >>> ((16 : Int32) &&& 31).toUInt32).toInt32) (3 : Int32) (by decide)).1
  have hh90 : v88.toInt ≤ 3 := by rw [← ev88]; exact (c_and ((p3.toUInt32 >>> ((16 : Int32) &&& 31).toUInt32).toInt32) (3 : Int32) (by decide)).2
  refine g_iand C X87 at_205 (q := 206) rfl (z := v88) ev88 ?_
  refine g_iconst C X87 at_206 (q := 207) rfl (z := (3 : Int32)) rfl ?_
  obtain ⟨v91, ev91⟩ : ∃ z, (v88 % (3 : Int32)) = z := ⟨_, rfl⟩
  have hl92 : 0 ≤ v91.toInt := by rw [← ev91]; exact (own_rem (y := (3 : Int32)) (d := 2) (by decide) (by decide) (Int.le_trans (by decide) hl89)).1
  have hh93 : v91.toInt ≤ 2 := by rw [← ev91]; exact (own_rem (y := (3 : Int32)) (d := 2) (by decide) (by decide) (Int.le_trans (by decide) hl89)).2
  refine g_irem C X87 at_207 (q := 208) rfl (by decide) (z := v91) ev91 ?_
  obtain ⟨v94, ev94⟩ : ∃ z, (own_pick p4 (6 : Int32) v22 v91) = z := ⟨_, rfl⟩
  have hl95 : 0 ≤ v94.toInt := by rw [← ev94]; exact (own_pickR hl23 hh24 hl92 hh93).1
  have hh96 : v94.toInt ≤ 2 := by rw [← ev94]; exact (own_pickR hl23 hh24 hl92 hh93).2
  refine g_callS1 C X87 (y := (⟨"com/example/isolate_to_replay/isolatetoreplay/envelope/OriginEqualsPinLaw", "pick", "(IIII)I"⟩ : MethodName)) (by decide) (w0 hw) (w1 hw) (w3 hw) (w2 hw) (rm_own_pick hw (p0 := p4) (p1 := (6 : Int32)) (p2 := v22) (p3 := v91) O) (W := 0) (by decide) (by decide) (k' := 0) rfl (n' := 0) rfl (by decide) (by decide) rfl pd_96 (argsL := [(.int p4), (.int (6 : Int32)), (.int v22), (.int v91)]) rfl (rest := []) rfl rfl rfl at_208 (q := 211) rfl ?_
  rintro _ T97 _ X98 ⟨rfl, rfl⟩
  rw [ev94]
  refine g_istore C X98 at_211 (q := 213) rfl (L' := #[.val (.int p0), .val (.int p1), .val (.int p2), .val (.int p3), .val (.int p4), .val (.int v1), .val (.int v4), .val (.int v7), .val (.int v10), .val (.int v13), .val (.int v16), .val (.int v22), .val (.int v28), .val (.int v34), .val (.int v37), .val (.int v43), .val (.int v51), .val (.int v59), .val (.int v67), .val (.int v75), .val (.int v83), .val (.int v94), .unset, .unset, .unset, .unset, .unset]) rfl ?_
  refine g_iload C X98 at_213 (q := 215) rfl rfl ?_
  refine g_bipush C X98 at_215 (q := 217) rfl (z := (7 : Int32)) rfl ?_
  refine g_iload C X98 at_217 (q := 219) rfl rfl ?_
  refine g_iloadN C X98 at_219 (q := 220) rfl rfl ?_
  refine g_bipush C X98 at_220 (q := 222) rfl (z := (18 : Int32)) rfl ?_
  refine g_iushr C X98 at_222 (q := 223) rfl (z := ((p3.toUInt32 >>> ((18 : Int32) &&& 31).toUInt32).toInt32)) rfl ?_
  refine g_iconst C X98 at_223 (q := 224) rfl (z := (3 : Int32)) rfl ?_
  obtain ⟨v99, ev99⟩ : ∃ z, (((p3.toUInt32 >>> ((18 : Int32) &&& 31).toUInt32).toInt32) &&& (3 : Int32)) = z := ⟨_, rfl⟩
  have hl100 : 0 ≤ v99.toInt := by rw [← ev99]; exact (c_and ((p3.toUInt32 >>> ((18 : Int32) &&& 31).toUInt32).toInt32) (3 : Int32) (by decide)).1
  have hh101 : v99.toInt ≤ 3 := by rw [← ev99]; exact (c_and ((p3.toUInt32 >>> ((18 : Int32) &&& 31).toUInt32).toInt32) (3 : Int32) (by decide)).2
  refine g_iand C X98 at_224 (q := 225) rfl (z := v99) ev99 ?_
  refine g_iconst C X98 at_225 (q := 226) rfl (z := (3 : Int32)) rfl ?_
  obtain ⟨v102, ev102⟩ : ∃ z, (v99 % (3 : Int32)) = z := ⟨_, rfl⟩
  have hl103 : 0 ≤ v102.toInt := by rw [← ev102]; exact (own_rem (y := (3 : Int32)) (d := 2) (by decide) (by decide) (Int.le_trans (by decide) hl100)).1
  have hh104 : v102.toInt ≤ 2 := by rw [← ev102]; exact (own_rem (y := (3 : Int32)) (d := 2) (by decide) (by decide) (Int.le_trans (by decide) hl100)).2
  refine g_irem C X98 at_226 (q := 227) rfl (by decide) (z := v102) ev102 ?_
  obtain ⟨v105, ev105⟩ : ∃ z, (own_pick p4 (7 : Int32) v28 v102) = z := ⟨_, rfl⟩
  have hl106 : 0 ≤ v105.toInt := by rw [← ev105]; exact (own_pickR hl29 hh30 hl103 hh104).1
  have hh107 : v105.toInt ≤ 2 := by rw [← ev105]; exact (own_pickR hl29 hh30 hl103 hh104).2
  refine g_callS1 C X98 (y := (⟨"com/example/isolate_to_replay/isolatetoreplay/envelope/OriginEqualsPinLaw", "pick", "(IIII)I"⟩ : MethodName)) (by decide) (w0 hw) (w1 hw) (w3 hw) (w2 hw) (rm_own_pick hw (p0 := p4) (p1 := (7 : Int32)) (p2 := v28) (p3 := v102) O) (W := 0) (by decide) (by decide) (k' := 0) rfl (n' := 0) rfl (by decide) (by decide) rfl pd_96 (argsL := [(.int p4), (.int (7 : Int32)), (.int v28), (.int v102)]) rfl (rest := []) rfl rfl rfl at_227 (q := 230) rfl ?_
  rintro _ T108 _ X109 ⟨rfl, rfl⟩
  rw [ev105]
  refine g_istore C X109 at_230 (q := 232) rfl (L' := #[.val (.int p0), .val (.int p1), .val (.int p2), .val (.int p3), .val (.int p4), .val (.int v1), .val (.int v4), .val (.int v7), .val (.int v10), .val (.int v13), .val (.int v16), .val (.int v22), .val (.int v28), .val (.int v34), .val (.int v37), .val (.int v43), .val (.int v51), .val (.int v59), .val (.int v67), .val (.int v75), .val (.int v83), .val (.int v94), .val (.int v105), .unset, .unset, .unset, .unset]) rfl ?_
  refine g_iload C X109 at_232 (q := 234) rfl rfl ?_
  refine g_bipush C X109 at_234 (q := 236) rfl (z := (8 : Int32)) rfl ?_
  refine g_iload C X109 at_236 (q := 238) rfl rfl ?_
  refine g_iloadN C X109 at_238 (q := 239) rfl rfl ?_
  refine g_bipush C X109 at_239 (q := 241) rfl (z := (20 : Int32)) rfl ?_
  refine g_iushr C X109 at_241 (q := 242) rfl (z := ((p3.toUInt32 >>> ((20 : Int32) &&& 31).toUInt32).toInt32)) rfl ?_
  refine g_iconst C X109 at_242 (q := 243) rfl (z := (3 : Int32)) rfl ?_
  obtain ⟨v110, ev110⟩ : ∃ z, (((p3.toUInt32 >>> ((20 : Int32) &&& 31).toUInt32).toInt32) &&& (3 : Int32)) = z := ⟨_, rfl⟩
  have hl111 : 0 ≤ v110.toInt := by rw [← ev110]; exact (c_and ((p3.toUInt32 >>> ((20 : Int32) &&& 31).toUInt32).toInt32) (3 : Int32) (by decide)).1
  have hh112 : v110.toInt ≤ 3 := by rw [← ev110]; exact (c_and ((p3.toUInt32 >>> ((20 : Int32) &&& 31).toUInt32).toInt32) (3 : Int32) (by decide)).2
  refine g_iand C X109 at_243 (q := 244) rfl (z := v110) ev110 ?_
  refine g_iconst C X109 at_244 (q := 245) rfl (z := (3 : Int32)) rfl ?_
  obtain ⟨v113, ev113⟩ : ∃ z, (v110 % (3 : Int32)) = z := ⟨_, rfl⟩
  have hl114 : 0 ≤ v113.toInt := by rw [← ev113]; exact (own_rem (y := (3 : Int32)) (d := 2) (by decide) (by decide) (Int.le_trans (by decide) hl111)).1
  have hh115 : v113.toInt ≤ 2 := by rw [← ev113]; exact (own_rem (y := (3 : Int32)) (d := 2) (by decide) (by decide) (Int.le_trans (by decide) hl111)).2
  refine g_irem C X109 at_245 (q := 246) rfl (by decide) (z := v113) ev113 ?_
  obtain ⟨v116, ev116⟩ : ∃ z, (own_pick p4 (8 : Int32) v34 v113) = z := ⟨_, rfl⟩
  have hl117 : 0 ≤ v116.toInt := by rw [← ev116]; exact (own_pickR hl35 hh36 hl114 hh115).1
  have hh118 : v116.toInt ≤ 2 := by rw [← ev116]; exact (own_pickR hl35 hh36 hl114 hh115).2
  refine g_callS1 C X109 (y := (⟨"com/example/isolate_to_replay/isolatetoreplay/envelope/OriginEqualsPinLaw", "pick", "(IIII)I"⟩ : MethodName)) (by decide) (w0 hw) (w1 hw) (w3 hw) (w2 hw) (rm_own_pick hw (p0 := p4) (p1 := (8 : Int32)) (p2 := v34) (p3 := v113) O) (W := 0) (by decide) (by decide) (k' := 0) rfl (n' := 0) rfl (by decide) (by decide) rfl pd_96 (argsL := [(.int p4), (.int (8 : Int32)), (.int v34), (.int v113)]) rfl (rest := []) rfl rfl rfl at_246 (q := 249) rfl ?_
  rintro _ T119 _ X120 ⟨rfl, rfl⟩
  rw [ev116]
  refine g_istore C X120 at_249 (q := 251) rfl (L' := #[.val (.int p0), .val (.int p1), .val (.int p2), .val (.int p3), .val (.int p4), .val (.int v1), .val (.int v4), .val (.int v7), .val (.int v10), .val (.int v13), .val (.int v16), .val (.int v22), .val (.int v28), .val (.int v34), .val (.int v37), .val (.int v43), .val (.int v51), .val (.int v59), .val (.int v67), .val (.int v75), .val (.int v83), .val (.int v94), .val (.int v105), .val (.int v116), .unset, .unset, .unset]) rfl ?_
  refine g_new C X120 (w4 hw) (w5 hw) (w6 hw) at_251 (q := 254) rfl (k' := 1) rfl (n' := 3) rfl (by decide) (by decide) ?_
  intro T122 h123 b121 g125 X124 E126 A127 D128
  have ge129 : n0 ≤ b121 := own_ge O g125
  have Y130 := Wx.ext Y E126
  have O131 := O.ext E126
  have f132 : Fld Z h123 b121 "com/example/isolate_to_replay/isolatetoreplay/envelope/Origin" "queue" "Ljava/lang/String;" .null := D128 (Or.inr (w43 hw)) (ty := (.object "java/lang/String")) (by decide)
  have f133 : Fld Z h123 b121 "com/example/isolate_to_replay/isolatetoreplay/envelope/Origin" "exchange" "Ljava/lang/String;" .null := D128 (Or.inr (w46 hw)) (ty := (.object "java/lang/String")) (by decide)
  have f134 : Fld Z h123 b121 "com/example/isolate_to_replay/isolatetoreplay/envelope/Origin" "routingKey" "Ljava/lang/String;" .null := D128 (Or.inr (w49 hw)) (ty := (.object "java/lang/String")) (by decide)
  refine g_dup C X124 at_254 (q := 255) rfl rfl ?_
  refine g_iload C X124 at_255 (q := 257) rfl rfl ?_
  refine g_iload C X124 at_257 (q := 259) rfl rfl ?_
  refine g_iload C X124 at_259 (q := 261) rfl rfl ?_
  refine gW_callS1 C X124 Y130 (own_EL hw) (y := (⟨"com/example/isolate_to_replay/isolatetoreplay/envelope/OriginEqualsPinLaw", "mk", "(III)Ljava/lang/String;"⟩ : MethodName)) (by decide) (w7 hw) (w8 hw) (w9 hw) (w2 hw) (rm_mk hw (p0 := v22) (p1 := v1) (p2 := v4) O131 W hl2 hh3 hl5 hh6) (W := 2) (by decide) (by decide) (k' := 7) rfl (n' := 15) rfl (by decide) (by decide) rfl pd_97 (argsL := [(.int v22), (.int v1), (.int v4)]) rfl (rest := [(.ref b121), (.ref b121)]) rfl rfl rfl at_261 (q := 264) rfl ?_
  rintro _ T135 h136 vm137 C X138 Y139 R140 ⟨b141, rfl, K142, ge143, sz144, E145, F146⟩
  have O147 := O131.keep K142 all0
  refine g_iload C X138 at_264 (q := 266) rfl rfl ?_
  refine g_iload C X138 at_266 (q := 268) rfl rfl ?_
  refine g_iload C X138 at_268 (q := 270) rfl rfl ?_
  refine gW_callS1 C X138 Y139 (own_EL hw) (y := (⟨"com/example/isolate_to_replay/isolatetoreplay/envelope/OriginEqualsPinLaw", "mk", "(III)Ljava/lang/String;"⟩ : MethodName)) (by decide) (w7 hw) (w8 hw) (w9 hw) (w2 hw) (rm_mk hw (p0 := v28) (p1 := v7) (p2 := v10) O147 W hl8 hh9 hl11 hh12) (W := 3) (by decide) (by decide) (k' := 13) rfl (n' := 27) rfl (by decide) (by decide) rfl pd_97 (argsL := [(.int v28), (.int v7), (.int v10)]) rfl (rest := [(.ref b141), (.ref b121), (.ref b121)]) rfl rfl rfl at_270 (q := 273) rfl ?_
  rintro _ T148 h149 vm150 C X151 Y152 R153 ⟨b154, rfl, K155, ge156, sz157, E158, F159⟩
  have O160 := O147.keep K155 all0
  refine g_iload C X151 at_273 (q := 275) rfl rfl ?_
  refine g_iload C X151 at_275 (q := 277) rfl rfl ?_
  refine g_iload C X151 at_277 (q := 279) rfl rfl ?_
  refine gW_callS1 C X151 Y152 (own_EL hw) (y := (⟨"com/example/isolate_to_replay/isolatetoreplay/envelope/OriginEqualsPinLaw", "mk", "(III)Ljava/lang/String;"⟩ : MethodName)) (by decide) (w7 hw) (w8 hw) (w9 hw) (w2 hw) (rm_mk hw (p0 := v34) (p1 := v13) (p2 := v16) O160 W hl14 hh15 hl17 hh18) (W := 4) (by decide) (by decide) (k' := 19) rfl (n' := 39) rfl (by decide) (by decide) rfl pd_97 (argsL := [(.int v34), (.int v13), (.int v16)]) rfl (rest := [(.ref b154), (.ref b141), (.ref b121), (.ref b121)]) rfl rfl rfl at_279 (q := 282) rfl ?_
  rintro _ T161 h162 vm163 C X164 Y165 R166 ⟨b167, rfl, K168, ge169, sz170, E171, F172⟩
  have O173 := O160.keep K168 all0
  have f174 := (((A127.keep K142).keep K155).keep K168)
  have f175 := (((f132.keep K142 nin0).keep K155 nin0).keep K168 nin0)
  have f176 := (((f133.keep K142 nin0).keep K155 nin0).keep K168 nin0)
  have f177 := (((f134.keep K142 nin0).keep K155 nin0).keep K168 nin0)
  have f178 := ((E145.keep K155).keep K168)
  have f179 := ((F146.keep K155 all0).keep K168 all0)
  have f180 := (E158.keep K168)
  have f181 := (F159.keep K168 all0)
  refine gW_callI0 C X164 Y165 (own_EL hw) (y := (⟨"com/example/isolate_to_replay/isolatetoreplay/envelope/Origin", "<init>", "(Ljava/lang/String;Ljava/lang/String;Ljava/lang/String;)V"⟩ : MethodName)) (a := b121) (by decide) rfl rfl (w32 hw) (w33 hw) (w34 hw) (w6 hw) (rm_init_0 hw (o0 := b121) (o1 := b141) (o2 := b154) (o3 := b167) (cs4 := (own_mk v22 v1 v4)) (cs5 := (own_mk v28 v7 v10)) (cs6 := (own_mk v34 v13 v16)) O173 W f174 f175 f176 f177 f178 f179 f180 f181 E171 F172 ge129 ge143 ge156 ge169 (Nat.ne_of_lt (Nat.lt_of_lt_of_le A127.lt sz144)) (Nat.ne_of_lt (Nat.lt_of_lt_of_le (Nat.lt_of_lt_of_le A127.lt K142.1) sz157)) (Nat.ne_of_lt (Nat.lt_of_lt_of_le (Nat.lt_of_lt_of_le A127.lt (Nat.le_trans K142.1 K155.1)) sz170)) (Nat.ne_of_lt (Nat.lt_of_lt_of_le E145.lt sz157)) (Nat.ne_of_lt (Nat.lt_of_lt_of_le (Nat.lt_of_lt_of_le E145.lt K155.1) sz170)) (Nat.ne_of_lt (Nat.lt_of_lt_of_le E158.lt sz170))) (W := 1) (by decide) (by decide) (k' := 25) rfl (n' := 143) rfl (by decide) (by decide) rfl pd_126 (argsL := [(.ref b141), (.ref b154), (.ref b167)]) rfl (rest := [(.ref b121)]) rfl rfl rfl at_282 (q := 285) rfl ?_
  rintro T182 h184 vm190 C X183 Y191 R192 ⟨K185, f186, f187, f188, f189⟩
  have O193 := O173.keep K185 (allS ge129 all0)
  refine g_astore C X183 at_285 (q := 287) rfl rfl (L' := #[.val (.int p0), .val (.int p1), .val (.int p2), .val (.int p3), .val (.int p4), .val (.int v1), .val (.int v4), .val (.int v7), .val (.int v10), .val (.int v13), .val (.int v16), .val (.int v22), .val (.int v28), .val (.int v34), .val (.int v37), .val (.int v43), .val (.int v51), .val (.int v59), .val (.int v67), .val (.int v75), .val (.int v83), .val (.int v94), .val (.int v105), .val (.int v116), .val (.ref b121), .unset, .unset]) rfl ?_
  refine g_iload C X183 at_287 (q := 289) rfl rfl ?_
  by_cases hc194 : v37 = (0 : Int32)
  · refine g_ifN C X183 at_289 (q := 292) rfl (teq hc194).2 ?_
    obtain rfl : v37 = (0 : Int32) := hc194
    refine g_aconstNull C X183 at_292 (q := 293) rfl ?_
    refine g_astore C X183 at_293 (q := 295) rfl rfl (L' := #[.val (.int p0), .val (.int p1), .val (.int p2), .val (.int p3), .val (.int p4), .val (.int v1), .val (.int v4), .val (.int v7), .val (.int v10), .val (.int v13), .val (.int v16), .val (.int v22), .val (.int v28), .val (.int v34), .val (.int (0 : Int32)), .val (.int v43), .val (.int v51), .val (.int v59), .val (.int v67), .val (.int v75), .val (.int v83), .val (.int v94), .val (.int v105), .val (.int v116), .val (.ref b121), .val .null, .unset]) rfl ?_
    refine g_goto C X183 at_295 (by decide) (q := 354) (by decide) ?_
    refine g_iload C X183 at_354 (q := 356) rfl rfl ?_
    refine g_iconst C X183 at_356 (q := 357) rfl (z := (2 : Int32)) rfl ?_
    refine g_icY C X183 at_357 (by decide) (q := 418) (by decide) (by decide) ?_
    refine g_iconst C X183 at_418 (q := 419) rfl (z := (0 : Int32)) rfl ?_
    refine g_istore C X183 at_419 (q := 421) rfl (L' := #[.val (.int p0), .val (.int p1), .val (.int p2), .val (.int p3), .val (.int p4), .val (.int v1), .val (.int v4), .val (.int v7), .val (.int v10), .val (.int v13), .val (.int v16), .val (.int v22), .val (.int v28), .val (.int v34), .val (.int (0 : Int32)), .val (.int v43), .val (.int v51), .val (.int v59), .val (.int v67), .val (.int v75), .val (.int v83), .val (.int v94), .val (.int v105), .val (.int v116), .val (.ref b121), .val .null, .val (.int (0 : Int32))]) rfl ?_
    refine g_aload C X183 at_421 (q := 423) rfl rfl rfl ?_
    refine g_aload C X183 at_423 (q := 425) rfl rfl rfl ?_
    refine g_callV1 C X183 (y := (⟨"com/example/isolate_to_replay/isolatetoreplay/envelope/Origin", "equals", "(Ljava/lang/Object;)Z"⟩ : MethodName)) (z := (⟨"com/example/isolate_to_replay/isolatetoreplay/envelope/Origin", "equals", "(Ljava/lang/Object;)Z"⟩ : MethodName)) (a := b121) (by decide) (w50 hw) (w51 hw) (w53 hw) (w52 hw) (nf_sel (w53 hw)) f186 (w54 hw) (w6 hw) (rm_eq0_0 hw (o0 := b121) (o1 := b141) (o2 := b154) (o3 := b167) O193 W f186 f187 f188 f189 ge129) (W := 0) (by decide) (by decide) (k' := 25) rfl (n' := 143) rfl (by decide) (by decide) rfl pd_132 (argsL := [.null]) rfl (rest := []) rfl rfl rfl at_425 (q := 428) rfl ?_
    rintro _ T196 _ X197 ⟨rfl, rfl⟩
    refine g_iload C X197 at_428 (q := 430) rfl rfl ?_
    refine g_icN C X197 at_430 (q := 433) rfl (by decide) ?_
    refine g_iconst C X197 at_433 (q := 434) rfl (z := (1 : Int32)) rfl ?_
    refine g_goto C X197 at_434 (by decide) (q := 438) (by decide) ?_
    exact gW_retN C X197 Y191 (own_EL hw) (Or.inl rfl) (z' := 1) (by decide) at_438 (by decide) (by decide) ⟨_, rfl, rfl, trivial⟩
  · refine g_ifY C X183 at_289 (by decide) (q := 298) (by decide) (feq hc194).2 ?_
    have hr198 : 1 ≤ v37.toInt := own_f5 hc194 hl38 (by decide)
    refine g_iload C X183 at_298 (q := 300) rfl rfl ?_
    refine g_iconst C X183 at_300 (q := 301) rfl (z := (1 : Int32)) rfl ?_
    by_cases hc199 : v37 = (1 : Int32)
    · refine g_icN C X183 at_301 (q := 304) rfl (teq hc199).2 ?_
      obtain rfl : v37 = (1 : Int32) := hc199
      refine g_iload C X183 at_304 (q := 306) rfl rfl ?_
      refine g_iload C X183 at_306 (q := 308) rfl rfl ?_
      refine g_iload C X183 at_308 (q := 310) rfl rfl ?_
      refine gW_callS1 C X183 Y191 (own_EL hw) (y := (⟨"com/example/isolate_to_replay/isolatetoreplay/envelope/OriginEqualsPinLaw", "mk", "(III)Ljava/lang/String;"⟩ : MethodName)) (by decide) (w7 hw) (w8 hw) (w9 hw) (w2 hw) (rm_mk hw (p0 := v22) (p1 := v1) (p2 := v4) O193 W hl2 hh3 hl5 hh6) (W := 0) (by decide) (by decide) (k' := 31) rfl (n' := 155) rfl (by decide) (by decide) rfl pd_97 (argsL := [(.int v22), (.int v1), (.int v4)]) rfl (rest := []) rfl rfl rfl at_310 (q := 313) rfl ?_
      rintro _ T201 h202 vm203 C X204 Y205 R206 ⟨b207, rfl, K208, ge209, sz210, E211, F212⟩
      have O213 := O193.keep K208 all0
      refine g_astore C X204 at_313 (q := 315) rfl rfl (L' := #[.val (.int p0), .val (.int p1), .val (.int p2), .val (.int p3), .val (.int p4), .val (.int v1), .val (.int v4), .val (.int v7), .val (.int v10), .val (.int v13), .val (.int v16), .val (.int v22), .val (.int v28), .val (.int v34), .val (.int (1 : Int32)), .val (.int v43), .val (.int v51), .val (.int v59), .val (.int v67), .val (.int v75), .val (.int v83), .val (.int v94), .val (.int v105), .val (.int v116), .val (.ref b121), .val (.ref b207), .unset]) rfl ?_
      refine g_goto C X204 at_315 (by decide) (q := 354) (by decide) ?_
      refine g_iload C X204 at_354 (q := 356) rfl rfl ?_
      refine g_iconst C X204 at_356 (q := 357) rfl (z := (2 : Int32)) rfl ?_
      refine g_icY C X204 at_357 (by decide) (q := 418) (by decide) (by decide) ?_
      refine g_iconst C X204 at_418 (q := 419) rfl (z := (0 : Int32)) rfl ?_
      refine g_istore C X204 at_419 (q := 421) rfl (L' := #[.val (.int p0), .val (.int p1), .val (.int p2), .val (.int p3), .val (.int p4), .val (.int v1), .val (.int v4), .val (.int v7), .val (.int v10), .val (.int v13), .val (.int v16), .val (.int v22), .val (.int v28), .val (.int v34), .val (.int (1 : Int32)), .val (.int v43), .val (.int v51), .val (.int v59), .val (.int v67), .val (.int v75), .val (.int v83), .val (.int v94), .val (.int v105), .val (.int v116), .val (.ref b121), .val (.ref b207), .val (.int (0 : Int32))]) rfl ?_
      refine g_aload C X204 at_421 (q := 423) rfl rfl rfl ?_
      refine g_aload C X204 at_423 (q := 425) rfl rfl rfl ?_
      have f214 := (f186.keep K208)
      have f215 := (f187.keep K208 nin0)
      have f216 := (f188.keep K208 nin0)
      have f217 := (f189.keep K208 nin0)
      refine g_callV1 C X204 (y := (⟨"com/example/isolate_to_replay/isolatetoreplay/envelope/Origin", "equals", "(Ljava/lang/Object;)Z"⟩ : MethodName)) (z := (⟨"com/example/isolate_to_replay/isolatetoreplay/envelope/Origin", "equals", "(Ljava/lang/Object;)Z"⟩ : MethodName)) (a := b121) (by decide) (w50 hw) (w51 hw) (w53 hw) (w52 hw) (nf_sel (w53 hw)) f214 (w54 hw) (w6 hw) (rm_eq0_1 hw (o0 := b121) (o1 := b207) (o2 := b141) (o3 := b154) (o4 := b167) (cs5 := (own_mk v22 v1 v4)) O213 W f214 f215 f216 f217 E211 F212 ge129 ge209 (Nat.ne_of_lt (Nat.lt_of_lt_of_le (Nat.lt_of_lt_of_le A127.lt (Nat.le_trans (Nat.le_trans (Nat.le_trans K142.1 K155.1) K168.1) K185.1)) sz210))) (W := 0) (by decide) (by decide) (k' := 31) rfl (n' := 155) rfl (by decide) (by decide) rfl pd_132 (argsL := [(.ref b207)]) rfl (rest := []) rfl rfl rfl at_425 (q := 428) rfl ?_
      rintro _ T218 _ X219 ⟨rfl, rfl⟩
      refine g_iload C X219 at_428 (q := 430) rfl rfl ?_
      refine g_icN C X219 at_430 (q := 433) rfl (by decide) ?_
      refine g_iconst C X219 at_433 (q := 434) rfl (z := (1 : Int32)) rfl ?_
      refine g_goto C X219 at_434 (by decide) (q := 438) (by decide) ?_
      exact gW_retN C X219 Y205 (own_EL hw) (Or.inl rfl) (z' := 1) (by decide) at_438 (by decide) (by decide) ⟨_, rfl, rfl, trivial⟩
    · refine g_icY C X183 at_301 (by decide) (q := 318) (by decide) (feq hc199).2 ?_
      have hr220 : 2 ≤ v37.toInt := own_f5 hc199 hr198 (by decide)
      refine g_new C X183 (w4 hw) (w5 hw) (w6 hw) at_318 (q := 321) rfl (k' := 26) rfl (n' := 146) rfl (by decide) (by decide) ?_
      intro T222 h223 b221 g225 X224 E226 A227 D228
      have ge229 : n0 ≤ b221 := own_ge O193 g225
      have Y230 := Wx.ext Y191 E226
      have O231 := O193.ext E226
      have f232 : Fld Z h223 b221 "com/example/isolate_to_replay/isolatetoreplay/envelope/Origin" "queue" "Ljava/lang/String;" .null := D228 (Or.inr (w43 hw)) (ty := (.object "java/lang/String")) (by decide)
      have f233 : Fld Z h223 b221 "com/example/isolate_to_replay/isolatetoreplay/envelope/Origin" "exchange" "Ljava/lang/String;" .null := D228 (Or.inr (w46 hw)) (ty := (.object "java/lang/String")) (by decide)
      have f234 : Fld Z h223 b221 "com/example/isolate_to_replay/isolatetoreplay/envelope/Origin" "routingKey" "Ljava/lang/String;" .null := D228 (Or.inr (w49 hw)) (ty := (.object "java/lang/String")) (by decide)
      refine g_dup C X224 at_321 (q := 322) rfl rfl ?_
      refine g_iload C X224 at_322 (q := 324) rfl rfl ?_
      refine g_iload C X224 at_324 (q := 326) rfl rfl ?_
      refine g_iload C X224 at_326 (q := 328) rfl rfl ?_
      refine gW_callS1 C X224 Y230 (own_EL hw) (y := (⟨"com/example/isolate_to_replay/isolatetoreplay/envelope/OriginEqualsPinLaw", "mk", "(III)Ljava/lang/String;"⟩ : MethodName)) (by decide) (w7 hw) (w8 hw) (w9 hw) (w2 hw) (rm_mk hw (p0 := v94) (p1 := v43) (p2 := v51) O231 W hl44 hh45 hl52 hh53) (W := 2) (by decide) (by decide) (k' := 32) rfl (n' := 158) rfl (by decide) (by decide) rfl pd_97 (argsL := [(.int v94), (.int v43), (.int v51)]) rfl (rest := [(.ref b221), (.ref b221)]) rfl rfl rfl at_328 (q := 331) rfl ?_
      rintro _ T235 h236 vm237 C X238 Y239 R240 ⟨b241, rfl, K242, ge243, sz244, E245, F246⟩
      have O247 := O231.keep K242 all0
      refine g_iload C X238 at_331 (q := 333) rfl rfl ?_
      refine g_iload C X238 at_333 (q := 335) rfl rfl ?_
      refine g_iload C X238 at_335 (q := 337) rfl rfl ?_
      refine gW_callS1 C X238 Y239 (own_EL hw) (y := (⟨"com/example/isolate_to_replay/isolatetoreplay/envelope/OriginEqualsPinLaw", "mk", "(III)Ljava/lang/String;"⟩ : MethodName)) (by decide) (w7 hw) (w8 hw) (w9 hw) (w2 hw) (rm_mk hw (p0 := v105) (p1 := v59) (p2 := v67) O247 W hl60 hh61 hl68 hh69) (W := 3) (by decide) (by decide) (k' := 38) rfl (n' := 170) rfl (by decide) (by decide) rfl pd_97 (argsL := [(.int v105), (.int v59), (.int v67)]) rfl (rest := [(.ref b241), (.ref b221), (.ref b221)]) rfl rfl rfl at_337 (q := 340) rfl ?_
      rintro _ T248 h249 vm250 C X251 Y252 R253 ⟨b254, rfl, K255, ge256, sz257, E258, F259⟩
      have O260 := O247.keep K255 all0
      refine g_iload C X251 at_340 (q := 342) rfl rfl ?_
      refine g_iload C X251 at_342 (q := 344) rfl rfl ?_
      refine g_iload C X251 at_344 (q := 346) rfl rfl ?_
      refine gW_callS1 C X251 Y252 (own_EL hw) (y := (⟨"com/example/isolate_to_replay/isolatetoreplay/envelope/OriginEqualsPinLaw", "mk", "(III)Ljava/lang/String;"⟩ : MethodName)) (by decide) (w7 hw) (w8 hw) (w9 hw) (w2 hw) (rm_mk hw (p0 := v116) (p1 := v75) (p2 := v83) O260 W hl76 hh77 hl84 hh85) (W := 4) (by decide) (by decide) (k' := 44) rfl (n' := 182) rfl (by decide) (by decide) rfl pd_97 (argsL := [(.int v116), (.int v75), (.int v83)]) rfl (rest := [(.ref b254), (.ref b241), (.ref b221), (.ref b221)]) rfl rfl rfl at_346 (q := 349) rfl ?_
      rintro _ T261 h262 vm263 C X264 Y265 R266 ⟨b267, rfl, K268, ge269, sz270, E271, F272⟩
      have O273 := O260.keep K268 all0
      have f274 := (((A227.keep K242).keep K255).keep K268)
      have f275 := (((f232.keep K242 nin0).keep K255 nin0).keep K268 nin0)
      have f276 := (((f233.keep K242 nin0).keep K255 nin0).keep K268 nin0)
      have f277 := (((f234.keep K242 nin0).keep K255 nin0).keep K268 nin0)
      have f278 := ((E245.keep K255).keep K268)
      have f279 := ((F246.keep K255 all0).keep K268 all0)
      have f280 := (E258.keep K268)
      have f281 := (F259.keep K268 all0)
      refine gW_callI0 C X264 Y265 (own_EL hw) (y := (⟨"com/example/isolate_to_replay/isolatetoreplay/envelope/Origin", "<init>", "(Ljava/lang/String;Ljava/lang/String;Ljava/lang/String;)V"⟩ : MethodName)) (a := b221) (by decide) rfl rfl (w32 hw) (w33 hw) (w34 hw) (w6 hw) (rm_init_0 hw (o0 := b221) (o1 := b241) (o2 := b254) (o3 := b267) (cs4 := (own_mk v94 v43 v51)) (cs5 := (own_mk v105 v59 v67)) (cs6 := (own_mk v116 v75 v83)) O273 W f274 f275 f276 f277 f278 f279 f280 f281 E271 F272 ge229 ge243 ge256 ge269 (Nat.ne_of_lt (Nat.lt_of_lt_of_le A227.lt sz244)) (Nat.ne_of_lt (Nat.lt_of_lt_of_le (Nat.lt_of_lt_of_le A227.lt K242.1) sz257)) (Nat.ne_of_lt (Nat.lt_of_lt_of_le (Nat.lt_of_lt_of_le A227.lt (Nat.le_trans K242.1 K255.1)) sz270)) (Nat.ne_of_lt (Nat.lt_of_lt_of_le E245.lt sz257)) (Nat.ne_of_lt (Nat.lt_of_lt_of_le (Nat.lt_of_lt_of_le E245.lt K255.1) sz270)) (Nat.ne_of_lt (Nat.lt_of_lt_of_le E258.lt sz270))) (W := 1) (by decide) (by decide) (k' := 50) rfl (n' := 286) rfl (by decide) (by decide) rfl pd_126 (argsL := [(.ref b241), (.ref b254), (.ref b267)]) rfl (rest := [(.ref b221)]) rfl rfl rfl at_349 (q := 352) rfl ?_
      rintro T282 h284 vm290 C X283 Y291 R292 ⟨K285, f286, f287, f288, f289⟩
      have O293 := O273.keep K285 (allS ge229 all0)
      refine g_astore C X283 at_352 (q := 354) rfl rfl (L' := #[.val (.int p0), .val (.int p1), .val (.int p2), .val (.int p3), .val (.int p4), .val (.int v1), .val (.int v4), .val (.int v7), .val (.int v10), .val (.int v13), .val (.int v16), .val (.int v22), .val (.int v28), .val (.int v34), .val (.int v37), .val (.int v43), .val (.int v51), .val (.int v59), .val (.int v67), .val (.int v75), .val (.int v83), .val (.int v94), .val (.int v105), .val (.int v116), .val (.ref b121), .val (.ref b221), .unset]) rfl ?_
      refine g_iload C X283 at_354 (q := 356) rfl rfl ?_
      refine g_iconst C X283 at_356 (q := 357) rfl (z := (2 : Int32)) rfl ?_
      refine g_icN C X283 at_357 (q := 360) rfl (flt (own_r2 hr220 (by decide) : ¬ v37 < (2 : Int32))).1 ?_
      refine g_iload C X283 at_360 (q := 362) rfl rfl ?_
      refine g_iload C X283 at_362 (q := 364) rfl rfl ?_
      refine g_iload C X283 at_364 (q := 366) rfl rfl ?_
      refine g_iload C X283 at_366 (q := 368) rfl rfl ?_
      refine g_iload C X283 at_368 (q := 370) rfl rfl ?_
      refine g_iload C X283 at_370 (q := 372) rfl rfl ?_
      refine g_callS1 C X283 (y := (⟨"com/example/isolate_to_replay/isolatetoreplay/envelope/OriginEqualsPinLaw", "same", "(IIIIII)Z"⟩ : MethodName)) (by decide) (w66 hw) (w67 hw) (w68 hw) (w2 hw) (rm_own_same hw (p0 := v22) (p1 := v1) (p2 := v4) (p3 := v94) (p4 := v43) (p5 := v51) O293) (W := 0) (by decide) (by decide) (k' := 50) rfl (n' := 286) rfl (by decide) (by decide) rfl pd_133 (argsL := [(.int v22), (.int v1), (.int v4), (.int v94), (.int v43), (.int v51)]) rfl (rest := []) rfl rfl rfl at_372 (q := 375) rfl ?_
      rintro _ T294 _ X295 ⟨rfl, rfl⟩
      by_cases hc296 : (own_same v22 v1 v4 v94 v43 v51) = (0 : Int32)
      · refine g_ifY C X295 at_375 (by decide) (q := 418) (by decide) (teq hc296).1 ?_
        refine g_iconst C X295 at_418 (q := 419) rfl (z := (0 : Int32)) rfl ?_
        refine g_istore C X295 at_419 (q := 421) rfl (L' := #[.val (.int p0), .val (.int p1), .val (.int p2), .val (.int p3), .val (.int p4), .val (.int v1), .val (.int v4), .val (.int v7), .val (.int v10), .val (.int v13), .val (.int v16), .val (.int v22), .val (.int v28), .val (.int v34), .val (.int v37), .val (.int v43), .val (.int v51), .val (.int v59), .val (.int v67), .val (.int v75), .val (.int v83), .val (.int v94), .val (.int v105), .val (.int v116), .val (.ref b121), .val (.ref b221), .val (.int (0 : Int32))]) rfl ?_
        refine g_aload C X295 at_421 (q := 423) rfl rfl rfl ?_
        refine g_aload C X295 at_423 (q := 425) rfl rfl rfl ?_
        have f297 := (((((f186.ext E226).keep K242).keep K255).keep K268).keep K285)
        have f298 := (((((f187.ext E226).keep K242 nin0).keep K255 nin0).keep K268 nin0).keep K285 (ninS (own_ne (Nat.lt_of_lt_of_le A127.lt (Nat.le_trans (Nat.le_trans (Nat.le_trans K142.1 K155.1) K168.1) K185.1)) g225) nin0))
        have f299 := (((((f188.ext E226).keep K242 nin0).keep K255 nin0).keep K268 nin0).keep K285 (ninS (own_ne (Nat.lt_of_lt_of_le A127.lt (Nat.le_trans (Nat.le_trans (Nat.le_trans K142.1 K155.1) K168.1) K185.1)) g225) nin0))
        have f300 := (((((f189.ext E226).keep K242 nin0).keep K255 nin0).keep K268 nin0).keep K285 (ninS (own_ne (Nat.lt_of_lt_of_le A127.lt (Nat.le_trans (Nat.le_trans (Nat.le_trans K142.1 K155.1) K168.1) K185.1)) g225) nin0))
        have f301 := ((((((f179.keep K185 (allS (NoS.exa (((A127.keep K142).keep K155).keep K168) (by decide) (w5 hw)) all0)).ext E226).keep K242 all0).keep K255 all0).keep K268 all0).keep K285 (allS (NoS.exa (((A227.keep K242).keep K255).keep K268) (by decide) (w5 hw)) all0))
        have f302 := ((((((f181.keep K185 (allS (NoS.exa (((A127.keep K142).keep K155).keep K168) (by decide) (w5 hw)) all0)).ext E226).keep K242 all0).keep K255 all0).keep K268 all0).keep K285 (allS (NoS.exa (((A227.keep K242).keep K255).keep K268) (by decide) (w5 hw)) all0))
        have f303 := ((((((F172.keep K185 (allS (NoS.exa (((A127.keep K142).keep K155).keep K168) (by decide) (w5 hw)) all0)).ext E226).keep K242 all0).keep K255 all0).keep K268 all0).keep K285 (allS (NoS.exa (((A227.keep K242).keep K255).keep K268) (by decide) (w5 hw)) all0))
        have f304 := (f279.keep K285 (allS (NoS.exa (((A227.keep K242).keep K255).keep K268) (by decide) (w5 hw)) all0))
        have f305 := (f281.keep K285 (allS (NoS.exa (((A227.keep K242).keep K255).keep K268) (by decide) (w5 hw)) all0))
        have f306 := (F272.keep K285 (allS (NoS.exa (((A227.keep K242).keep K255).keep K268) (by decide) (w5 hw)) all0))
        refine g_callV1 C X295 (y := (⟨"com/example/isolate_to_replay/isolatetoreplay/envelope/Origin", "equals", "(Ljava/lang/Object;)Z"⟩ : MethodName)) (z := (⟨"com/example/isolate_to_replay/isolatetoreplay/envelope/Origin", "equals", "(Ljava/lang/Object;)Z"⟩ : MethodName)) (a := b121) (by decide) (w50 hw) (w51 hw) (w53 hw) (w52 hw) (nf_sel (w53 hw)) f297 (w54 hw) (w6 hw) (rm_eq hw O293 W f297 f298 f299 f300 f286 f287 f288 f289 f301 f302 f303 f304 f305 f306 (own_ne (Nat.lt_of_lt_of_le A127.lt (Nat.le_trans (Nat.le_trans (Nat.le_trans K142.1 K155.1) K168.1) K185.1)) g225)) (W := 0) (by decide) (by decide) (k' := 50) rfl (n' := 286) rfl (by decide) (by decide) rfl pd_132 (argsL := [(.ref b221)]) rfl (rest := []) rfl rfl rfl at_425 (q := 428) rfl ?_
        rintro _ T307 _ X308 ⟨rfl, rfl⟩
        refine g_iload C X308 at_428 (q := 430) rfl rfl ?_
        have hv309 : (if (own_mk v22 v1 v4) = (own_mk v94 v43 v51) ∧ (own_mk v28 v7 v10) = (own_mk v105 v59 v67) ∧ (own_mk v34 v13 v16) = (own_mk v116 v75 v83) then 1 else 0) = (0 : Int32) := if_neg (fun z => (own_sm hl23 hh24 hl95 hh96).mp hc296 z.1)
        refine g_icN C X308 at_430 (q := 433) rfl (teq hv309).2 ?_
        refine g_iconst C X308 at_433 (q := 434) rfl (z := (1 : Int32)) rfl ?_
        refine g_goto C X308 at_434 (by decide) (q := 438) (by decide) ?_
        exact gW_retN C X308 Y291 (own_EL hw) (Or.inl rfl) (z' := 1) (by decide) at_438 (by decide) (by decide) ⟨_, rfl, rfl, trivial⟩
      · refine g_ifN C X295 at_375 (q := 378) rfl (feq hc296).1 ?_
        refine g_iload C X295 at_378 (q := 380) rfl rfl ?_
        refine g_iload C X295 at_380 (q := 382) rfl rfl ?_
        refine g_iload C X295 at_382 (q := 384) rfl rfl ?_
        refine g_iload C X295 at_384 (q := 386) rfl rfl ?_
        refine g_iload C X295 at_386 (q := 388) rfl rfl ?_
        refine g_iload C X295 at_388 (q := 390) rfl rfl ?_
        refine g_callS1 C X295 (y := (⟨"com/example/isolate_to_replay/isolatetoreplay/envelope/OriginEqualsPinLaw", "same", "(IIIIII)Z"⟩ : MethodName)) (by decide) (w66 hw) (w67 hw) (w68 hw) (w2 hw) (rm_own_same hw (p0 := v28) (p1 := v7) (p2 := v10) (p3 := v105) (p4 := v59) (p5 := v67) O293) (W := 0) (by decide) (by decide) (k' := 50) rfl (n' := 286) rfl (by decide) (by decide) rfl pd_133 (argsL := [(.int v28), (.int v7), (.int v10), (.int v105), (.int v59), (.int v67)]) rfl (rest := []) rfl rfl rfl at_390 (q := 393) rfl ?_
        rintro _ T310 _ X311 ⟨rfl, rfl⟩
        by_cases hc312 : (own_same v28 v7 v10 v105 v59 v67) = (0 : Int32)
        · refine g_ifY C X311 at_393 (by decide) (q := 418) (by decide) (teq hc312).1 ?_
          refine g_iconst C X311 at_418 (q := 419) rfl (z := (0 : Int32)) rfl ?_
          refine g_istore C X311 at_419 (q := 421) rfl (L' := #[.val (.int p0), .val (.int p1), .val (.int p2), .val (.int p3), .val (.int p4), .val (.int v1), .val (.int v4), .val (.int v7), .val (.int v10), .val (.int v13), .val (.int v16), .val (.int v22), .val (.int v28), .val (.int v34), .val (.int v37), .val (.int v43), .val (.int v51), .val (.int v59), .val (.int v67), .val (.int v75), .val (.int v83), .val (.int v94), .val (.int v105), .val (.int v116), .val (.ref b121), .val (.ref b221), .val (.int (0 : Int32))]) rfl ?_
          refine g_aload C X311 at_421 (q := 423) rfl rfl rfl ?_
          refine g_aload C X311 at_423 (q := 425) rfl rfl rfl ?_
          have f313 := (((((f186.ext E226).keep K242).keep K255).keep K268).keep K285)
          have f314 := (((((f187.ext E226).keep K242 nin0).keep K255 nin0).keep K268 nin0).keep K285 (ninS (own_ne (Nat.lt_of_lt_of_le A127.lt (Nat.le_trans (Nat.le_trans (Nat.le_trans K142.1 K155.1) K168.1) K185.1)) g225) nin0))
          have f315 := (((((f188.ext E226).keep K242 nin0).keep K255 nin0).keep K268 nin0).keep K285 (ninS (own_ne (Nat.lt_of_lt_of_le A127.lt (Nat.le_trans (Nat.le_trans (Nat.le_trans K142.1 K155.1) K168.1) K185.1)) g225) nin0))
          have f316 := (((((f189.ext E226).keep K242 nin0).keep K255 nin0).keep K268 nin0).keep K285 (ninS (own_ne (Nat.lt_of_lt_of_le A127.lt (Nat.le_trans (Nat.le_trans (Nat.le_trans K142.1 K155.1) K168.1) K185.1)) g225) nin0))
          have f317 := ((((((f179.keep K185 (allS (NoS.exa (((A127.keep K142).keep K155).keep K168) (by decide) (w5 hw)) all0)).ext E226).keep K242 all0).keep K255 all0).keep K268 all0).keep K285 (allS (NoS.exa (((A227.keep K242).keep K255).keep K268) (by decide) (w5 hw)) all0))
          have f318 := ((((((f181.keep K185 (allS (NoS.exa (((A127.keep K142).keep K155).keep K168) (by decide) (w5 hw)) all0)).ext E226).keep K242 all0).keep K255 all0).keep K268 all0).keep K285 (allS (NoS.exa (((A227.keep K242).keep K255).keep K268) (by decide) (w5 hw)) all0))
          have f319 := ((((((F172.keep K185 (allS (NoS.exa (((A127.keep K142).keep K155).keep K168) (by decide) (w5 hw)) all0)).ext E226).keep K242 all0).keep K255 all0).keep K268 all0).keep K285 (allS (NoS.exa (((A227.keep K242).keep K255).keep K268) (by decide) (w5 hw)) all0))
          have f320 := (f279.keep K285 (allS (NoS.exa (((A227.keep K242).keep K255).keep K268) (by decide) (w5 hw)) all0))
          have f321 := (f281.keep K285 (allS (NoS.exa (((A227.keep K242).keep K255).keep K268) (by decide) (w5 hw)) all0))
          have f322 := (F272.keep K285 (allS (NoS.exa (((A227.keep K242).keep K255).keep K268) (by decide) (w5 hw)) all0))
          refine g_callV1 C X311 (y := (⟨"com/example/isolate_to_replay/isolatetoreplay/envelope/Origin", "equals", "(Ljava/lang/Object;)Z"⟩ : MethodName)) (z := (⟨"com/example/isolate_to_replay/isolatetoreplay/envelope/Origin", "equals", "(Ljava/lang/Object;)Z"⟩ : MethodName)) (a := b121) (by decide) (w50 hw) (w51 hw) (w53 hw) (w52 hw) (nf_sel (w53 hw)) f313 (w54 hw) (w6 hw) (rm_eq hw O293 W f313 f314 f315 f316 f286 f287 f288 f289 f317 f318 f319 f320 f321 f322 (own_ne (Nat.lt_of_lt_of_le A127.lt (Nat.le_trans (Nat.le_trans (Nat.le_trans K142.1 K155.1) K168.1) K185.1)) g225)) (W := 0) (by decide) (by decide) (k' := 50) rfl (n' := 286) rfl (by decide) (by decide) rfl pd_132 (argsL := [(.ref b221)]) rfl (rest := []) rfl rfl rfl at_425 (q := 428) rfl ?_
          rintro _ T323 _ X324 ⟨rfl, rfl⟩
          refine g_iload C X324 at_428 (q := 430) rfl rfl ?_
          have hv325 : (if (own_mk v22 v1 v4) = (own_mk v94 v43 v51) ∧ (own_mk v28 v7 v10) = (own_mk v105 v59 v67) ∧ (own_mk v34 v13 v16) = (own_mk v116 v75 v83) then 1 else 0) = (0 : Int32) := if_neg (fun z => (own_sm hl29 hh30 hl106 hh107).mp hc312 z.2.1)
          refine g_icN C X324 at_430 (q := 433) rfl (teq hv325).2 ?_
          refine g_iconst C X324 at_433 (q := 434) rfl (z := (1 : Int32)) rfl ?_
          refine g_goto C X324 at_434 (by decide) (q := 438) (by decide) ?_
          exact gW_retN C X324 Y291 (own_EL hw) (Or.inl rfl) (z' := 1) (by decide) at_438 (by decide) (by decide) ⟨_, rfl, rfl, trivial⟩
        · refine g_ifN C X311 at_393 (q := 396) rfl (feq hc312).1 ?_
          refine g_iload C X311 at_396 (q := 398) rfl rfl ?_
          refine g_iload C X311 at_398 (q := 400) rfl rfl ?_
          refine g_iload C X311 at_400 (q := 402) rfl rfl ?_
          refine g_iload C X311 at_402 (q := 404) rfl rfl ?_
          refine g_iload C X311 at_404 (q := 406) rfl rfl ?_
          refine g_iload C X311 at_406 (q := 408) rfl rfl ?_
          refine g_callS1 C X311 (y := (⟨"com/example/isolate_to_replay/isolatetoreplay/envelope/OriginEqualsPinLaw", "same", "(IIIIII)Z"⟩ : MethodName)) (by decide) (w66 hw) (w67 hw) (w68 hw) (w2 hw) (rm_own_same hw (p0 := v34) (p1 := v13) (p2 := v16) (p3 := v116) (p4 := v75) (p5 := v83) O293) (W := 0) (by decide) (by decide) (k' := 50) rfl (n' := 286) rfl (by decide) (by decide) rfl pd_133 (argsL := [(.int v34), (.int v13), (.int v16), (.int v116), (.int v75), (.int v83)]) rfl (rest := []) rfl rfl rfl at_408 (q := 411) rfl ?_
          rintro _ T326 _ X327 ⟨rfl, rfl⟩
          by_cases hc328 : (own_same v34 v13 v16 v116 v75 v83) = (0 : Int32)
          · refine g_ifY C X327 at_411 (by decide) (q := 418) (by decide) (teq hc328).1 ?_
            refine g_iconst C X327 at_418 (q := 419) rfl (z := (0 : Int32)) rfl ?_
            refine g_istore C X327 at_419 (q := 421) rfl (L' := #[.val (.int p0), .val (.int p1), .val (.int p2), .val (.int p3), .val (.int p4), .val (.int v1), .val (.int v4), .val (.int v7), .val (.int v10), .val (.int v13), .val (.int v16), .val (.int v22), .val (.int v28), .val (.int v34), .val (.int v37), .val (.int v43), .val (.int v51), .val (.int v59), .val (.int v67), .val (.int v75), .val (.int v83), .val (.int v94), .val (.int v105), .val (.int v116), .val (.ref b121), .val (.ref b221), .val (.int (0 : Int32))]) rfl ?_
            refine g_aload C X327 at_421 (q := 423) rfl rfl rfl ?_
            refine g_aload C X327 at_423 (q := 425) rfl rfl rfl ?_
            have f329 := (((((f186.ext E226).keep K242).keep K255).keep K268).keep K285)
            have f330 := (((((f187.ext E226).keep K242 nin0).keep K255 nin0).keep K268 nin0).keep K285 (ninS (own_ne (Nat.lt_of_lt_of_le A127.lt (Nat.le_trans (Nat.le_trans (Nat.le_trans K142.1 K155.1) K168.1) K185.1)) g225) nin0))
            have f331 := (((((f188.ext E226).keep K242 nin0).keep K255 nin0).keep K268 nin0).keep K285 (ninS (own_ne (Nat.lt_of_lt_of_le A127.lt (Nat.le_trans (Nat.le_trans (Nat.le_trans K142.1 K155.1) K168.1) K185.1)) g225) nin0))
            have f332 := (((((f189.ext E226).keep K242 nin0).keep K255 nin0).keep K268 nin0).keep K285 (ninS (own_ne (Nat.lt_of_lt_of_le A127.lt (Nat.le_trans (Nat.le_trans (Nat.le_trans K142.1 K155.1) K168.1) K185.1)) g225) nin0))
            have f333 := ((((((f179.keep K185 (allS (NoS.exa (((A127.keep K142).keep K155).keep K168) (by decide) (w5 hw)) all0)).ext E226).keep K242 all0).keep K255 all0).keep K268 all0).keep K285 (allS (NoS.exa (((A227.keep K242).keep K255).keep K268) (by decide) (w5 hw)) all0))
            have f334 := ((((((f181.keep K185 (allS (NoS.exa (((A127.keep K142).keep K155).keep K168) (by decide) (w5 hw)) all0)).ext E226).keep K242 all0).keep K255 all0).keep K268 all0).keep K285 (allS (NoS.exa (((A227.keep K242).keep K255).keep K268) (by decide) (w5 hw)) all0))
            have f335 := ((((((F172.keep K185 (allS (NoS.exa (((A127.keep K142).keep K155).keep K168) (by decide) (w5 hw)) all0)).ext E226).keep K242 all0).keep K255 all0).keep K268 all0).keep K285 (allS (NoS.exa (((A227.keep K242).keep K255).keep K268) (by decide) (w5 hw)) all0))
            have f336 := (f279.keep K285 (allS (NoS.exa (((A227.keep K242).keep K255).keep K268) (by decide) (w5 hw)) all0))
            have f337 := (f281.keep K285 (allS (NoS.exa (((A227.keep K242).keep K255).keep K268) (by decide) (w5 hw)) all0))
            have f338 := (F272.keep K285 (allS (NoS.exa (((A227.keep K242).keep K255).keep K268) (by decide) (w5 hw)) all0))
            refine g_callV1 C X327 (y := (⟨"com/example/isolate_to_replay/isolatetoreplay/envelope/Origin", "equals", "(Ljava/lang/Object;)Z"⟩ : MethodName)) (z := (⟨"com/example/isolate_to_replay/isolatetoreplay/envelope/Origin", "equals", "(Ljava/lang/Object;)Z"⟩ : MethodName)) (a := b121) (by decide) (w50 hw) (w51 hw) (w53 hw) (w52 hw) (nf_sel (w53 hw)) f329 (w54 hw) (w6 hw) (rm_eq hw O293 W f329 f330 f331 f332 f286 f287 f288 f289 f333 f334 f335 f336 f337 f338 (own_ne (Nat.lt_of_lt_of_le A127.lt (Nat.le_trans (Nat.le_trans (Nat.le_trans K142.1 K155.1) K168.1) K185.1)) g225)) (W := 0) (by decide) (by decide) (k' := 50) rfl (n' := 286) rfl (by decide) (by decide) rfl pd_132 (argsL := [(.ref b221)]) rfl (rest := []) rfl rfl rfl at_425 (q := 428) rfl ?_
            rintro _ T339 _ X340 ⟨rfl, rfl⟩
            refine g_iload C X340 at_428 (q := 430) rfl rfl ?_
            have hv341 : (if (own_mk v22 v1 v4) = (own_mk v94 v43 v51) ∧ (own_mk v28 v7 v10) = (own_mk v105 v59 v67) ∧ (own_mk v34 v13 v16) = (own_mk v116 v75 v83) then 1 else 0) = (0 : Int32) := if_neg (fun z => (own_sm hl35 hh36 hl117 hh118).mp hc328 z.2.2)
            refine g_icN C X340 at_430 (q := 433) rfl (teq hv341).2 ?_
            refine g_iconst C X340 at_433 (q := 434) rfl (z := (1 : Int32)) rfl ?_
            refine g_goto C X340 at_434 (by decide) (q := 438) (by decide) ?_
            exact gW_retN C X340 Y291 (own_EL hw) (Or.inl rfl) (z' := 1) (by decide) at_438 (by decide) (by decide) ⟨_, rfl, rfl, trivial⟩
          · refine g_ifN C X327 at_411 (q := 414) rfl (feq hc328).1 ?_
            refine g_iconst C X327 at_414 (q := 415) rfl (z := (1 : Int32)) rfl ?_
            refine g_goto C X327 at_415 (by decide) (q := 419) (by decide) ?_
            refine g_istore C X327 at_419 (q := 421) rfl (L' := #[.val (.int p0), .val (.int p1), .val (.int p2), .val (.int p3), .val (.int p4), .val (.int v1), .val (.int v4), .val (.int v7), .val (.int v10), .val (.int v13), .val (.int v16), .val (.int v22), .val (.int v28), .val (.int v34), .val (.int v37), .val (.int v43), .val (.int v51), .val (.int v59), .val (.int v67), .val (.int v75), .val (.int v83), .val (.int v94), .val (.int v105), .val (.int v116), .val (.ref b121), .val (.ref b221), .val (.int (1 : Int32))]) rfl ?_
            refine g_aload C X327 at_421 (q := 423) rfl rfl rfl ?_
            refine g_aload C X327 at_423 (q := 425) rfl rfl rfl ?_
            have f342 := (((((f186.ext E226).keep K242).keep K255).keep K268).keep K285)
            have f343 := (((((f187.ext E226).keep K242 nin0).keep K255 nin0).keep K268 nin0).keep K285 (ninS (own_ne (Nat.lt_of_lt_of_le A127.lt (Nat.le_trans (Nat.le_trans (Nat.le_trans K142.1 K155.1) K168.1) K185.1)) g225) nin0))
            have f344 := (((((f188.ext E226).keep K242 nin0).keep K255 nin0).keep K268 nin0).keep K285 (ninS (own_ne (Nat.lt_of_lt_of_le A127.lt (Nat.le_trans (Nat.le_trans (Nat.le_trans K142.1 K155.1) K168.1) K185.1)) g225) nin0))
            have f345 := (((((f189.ext E226).keep K242 nin0).keep K255 nin0).keep K268 nin0).keep K285 (ninS (own_ne (Nat.lt_of_lt_of_le A127.lt (Nat.le_trans (Nat.le_trans (Nat.le_trans K142.1 K155.1) K168.1) K185.1)) g225) nin0))
            have f346 := ((((((f179.keep K185 (allS (NoS.exa (((A127.keep K142).keep K155).keep K168) (by decide) (w5 hw)) all0)).ext E226).keep K242 all0).keep K255 all0).keep K268 all0).keep K285 (allS (NoS.exa (((A227.keep K242).keep K255).keep K268) (by decide) (w5 hw)) all0))
            have f347 := ((((((f181.keep K185 (allS (NoS.exa (((A127.keep K142).keep K155).keep K168) (by decide) (w5 hw)) all0)).ext E226).keep K242 all0).keep K255 all0).keep K268 all0).keep K285 (allS (NoS.exa (((A227.keep K242).keep K255).keep K268) (by decide) (w5 hw)) all0))
            have f348 := ((((((F172.keep K185 (allS (NoS.exa (((A127.keep K142).keep K155).keep K168) (by decide) (w5 hw)) all0)).ext E226).keep K242 all0).keep K255 all0).keep K268 all0).keep K285 (allS (NoS.exa (((A227.keep K242).keep K255).keep K268) (by decide) (w5 hw)) all0))
            have f349 := (f279.keep K285 (allS (NoS.exa (((A227.keep K242).keep K255).keep K268) (by decide) (w5 hw)) all0))
            have f350 := (f281.keep K285 (allS (NoS.exa (((A227.keep K242).keep K255).keep K268) (by decide) (w5 hw)) all0))
            have f351 := (F272.keep K285 (allS (NoS.exa (((A227.keep K242).keep K255).keep K268) (by decide) (w5 hw)) all0))
            refine g_callV1 C X327 (y := (⟨"com/example/isolate_to_replay/isolatetoreplay/envelope/Origin", "equals", "(Ljava/lang/Object;)Z"⟩ : MethodName)) (z := (⟨"com/example/isolate_to_replay/isolatetoreplay/envelope/Origin", "equals", "(Ljava/lang/Object;)Z"⟩ : MethodName)) (a := b121) (by decide) (w50 hw) (w51 hw) (w53 hw) (w52 hw) (nf_sel (w53 hw)) f342 (w54 hw) (w6 hw) (rm_eq hw O293 W f342 f343 f344 f345 f286 f287 f288 f289 f346 f347 f348 f349 f350 f351 (own_ne (Nat.lt_of_lt_of_le A127.lt (Nat.le_trans (Nat.le_trans (Nat.le_trans K142.1 K155.1) K168.1) K185.1)) g225)) (W := 0) (by decide) (by decide) (k' := 50) rfl (n' := 286) rfl (by decide) (by decide) rfl pd_132 (argsL := [(.ref b221)]) rfl (rest := []) rfl rfl rfl at_425 (q := 428) rfl ?_
            rintro _ T352 _ X353 ⟨rfl, rfl⟩
            refine g_iload C X353 at_428 (q := 430) rfl rfl ?_
            have hv354 : (if (own_mk v22 v1 v4) = (own_mk v94 v43 v51) ∧ (own_mk v28 v7 v10) = (own_mk v105 v59 v67) ∧ (own_mk v34 v13 v16) = (own_mk v116 v75 v83) then 1 else 0) = (1 : Int32) := if_pos ⟨(Decidable.of_not_not (fun z => hc296 ((own_sm hl23 hh24 hl95 hh96).mpr z))), (Decidable.of_not_not (fun z => hc312 ((own_sm hl29 hh30 hl106 hh107).mpr z))), (Decidable.of_not_not (fun z => hc328 ((own_sm hl35 hh36 hl117 hh118).mpr z)))⟩
            refine g_icN C X353 at_430 (q := 433) rfl (teq hv354).2 ?_
            refine g_iconst C X353 at_433 (q := 434) rfl (z := (1 : Int32)) rfl ?_
            refine g_goto C X353 at_434 (by decide) (q := 438) (by decide) ?_
            exact gW_retN C X353 Y291 (own_EL hw) (Or.inl rfl) (z' := 1) (by decide) at_438 (by decide) (by decide) ⟨_, rfl, rfl, trivial⟩
set_option maxRecDepth 65536 in
set_option maxHeartbeats 40000000 in
theorem comes_1 {Post : Tables → Env → Array Value → State → Outcome → State → Prop} (hpost : ∀ tb e args s v u, (limb_1_1.after args s (.returned v) u = true ∧ limb_1_2.after args s (.returned v) u = true ∧ True) → ReturnedEndW s (.returned v) u (Jvm.fieldLocs frame_1_writes args s ++ Jvm.arrayLocs frame_1_arrays args s ++ Jvm.staticLocs frame_1_statics s) 56 4288 → Post tb e args s (.returned v) u) :
    ArmFor flags0 classFile x code maxLocals ret World_1 tables_1 room_1 Calls_1 rest_1 Pre_1 Post := by
  intro l hfl _ _ p e ha hc hk s m args below hf hA hF happ hP
  obtain ⟨hcalls, hrest, hpre⟩ := hP
  obtain ⟨-, -, -, hnamed, -, -, -, hat⟩ := (Spec.applies_iff hf).mp happ
  obtain ⟨hg, hn⟩ := and_e (Cond.before_iff.mp (show (Jvm.Cond.and given_1 narrow_1).before args s = true from hpre))
  obtain ⟨y1, y2⟩ := and_e hg
  obtain ⟨y3, y4⟩ := and_e y2
  obtain ⟨y5, y6⟩ := and_e y4
  obtain ⟨y7, y8⟩ := and_e y6
  obtain ⟨y9, y10⟩ := and_e y8
  obtain ⟨u0, u1, u2, u3, u4, rfl⟩ : ∃ u0 u1 u2 u3 u4 : Value, args = #[u0, u1, u2, u3, u4] := by
    have hs : args.size = 5 := by simpa [Cond.value, given_1] using y1
    obtain ⟨L⟩ := args
    match L, hs with
    | [u0, u1, u2, u3, u4], _ => exact ⟨u0, u1, u2, u3, u4, rfl⟩
  have hw := fun d (hd : d ∈ tables_1) => atoms_spec (ws := Jvm.Cond.code x code maxLocals ret :: tables_1) hat d (List.mem_cons_of_mem _ hd)
  have hfit : Fit s := fun {y c} hc i hi => by
    obtain ⟨ha, rfl⟩ := Array.getElem?_eq_some_iff.mp hc
    have q := List.all_eq_true.mp ((Array.all_eq_true_iff_forall_mem.mp hF) _ (Array.getElem_mem ha)) i (List.mem_range.mpr hi)
    simpa [Array.getElem?_eq_getElem hi] using q
  obtain ⟨hsets, hown0⟩ := atoms_of _ (rest_1_c_eq ▸ (show rest_1_c.before _ s = true from hrest))
  have hr0 := Cond.before_iff.mp hown0
  obtain ⟨i0, ei0⟩ := is_v y3
  obtain rfl : u0 = (.int i0) := Option.some.inj ei0
  obtain ⟨i1, ei1⟩ := is_v y5
  obtain rfl : u1 = (.int i1) := Option.some.inj ei1
  obtain ⟨i2, ei2⟩ := is_v y7
  obtain rfl : u2 = (.int i2) := Option.some.inj ei2
  obtain ⟨i3, ei3⟩ := is_v y9
  obtain rfl : u3 = (.int i3) := Option.some.inj ei3
  obtain ⟨i4, ei4⟩ := is_v y10
  obtain rfl : u4 = (.int i4) := Option.some.inj ei4
  obtain ⟨cz, ecz⟩ := is_v (Cond.before_iff.mp (hsets _ (List.mem_of_getElem? (i := 1) rfl)))
  have SCz : Sta s s.heap "java/lang/String" "COMPACT_STRINGS" "Z" (.int cz) := Sta.start ecz (Or.inl (hsets _ (List.mem_of_getElem? (i := 0) rfl)))
  have hcz : ¬ cz = 0 := gotF (Cond.eq_ints ecz (Term.int_eval (0))) (not_v (Cond.before_iff.mp (hsets _ (List.mem_of_getElem? (i := 2) rfl))))
  have hM := rmLaw (l := l) hw (p0 := i0) (p1 := i1) (p2 := i2) (p3 := i3) (p4 := i4) (Old.start s) (show Wd s cz from ⟨SCz, hcz⟩)
  have hCH : CHv s consts_1 s.vm s.heap := CHv.start (own_EL hw) (fun p hp => hcalls.1 p hp) (hsets _ (List.mem_of_getElem? (i := 2) rfl)) (w25 hw) (w11 hw)
  obtain ⟨n, o, h1, h2, h3, _, L, rfl, ⟨N, _, rfl, rfl, -⟩, -, hq⟩ := hM tables_1 p e ha hc hk s m _ below hf ((Spec.applies_iff_loose hf).mp happ).1 ⟨rfl, State.Warmed39.refl s, rfl, hCH⟩ trivial
  refine ⟨n, _, h1, h2, h3, hpost _ _ _ _ _ _ ⟨Cond.after_iff.mpr rfl, Cond.after_iff.mpr (eq_i res_at (Term.int_eval (1)) rfl), trivial⟩ ⟨hq.1, hq.2.1, hq.2.2.1, (hq.2.2.2.sift fun y hy => Or.inr (N y hy)).mono (by decide) (by decide)⟩⟩
theorem main_1_1 : Claimed_1_1 := comes_1 fun _ _ _ _ _ _ h hF => ⟨h.1, hF⟩
theorem main_1_2 : Claimed_1_2 := comes_1 fun _ _ _ _ _ _ h hF => ⟨h.2.1, hF⟩
end Jvm.Pilot.@@N@@
namespace Jvm.Pilot.@@N@@
open Jvm Jvm.ClassFile Sem Op Lib Jvm.Free Jvm.Stand Jvm.Pilot.@@N@@.Jvm.D
/-! MADE BY PROGRAM (witnessworld.py) out of the Statement's table words and the real class files: 21 classes; the members and pool entries that the words name. The judged class is class 1, her method 4. -/
namespace start1
open Jvm.ClassFile
def u (s : String) : CpInfo := .utf8 (stringToUtf16 s)
/-- a pool by its gaps: so many unusable entries, then the entry; so many at the end -/
def gap : Nat → List CpInfo → List CpInfo
  | 0, r => r
  | n + 1, r => .unusable :: gap n r
def poolList (es : List (Nat × CpInfo)) (last : Nat) : List CpInfo := es.foldr (fun e r => gap e.1 (e.2 :: r)) (gap last [])
def pool (es : List (Nat × CpInfo)) (last : Nat) : Array CpInfo := ⟨poolList es last⟩
def fileOf (pool : Array CpInfo) (this : Nat) (attrs : Array Attribute := #[]) (ms : Array MethodInfo := #[]) (fl : Nat := 33) (sup : Nat := 0) (ifs : Array Nat := #[]) (fds : Array FieldInfo := #[]) : ClassFile where
  minorVersion := 0
  majorVersion := 65
  constantPool := pool
  accessFlags := fl
  thisClass := this
  superClass := sup
  interfaces := ifs
  fields := fds
  methods := ms
  attributes := attrs
def plain (name : String) (sup : Option ClassId) : Class where
  name := name
  kind := .ordinary
  loader := none
  accessFlags := 33
  super := sup
  interfaces := #[]
  cf := none
  fields := #[]
  methods := #[]
  instanceTypes := #[]
  staticTypes := #[]
  resolved := #[]
  callSites := []
  init := .initialized
  statics := none
  mirror := none

def pool0 : Array CpInfo := pool [(5, u "<init>"), (0, u "()V"), (1, .class_ 10), (1, u "java/lang/Object")] 113

def k0c0 : Code := { maxStack := 0, maxLocals := 1, code := object_method_1_code, exceptionTable := #[], attributes := #[] }
def k0m0 : Method := { name := "<init>", desc := "()V", sig := { parameters := [], returnType := none }, accessFlags := 1, code := some k0c0 }
/-- java/lang/Object -/
def k0 : Class := { plain "java/lang/Object" none with
  accessFlags := 33
  interfaces := #[]
  cf := some (fileOf pool0 8 #[] #[{ accessFlags := 1, nameIndex := 5, descriptorIndex := 6, attributes := #[] }] 33 0 #[] #[])
  fields := #[]
  methods := #[k0m0]
  instanceTypes := #[]
  staticTypes := #[]
  resolved := Array.replicate 124 none
  statics := none }

def pool1 : Array CpInfo := pool [(2, .class_ 4), (1, u "java/lang/Object"), (0, u "<init>"), (0, u "()V"), (0, .class_ 8), (0, u "java/lang/String"), (0, .methodref 7 10), (0, .nameAndType 5 11), (0, u "([C)V"), (0, .methodref 13 14), (0, .class_ 15), (0, .nameAndType 16 17), (0, u "com/example/isolate_to_replay/isolatetoreplay/envelope/OriginEqualsPinLaw"), (0, u "pick"), (0, u "(IIII)I"), (0, .class_ 19), (0, u "com/example/isolate_to_replay/isolatetoreplay/envelope/Origin"), (0, .methodref 13 21), (0, .nameAndType 22 23), (0, u "mk"), (0, u "(III)Ljava/lang/String;"), (0, .methodref 18 25), (0, .nameAndType 5 26), (0, u "(Ljava/lang/String;Ljava/lang/String;Ljava/lang/String;)V"), (0, .methodref 13 28), (0, .nameAndType 29 30), (0, u "same"), (0, u "(IIIIII)Z"), (0, .methodref 18 32), (0, .nameAndType 33 34), (0, u "equals"), (0, u "(Ljava/lang/Object;)Z"), (3, u "law"), (0, u "(IIIII)Z")] 2

def k1m0 : Method := { name := "<init>", desc := "()V", sig := { parameters := [], returnType := none }, accessFlags := 1, code := none }
def k1c1 : Code := { maxStack := 6, maxLocals := 3, code := method_2_code, exceptionTable := #[], attributes := #[] }
def k1m1 : Method := { name := "mk", desc := "(III)Ljava/lang/String;", sig := { parameters := [.int, .int, .int], returnType := some (.object "java/lang/String") }, accessFlags := 10, code := some k1c1 }
def k1c2 : Code := { maxStack := 2, maxLocals := 6, code := method_3_code, exceptionTable := #[], attributes := #[] }
def k1m2 : Method := { name := "same", desc := "(IIIIII)Z", sig := { parameters := [.int, .int, .int, .int, .int, .int], returnType := some .boolean }, accessFlags := 10, code := some k1c2 }
def k1c3 : Code := { maxStack := 2, maxLocals := 4, code := method_4_code, exceptionTable := #[], attributes := #[] }
def k1m3 : Method := { name := "pick", desc := "(IIII)I", sig := { parameters := [.int, .int, .int, .int], returnType := some .int }, accessFlags := 10, code := some k1c3 }
def k1c4 : Code := { maxStack := 7, maxLocals := 27, code := code, exceptionTable := #[], attributes := #[] }
def k1m4 : Method := { name := "law", desc := "(IIIII)Z", sig := { parameters := [.int, .int, .int, .int, .int], returnType := some .boolean }, accessFlags := 9, code := some k1c4 }
/-- com/example/isolate_to_replay/isolatetoreplay/envelope/OriginEqualsPinLaw -/
def k1 : Class := { plain "com/example/isolate_to_replay/isolatetoreplay/envelope/OriginEqualsPinLaw" (some 0) with
  accessFlags := 49
  interfaces := #[]
  cf := some (fileOf pool1 13 #[] #[{ accessFlags := 1, nameIndex := 5, descriptorIndex := 6, attributes := #[] }, { accessFlags := 10, nameIndex := 22, descriptorIndex := 23, attributes := #[] }, { accessFlags := 10, nameIndex := 29, descriptorIndex := 30, attributes := #[] }, { accessFlags := 10, nameIndex := 16, descriptorIndex := 17, attributes := #[] }, { accessFlags := 9, nameIndex := 38, descriptorIndex := 39, attributes := #[] }] 49 2 #[] #[])
  fields := #[]
  methods := #[k1m0, k1m1, k1m2, k1m3, k1m4]
  instanceTypes := #[]
  staticTypes := #[]
  resolved := Array.replicate 42 none
  statics := none }

def pool2 : Array CpInfo := pool [(1, .methodref 2 3), (0, .class_ 4), (0, .nameAndType 5 6), (0, u "java/lang/Object"), (0, u "<init>"), (0, u "()V"), (0, .string 8), (0, u "queue"), (0, .methodref 10 11), (0, .class_ 12), (0, .nameAndType 13 14), (0, u "java/util/Objects"), (0, u "requireNonNull"), (0, u "(Ljava/lang/Object;Ljava/lang/String;)Ljava/lang/Object;"), (0, .class_ 16), (0, u "java/lang/String"), (0, .fieldref 18 19), (0, .class_ 20), (0, .nameAndType 8 21), (0, u "com/example/isolate_to_replay/isolatetoreplay/envelope/Origin"), (0, u "Ljava/lang/String;"), (0, .string 23), (0, u "exchange"), (0, .fieldref 18 25), (0, .nameAndType 23 21), (0, .string 27), (0, u "routingKey"), (0, .fieldref 18 29), (0, .nameAndType 27 21), (0, .methodref 15 31), (0, .nameAndType 32 33), (0, u "equals"), (0, u "(Ljava/lang/Object;)Z"), (8, u "(Ljava/lang/String;Ljava/lang/String;Ljava/lang/String;)V")] 24

def k2c0 : Code := { maxStack := 3, maxLocals := 4, code := prog_9_method_1_code, exceptionTable := #[], attributes := #[] }
def k2m0 : Method := { name := "<init>", desc := "(Ljava/lang/String;Ljava/lang/String;Ljava/lang/String;)V", sig := { parameters := [(.object "java/lang/String"), (.object "java/lang/String"), (.object "java/lang/String")], returnType := none }, accessFlags := 1, code := some k2c0 }
def k2c1 : Code := { maxStack := 2, maxLocals := 3, code := prog_9_method_5_code, exceptionTable := #[], attributes := #[] }
def k2m1 : Method := { name := "equals", desc := "(Ljava/lang/Object;)Z", sig := { parameters := [(.object "java/lang/Object")], returnType := some .boolean }, accessFlags := 1, code := some k2c1 }
/-- com/example/isolate_to_replay/isolatetoreplay/envelope/Origin -/
def k2 : Class := { plain "com/example/isolate_to_replay/isolatetoreplay/envelope/Origin" (some 0) with
  accessFlags := 33
  interfaces := #[]
  cf := some (fileOf pool2 18 #[] #[{ accessFlags := 1, nameIndex := 5, descriptorIndex := 42, attributes := #[] }, { accessFlags := 1, nameIndex := 32, descriptorIndex := 33, attributes := #[] }] 33 2 #[] #[{ accessFlags := 18, nameIndex := 8, descriptorIndex := 21, attributes := #[] }, { accessFlags := 18, nameIndex := 23, descriptorIndex := 21, attributes := #[] }, { accessFlags := 18, nameIndex := 27, descriptorIndex := 21, attributes := #[] }])
  fields := #[{ name := "queue", type := (.object "java/lang/String"), accessFlags := 18, slot := 0, constantValue := 0 }, { name := "exchange", type := (.object "java/lang/String"), accessFlags := 18, slot := 1, constantValue := 0 }, { name := "routingKey", type := (.object "java/lang/String"), accessFlags := 18, slot := 2, constantValue := 0 }]
  methods := #[k2m0, k2m1]
  instanceTypes := #[(.object "java/lang/String"), (.object "java/lang/String"), (.object "java/lang/String")]
  staticTypes := #[]
  resolved := Array.replicate 67 none
  statics := none }

def pool3 : Array CpInfo := pool [(1, .class_ 2), (0, u "java/io/Serializable"), (0, .class_ 4), (0, u "java/lang/Object")] 2

/-- java/io/Serializable -/
def k3 : Class := { plain "java/io/Serializable" (some 0) with
  accessFlags := 1537
  interfaces := #[]
  cf := some (fileOf pool3 1 #[] #[] 1537 3 #[] #[])
  fields := #[]
  methods := #[]
  instanceTypes := #[]
  staticTypes := #[]
  resolved := Array.replicate 7 none
  statics := none }

def pool4 : Array CpInfo := pool [(1, .class_ 2), (0, u "java/lang/Comparable"), (0, .class_ 4), (0, u "java/lang/Object")] 7

/-- java/lang/Comparable -/
def k4 : Class := { plain "java/lang/Comparable" (some 0) with
  accessFlags := 1537
  interfaces := #[]
  cf := some (fileOf pool4 1 #[] #[] 1537 3 #[] #[])
  fields := #[]
  methods := #[]
  instanceTypes := #[]
  staticTypes := #[]
  resolved := Array.replicate 12 none
  statics := none }

def pool5 : Array CpInfo := pool [(2, .class_ 4), (1, u "java/lang/CharSequence"), (42, .class_ 48), (0, u "java/lang/CharSequence$1CodePointIterator"), (10, .class_ 60), (0, u "java/lang/CharSequence$1CharIterator"), (5, .class_ 67), (0, u "java/lang/Object")] 63

/-- java/lang/CharSequence -/
def k5 : Class := { plain "java/lang/CharSequence" (some 0) with
  accessFlags := 1537
  interfaces := #[]
  cf := some (fileOf pool5 2 #[.nestMembers #[47, 59]] #[] 1537 66 #[] #[])
  fields := #[]
  methods := #[]
  instanceTypes := #[]
  staticTypes := #[]
  resolved := Array.replicate 131 none
  statics := none }

def pool6 : Array CpInfo := pool [(1, .class_ 2), (0, u "java/lang/constant/Constable"), (0, .class_ 4), (0, u "java/lang/Object")] 6

/-- java/lang/constant/Constable -/
def k6 : Class := { plain "java/lang/constant/Constable" (some 0) with
  accessFlags := 1537
  interfaces := #[]
  cf := some (fileOf pool6 1 #[] #[] 1537 3 #[] #[])
  fields := #[]
  methods := #[]
  instanceTypes := #[]
  staticTypes := #[]
  resolved := Array.replicate 11 none
  statics := none }

def pool7 : Array CpInfo := pool [(1, .class_ 2), (0, u "java/lang/constant/ConstantDesc"), (0, .class_ 4), (0, u "java/lang/Object")] 32

/-- java/lang/constant/ConstantDesc -/
def k7 : Class := { plain "java/lang/constant/ConstantDesc" (some 0) with
  accessFlags := 1537
  interfaces := #[]
  cf := some (fileOf pool7 1 #[] #[] 1537 3 #[] #[])
  fields := #[]
  methods := #[]
  instanceTypes := #[]
  staticTypes := #[]
  resolved := Array.replicate 37 none
  statics := none }

def pool8 : Array CpInfo := pool [(1, .methodref 2 3), (0, .class_ 4), (0, .nameAndType 5 6), (0, u "java/lang/Object"), (0, u "<init>"), (0, u "()V"), (0, .string 8), (0, u ""), (0, .fieldref 10 11), (0, .class_ 12), (0, .nameAndType 13 14), (0, u "java/lang/String"), (0, u "value"), (0, u "[B"), (0, .fieldref 10 16), (0, .nameAndType 17 18), (0, u "coder"), (0, u "B"), (2, u "hash"), (0, u "I"), (2, u "hashIsZero"), (0, u "Z"), (0, .methodref 10 28), (0, .nameAndType 5 29), (0, u "([CIILjava/lang/Void;)V"), (8, .fieldref 10 39), (0, .nameAndType 40 26), (0, u "COMPACT_STRINGS"), (1, .class_ 44), (1, u "java/lang/StringUTF16"), (0, u "compress"), (1, .methodref 42 48), (0, .nameAndType 49 50), (0, u "coderFromArrayLen"), (0, u "([BI)B"), (56, .class_ 109), (1, u "java/lang/StringLatin1"), (67, .methodref 42 178), (0, .nameAndType 45 179), (0, u "([CII)[B"), (361, .methodref 107 542), (0, .nameAndType 543 544), (0, u "equals"), (0, u "([B[B)Z"), (28, u "(Ljava/lang/Object;)Z"), (1, .class_ 576), (0, u "java/lang/CharSequence"), (22, u "CASE_INSENSITIVE_ORDER"), (0, u "Ljava/util/Comparator;"), (409, u "([C)V"), (90, u "serialPersistentFields"), (0, u "[Ljava/io/ObjectStreamField;"), (0, .class_ 1104), (0, u "java/lang/String$CaseInsensitiveComparator"), (1, .class_ 1107), (0, u "java/io/Serializable"), (0, .class_ 1109), (0, u "java/lang/Comparable"), (0, .class_ 1111), (0, u "java/lang/constant/Constable"), (0, .class_ 1113), (0, u "java/lang/constant/ConstantDesc"), (2, u "serialVersionUID"), (0, u "J"), (3, u "REPL"), (0, u "C"), (2, u "LATIN1"), (1, u "UTF16")] 323

def k8m0 : Method := { name := "<init>", desc := "()V", sig := { parameters := [], returnType := none }, accessFlags := 1, code := none }
def k8c1 : Code := { maxStack := 5, maxLocals := 2, code := jdk_42_method_3_code, exceptionTable := #[], attributes := #[] }
def k8m1 : Method := { name := "<init>", desc := "([C)V", sig := { parameters := [(.array .char)], returnType := none }, accessFlags := 1, code := some k8c1 }
def k8c2 : Code := { maxStack := 2, maxLocals := 3, code := jdk_42_method_66_code, exceptionTable := #[], attributes := #[] }
def k8m2 : Method := { name := "equals", desc := "(Ljava/lang/Object;)Z", sig := { parameters := [(.object "java/lang/Object")], returnType := some .boolean }, accessFlags := 1, code := some k8c2 }
def k8c3 : Code := { maxStack := 4, maxLocals := 6, code := jdk_42_method_149_code, exceptionTable := #[], attributes := #[] }
def k8m3 : Method := { name := "<init>", desc := "([CIILjava/lang/Void;)V", sig := { parameters := [(.array .char), .int, .int, (.object "java/lang/Void")], returnType := none }, accessFlags := 2, code := some k8c3 }
/-- java/lang/String -/
def k8 : Class := { plain "java/lang/String" (some 0) with
  accessFlags := 49
  interfaces := #[3, 4, 5, 6, 7]
  cf := some (fileOf pool8 10 #[.nestMembers #[1103]] #[{ accessFlags := 1, nameIndex := 5, descriptorIndex := 6, attributes := #[] }, { accessFlags := 1, nameIndex := 5, descriptorIndex := 1010, attributes := #[] }, { accessFlags := 1, nameIndex := 543, descriptorIndex := 573, attributes := #[] }, { accessFlags := 2, nameIndex := 5, descriptorIndex := 29, attributes := #[] }] 49 2 #[1106, 1108, 575, 1110, 1112] #[{ accessFlags := 18, nameIndex := 13, descriptorIndex := 14, attributes := #[] }, { accessFlags := 18, nameIndex := 17, descriptorIndex := 18, attributes := #[] }, { accessFlags := 2, nameIndex := 21, descriptorIndex := 22, attributes := #[] }, { accessFlags := 2, nameIndex := 25, descriptorIndex := 26, attributes := #[] }, { accessFlags := 26, nameIndex := 1116, descriptorIndex := 1117, attributes := #[] }, { accessFlags := 24, nameIndex := 40, descriptorIndex := 26, attributes := #[] }, { accessFlags := 26, nameIndex := 1101, descriptorIndex := 1102, attributes := #[] }, { accessFlags := 26, nameIndex := 1121, descriptorIndex := 1122, attributes := #[] }, { accessFlags := 25, nameIndex := 599, descriptorIndex := 600, attributes := #[] }, { accessFlags := 24, nameIndex := 1125, descriptorIndex := 18, attributes := #[] }, { accessFlags := 24, nameIndex := 1127, descriptorIndex := 18, attributes := #[] }])
  fields := #[{ name := "value", type := (.array .byte), accessFlags := 18, slot := 0, constantValue := 0 }, { name := "coder", type := .byte, accessFlags := 18, slot := 1, constantValue := 0 }, { name := "hash", type := .int, accessFlags := 2, slot := 2, constantValue := 0 }, { name := "hashIsZero", type := .boolean, accessFlags := 2, slot := 3, constantValue := 0 }, { name := "serialVersionUID", type := .long, accessFlags := 26, slot := 0, constantValue := 0 }, { name := "COMPACT_STRINGS", type := .boolean, accessFlags := 24, slot := 1, constantValue := 0 }, { name := "serialPersistentFields", type := (.array (.object "java/io/ObjectStreamField")), accessFlags := 26, slot := 2, constantValue := 0 }, { name := "REPL", type := .char, accessFlags := 26, slot := 3, constantValue := 0 }, { name := "CASE_INSENSITIVE_ORDER", type := (.object "java/util/Comparator"), accessFlags := 25, slot := 4, constantValue := 0 }, { name := "LATIN1", type := .byte, accessFlags := 24, slot := 5, constantValue := 0 }, { name := "UTF16", type := .byte, accessFlags := 24, slot := 6, constantValue := 0 }]
  methods := #[k8m0, k8m1, k8m2, k8m3]
  instanceTypes := #[(.array .byte), .byte, .int, .boolean]
  staticTypes := #[.long, .boolean, (.array (.object "java/io/ObjectStreamField")), .char, (.object "java/util/Comparator"), .byte, .byte]
  resolved := Array.replicate 1451 none
  statics := some 0 }

def pool9 : Array CpInfo := pool [(2, .class_ 4), (1, u "java/lang/Object"), (0, u "<init>"), (0, u "()V"), (35, .class_ 44), (1, u "java/util/Objects"), (0, u "requireNonNull"), (48, u "(Ljava/lang/Object;Ljava/lang/String;)Ljava/lang/Object;")] 89

def k9m0 : Method := { name := "<init>", desc := "()V", sig := { parameters := [], returnType := none }, accessFlags := 2, code := none }
def k9c1 : Code := { maxStack := 3, maxLocals := 2, code := jdk_31_method_11_code, exceptionTable := #[], attributes := #[] }
def k9m1 : Method := { name := "requireNonNull", desc := "(Ljava/lang/Object;Ljava/lang/String;)Ljava/lang/Object;", sig := { parameters := [(.object "java/lang/Object"), (.object "java/lang/String")], returnType := some (.object "java/lang/Object") }, accessFlags := 9, code := some k9c1 }
/-- java/util/Objects -/
def k9 : Class := { plain "java/util/Objects" (some 0) with
  accessFlags := 49
  interfaces := #[]
  cf := some (fileOf pool9 42 #[] #[{ accessFlags := 2, nameIndex := 5, descriptorIndex := 6, attributes := #[] }, { accessFlags := 9, nameIndex := 45, descriptorIndex := 94, attributes := #[] }] 49 2 #[] #[])
  fields := #[]
  methods := #[k9m0, k9m1]
  instanceTypes := #[]
  staticTypes := #[]
  resolved := Array.replicate 184 none
  statics := none }

def pool10 : Array CpInfo := pool [(6, .class_ 8), (1, u "java/lang/Object"), (0, u "<init>"), (0, u "()V"), (1, .class_ 14), (1, u "java/lang/StringUTF16"), (31, u "$assertionsDisabled"), (0, u "Z"), (13, u "HI_BYTE_SHIFT"), (0, u "I"), (2, u "LO_BYTE_SHIFT"), (49, .methodref 12 116), (0, .nameAndType 117 118), (0, u "compress"), (0, u "([CI[BII)I"), (3, u "([CII)[B"), (138, u "coderFromArrayLen"), (0, u "([BI)B"), (106, .class_ 371), (1, u "java/lang/StringUTF16$LinesSpliterator"), (58, u "MAX_LENGTH"), (196, .class_ 628), (0, u "java/lang/StringUTF16$CodePointsSpliterator"), (0, .class_ 630), (0, u "java/lang/StringUTF16$CharsSpliterator")] 4

def k10m0 : Method := { name := "<init>", desc := "()V", sig := { parameters := [], returnType := none }, accessFlags := 0, code := none }
def k10c1 : Code := { maxStack := 2, maxLocals := 2, code := jdk_52_method_15_code, exceptionTable := #[], attributes := #[] }
def k10m1 : Method := { name := "coderFromArrayLen", desc := "([BI)B", sig := { parameters := [(.array .byte), .int], returnType := some .byte }, accessFlags := 8, code := some k10c1 }
def k10c2 : Code := { maxStack := 5, maxLocals := 6, code := jdk_52_method_16_code, exceptionTable := #[], attributes := #[] }
def k10m2 : Method := { name := "compress", desc := "([CII)[B", sig := { parameters := [(.array .char), .int, .int], returnType := some (.array .byte) }, accessFlags := 9, code := some k10c2 }
def k10c3 : Code := { maxStack := 3, maxLocals := 7, code := jdk_52_method_21_code, exceptionTable := #[], attributes := #[] }
def k10m3 : Method := { name := "compress", desc := "([CI[BII)I", sig := { parameters := [(.array .char), .int, (.array .byte), .int, .int], returnType := some .int }, accessFlags := 9, code := some k10c3 }
/-- java/lang/StringUTF16 -/
def k10 : Class := { plain "java/lang/StringUTF16" (some 0) with
  accessFlags := 48
  interfaces := #[]
  cf := some (fileOf pool10 12 #[.nestMembers #[627, 629, 369]] #[{ accessFlags := 0, nameIndex := 9, descriptorIndex := 10, attributes := #[] }, { accessFlags := 8, nameIndex := 261, descriptorIndex := 262, attributes := #[] }, { accessFlags := 9, nameIndex := 117, descriptorIndex := 122, attributes := #[] }, { accessFlags := 9, nameIndex := 117, descriptorIndex := 118, attributes := #[] }] 48 6 #[] #[{ accessFlags := 26, nameIndex := 61, descriptorIndex := 62, attributes := #[] }, { accessFlags := 26, nameIndex := 65, descriptorIndex := 62, attributes := #[] }, { accessFlags := 24, nameIndex := 430, descriptorIndex := 62, attributes := #[] }, { accessFlags := 4120, nameIndex := 46, descriptorIndex := 47, attributes := #[] }])
  fields := #[{ name := "HI_BYTE_SHIFT", type := .int, accessFlags := 26, slot := 0, constantValue := 0 }, { name := "LO_BYTE_SHIFT", type := .int, accessFlags := 26, slot := 1, constantValue := 0 }, { name := "MAX_LENGTH", type := .int, accessFlags := 24, slot := 2, constantValue := 0 }, { name := "$assertionsDisabled", type := .boolean, accessFlags := 4120, slot := 3, constantValue := 0 }]
  methods := #[k10m0, k10m1, k10m2, k10m3]
  instanceTypes := #[]
  staticTypes := #[.int, .int, .int, .boolean]
  resolved := Array.replicate 635 none
  statics := none }

def pool11 : Array CpInfo := pool [(4, .class_ 6), (1, u "java/lang/Object"), (0, u "<init>"), (0, u "()V"), (5, .class_ 16), (1, u "java/lang/StringLatin1"), (104, u "$assertionsDisabled"), (0, u "Z"), (98, .class_ 223), (1, u "java/lang/StringLatin1$LinesSpliterator"), (57, u "equals"), (0, u "([B[B)Z"), (107, .class_ 391), (0, u "java/lang/StringLatin1$CharsSpliterator")] 3

def k11m0 : Method := { name := "<init>", desc := "()V", sig := { parameters := [], returnType := none }, accessFlags := 0, code := none }
def k11c1 : Code := { maxStack := 3, maxLocals := 3, code := jdk_43_method_13_code, exceptionTable := #[], attributes := #[] }
def k11m1 : Method := { name := "equals", desc := "([B[B)Z", sig := { parameters := [(.array .byte), (.array .byte)], returnType := some .boolean }, accessFlags := 9, code := some k11c1 }
/-- java/lang/StringLatin1 -/
def k11 : Class := { plain "java/lang/StringLatin1" (some 0) with
  accessFlags := 48
  interfaces := #[]
  cf := some (fileOf pool11 14 #[.nestMembers #[390, 221]] #[{ accessFlags := 0, nameIndex := 7, descriptorIndex := 8, attributes := #[] }, { accessFlags := 9, nameIndex := 281, descriptorIndex := 282, attributes := #[] }] 48 4 #[] #[{ accessFlags := 4120, nameIndex := 121, descriptorIndex := 122, attributes := #[] }])
  fields := #[{ name := "$assertionsDisabled", type := .boolean, accessFlags := 4120, slot := 0, constantValue := 0 }]
  methods := #[k11m0, k11m1]
  instanceTypes := #[]
  staticTypes := #[.boolean]
  resolved := Array.replicate 395 none
  statics := none }

def pool12 : Array CpInfo := pool [(2, .class_ 4), (1, u "java/lang/Object"), (0, u "<init>"), (0, u "()V"), (17, .class_ 26), (1, u "jdk/internal/util/Preconditions"), (28, .class_ 56), (0, u "jdk/internal/util/Preconditions$4"), (57, .class_ 115), (0, u "jdk/internal/util/Preconditions$1"), (7, u "SIOOBE_FORMATTER"), (0, u "Ljava/util/function/BiFunction;"), (0, .class_ 126), (0, u "jdk/internal/util/Preconditions$2"), (3, u "AIOOBE_FORMATTER"), (0, .class_ 132), (0, u "jdk/internal/util/Preconditions$3"), (3, u "IOOBE_FORMATTER")] 57

def k12m0 : Method := { name := "<init>", desc := "()V", sig := { parameters := [], returnType := none }, accessFlags := 1, code := none }
/-- jdk/internal/util/Preconditions -/
def k12 : Class := { plain "jdk/internal/util/Preconditions" (some 0) with
  accessFlags := 33
  interfaces := #[]
  cf := some (fileOf pool12 24 #[.nestMembers #[55, 131, 125, 114]] #[{ accessFlags := 1, nameIndex := 5, descriptorIndex := 6, attributes := #[] }] 33 2 #[] #[{ accessFlags := 25, nameIndex := 123, descriptorIndex := 124, attributes := #[] }, { accessFlags := 25, nameIndex := 130, descriptorIndex := 124, attributes := #[] }, { accessFlags := 25, nameIndex := 136, descriptorIndex := 124, attributes := #[] }])
  fields := #[{ name := "SIOOBE_FORMATTER", type := (.object "java/util/function/BiFunction"), accessFlags := 25, slot := 0, constantValue := 0 }, { name := "AIOOBE_FORMATTER", type := (.object "java/util/function/BiFunction"), accessFlags := 25, slot := 1, constantValue := 0 }, { name := "IOOBE_FORMATTER", type := (.object "java/util/function/BiFunction"), accessFlags := 25, slot := 2, constantValue := 0 }]
  methods := #[k12m0]
  instanceTypes := #[]
  staticTypes := #[(.object "java/util/function/BiFunction"), (.object "java/util/function/BiFunction"), (.object "java/util/function/BiFunction")]
  resolved := Array.replicate 194 none
  statics := some 1 }

def pool13 : Array CpInfo := pool [(9, u "<init>"), (6, .class_ 18), (1, u "java/lang/Object"), (0, u "()V"), (1, .class_ 23), (1, u "jdk/internal/util/ArraysSupport"), (0, u "LOG2_ARRAY_LONG_INDEX_SCALE"), (0, u "I"), (2, u "U"), (0, u "Ljdk/internal/misc/Unsafe;"), (8, u "BIG_ENDIAN"), (0, u "Z"), (8, u "LOG2_BYTE_BIT_SIZE"), (4, u "LOG2_ARRAY_INT_INDEX_SCALE"), (54, u "JLA"), (0, u "Ljdk/internal/access/JavaLangAccess;"), (11, u "LOG2_ARRAY_BOOLEAN_INDEX_SCALE"), (9, u "LOG2_ARRAY_BYTE_INDEX_SCALE"), (5, u "LOG2_ARRAY_CHAR_INDEX_SCALE"), (5, u "LOG2_ARRAY_SHORT_INDEX_SCALE"), (18, u "LOG2_ARRAY_FLOAT_INDEX_SCALE"), (24, u "LOG2_ARRAY_DOUBLE_INDEX_SCALE"), (89, u "T_BOOLEAN"), (2, u "T_CHAR"), (1, u "T_FLOAT"), (1, u "T_DOUBLE"), (1, u "T_BYTE"), (1, u "T_SHORT"), (1, u "T_INT"), (1, u "T_LONG"), (1, u "SOFT_MAX_ARRAY_LENGTH")] 83

def k13m0 : Method := { name := "<init>", desc := "()V", sig := { parameters := [], returnType := none }, accessFlags := 2, code := none }
/-- jdk/internal/util/ArraysSupport -/
def k13 : Class := { plain "jdk/internal/util/ArraysSupport" (some 0) with
  accessFlags := 33
  interfaces := #[]
  cf := some (fileOf pool13 21 #[] #[{ accessFlags := 2, nameIndex := 9, descriptorIndex := 19, attributes := #[] }] 33 16 #[] #[{ accessFlags := 24, nameIndex := 28, descriptorIndex := 29, attributes := #[] }, { accessFlags := 26, nameIndex := 38, descriptorIndex := 39, attributes := #[] }, { accessFlags := 25, nameIndex := 121, descriptorIndex := 25, attributes := #[] }, { accessFlags := 25, nameIndex := 131, descriptorIndex := 25, attributes := #[] }, { accessFlags := 25, nameIndex := 137, descriptorIndex := 25, attributes := #[] }, { accessFlags := 25, nameIndex := 143, descriptorIndex := 25, attributes := #[] }, { accessFlags := 25, nameIndex := 53, descriptorIndex := 25, attributes := #[] }, { accessFlags := 25, nameIndex := 24, descriptorIndex := 25, attributes := #[] }, { accessFlags := 25, nameIndex := 162, descriptorIndex := 25, attributes := #[] }, { accessFlags := 25, nameIndex := 187, descriptorIndex := 25, attributes := #[] }, { accessFlags := 26, nameIndex := 48, descriptorIndex := 25, attributes := #[] }, { accessFlags := 25, nameIndex := 277, descriptorIndex := 25, attributes := #[] }, { accessFlags := 25, nameIndex := 280, descriptorIndex := 25, attributes := #[] }, { accessFlags := 25, nameIndex := 282, descriptorIndex := 25, attributes := #[] }, { accessFlags := 25, nameIndex := 284, descriptorIndex := 25, attributes := #[] }, { accessFlags := 25, nameIndex := 286, descriptorIndex := 25, attributes := #[] }, { accessFlags := 25, nameIndex := 288, descriptorIndex := 25, attributes := #[] }, { accessFlags := 25, nameIndex := 290, descriptorIndex := 25, attributes := #[] }, { accessFlags := 25, nameIndex := 292, descriptorIndex := 25, attributes := #[] }, { accessFlags := 26, nameIndex := 108, descriptorIndex := 109, attributes := #[] }, { accessFlags := 25, nameIndex := 294, descriptorIndex := 25, attributes := #[] }])
  fields := #[{ name := "U", type := (.object "jdk/internal/misc/Unsafe"), accessFlags := 24, slot := 0, constantValue := 0 }, { name := "BIG_ENDIAN", type := .boolean, accessFlags := 26, slot := 1, constantValue := 0 }, { name := "LOG2_ARRAY_BOOLEAN_INDEX_SCALE", type := .int, accessFlags := 25, slot := 2, constantValue := 0 }, { name := "LOG2_ARRAY_BYTE_INDEX_SCALE", type := .int, accessFlags := 25, slot := 3, constantValue := 0 }, { name := "LOG2_ARRAY_CHAR_INDEX_SCALE", type := .int, accessFlags := 25, slot := 4, constantValue := 0 }, { name := "LOG2_ARRAY_SHORT_INDEX_SCALE", type := .int, accessFlags := 25, slot := 5, constantValue := 0 }, { name := "LOG2_ARRAY_INT_INDEX_SCALE", type := .int, accessFlags := 25, slot := 6, constantValue := 0 }, { name := "LOG2_ARRAY_LONG_INDEX_SCALE", type := .int, accessFlags := 25, slot := 7, constantValue := 0 }, { name := "LOG2_ARRAY_FLOAT_INDEX_SCALE", type := .int, accessFlags := 25, slot := 8, constantValue := 0 }, { name := "LOG2_ARRAY_DOUBLE_INDEX_SCALE", type := .int, accessFlags := 25, slot := 9, constantValue := 0 }, { name := "LOG2_BYTE_BIT_SIZE", type := .int, accessFlags := 26, slot := 10, constantValue := 0 }, { name := "T_BOOLEAN", type := .int, accessFlags := 25, slot := 11, constantValue := 0 }, { name := "T_CHAR", type := .int, accessFlags := 25, slot := 12, constantValue := 0 }, { name := "T_FLOAT", type := .int, accessFlags := 25, slot := 13, constantValue := 0 }, { name := "T_DOUBLE", type := .int, accessFlags := 25, slot := 14, constantValue := 0 }, { name := "T_BYTE", type := .int, accessFlags := 25, slot := 15, constantValue := 0 }, { name := "T_SHORT", type := .int, accessFlags := 25, slot := 16, constantValue := 0 }, { name := "T_INT", type := .int, accessFlags := 25, slot := 17, constantValue := 0 }, { name := "T_LONG", type := .int, accessFlags := 25, slot := 18, constantValue := 0 }, { name := "JLA", type := (.object "jdk/internal/access/JavaLangAccess"), accessFlags := 26, slot := 19, constantValue := 0 }, { name := "SOFT_MAX_ARRAY_LENGTH", type := .int, accessFlags := 25, slot := 20, constantValue := 0 }]
  methods := #[k13m0]
  instanceTypes := #[]
  staticTypes := #[(.object "jdk/internal/misc/Unsafe"), .boolean, .int, .int, .int, .int, .int, .int, .int, .int, .int, .int, .int, .int, .int, .int, .int, .int, .int, (.object "jdk/internal/access/JavaLangAccess"), .int]
  resolved := Array.replicate 378 none
  statics := none }

def pool14 : Array CpInfo := pool [(1, u "java/lang/Cloneable"), (0, .class_ 1), (0, u "java/lang/Object"), (0, .class_ 3)] 3

/-- java/lang/Cloneable -/
def k14 : Class := { plain "java/lang/Cloneable" (some 0) with
  accessFlags := 1537
  interfaces := #[]
  cf := some (fileOf pool14 2 #[] #[] 1537 4 #[] #[])
  fields := #[]
  methods := #[]
  instanceTypes := #[]
  staticTypes := #[]
  resolved := Array.replicate 8 none
  statics := none }

/-- the primitive byte -/
def k15 : Class := { plain "byte" none with kind := .primitive 'B', accessFlags := 0x411 }
/-- [B -/
def k16 : Class := { plain "[B" (some 0) with kind := .array 15 .byte, interfaces := #[14, 3], accessFlags := 1041 }

/-- the primitive char -/
def k17 : Class := { plain "char" none with kind := .primitive 'C', accessFlags := 0x411 }
/-- [C -/
def k18 : Class := { plain "[C" (some 0) with kind := .array 17 .char, interfaces := #[14, 3], accessFlags := 1041 }

/-- the primitive int -/
def k19 : Class := { plain "int" none with kind := .primitive 'I', accessFlags := 0x411 }
/-- [I -/
def k20 : Class := { plain "[I" (some 0) with kind := .array 19 .int, interfaces := #[14, 3], accessFlags := 1041 }

def heap : Heap := #[{ cls := 8, slots := #[.long 0, .int 1, .null, .int 0, .null, .int 0, .int 0], vm := .statics 8 },
  { cls := 12, slots := #[.null, .null, .null], vm := .statics 12 }]
def classes : Array Class := #[k0, k1, k2, k3, k4, k5, k6, k7, k8, k9, k10, k11, k12, k13, k14, k15, k16, k17, k18, k19, k20]
def interned : List (Array UInt16 × Addr) := []
def slotsUsed : Nat := 10
def theMethod : MethodId := ⟨1, 4⟩
def args0 : Array Value := #[.int 5, .int 5, .int 5, .int 5, .int 5]
def aboutOver (below : List Frame) : State where
  vm := { classes := classes, interned := interned.toArray }
  heap := heap
  slotsUsed := slotsUsed
  threads := #[{ frames := .invoking theMethod args0 :: below }]
def below0 : List Frame := [.native { method := ⟨0, 0⟩, args := #[] }]
def about1 : State := aboutOver below0
def p0 : Program := .bare "" "" ""
def e0 : Env := launch0.env 0 0 0
theorem w_frames : about1.frames = Frame.invoking theMethod args0 :: below0 := rfl
set_option maxRecDepth 65536 in
theorem w_args : argsFit about1.vm theMethod args0 = true := by decide +kernel
set_option maxRecDepth 65536 in
theorem w_heap : heapFits about1 = true := by decide +kernel
set_option maxRecDepth 65536 in
theorem w_runnable : about1.curStatus? = some .runnable := by decide +kernel
set_option maxRecDepth 65536 in
theorem w_alone : about1.alone = true := by decide +kernel
set_option maxRecDepth 65536 in
theorem w_named : about1.methodNamed? x = some theMethod := by decide +kernel
set_option maxRecDepth 65536 in
theorem w_hears : about1.hears theMethod below0 = true := by decide +kernel
set_option maxRecDepth 65536 in
theorem w_ripe : about1.ripe theMethod args0 below0 = true := by decide +kernel
theorem w_running : about1.status = .running := rfl
set_option maxRecDepth 65536 in
theorem w_room : about1.hasRoom e0.platform room_1 = true :=
  launch0.hasRoom_least _ room_1 (by decide +kernel) (by decide +kernel) (by decide +kernel) (by decide +kernel) (by decide +kernel) (by decide +kernel)
theorem allAtoms_all (ts : List Jvm.Cond) (a : Array Jvm.Value) (st : Jvm.State) : (allAtoms ts).before a st = ts.all (fun c => c.before a st) := by
  induction ts with
  | nil => rfl
  | cons c t ih =>
    show (Jvm.Cond.and c (allAtoms t)).before a st = _
    rw [Jvm.Cond.before_and, ih, List.all_cons]
def words1 : List Jvm.Cond := Jvm.Cond.code x code maxLocals ret :: tables_1
/-- a 'code' word, met by the world's own term for the bytes: nothing is compared byte by byte -/
theorem code_word {y : MethodName} {bytes : ByteArray} {mx : Nat} {rt : Option FieldType} {a : Array Value} {s : State} {m : MethodId} {meth : Method} {c : Code} (h1 : s.methodNamed? y = some m) (h2 : s.vm.method? m = some meth) (h3 : meth.code = some c) (h4 : c.code = bytes)
    (h5 : (c.maxLocals == mx && c.exceptionTable.isEmpty && decide (c.maxStack ≤ mostOperands) && decide (meth.sig.returnType = rt) && !meth.locks && decide (parseMethodDescriptor y.desc = some meth.sig)) = true) : (Jvm.Cond.code y bytes mx rt).before a s = true := by
  simp only [Bool.and_eq_true, beq_iff_eq, Bool.not_eq_true', decide_eq_true_eq] at h5
  obtain ⟨⟨⟨⟨⟨g1, g2⟩, g3⟩, g4⟩, g5⟩, g6⟩ := h5
  simp [Cond.before, Cond.holds, Cond.value, h1, h2, h3, h4, g1, g2, g3, g4, g5, g6]
def isCode : Jvm.Cond → Bool
  | .code _ _ _ _ => true
  | _ => false
theorem all_split {L : List Jvm.Cond} {P : Jvm.Cond → Bool} (h1 : L.all (fun c => isCode c || P c) = true) (h2 : ∀ c ∈ L.filter isCode, P c = true) : L.all P = true := by
  refine List.all_eq_true.mpr fun c hc => ?_
  have h := List.all_eq_true.mp h1 c hc
  rcases Bool.eq_false_or_eq_true (isCode c) with hi | hi
  · exact h2 c (List.mem_filter.mpr ⟨hc, hi⟩)
  · simpa [hi] using h
set_option maxRecDepth 65536 in
theorem w_c0 : (Jvm.Cond.code x code maxLocals ret).before args0 about1 = true := code_word (m := ⟨1, 4⟩) (meth := k1m4) (c := k1c4) (by decide +kernel) rfl rfl rfl (by decide +kernel)
set_option maxRecDepth 65536 in
theorem w_c1 : (Jvm.Cond.code ({ cls := "com/example/isolate_to_replay/isolatetoreplay/envelope/OriginEqualsPinLaw", name := "pick", desc := "(IIII)I" } : Jvm.MethodName) method_4_code (4 : Nat) (Option.some Jvm.ClassFile.FieldType.int)).before args0 about1 = true := code_word (m := ⟨1, 3⟩) (meth := k1m3) (c := k1c3) (by decide +kernel) rfl rfl rfl (by decide +kernel)
set_option maxRecDepth 65536 in
theorem w_c2 : (Jvm.Cond.code ({ cls := "com/example/isolate_to_replay/isolatetoreplay/envelope/OriginEqualsPinLaw", name := "mk", desc := "(III)Ljava/lang/String;" } : Jvm.MethodName) method_2_code (3 : Nat) (Option.some (Jvm.ClassFile.FieldType.object "java/lang/String"))).before args0 about1 = true := code_word (m := ⟨1, 1⟩) (meth := k1m1) (c := k1c1) (by decide +kernel) rfl rfl rfl (by decide +kernel)
set_option maxRecDepth 65536 in
theorem w_c3 : (Jvm.Cond.code ({ cls := "java/lang/String", name := "<init>", desc := "([C)V" } : Jvm.MethodName) jdk_42_method_3_code (2 : Nat) (Option.none : Option Jvm.ClassFile.FieldType)).before args0 about1 = true := code_word (m := ⟨8, 1⟩) (meth := k8m1) (c := k8c1) (by decide +kernel) rfl rfl rfl (by decide +kernel)
set_option maxRecDepth 65536 in
theorem w_c4 : (Jvm.Cond.code ({ cls := "java/lang/String", name := "<init>", desc := "([CIILjava/lang/Void;)V" } : Jvm.MethodName) jdk_42_method_149_code (6 : Nat) (Option.none : Option Jvm.ClassFile.FieldType)).before args0 about1 = true := code_word (m := ⟨8, 3⟩) (meth := k8m3) (c := k8c3) (by decide +kernel) rfl rfl rfl (by decide +kernel)
set_option maxRecDepth 65536 in
theorem w_c5 : (Jvm.Cond.code ({ cls := "java/lang/Object", name := "<init>", desc := "()V" } : Jvm.MethodName) object_method_1_code (1 : Nat) (Option.none : Option Jvm.ClassFile.FieldType)).before args0 about1 = true := code_word (m := ⟨0, 0⟩) (meth := k0m0) (c := k0c0) (by decide +kernel) rfl rfl rfl (by decide +kernel)
set_option maxRecDepth 65536 in
theorem w_c6 : (Jvm.Cond.code ({ cls := "com/example/isolate_to_replay/isolatetoreplay/envelope/Origin", name := "<init>", desc := "(Ljava/lang/String;Ljava/lang/String;Ljava/lang/String;)V" } : Jvm.MethodName) prog_9_method_1_code (4 : Nat) (Option.none : Option Jvm.ClassFile.FieldType)).before args0 about1 = true := code_word (m := ⟨2, 0⟩) (meth := k2m0) (c := k2c0) (by decide +kernel) rfl rfl rfl (by decide +kernel)
set_option maxRecDepth 65536 in
theorem w_c7 : (Jvm.Cond.code ({ cls := "java/util/Objects", name := "requireNonNull", desc := "(Ljava/lang/Object;Ljava/lang/String;)Ljava/lang/Object;" } : Jvm.MethodName) jdk_31_method_11_code (2 : Nat) (Option.some (Jvm.ClassFile.FieldType.object "java/lang/Object"))).before args0 about1 = true := code_word (m := ⟨9, 1⟩) (meth := k9m1) (c := k9c1) (by decide +kernel) rfl rfl rfl (by decide +kernel)
set_option maxRecDepth 65536 in
theorem w_c8 : (Jvm.Cond.code ({ cls := "com/example/isolate_to_replay/isolatetoreplay/envelope/Origin", name := "equals", desc := "(Ljava/lang/Object;)Z" } : Jvm.MethodName) prog_9_method_5_code (3 : Nat) (Option.some Jvm.ClassFile.FieldType.boolean)).before args0 about1 = true := code_word (m := ⟨2, 1⟩) (meth := k2m1) (c := k2c1) (by decide +kernel) rfl rfl rfl (by decide +kernel)
set_option maxRecDepth 65536 in
theorem w_c9 : (Jvm.Cond.code ({ cls := "java/lang/StringUTF16", name := "compress", desc := "([CII)[B" } : Jvm.MethodName) jdk_52_method_16_code (6 : Nat) (Option.some (Jvm.ClassFile.FieldType.array Jvm.ClassFile.FieldType.byte))).before args0 about1 = true := code_word (m := ⟨10, 2⟩) (meth := k10m2) (c := k10c2) (by decide +kernel) rfl rfl rfl (by decide +kernel)
set_option maxRecDepth 65536 in
theorem w_c10 : (Jvm.Cond.code ({ cls := "java/lang/StringUTF16", name := "compress", desc := "([CI[BII)I" } : Jvm.MethodName) jdk_52_method_21_code (7 : Nat) (Option.some Jvm.ClassFile.FieldType.int)).before args0 about1 = true := code_word (m := ⟨10, 3⟩) (meth := k10m3) (c := k10c3) (by decide +kernel) rfl rfl rfl (by decide +kernel)
set_option maxRecDepth 65536 in
theorem w_c11 : (Jvm.Cond.code ({ cls := "java/lang/StringUTF16", name := "coderFromArrayLen", desc := "([BI)B" } : Jvm.MethodName) jdk_52_method_15_code (2 : Nat) (Option.some Jvm.ClassFile.FieldType.byte)).before args0 about1 = true := code_word (m := ⟨10, 1⟩) (meth := k10m1) (c := k10c1) (by decide +kernel) rfl rfl rfl (by decide +kernel)
set_option maxRecDepth 65536 in
theorem w_c12 : (Jvm.Cond.code ({ cls := "com/example/isolate_to_replay/isolatetoreplay/envelope/OriginEqualsPinLaw", name := "same", desc := "(IIIIII)Z" } : Jvm.MethodName) method_3_code (6 : Nat) (Option.some Jvm.ClassFile.FieldType.boolean)).before args0 about1 = true := code_word (m := ⟨1, 2⟩) (meth := k1m2) (c := k1c2) (by decide +kernel) rfl rfl rfl (by decide +kernel)
set_option maxRecDepth 65536 in
theorem w_c13 : (Jvm.Cond.code ({ cls := "java/lang/String", name := "equals", desc := "(Ljava/lang/Object;)Z" } : Jvm.MethodName) jdk_42_method_66_code (3 : Nat) (Option.some Jvm.ClassFile.FieldType.boolean)).before args0 about1 = true := code_word (m := ⟨8, 2⟩) (meth := k8m2) (c := k8c2) (by decide +kernel) rfl rfl rfl (by decide +kernel)
set_option maxRecDepth 65536 in
theorem w_c14 : (Jvm.Cond.code ({ cls := "java/lang/StringLatin1", name := "equals", desc := "([B[B)Z" } : Jvm.MethodName) jdk_43_method_13_code (3 : Nat) (Option.some Jvm.ClassFile.FieldType.boolean)).before args0 about1 = true := code_word (m := ⟨11, 1⟩) (meth := k11m1) (c := k11c1) (by decide +kernel) rfl rfl rfl (by decide +kernel)
def codes1 : List Jvm.Cond := [Jvm.Cond.code x code maxLocals ret, Jvm.Cond.code ({ cls := "com/example/isolate_to_replay/isolatetoreplay/envelope/OriginEqualsPinLaw", name := "pick", desc := "(IIII)I" } : Jvm.MethodName) method_4_code (4 : Nat) (Option.some Jvm.ClassFile.FieldType.int), Jvm.Cond.code ({ cls := "com/example/isolate_to_replay/isolatetoreplay/envelope/OriginEqualsPinLaw", name := "mk", desc := "(III)Ljava/lang/String;" } : Jvm.MethodName) method_2_code (3 : Nat) (Option.some (Jvm.ClassFile.FieldType.object "java/lang/String")), Jvm.Cond.code ({ cls := "java/lang/String", name := "<init>", desc := "([C)V" } : Jvm.MethodName) jdk_42_method_3_code (2 : Nat) (Option.none : Option Jvm.ClassFile.FieldType), Jvm.Cond.code ({ cls := "java/lang/String", name := "<init>", desc := "([CIILjava/lang/Void;)V" } : Jvm.MethodName) jdk_42_method_149_code (6 : Nat) (Option.none : Option Jvm.ClassFile.FieldType), Jvm.Cond.code ({ cls := "java/lang/Object", name := "<init>", desc := "()V" } : Jvm.MethodName) object_method_1_code (1 : Nat) (Option.none : Option Jvm.ClassFile.FieldType), Jvm.Cond.code ({ cls := "com/example/isolate_to_replay/isolatetoreplay/envelope/Origin", name := "<init>", desc := "(Ljava/lang/String;Ljava/lang/String;Ljava/lang/String;)V" } : Jvm.MethodName) prog_9_method_1_code (4 : Nat) (Option.none : Option Jvm.ClassFile.FieldType), Jvm.Cond.code ({ cls := "java/util/Objects", name := "requireNonNull", desc := "(Ljava/lang/Object;Ljava/lang/String;)Ljava/lang/Object;" } : Jvm.MethodName) jdk_31_method_11_code (2 : Nat) (Option.some (Jvm.ClassFile.FieldType.object "java/lang/Object")), Jvm.Cond.code ({ cls := "com/example/isolate_to_replay/isolatetoreplay/envelope/Origin", name := "equals", desc := "(Ljava/lang/Object;)Z" } : Jvm.MethodName) prog_9_method_5_code (3 : Nat) (Option.some Jvm.ClassFile.FieldType.boolean), Jvm.Cond.code ({ cls := "java/lang/StringUTF16", name := "compress", desc := "([CII)[B" } : Jvm.MethodName) jdk_52_method_16_code (6 : Nat) (Option.some (Jvm.ClassFile.FieldType.array Jvm.ClassFile.FieldType.byte)), Jvm.Cond.code ({ cls := "java/lang/StringUTF16", name := "compress", desc := "([CI[BII)I" } : Jvm.MethodName) jdk_52_method_21_code (7 : Nat) (Option.some Jvm.ClassFile.FieldType.int), Jvm.Cond.code ({ cls := "java/lang/StringUTF16", name := "coderFromArrayLen", desc := "([BI)B" } : Jvm.MethodName) jdk_52_method_15_code (2 : Nat) (Option.some Jvm.ClassFile.FieldType.byte), Jvm.Cond.code ({ cls := "com/example/isolate_to_replay/isolatetoreplay/envelope/OriginEqualsPinLaw", name := "same", desc := "(IIIIII)Z" } : Jvm.MethodName) method_3_code (6 : Nat) (Option.some Jvm.ClassFile.FieldType.boolean), Jvm.Cond.code ({ cls := "java/lang/String", name := "equals", desc := "(Ljava/lang/Object;)Z" } : Jvm.MethodName) jdk_42_method_66_code (3 : Nat) (Option.some Jvm.ClassFile.FieldType.boolean), Jvm.Cond.code ({ cls := "java/lang/StringLatin1", name := "equals", desc := "([B[B)Z" } : Jvm.MethodName) jdk_43_method_13_code (3 : Nat) (Option.some Jvm.ClassFile.FieldType.boolean)]
set_option maxRecDepth 65536 in
theorem codes_eq : words1.filter isCode = codes1 := rfl
theorem w_codes : ∀ c ∈ words1.filter isCode, c.before args0 about1 = true := by
  rw [codes_eq]
  intro c hc
  simp only [codes1, List.mem_cons, List.not_mem_nil, or_false] at hc
  rcases hc with rfl | rfl | rfl | rfl | rfl | rfl | rfl | rfl | rfl | rfl | rfl | rfl | rfl | rfl | rfl
  · exact w_c0
  · exact w_c1
  · exact w_c2
  · exact w_c3
  · exact w_c4
  · exact w_c5
  · exact w_c6
  · exact w_c7
  · exact w_c8
  · exact w_c9
  · exact w_c10
  · exact w_c11
  · exact w_c12
  · exact w_c13
  · exact w_c14
set_option maxRecDepth 65536 in
theorem w_t1 : (words1.take 24).all (fun c => isCode c || c.before args0 about1) = true := by decide +kernel
set_option maxRecDepth 65536 in
theorem w_t2 : ((words1.drop 24).take 24).all (fun c => isCode c || c.before args0 about1) = true := by decide +kernel
set_option maxRecDepth 65536 in
theorem w_t3 : (((words1.drop 24).drop 24).take 24).all (fun c => isCode c || c.before args0 about1) = true := by decide +kernel
set_option maxRecDepth 65536 in
theorem w_t4 : (((words1.drop 24).drop 24).drop 24).all (fun c => isCode c || c.before args0 about1) = true := by decide +kernel
theorem w_tables : (allAtoms (Jvm.Cond.code x code maxLocals ret :: tables_1)).before args0 about1 = true := by
  rw [allAtoms_all]
  show words1.all (fun c => c.before args0 about1) = true
  refine all_split ?_ w_codes
  rw [← List.take_append_drop 24 words1, List.all_append, w_t1, ← List.take_append_drop 24 (words1.drop 24), List.all_append, w_t2, ← List.take_append_drop 24 ((words1.drop 24).drop 24), List.all_append, w_t3, w_t4]
  rfl
set_option maxRecDepth 65536 in
theorem w_rest : rest_1_c.before args0 about1 = true := by decide +kernel
set_option maxRecDepth 65536 in
theorem w_case : (Jvm.Cond.and given_1 narrow_1).before args0 about1 = true := by decide +kernel
set_option maxRecDepth 65536 in
theorem w_consts : constsHeld consts_1 about1 := Jvm.Lit.constsHeldB_iff.mp (by decide +kernel)
theorem w_applies : (headSpec (Jvm.Cond.code x code maxLocals ret :: tables_1) room_1).applies x e0.platform about1 = true :=
  (Spec.applies_iff w_frames).mpr ⟨w_running, w_runnable, w_alone, w_named, w_hears, w_ripe, w_room, w_tables⟩
theorem atStart : AtStart classFile x code maxLocals ret World_1 tables_1 room_1 Calls_1 rest_1 Pre_1 launch0 p0 e0 about1 theMethod args0 below0 :=
  ⟨lists_1, trivial, launch0.admits_env _ _ _, launch0.least_env, fairChoices_fair.cas, fairChoices_fair.clock, w_frames, w_args, w_heap, w_applies, ⟨w_consts, trivial⟩, w_rest, w_case⟩
end start1
theorem witness_1 : WitnessClaimed_1 := ⟨start1.p0, start1.e0, start1.about1, start1.theMethod, start1.args0, start1.below0, start1.atStart⟩
end Jvm.Pilot.@@N@@
