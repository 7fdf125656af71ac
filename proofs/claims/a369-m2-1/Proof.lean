import JvmDerived
import JvmDerived.Pilot.@@N@@Statement
import JvmDerived.Pilot.@@N@@Code
set_option linter.unusedVariables false
set_option linter.unusedSimpArgs false
/- laws to paste: Road.backV, Road.eqW, Road.codOf (cut by pick.py; bodies as the Statement names them) -/
namespace Jvm.Pilot.@@N@@
namespace StrChars
open Jvm Sem ClassFile Op Lib Jvm.Stand Jvm.Free.XT Jvm.Free.ALB Jvm.Free.JM Jvm.Free
open Jvm.Lib.Cold (StaticIs)
/-- a char array whose places are chars -/
def Ch (a : Addr) (A : Cell) (U : State) : Prop := Arr .char a A U ∧ Typed .char A
theorem Ch.mv {a : Addr} {A : Cell} {U U' : State} (h : Ch a A U) (hal : U.vm.Alike U'.vm) (hh : U'.heap = U.heap) : Ch a A U' := ⟨h.1.mv hal hh, h.2⟩
theorem Ch.keep {a : Addr} {A : Cell} {U U' : State} (h : Ch a A U) (hal : U.vm.Alike U'.vm) (hk : U'.heap[a]? = some A) : Ch a A U' := ⟨h.1.keep hal hk, h.2⟩
/-- what place i of a char[]'s cell holds -/
def cv (A : Cell) (i : Nat) : Int32 := match A.slots[i]? with | some (.int x) => x | _ => 0
theorem Ch.get {a : Addr} {A : Cell} {U : State} (h : Ch a A U) {i : Nat} (hi : i < A.slots.size) : A.slots[i]? = some (.int (cv A i)) := by
  have e := Array.getElem?_eq_getElem hi
  have f := h.2 i _ e
  unfold cv; rw [e]
  generalize A.slots[i] = v at f
  cases v <;> simp [fits] at f ⊢
/-- the byte that i2b leaves of a char -/
def lo8 (x : Int32) : Int32 := x.toInt8.toInt32
theorem fits_lo8 (y : Int32) : fits .byte (.int (lo8 y)) = true := by
  have h1 := y.toInt8.le_toInt
  have h2 := y.toInt8.toInt_lt
  simp only [lo8, fits, Bool.and_eq_true, decide_eq_true_eq, Int32.le_iff_toInt_le, Int8.toInt_toInt32, show (-128 : Int32).toInt = -128 from by decide, show (127 : Int32).toInt = 127 from by decide]
  omega
/-- A' is A but that each place j of lo .. hi - 1 holds f j -/
def Laid (A A' : Cell) (lo hi : Nat) (f : Nat → Value) : Prop := A'.cls = A.cls ∧ A'.vm = A.vm ∧ A'.slots.size = A.slots.size ∧ ∀ i, A'.slots[i]? = if lo ≤ i ∧ i < hi then some (f i) else A.slots[i]?
theorem Laid.zero (A : Cell) (lo : Nat) (f : Nat → Value) : Laid A A lo (lo + 0) f := ⟨rfl, rfl, rfl, fun i => by rw [if_neg (by omega)]⟩
theorem Laid.step {A Ak : Cell} {lo k : Nat} {f : Nat → Value} {v : Value} (h : Laid A Ak lo k f) (hlo : lo ≤ k) (hk : k < Ak.slots.size) (hv : v = f k) : Laid A (Ak.setSlot k v) lo (k + 1) f := by
  refine ⟨h.1, h.2.1, by simpa [Cell.setSlot] using h.2.2.1, fun i => ?_⟩
  by_cases e : k = i
  · subst e; rw [Cell.slots_setSlot_self v hk, if_pos (by omega), hv]
  · rw [Cell.slots_setSlot_ne v e, h.2.2.2 i]
    by_cases q : lo ≤ i ∧ i < k
    · rw [if_pos q, if_pos (by omega)]
    · rw [if_neg q, if_neg (by omega)]
def U16 : String := "java/lang/StringUTF16"
namespace Cmp5
def yN : MethodName := ⟨"java/lang/StringUTF16", "compress", "([CI[BII)I"⟩
abbrev yB : ByteArray := jdk_52_method_21_code
theorem d0 : decode yB 0 = .ok (.iconst 0, 1) := by decide +kernel
theorem d1 : decode yB 1 = .ok (.istore 5, 2) := by decide +kernel
theorem d3 : decode yB 3 = .ok (.iload 5, 2) := by decide +kernel
theorem d5 : decode yB 5 = .ok (.iload 4, 2) := by decide +kernel
theorem d7 : decode yB 7 = .ok (.if_icmp (.ge) 37, 3) := by decide +kernel
theorem d10 : decode yB 10 = .ok (.aload_n 0, 1) := by decide +kernel
theorem d11 : decode yB 11 = .ok (.iload_n 1, 1) := by decide +kernel
theorem d12 : decode yB 12 = .ok (.caload, 1) := by decide +kernel
theorem d13 : decode yB 13 = .ok (.istore 6, 2) := by decide +kernel
theorem d15 : decode yB 15 = .ok (.iload 6, 2) := by decide +kernel
theorem d17 : decode yB 17 = .ok (.sipush 255, 3) := by decide +kernel
theorem d20 : decode yB 20 = .ok (.if_icmp (.le) 6, 3) := by decide +kernel
theorem d26 : decode yB 26 = .ok (.aload_n 2, 1) := by decide +kernel
theorem d27 : decode yB 27 = .ok (.iload_n 3, 1) := by decide +kernel
theorem d28 : decode yB 28 = .ok (.iload 6, 2) := by decide +kernel
theorem d30 : decode yB 30 = .ok (.i2b, 1) := by decide +kernel
theorem d31 : decode yB 31 = .ok (.bastore, 1) := by decide +kernel
theorem d32 : decode yB 32 = .ok (.iinc 1 1, 3) := by decide +kernel
theorem d35 : decode yB 35 = .ok (.iinc 3 1, 3) := by decide +kernel
theorem d38 : decode yB 38 = .ok (.iinc 5 1, 3) := by decide +kernel
theorem d41 : decode yB 41 = .ok (.goto (-38), 3) := by decide +kernel
theorem d44 : decode yB 44 = .ok (.iload 4, 2) := by decide +kernel
theorem d46 : decode yB 46 = .ok (.ireturn, 1) := by decide +kernel
def site : List Cond := []
def tab : Cond := tabOf yN yB 7 (some .int) site
def P (b : Addr) (A : Cell) (d : Addr) (B : Cell) (o q len : Nat) (args : Array Value) (s : State) : Prop := args = #[.ref b, .int (Int32.ofNat o), .ref d, .int (Int32.ofNat q), .int (Int32.ofNat len)] ∧ Ch b A s ∧ Arr .byte d B s ∧ b ≠ d ∧ o + len ≤ A.slots.size ∧ q + len ≤ B.slots.size ∧ ∀ i, i < len → ¬ 255 < cv A (o + i)
def E (b : Addr) (A : Cell) (d : Addr) (B : Cell) (o q len : Nat) (r : Option Value) (s u : State) : Prop := r = some (.int (Int32.ofNat len)) ∧ ∃ B', Put d B' s u ∧ Laid B B' q (q + len) (fun j => Value.int (lo8 (cv A (o + (j - q)))))
/-- no char of the range above 255: len; the places written hold each char's low byte -/
theorem law (l : Launch) (b : Addr) (A : Cell) (d : Addr) (B : Cell) (o q len : Nat) : Law l yN 5 5 0 0 yB 7 (some .int) site (P b A d B o q len) (E b A d B o q len) (copyLocs d q len) 0 0 := by
  refine Law.of_walk (plainFor_of_name (by decide +kernel)) (by decide +kernel) (by decide +kernel) (by decide) (fun _ _ h => by rw [h.1]; rfl) (fun _ U U' hal hh h => ⟨h.1, h.2.1.mv hal hh, h.2.2.1.mv hal hh, h.2.2.2⟩) (fun r U U' V V' h1 hal h2 h => ⟨h.1, h.2.elim fun B' q => ⟨B', q.1.mv h1 h2, q.2⟩⟩) ?_
  intro p e s m args below meth c s₁ X0 hexec hbytes hml hret hlk hnm hown hh0 W hP
  obtain ⟨rfl, hA, hB, hne, l1, l2, hp⟩ := hP
  have c1 : Steps p.tables e below (s₁.setTop (entryFrame m #[.ref b, .int (Int32.ofNat o), .ref d, .int (Int32.ofNat q), .int (Int32.ofNat len)] 7)) (s₁.setTop (mkF m 0 #[.val (.ref b), .val (.int (Int32.ofNat o)), .val (.ref d), .val (.int (Int32.ofNat q)), .val (.int (Int32.ofNat len)), .unset, .unset] [])) := entry rfl
  have hA0 := hA.1.mv X0.warmed.alike hh0
  have hB0 := hB.mv X0.warmed.alike hh0
  have a31 := hA.1.2.2.2
  have c2 : Steps p.tables e below (s₁.setTop (entryFrame m #[.ref b, .int (Int32.ofNat o), .ref d, .int (Int32.ofNat q), .int (Int32.ofNat len)] 7)) (s₁.setTop (mkF m 3 #[.val (.ref b), .val (.int (Int32.ofNat o)), .val (.ref d), .val (.int (Int32.ofNat q)), .val (.int (Int32.ofNat len)), .val (.int 0), .unset] [])) := c1.trans (by
    refine iconstV X0.here hexec rfl 0 (hb hbytes d0) (by decide) ?_
    refine XS.istore X0.here hexec rfl (hb hbytes d1) rfl rfl ?_
    exact Steps.refl _)
  have loop : ∀ (r i : Nat), i + r = len → ∀ (z : Slot), (z = .unset ∨ ∃ w, z = .val w ∧ w.category = 1) → ∀ (Tl : State) (Bk : Cell), Stand p l e { frames := 0, locals := 0, cells := 0, slots := 0 } s m #[.ref b, .int (Int32.ofNat o), .ref d, .int (Int32.ofNat q), .int (Int32.ofNat len)] below meth c Tl ([] ++ copyLocs d q i) 0 0 → Put d Bk s₁ Tl → Laid B Bk q (q + i) (fun j => Value.int (lo8 (cv A (o + (j - q))))) →
      Steps p.tables e below (s₁.setTop (entryFrame m #[.ref b, .int (Int32.ofNat o), .ref d, .int (Int32.ofNat q), .int (Int32.ofNat len)] 7)) (Tl.setTop (mkF m 3 #[.val (.ref b), .val (.int (Int32.ofNat (o + i))), .val (.ref d), .val (.int (Int32.ofNat (q + i))), .val (.int (Int32.ofNat len)), .val (.int (Int32.ofNat i)), z] [])) → ∃ (T' : State) (B' : Cell) (z' : Slot), Stand p l e { frames := 0, locals := 0, cells := 0, slots := 0 } s m #[.ref b, .int (Int32.ofNat o), .ref d, .int (Int32.ofNat q), .int (Int32.ofNat len)] below meth c T' ([] ++ copyLocs d q len) 0 0 ∧ Put d B' s₁ T' ∧ Laid B B' q (q + len) (fun j => Value.int (lo8 (cv A (o + (j - q))))) ∧
      Steps p.tables e below (s₁.setTop (entryFrame m #[.ref b, .int (Int32.ofNat o), .ref d, .int (Int32.ofNat q), .int (Int32.ofNat len)] 7)) (T'.setTop (mkF m 3 #[.val (.ref b), .val (.int (Int32.ofNat (o + len))), .val (.ref d), .val (.int (Int32.ofNat (q + len))), .val (.int (Int32.ofNat len)), .val (.int (Int32.ofNat len)), z'] [])) := by
    intro r
    induction r with
    | zero =>
      intro i hi z hz Tl Bk Xl pl fl cl
      have hil : i = len := by omega
      rw [hil] at Xl fl cl
      exact ⟨Tl, Bk, z, Xl, pl, fl, cl⟩
    | succ r ih =>
      intro i hi z hz Tl Bk Xl pl fl cl
      have all := X0.warmed.alike.symm.trans Xl.warmed.alike
      have hAl := hA0.keep all (pl.other hne hA0.1)
      have hBk := hB0.like all pl.1 fl.1 fl.2.1 fl.2.2.1
      have hlt : q + i < Bk.slots.size := by rw [fl.2.2.1]; omega
      have c3 : Steps p.tables e below (s₁.setTop (entryFrame m #[.ref b, .int (Int32.ofNat o), .ref d, .int (Int32.ofNat q), .int (Int32.ofNat len)] 7)) (Tl.setTop (mkF m 12 #[.val (.ref b), .val (.int (Int32.ofNat (o + i))), .val (.ref d), .val (.int (Int32.ofNat (q + i))), .val (.int (Int32.ofNat len)), .val (.int (Int32.ofNat i)), z] [.int (Int32.ofNat (o + i)), .ref b])) := cl.trans (by
        refine XS.iload Xl.here hexec rfl (hb hbytes d3) rfl ?_
        refine XS.iload Xl.here hexec rfl (hb hbytes d5) rfl ?_
        refine XS.icmpNo Xl.here hexec rfl (hb hbytes d7) rfl (ii_ge_f (lt32 (by omega) (by omega))) ?_
        refine XS.aloadN Xl.here hexec rfl (hb hbytes d10) rfl rfl ?_
        refine XS.iloadN Xl.here hexec rfl (hb hbytes d11) rfl ?_
        exact Steps.refl _)
      have c4 : Steps p.tables e below (s₁.setTop (entryFrame m #[.ref b, .int (Int32.ofNat o), .ref d, .int (Int32.ofNat q), .int (Int32.ofNat len)] 7)) (Tl.setTop (mkF m 13 #[.val (.ref b), .val (.int (Int32.ofNat (o + i))), .val (.ref d), .val (.int (Int32.ofNat (q + i))), .val (.int (Int32.ofNat len)), .val (.int (Int32.ofNat i)), z] [.int (cv A (o + i))])) := c3.trans (by
        refine Xl.aget hexec hAl rfl (hA.get (i := o + i) (by omega)) rfl rfl (hb hbytes d12) ?_
        exact Steps.refl _)
      have c5 : Steps p.tables e below (s₁.setTop (entryFrame m #[.ref b, .int (Int32.ofNat o), .ref d, .int (Int32.ofNat q), .int (Int32.ofNat len)] 7)) (Tl.setTop (mkF m 15 #[.val (.ref b), .val (.int (Int32.ofNat (o + i))), .val (.ref d), .val (.int (Int32.ofNat (q + i))), .val (.int (Int32.ofNat len)), .val (.int (Int32.ofNat i)), .val (.int (cv A (o + i)))] [])) := c4.trans (by
        refine XS.istoreS Xl.here hexec rfl (hb hbytes d13) rfl rfl hz ?_
        exact Steps.refl _)
      have c6 : Steps p.tables e below (s₁.setTop (entryFrame m #[.ref b, .int (Int32.ofNat o), .ref d, .int (Int32.ofNat q), .int (Int32.ofNat len)] 7)) (Tl.setTop (mkF m 31 #[.val (.ref b), .val (.int (Int32.ofNat (o + i))), .val (.ref d), .val (.int (Int32.ofNat (q + i))), .val (.int (Int32.ofNat len)), .val (.int (Int32.ofNat i)), .val (.int (cv A (o + i)))] [.int (lo8 (cv A (o + i))), .int (Int32.ofNat (q + i)), .ref d])) := c5.trans (by
        refine XS.iload Xl.here hexec rfl (hb hbytes d15) rfl ?_
        refine sipushV Xl.here hexec rfl 255 (hb hbytes d17) (by decide) ?_
        refine XS.icmpYes Xl.here hexec rfl (pc0 := 20) rfl (hb hbytes d20) rfl (ii_le_t (hp i (by omega))) (by decide) rfl ?_
        refine XS.aloadN Xl.here hexec rfl (hb hbytes d26) rfl rfl ?_
        refine XS.iloadN Xl.here hexec rfl (hb hbytes d27) rfl ?_
        refine XS.iload Xl.here hexec rfl (hb hbytes d28) rfl ?_
        refine i2b Xl.here hexec rfl (hb hbytes d30) rfl ?_
        exact Steps.refl _)
      obtain ⟨T7, X7, p7, st7⟩ := Xl.aput hexec hBk rfl hlt rfl (fits_lo8 (cv A (o + i))) (g := (mkF m 31 #[.val (.ref b), .val (.int (Int32.ofNat (o + i))), .val (.ref d), .val (.int (Int32.ofNat (q + i))), .val (.int (Int32.ofNat len)), .val (.int (Int32.ofNat i)), .val (.int (cv A (o + i)))] [.int (lo8 (cv A (o + i))), .int (Int32.ofNat (q + i)), .ref d])) rfl (rest := []) rfl (hb hbytes d31)
      have c8 : Steps p.tables e below (s₁.setTop (entryFrame m #[.ref b, .int (Int32.ofNat o), .ref d, .int (Int32.ofNat q), .int (Int32.ofNat len)] 7)) (T7.setTop (mkF m 32 #[.val (.ref b), .val (.int (Int32.ofNat (o + i))), .val (.ref d), .val (.int (Int32.ofNat (q + i))), .val (.int (Int32.ofNat len)), .val (.int (Int32.ofNat i)), .val (.int (cv A (o + i)))] [])) := c6.trans (st7 _ (Steps.refl _))
      have c9 : Steps p.tables e below (s₁.setTop (entryFrame m #[.ref b, .int (Int32.ofNat o), .ref d, .int (Int32.ofNat q), .int (Int32.ofNat len)] 7)) (T7.setTop (mkF m 3 #[.val (.ref b), .val (.int (Int32.ofNat (o + i) + 1)), .val (.ref d), .val (.int (Int32.ofNat (q + i) + 1)), .val (.int (Int32.ofNat len)), .val (.int (Int32.ofNat i + 1)), .val (.int (cv A (o + i)))] [])) := c8.trans (by
        refine iincV X7.here hexec rfl 1 (hb hbytes d32) (by decide) rfl rfl ?_
        refine iincV X7.here hexec rfl 1 (hb hbytes d35) (by decide) rfl rfl ?_
        refine iincV X7.here hexec rfl 1 (hb hbytes d38) (by decide) rfl rfl ?_
        refine XS.goto X7.here hexec rfl (pc0 := 41) rfl (hb hbytes d41) (by decide) rfl ?_
        exact Steps.refl _)
      have c10 : Steps p.tables e below (s₁.setTop (entryFrame m #[.ref b, .int (Int32.ofNat o), .ref d, .int (Int32.ofNat q), .int (Int32.ofNat len)] 7)) (T7.setTop (mkF m 3 #[.val (.ref b), .val (.int (Int32.ofNat (o + (i + 1)))), .val (.ref d), .val (.int (Int32.ofNat (q + (i + 1)))), .val (.int (Int32.ofNat len)), .val (.int (Int32.ofNat (i + 1))), .val (.int (cv A (o + i)))] [])) := by
        have := c9
        rw [succ32, succ32, succ32] at this
        exact this
      exact ih (i + 1) (by omega) _ (Or.inr ⟨_, rfl, rfl⟩) T7 _ (by rw [copyLocs_step, ← List.append_assoc]; exact X7) (pl.trans p7) (fl.step (by omega) hlt (by simp)) c10
  obtain ⟨T9, B9, z9, X9, p9, f9, g9⟩ := loop len 0 (by omega) .unset (Or.inl rfl) s₁ B (by simpa [copyLocs] using X0) ⟨hB0.1, fun _ _ => rfl, rfl⟩ (Laid.zero _ _ _) c2
  have c11 : Steps p.tables e below (s₁.setTop (entryFrame m #[.ref b, .int (Int32.ofNat o), .ref d, .int (Int32.ofNat q), .int (Int32.ofNat len)] 7)) (T9.setTop (mkF m 46 #[.val (.ref b), .val (.int (Int32.ofNat (o + len))), .val (.ref d), .val (.int (Int32.ofNat (q + len))), .val (.int (Int32.ofNat len)), .val (.int (Int32.ofNat len)), z9] [.int (Int32.ofNat len)])) := g9.trans (by
    refine XS.iload X9.here hexec rfl (hb hbytes d3) rfl ?_
    refine XS.iload X9.here hexec rfl (hb hbytes d5) rfl ?_
    refine XS.icmpYes X9.here hexec rfl (pc0 := 7) rfl (hb hbytes d7) rfl (ii_ge_t (nlt32 (by omega) (Nat.le_refl _))) (by decide) rfl ?_
    refine XS.iload X9.here hexec rfl (hb hbytes d44) rfl ?_
    exact Steps.refl _)
  exact ⟨T9, some (.int (Int32.ofNat len)), _, _, _, X9, by simp, rfl, rfl, (fun h => by cases h), ⟨rfl, B9, p9.from hh0, f9⟩, fun fs hl => c11.trans (X9.ireturnOut hexec hret rfl (Or.inl rfl) (hb hbytes d46) hl)⟩
end Cmp5
namespace Cmp3
def yN : MethodName := ⟨"java/lang/StringUTF16", "compress", "([CII)[B"⟩
abbrev yB : ByteArray := jdk_52_method_16_code
theorem d0 : decode yB 0 = .ok (.iload_n 2, 1) := by decide +kernel
theorem d1 : decode yB 1 = .ok (.newarray .byte, 2) := by decide +kernel
theorem d3 : decode yB 3 = .ok (.astore_n 3, 1) := by decide +kernel
theorem d4 : decode yB 4 = .ok (.aload_n 0, 1) := by decide +kernel
theorem d5 : decode yB 5 = .ok (.iload_n 1, 1) := by decide +kernel
theorem d6 : decode yB 6 = .ok (.aload_n 3, 1) := by decide +kernel
theorem d7 : decode yB 7 = .ok (.iconst 0, 1) := by decide +kernel
theorem d8 : decode yB 8 = .ok (.iload_n 2, 1) := by decide +kernel
theorem d9 : decode yB 9 = .ok (.invokestatic 115, 3) := by decide +kernel
theorem d12 : decode yB 12 = .ok (.istore 4, 2) := by decide +kernel
theorem d14 : decode yB 14 = .ok (.iload 4, 2) := by decide +kernel
theorem d16 : decode yB 16 = .ok (.iload_n 2, 1) := by decide +kernel
theorem d17 : decode yB 17 = .ok (.if_icmp (.eq) 40, 3) := by decide +kernel
theorem d57 : decode yB 57 = .ok (.aload_n 3, 1) := by decide +kernel
theorem d58 : decode yB 58 = .ok (.areturn, 1) := by decide +kernel
def site : List Cond := [.arrayClass .byte, Cmp5.tab] ++ staticW U16 115 Cmp5.yN
def tab : Cond := tabOf yN yB 6 (some (.array .byte)) site
def P (b : Addr) (A : Cell) (o len : Nat) (args : Array Value) (s : State) : Prop := args = #[.ref b, .int (Int32.ofNat o), .int (Int32.ofNat len)] ∧ Ch b A s ∧ o + len ≤ A.slots.size ∧ len ≤ 536870912 ∧ ∀ i, i < len → ¬ 255 < cv A (o + i)
def E (b : Addr) (A : Cell) (o len : Nat) (r : Option Value) (s u : State) : Prop := NewArr .byte "[B" len (fun j => .int (lo8 (cv A (o + j)))) r s u ∧ u.heap.size = s.heap.size + 1
/-- no char of the range above 255: a new byte[] of their low bytes -/
theorem law (l : Launch) (b : Addr) (A : Cell) (o len : Nat) : Law l yN 3 3 1 18 yB 6 (some (.array .byte)) site (P b A o len) (E b A o len) [] 1 len := by
  refine Law.of_walk (plainFor_of_name (by decide +kernel)) (by decide +kernel) (by decide +kernel) (by decide) (fun _ _ h => by rw [h.1]; rfl) (fun _ U U' hal hh h => ⟨h.1, h.2.1.mv hal hh, h.2.2⟩) (fun r U U' V V' h1 hal h2 h => ⟨NewArr.mv r U U' V V' h1 hal h2 h.1, by rw [h1, h2]; exact h.2⟩) ?_
  intro p e s m args below meth c s₁ X0 hexec hbytes hml hret hlk hnm hown hh0 W hP
  obtain ⟨rfl, hA, l1, l2, hp⟩ := hP
  have a31 := hA.1.2.2.2
  have c1 : Steps p.tables e below (s₁.setTop (entryFrame m #[.ref b, .int (Int32.ofNat o), .int (Int32.ofNat len)] 6)) (s₁.setTop (mkF m 0 #[.val (.ref b), .val (.int (Int32.ofNat o)), .val (.int (Int32.ofNat len)), .unset, .unset, .unset] [])) := entry rfl
  have c2 : Steps p.tables e below (s₁.setTop (entryFrame m #[.ref b, .int (Int32.ofNat o), .int (Int32.ofNat len)] 6)) (s₁.setTop (mkF m 1 #[.val (.ref b), .val (.int (Int32.ofNat o)), .val (.int (Int32.ofNat len)), .unset, .unset, .unset] [.int (Int32.ofNat len)])) := c1.trans (by
    refine XS.iloadN X0.here hexec rfl (hb hbytes d0) rfl ?_
    exact Steps.refl _)
  obtain ⟨T3, B3, X3, ba3, bs3, bv3, bh3, bf3, st3⟩ := X0.anew hexec (atype := .byte) (wk W (.arrayClass .byte)) rfl (by show len * 1 ≤ _; omega) (by omega) (g := (mkF m 1 #[.val (.ref b), .val (.int (Int32.ofNat o)), .val (.int (Int32.ofNat len)), .unset, .unset, .unset] [.int (Int32.ofNat len)])) rfl (hb hbytes d1) (rest := []) rfl (Nat.le_refl _) (by show 0 + len ≤ len; omega)
  rw [hh0] at ba3 st3
  have kp3 : XT.Kept s T3 := (XT.Kept.of_eq hh0).push bh3
  have hA3 := hA.keep X3.warmed.alike (kp3 _ _ hA.1.1)
  have hne : b ≠ s.heap.size := hA.1.ne
  have c4 : Steps p.tables e below (s₁.setTop (entryFrame m #[.ref b, .int (Int32.ofNat o), .int (Int32.ofNat len)] 6)) (T3.setTop (mkF m 3 #[.val (.ref b), .val (.int (Int32.ofNat o)), .val (.int (Int32.ofNat len)), .unset, .unset, .unset] [.ref s.heap.size])) := c2.trans (st3 _ (Steps.refl _))
  have c5 : Steps p.tables e below (s₁.setTop (entryFrame m #[.ref b, .int (Int32.ofNat o), .int (Int32.ofNat len)] 6)) (T3.setTop (mkF m 9 #[.val (.ref b), .val (.int (Int32.ofNat o)), .val (.int (Int32.ofNat len)), .val (.ref s.heap.size), .unset, .unset] [.int (Int32.ofNat len), .int 0, .ref s.heap.size, .int (Int32.ofNat o), .ref b])) := c4.trans (by
    refine XS.astoreN X3.here hexec rfl (hb hbytes d3) rfl rfl rfl ?_
    refine XS.aloadN X3.here hexec rfl (hb hbytes d4) rfl rfl ?_
    refine XS.iloadN X3.here hexec rfl (hb hbytes d5) rfl ?_
    refine XS.aloadN X3.here hexec rfl (hb hbytes d6) rfl rfl ?_
    refine iconstV X3.here hexec rfl 0 (hb hbytes d7) (by decide) ?_
    refine XS.iloadN X3.here hexec rfl (hb hbytes d8) rfl ?_
    exact Steps.refl _)
  obtain ⟨v6, T6, X6, E6, g6⟩ := X3.callS hexec (Cmp5.law l b A s.heap.size B3 o 0 len) hown (wks W (staticW U16 115 Cmp5.yN)) (wk W Cmp5.tab) (W := 0) (Nat.le_of_ble_eq_true rfl) (Nat.le_of_ble_eq_true rfl) (Nat.le_refl _) (by show 0 + len + 0 ≤ len; omega) (g := (mkF m 9 #[.val (.ref b), .val (.int (Int32.ofNat o)), .val (.int (Int32.ofNat len)), .val (.ref s.heap.size), .unset, .unset] [.int (Int32.ofNat len), .int (Int32.ofNat 0), .ref s.heap.size, .int (Int32.ofNat o), .ref b])) rfl (by rw [hml]; rfl) c5 (argsL := [.ref b, .int (Int32.ofNat o), .ref s.heap.size, .int (Int32.ofNat 0), .int (Int32.ofNat len)]) (rest := []) rfl rfl (by show 2 * 0 + 0 ≤ _; decide) (hb hbytes d9) (⟨rfl, hA3, ba3, hne, l1, by rw [bs3]; simp, hp⟩)
  obtain ⟨rfl, B6, p6, f6⟩ := E6
  have c7 : Steps p.tables e below (s₁.setTop (entryFrame m #[.ref b, .int (Int32.ofNat o), .int (Int32.ofNat len)] 6)) (T6.setTop (mkF m 12 #[.val (.ref b), .val (.int (Int32.ofNat o)), .val (.int (Int32.ofNat len)), .val (.ref s.heap.size), .unset, .unset] [.int (Int32.ofNat len)])) := g6
  have c8 : Steps p.tables e below (s₁.setTop (entryFrame m #[.ref b, .int (Int32.ofNat o), .int (Int32.ofNat len)] 6)) (T6.setTop (mkF m 58 #[.val (.ref b), .val (.int (Int32.ofNat o)), .val (.int (Int32.ofNat len)), .val (.ref s.heap.size), .val (.int (Int32.ofNat len)), .unset] [.ref s.heap.size])) := c7.trans (by
    refine XS.istore X6.here hexec rfl (hb hbytes d12) rfl rfl ?_
    refine XS.iload X6.here hexec rfl (hb hbytes d14) rfl ?_
    refine XS.iloadN X6.here hexec rfl (hb hbytes d16) rfl ?_
    refine XS.icmpYes X6.here hexec rfl (pc0 := 17) rfl (hb hbytes d17) rfl (ii_eq_t rfl) (by decide) rfl ?_
    refine XS.aloadN X6.here hexec rfl (hb hbytes d57) rfl rfl ?_
    exact Steps.refl _)
  have X8 := X6.wide (L' := []) (cells' := 1) (slots' := len) (fun x hx hlt => by
    simp only [List.nil_append, copyLocs, List.mem_map, List.mem_range] at hx
    obtain ⟨i, -, rfl⟩ := hx
    exact absurd hlt (Nat.lt_irrefl _)) (Nat.le_refl _) (by omega)
  exact ⟨T6, some (.ref s.heap.size), _, _, _, X8, rfl, rfl, rfl, (fun h => by cases h), ⟨⟨rfl, B6, ba3.like (X3.warmed.alike.symm.trans X6.warmed.alike) p6.1 f6.1 f6.2.1 f6.2.2.1, f6.2.1.trans bv3, by rw [X6.warmed.alike.findClass, f6.1]; exact bf3, by rw [f6.2.2.1, bs3]; simp, fun j hj => by rw [f6.2.2.2 j, if_pos (by omega)]; rfl, kp3.put p6 (Nat.le_refl _)⟩, by rw [p6.2.2, bh3, hh0]; simp⟩, fun fs hl => c8.trans (X8.areturnOut hexec rfl hret rfl (hb hbytes d58) hl)⟩
end Cmp3
namespace CodL
def yN : MethodName := ⟨"java/lang/StringUTF16", "coderFromArrayLen", "([BI)B"⟩
abbrev yB : ByteArray := jdk_52_method_15_code
theorem d0 : decode yB 0 = .ok (.iload_n 1, 1) := by decide +kernel
theorem d1 : decode yB 1 = .ok (.aload_n 0, 1) := by decide +kernel
theorem d2 : decode yB 2 = .ok (.arraylength, 1) := by decide +kernel
theorem d3 : decode yB 3 = .ok (.isub, 1) := by decide +kernel
theorem d4 : decode yB 4 = .ok (.bipush 31, 2) := by decide +kernel
theorem d6 : decode yB 6 = .ok (.iushr, 1) := by decide +kernel
theorem d7 : decode yB 7 = .ok (.i2b, 1) := by decide +kernel
theorem d8 : decode yB 8 = .ok (.ireturn, 1) := by decide +kernel
def site : List Cond := []
def tab : Cond := tabOf yN yB 2 (some .byte) site
def P (d : Addr) (B : Cell) (args : Array Value) (s : State) : Prop := args = #[.ref d, .int (Int32.ofNat B.slots.size)] ∧ Arr .byte d B s
def E (r : Option Value) (s u : State) : Prop := XT.PureE (some (.int 0)) r s u
/-- an array as long as the number of chars: LATIN1 -/
theorem law (l : Launch) (d : Addr) (B : Cell) : Law l yN 2 2 0 0 yB 2 (some .byte) site (P d B) E [] 0 0 := by
  refine Law.of_walk (plainFor_of_name (by decide +kernel)) (by decide +kernel) (by decide +kernel) (by decide) (fun _ _ h => by rw [h.1]; rfl) (fun _ U U' hal hh h => ⟨h.1, h.2.mv hal hh⟩) (fun r U U' V V' h1 hal h2 h => XT.PureE.mv r U U' V V' h1 hal h2 h) ?_
  intro p e s m args below meth c s₁ X0 hexec hbytes hml hret hlk hnm hown hh0 W hP
  obtain ⟨rfl, hB⟩ := hP
  have hB0 := hB.mv X0.warmed.alike hh0
  have c1 : Steps p.tables e below (s₁.setTop (entryFrame m #[.ref d, .int (Int32.ofNat B.slots.size)] 2)) (s₁.setTop (mkF m 0 #[.val (.ref d), .val (.int (Int32.ofNat B.slots.size))] [])) := entry rfl
  have c2 : Steps p.tables e below (s₁.setTop (entryFrame m #[.ref d, .int (Int32.ofNat B.slots.size)] 2)) (s₁.setTop (mkF m 2 #[.val (.ref d), .val (.int (Int32.ofNat B.slots.size))] [.ref d, .int (Int32.ofNat B.slots.size)])) := c1.trans (by
    refine XS.iloadN X0.here hexec rfl (hb hbytes d0) rfl ?_
    refine XS.aloadN X0.here hexec rfl (hb hbytes d1) rfl rfl ?_
    exact Steps.refl _)
  have c3 : Steps p.tables e below (s₁.setTop (entryFrame m #[.ref d, .int (Int32.ofNat B.slots.size)] 2)) (s₁.setTop (mkF m 8 #[.val (.ref d), .val (.int (Int32.ofNat B.slots.size))] [.int (lo8 (ushr (Int32.ofNat B.slots.size - Int32.ofNat B.slots.size) 31))])) := c2.trans (by
    refine X0.alen hexec hB0 rfl rfl (hb hbytes d2) ?_
    refine XS.isub X0.here hexec rfl (hb hbytes d3) rfl ?_
    refine bipushV X0.here hexec rfl 31 (hb hbytes d4) (by decide) ?_
    refine iushr X0.here hexec rfl (hb hbytes d6) rfl ?_
    refine i2b X0.here hexec rfl (hb hbytes d7) rfl ?_
    exact Steps.refl _)
  have e0 : lo8 (ushr (Int32.ofNat B.slots.size - Int32.ofNat B.slots.size) 31) = 0 := by rw [Int32.sub_self]; decide
  rw [e0] at c3
  exact ⟨s₁, some (.int 0), _, _, _, X0, rfl, rfl, rfl, (fun h => by cases h), ⟨rfl, hh0⟩, fun fs hl => c3.trans (X0.ireturnOut hexec hret rfl (Or.inr (Or.inr (Or.inl rfl))) (hb hbytes d8) hl)⟩
end CodL
/-- the String at a is Latin-1 over a new byte[] (the heap's one new cell): the low bytes of the len chars of A from o on; every cell but a is kept -/
def Got (a : Addr) (D : Cell) (fV fC : Field) (A : Cell) (o len : Nat) (r : Option Value) (s u : State) : Prop := r = none ∧ ∃ D' V : Cell, Blank "java/lang/String" a D' u ∧ Same D D' [fV.slot, fC.slot] ∧ D'.slots[fV.slot]? = some (.ref s.heap.size) ∧ D'.slots[fC.slot]? = some (.int 0) ∧ Arr .byte s.heap.size V u ∧ V.vm = .none ∧ u.vm.findClass "[B" = some V.cls ∧ V.slots.size = len ∧ (∀ j, j < len → V.slots[j]? = some (.int (lo8 (cv A (o + j))))) ∧ (∀ (y : Addr) (c : Cell), y ≠ a → s.heap[y]? = some c → u.heap[y]? = some c) ∧ u.heap.size = s.heap.size + 1
theorem Got.mv {a : Addr} {D A : Cell} {fV fC : Field} {o len : Nat} : ∀ r (U U' V V' : State), U'.heap = U.heap → V.vm.Alike V'.vm → V'.heap = V.heap → Got a D fV fC A o len r U V → Got a D fV fC A o len r U' V' :=
  fun r U U' V V' h1 hal h2 ⟨e0, D', X, a1, a2, a3, a4, a5, a6, a7, a8, a9, a10, a11⟩ => ⟨e0, D', X, a1.mv hal h2, a2, by rw [h1]; exact a3, a4, by rw [h1]; exact a5.mv hal h2, a6, by rw [hal.findClass]; exact a7, a8, a9, by rw [h1, h2]; exact a10, by rw [h1, h2]; exact a11⟩
namespace New4
def yN : MethodName := ⟨"java/lang/String", "<init>", "([CIILjava/lang/Void;)V"⟩
abbrev yB : ByteArray := jdk_42_method_149_code
theorem d0 : decode yB 0 = .ok (.aload_n 0, 1) := by decide +kernel
theorem d1 : decode yB 1 = .ok (.invokespecial 1, 3) := by decide +kernel
theorem d4 : decode yB 4 = .ok (.iload_n 3, 1) := by decide +kernel
theorem d5 : decode yB 5 = .ok (.ifCond (.ne) 22, 3) := by decide +kernel
theorem d27 : decode yB 27 = .ok (.getstatic 38, 3) := by decide +kernel
theorem d30 : decode yB 30 = .ok (.ifCond (.eq) 28, 3) := by decide +kernel
theorem d33 : decode yB 33 = .ok (.aload_n 1, 1) := by decide +kernel
theorem d34 : decode yB 34 = .ok (.iload_n 2, 1) := by decide +kernel
theorem d35 : decode yB 35 = .ok (.iload_n 3, 1) := by decide +kernel
theorem d36 : decode yB 36 = .ok (.invokestatic 177, 3) := by decide +kernel
theorem d39 : decode yB 39 = .ok (.astore 5, 2) := by decide +kernel
theorem d41 : decode yB 41 = .ok (.aload_n 0, 1) := by decide +kernel
theorem d42 : decode yB 42 = .ok (.aload 5, 2) := by decide +kernel
theorem d44 : decode yB 44 = .ok (.iload_n 3, 1) := by decide +kernel
theorem d45 : decode yB 45 = .ok (.invokestatic 47, 3) := by decide +kernel
theorem d48 : decode yB 48 = .ok (.putfield 15, 3) := by decide +kernel
theorem d51 : decode yB 51 = .ok (.aload_n 0, 1) := by decide +kernel
theorem d52 : decode yB 52 = .ok (.aload 5, 2) := by decide +kernel
theorem d54 : decode yB 54 = .ok (.putfield 9, 3) := by decide +kernel
theorem d57 : decode yB 57 = .ok (.return_, 1) := by decide +kernel
def site : List Cond := [.fieldLink "java/lang/String" 38 "java/lang/String" "COMPACT_STRINGS" "Z", Cmp3.tab, CodL.tab, .laysFinal "java/lang/String" "java/lang/String" "value" "[B", .fieldLink "java/lang/String" 9 "java/lang/String" "value" "[B", .laysFinal "java/lang/String" "java/lang/String" "coder" "B", .fieldLink "java/lang/String" 15 "java/lang/String" "coder" "B"] ++ objW "java/lang/String" 1 ++ staticW "java/lang/String" 177 Cmp3.yN ++ staticW "java/lang/String" 47 CodL.yN
def tab : Cond := tabOf yN yB 6 none site
def P (a : Addr) (D : Cell) (fV fC : Field) (b : Addr) (A : Cell) (z : Int32) (o len : Nat) (args : Array Value) (s : State) : Prop := args = #[.ref a, .ref b, .int (Int32.ofNat o), .int (Int32.ofNat len), .null] ∧ Blank "java/lang/String" a D s ∧ Found "java/lang/String" "value" "[B" fV s ∧ Found "java/lang/String" "coder" "B" fC s ∧ Ch b A s ∧ StaticIs s "java/lang/String" "COMPACT_STRINGS" "Z" (.int z) ∧ ¬ z = 0 ∧ 0 < len ∧ o + len ≤ A.slots.size ∧ len ≤ 536870912 ∧ ∀ i, i < len → ¬ 255 < cv A (o + i)
def E (a : Addr) (D : Cell) (fV fC : Field) (A : Cell) (o len : Nat) (r : Option Value) (s u : State) : Prop := Got a D fV fC A o len r s u
/-- len > 0, no char of the range above 255: a Latin-1 String of their low bytes -/
theorem law (l : Launch) (a : Addr) (D : Cell) (fV fC : Field) (b : Addr) (A : Cell) (z : Int32) (o len : Nat) : Law l yN 5 4 2 35 yB 6 none site (P a D fV fC b A z o len) (E a D fV fC A o len) [⟨a, fC.slot⟩, ⟨a, fV.slot⟩] 1 len := by
  refine Law.of_walk (plainFor_of_name (by decide +kernel)) (by decide +kernel) (by decide +kernel) (by decide) (fun _ _ h => by rw [h.1]; rfl) (fun _ U U' hal hh h => ⟨h.1, h.2.1.mv hal hh, h.2.2.1.al hal, h.2.2.2.1.al hal, h.2.2.2.2.1.mv hal hh, h.2.2.2.2.2.1.there hal hh, h.2.2.2.2.2.2⟩) (fun r U U' V V' h1 hal h2 h => Got.mv r U U' V V' h1 hal h2 h) ?_
  intro p e s m args below meth c s₁ X0 hexec hbytes hml hret hlk hnm hown hh0 W hP
  obtain ⟨rfl, hB, f1, f2, hA, s1, hz, l0, l1, l2, hp⟩ := hP
  have a31 := hA.1.2.2.2
  have c1 : Steps p.tables e below (s₁.setTop (entryFrame m #[.ref a, .ref b, .int (Int32.ofNat o), .int (Int32.ofNat len), .null] 6)) (s₁.setTop (mkF m 0 #[.val (.ref a), .val (.ref b), .val (.int (Int32.ofNat o)), .val (.int (Int32.ofNat len)), .val .null, .unset] [])) := entry rfl
  have c2 : Steps p.tables e below (s₁.setTop (entryFrame m #[.ref a, .ref b, .int (Int32.ofNat o), .int (Int32.ofNat len), .null] 6)) (s₁.setTop (mkF m 1 #[.val (.ref a), .val (.ref b), .val (.int (Int32.ofNat o)), .val (.int (Int32.ofNat len)), .val .null, .unset] [.ref a])) := c1.trans (by
    refine XS.aloadN X0.here hexec rfl (hb hbytes d0) rfl rfl ?_
    exact Steps.refl _)
  obtain ⟨T3, X3, q3, st3⟩ := X0.oinit hexec hown (wks W (objW "java/lang/String" 1)) (g := (mkF m 1 #[.val (.ref a), .val (.ref b), .val (.int (Int32.ofNat o)), .val (.int (Int32.ofNat len)), .val .null, .unset] [.ref a])) rfl (by rw [hml]; rfl) (rest := []) rfl (hb hbytes d1) (W := 0) (by show 2 * 0 + 0 ≤ _; decide) (Nat.le_of_ble_eq_true rfl) (Nat.le_of_ble_eq_true rfl)
  have hh3 := q3.trans hh0
  have c4 : Steps p.tables e below (s₁.setTop (entryFrame m #[.ref a, .ref b, .int (Int32.ofNat o), .int (Int32.ofNat len), .null] 6)) (T3.setTop (mkF m 27 #[.val (.ref a), .val (.ref b), .val (.int (Int32.ofNat o)), .val (.int (Int32.ofNat len)), .val .null, .unset] [])) := (c2.trans (st3 _ (Steps.refl _))).trans (by
    refine XS.iloadN X3.here hexec rfl (hb hbytes d4) rfl ?_
    refine XS.ifYes X3.here hexec rfl (pc0 := 5) rfl (hb hbytes d5) rfl (i0_ne_t (nz32 (by omega) l0)) (by decide) rfl ?_
    exact Steps.refl _)
  obtain ⟨T5, X5, q5, st5⟩ := X3.sget hexec hown (wk W (.fieldLink "java/lang/String" 38 "java/lang/String" "COMPACT_STRINGS" "Z")) s1 (fun _ _ h => by rw [hh3]; exact h) (g := (mkF m 27 #[.val (.ref a), .val (.ref b), .val (.int (Int32.ofNat o)), .val (.int (Int32.ofNat len)), .val .null, .unset] [])) rfl (hb hbytes d27)
  have hh5 := q5.trans hh3
  have c6 : Steps p.tables e below (s₁.setTop (entryFrame m #[.ref a, .ref b, .int (Int32.ofNat o), .int (Int32.ofNat len), .null] 6)) (T5.setTop (mkF m 30 #[.val (.ref a), .val (.ref b), .val (.int (Int32.ofNat o)), .val (.int (Int32.ofNat len)), .val .null, .unset] [.int z])) := c4.trans (st5 _ (Steps.refl _))
  have c7 : Steps p.tables e below (s₁.setTop (entryFrame m #[.ref a, .ref b, .int (Int32.ofNat o), .int (Int32.ofNat len), .null] 6)) (T5.setTop (mkF m 36 #[.val (.ref a), .val (.ref b), .val (.int (Int32.ofNat o)), .val (.int (Int32.ofNat len)), .val .null, .unset] [.int (Int32.ofNat len), .int (Int32.ofNat o), .ref b])) := c6.trans (by
    refine XS.ifNo X5.here hexec rfl (hb hbytes d30) rfl (i0_eq_f hz) ?_
    refine XS.aloadN X5.here hexec rfl (hb hbytes d33) rfl rfl ?_
    refine XS.iloadN X5.here hexec rfl (hb hbytes d34) rfl ?_
    refine XS.iloadN X5.here hexec rfl (hb hbytes d35) rfl ?_
    exact Steps.refl _)
  obtain ⟨v8, T8, X8, E8, g8⟩ := X5.callS hexec (Cmp3.law l b A o len) hown (wks W (staticW "java/lang/String" 177 Cmp3.yN)) (wk W Cmp3.tab) (W := 0) (Nat.le_of_ble_eq_true rfl) (Nat.le_of_ble_eq_true rfl) (Nat.le_refl _) (by show 0 + len ≤ len; omega) (g := (mkF m 36 #[.val (.ref a), .val (.ref b), .val (.int (Int32.ofNat o)), .val (.int (Int32.ofNat len)), .val .null, .unset] [.int (Int32.ofNat len), .int (Int32.ofNat o), .ref b])) rfl (by rw [hml]; rfl) c7 (argsL := [.ref b, .int (Int32.ofNat o), .int (Int32.ofNat len)]) (rest := []) rfl rfl (by show 2 * 0 + 0 ≤ _; decide) (hb hbytes d36) (⟨rfl, hA.mv X5.warmed.alike hh5, l1, l2, hp⟩)
  obtain ⟨e8, z8⟩ := E8
  obtain ⟨rfl, N, n1, n2, n3, n4, n5, n6⟩ := NewArr.mv _ T5 s _ _ hh5.symm (Vm.Alike.refl _) rfl e8
  rw [hh5] at z8
  have hB1 := hB.keep X8.warmed.alike (n6 _ _ hB.1)
  have hne : s.heap.size ≠ a := (Nat.ne_of_lt (Array.getElem?_eq_some_iff.mp hB.1).1).symm
  have c9 : Steps p.tables e below (s₁.setTop (entryFrame m #[.ref a, .ref b, .int (Int32.ofNat o), .int (Int32.ofNat len), .null] 6)) (T8.setTop (mkF m 39 #[.val (.ref a), .val (.ref b), .val (.int (Int32.ofNat o)), .val (.int (Int32.ofNat len)), .val .null, .unset] [.ref s.heap.size])) := g8
  have c10 : Steps p.tables e below (s₁.setTop (entryFrame m #[.ref a, .ref b, .int (Int32.ofNat o), .int (Int32.ofNat len), .null] 6)) (T8.setTop (mkF m 45 #[.val (.ref a), .val (.ref b), .val (.int (Int32.ofNat o)), .val (.int (Int32.ofNat len)), .val .null, .val (.ref s.heap.size)] [.int (Int32.ofNat N.slots.size), .ref s.heap.size, .ref a])) := by
    have hc : Steps p.tables e below (s₁.setTop (entryFrame m #[.ref a, .ref b, .int (Int32.ofNat o), .int (Int32.ofNat len), .null] 6)) (T8.setTop (mkF m 45 #[.val (.ref a), .val (.ref b), .val (.int (Int32.ofNat o)), .val (.int (Int32.ofNat len)), .val .null, .val (.ref s.heap.size)] [.int (Int32.ofNat len), .ref s.heap.size, .ref a])) := c9.trans (by
      refine XS.astore X8.here hexec rfl (hb hbytes d39) rfl rfl rfl ?_
      refine XS.aloadN X8.here hexec rfl (hb hbytes d41) rfl rfl ?_
      refine XS.aload X8.here hexec rfl (hb hbytes d42) rfl rfl ?_
      refine XS.iloadN X8.here hexec rfl (hb hbytes d44) rfl ?_
      exact Steps.refl _)
    rw [n4]; exact hc
  obtain ⟨v11, T11, X11, E11, g11⟩ := X8.callS hexec (CodL.law l s.heap.size N) hown (wks W (staticW "java/lang/String" 47 CodL.yN)) (wk W CodL.tab) (W := 1) (Nat.le_of_ble_eq_true rfl) (Nat.le_of_ble_eq_true rfl) (Nat.le_refl _) (by show 0 + len + 0 ≤ len; omega) (g := (mkF m 45 #[.val (.ref a), .val (.ref b), .val (.int (Int32.ofNat o)), .val (.int (Int32.ofNat len)), .val .null, .val (.ref s.heap.size)] [.int (Int32.ofNat N.slots.size), .ref s.heap.size, .ref a])) rfl (by rw [hml]; rfl) c10 (argsL := [.ref s.heap.size, .int (Int32.ofNat N.slots.size)]) (rest := [.ref a]) rfl rfl (by show 2 * 0 + (1 + 0) ≤ _; decide) (hb hbytes d45) (⟨rfl, n1⟩)
  obtain ⟨rfl, q11⟩ := E11
  have hB11 := hB1.mv (X8.warmed.alike.symm.trans X11.warmed.alike) q11
  have c12 : Steps p.tables e below (s₁.setTop (entryFrame m #[.ref a, .ref b, .int (Int32.ofNat o), .int (Int32.ofNat len), .null] 6)) (T11.setTop (mkF m 48 #[.val (.ref a), .val (.ref b), .val (.int (Int32.ofNat o)), .val (.int (Int32.ofNat len)), .val .null, .val (.ref s.heap.size)] [.int 0, .ref a])) := g11
  obtain ⟨T13, X13, p13, bl13, sl13, st13⟩ := X11.finit hexec hown (wk W (.fieldLink "java/lang/String" 15 "java/lang/String" "coder" "B")) (Or.inr ⟨_, (wk W (.laysFinal "java/lang/String" "java/lang/String" "coder" "B"))⟩) (Or.inl ⟨rfl, hnm⟩) f2 (Or.inl rfl) hB11 (t := .byte) (by decide +kernel) rfl (g := (mkF m 48 #[.val (.ref a), .val (.ref b), .val (.int (Int32.ofNat o)), .val (.int (Int32.ofNat len)), .val .null, .val (.ref s.heap.size)] [.int 0, .ref a])) rfl (rest := []) rfl (hb hbytes d48)
  have c14 : Steps p.tables e below (s₁.setTop (entryFrame m #[.ref a, .ref b, .int (Int32.ofNat o), .int (Int32.ofNat len), .null] 6)) (T13.setTop (mkF m 54 #[.val (.ref a), .val (.ref b), .val (.int (Int32.ofNat o)), .val (.int (Int32.ofNat len)), .val .null, .val (.ref s.heap.size)] [.ref s.heap.size, .ref a])) := (c12.trans (st13 _ (Steps.refl _))).trans (by
    refine XS.aloadN X13.here hexec rfl (hb hbytes d51) rfl rfl ?_
    refine XS.aload X13.here hexec rfl (hb hbytes d52) rfl rfl ?_
    exact Steps.refl _)
  obtain ⟨T15, X15, p15, bl15, sl15, st15⟩ := X13.finit hexec hown (wk W (.fieldLink "java/lang/String" 9 "java/lang/String" "value" "[B")) (Or.inr ⟨_, (wk W (.laysFinal "java/lang/String" "java/lang/String" "value" "[B"))⟩) (Or.inl ⟨rfl, hnm⟩) f1 (Or.inl rfl) bl13 (t := (.array .byte)) (by decide +kernel) rfl (g := (mkF m 54 #[.val (.ref a), .val (.ref b), .val (.int (Int32.ofNat o)), .val (.int (Int32.ofNat len)), .val .null, .val (.ref s.heap.size)] [.ref s.heap.size, .ref a])) rfl (rest := []) rfl (hb hbytes d54)
  have c16 : Steps p.tables e below (s₁.setTop (entryFrame m #[.ref a, .ref b, .int (Int32.ofNat o), .int (Int32.ofNat len), .null] 6)) (T15.setTop (mkF m 57 #[.val (.ref a), .val (.ref b), .val (.int (Int32.ofNat o)), .val (.int (Int32.ofNat len)), .val .null, .val (.ref s.heap.size)] [])) := c14.trans (st15 _ (Steps.refl _))
  have ap := apart (Or.inr ⟨_, (wk W (.laysFinal "java/lang/String" "java/lang/String" "value" "[B"))⟩) (Or.inr ⟨_, (wk W (.laysFinal "java/lang/String" "java/lang/String" "coder" "B"))⟩) f1 f2 (t₁ := .array .byte) (t₂ := .byte) (by decide +kernel) (by decide +kernel) (by decide)
  have al := X8.warmed.alike.symm.trans X15.warmed.alike
  have n7 : T11.heap[s.heap.size]? = some N := by rw [q11]; exact n1.1
  exact ⟨T15, none, _, _, _, X15, by simp, rfl, by omega, (fun _ => rfl), ⟨rfl, _, N, bl15, ((Same.refl D _).set _ (by simp)).set _ (by simp), sl15, (Cell.slots_setSlot_ne _ ap).trans sl13, n1.keep al (p15.other hne (p13.other hne n7)), n2, by rw [al.findClass]; exact n3, n4, n5, fun y c h1 h2 => p15.other h1 (p13.other h1 (by rw [q11]; exact n6 y c h2)), by rw [p15.2.2, p13.2.2, q11]; exact z8⟩, fun fs hl => c16.trans (X15.returnOut hexec hret (hb hbytes d57) hl)⟩
end New4
namespace New1
def yN : MethodName := ⟨"java/lang/String", "<init>", "([C)V"⟩
abbrev yB : ByteArray := jdk_42_method_3_code
theorem d0 : decode yB 0 = .ok (.aload_n 0, 1) := by decide +kernel
theorem d1 : decode yB 1 = .ok (.aload_n 1, 1) := by decide +kernel
theorem d2 : decode yB 2 = .ok (.iconst 0, 1) := by decide +kernel
theorem d3 : decode yB 3 = .ok (.aload_n 1, 1) := by decide +kernel
theorem d4 : decode yB 4 = .ok (.arraylength, 1) := by decide +kernel
theorem d5 : decode yB 5 = .ok (.aconst_null, 1) := by decide +kernel
theorem d6 : decode yB 6 = .ok (.invokespecial 27, 3) := by decide +kernel
theorem d9 : decode yB 9 = .ok (.return_, 1) := by decide +kernel
def site : List Cond := [New4.tab] ++ initW "java/lang/String" 27 New4.yN
def tab : Cond := tabOf yN yB 2 none site
def P (a : Addr) (D : Cell) (fV fC : Field) (b : Addr) (A : Cell) (z : Int32) (args : Array Value) (s : State) : Prop := args = #[.ref a, .ref b] ∧ Blank "java/lang/String" a D s ∧ Found "java/lang/String" "value" "[B" fV s ∧ Found "java/lang/String" "coder" "B" fC s ∧ Ch b A s ∧ StaticIs s "java/lang/String" "COMPACT_STRINGS" "Z" (.int z) ∧ ¬ z = 0 ∧ 0 < A.slots.size ∧ A.slots.size ≤ 536870912 ∧ ∀ i, i < A.slots.size → ¬ 255 < cv A i
def E (a : Addr) (D : Cell) (fV fC : Field) (A : Cell) (r : Option Value) (s u : State) : Prop := Got a D fV fC A 0 A.slots.size r s u
/-- new String(chars), not empty, no char above 255: a Latin-1 String of their low bytes -/
theorem law (l : Launch) (a : Addr) (D : Cell) (fV fC : Field) (b : Addr) (A : Cell) (z : Int32) : Law l yN 2 1 3 52 yB 2 none site (P a D fV fC b A z) (E a D fV fC A) [⟨a, fC.slot⟩, ⟨a, fV.slot⟩] 1 A.slots.size := by
  refine Law.of_walk (plainFor_of_name (by decide +kernel)) (by decide +kernel) (by decide +kernel) (by decide) (fun _ _ h => by rw [h.1]; rfl) (fun _ U U' hal hh h => ⟨h.1, h.2.1.mv hal hh, h.2.2.1.al hal, h.2.2.2.1.al hal, h.2.2.2.2.1.mv hal hh, h.2.2.2.2.2.1.there hal hh, h.2.2.2.2.2.2⟩) (fun r U U' V V' h1 hal h2 h => Got.mv r U U' V V' h1 hal h2 h) ?_
  intro p e s m args below meth c s₁ X0 hexec hbytes hml hret hlk hnm hown hh0 W hP
  obtain ⟨rfl, hB, f1, f2, hA, s1, hz, l0, l2, hp⟩ := hP
  have c1 : Steps p.tables e below (s₁.setTop (entryFrame m #[.ref a, .ref b] 2)) (s₁.setTop (mkF m 0 #[.val (.ref a), .val (.ref b)] [])) := entry rfl
  have c2 : Steps p.tables e below (s₁.setTop (entryFrame m #[.ref a, .ref b] 2)) (s₁.setTop (mkF m 6 #[.val (.ref a), .val (.ref b)] [.null, .int (Int32.ofNat A.slots.size), .int 0, .ref b, .ref a])) := c1.trans (by
    refine XS.aloadN X0.here hexec rfl (hb hbytes d0) rfl rfl ?_
    refine XS.aloadN X0.here hexec rfl (hb hbytes d1) rfl rfl ?_
    refine iconstV X0.here hexec rfl 0 (hb hbytes d2) (by decide) ?_
    refine XS.aloadN X0.here hexec rfl (hb hbytes d3) rfl rfl ?_
    refine X0.alen hexec (hA.1.mv X0.warmed.alike hh0) rfl rfl (hb hbytes d4) ?_
    refine XS.aconstNull X0.here hexec rfl (hb hbytes d5) ?_
    exact Steps.refl _)
  obtain ⟨v3, T3, X3, E3, g3⟩ := X0.callN hexec (New4.law l a D fV fC b A z 0 A.slots.size) rfl hown (wks W (initW "java/lang/String" 27 New4.yN)) (W New4.tab (by simp only [site, List.mem_cons, List.mem_append, true_or, or_true])) (W := 0) (Nat.le_of_ble_eq_true rfl) (Nat.le_of_ble_eq_true rfl) (Nat.le_refl _) (by show 0 + A.slots.size ≤ A.slots.size; omega) (g := (mkF m 6 #[.val (.ref a), .val (.ref b)] [.null, .int (Int32.ofNat A.slots.size), .int (Int32.ofNat 0), .ref b, .ref a])) rfl (by rw [hml]; rfl) c2 (argsL := [.ref b, .int (Int32.ofNat 0), .int (Int32.ofNat A.slots.size), .null]) (rest := []) rfl rfl (by show 2 * 0 + 0 ≤ _; decide) (hb hbytes d6) (⟨rfl, hB.mv X0.warmed.alike hh0, f1.al X0.warmed.alike, f2.al X0.warmed.alike, hA.mv X0.warmed.alike hh0, s1.there X0.warmed.alike hh0, hz, l0, by omega, l2, fun i hi => by rw [Nat.zero_add]; exact hp i hi⟩)
  have e0 := Got.mv _ s₁ s _ _ hh0.symm (Vm.Alike.refl _) rfl E3
  obtain rfl := e0.1
  have c4 : Steps p.tables e below (s₁.setTop (entryFrame m #[.ref a, .ref b] 2)) (T3.setTop (mkF m 9 #[.val (.ref a), .val (.ref b)] [])) := g3
  exact ⟨T3, none, _, _, _, X3, by simp, rfl, by omega, (fun _ => rfl), e0, fun fs hl => c4.trans (X3.returnOut hexec hret (hb hbytes d9) hl)⟩
theorem pays {l : Launch} {R : Room} {p : Program} {e : Env} {below : List Frame} {s : State} {sargs : Array Value} {len W : Nat} (a : Addr) (D : Cell) (fV fC : Field) (b : Addr) (A : Cell) (z : Int32) (htab : tab.before sargs s = true) (hfr : 4 ≤ R.frames) (hlo : W + 65 ≤ R.locals) :
    Back l R p e below s sargs yN len W (fun A₁ a₁ => A₁.cells + 1 ≤ R.cells ∧ A₁.slots + A.slots.size ≤ R.slots ∧ P a D fV fC b A z a₁ A₁.U) (fun A₁ _ v₁ B₁ => E a D fV fC A v₁ A₁.U B₁.U ∧ B₁.locs = A₁.locs ++ [⟨a, fC.slot⟩, ⟨a, fV.slot⟩] ∧ B₁.cells = A₁.cells + 1 ∧ B₁.slots = A₁.slots + A.slots.size) :=
  (law l a D fV fC b A z).pays htab hfr (by omega)
end New1
/-- the byte, read back as charAt reads it, is the char -/
theorem lo8_mask {x : Int32} (h0 : ¬ x < 0) (h1 : ¬ 255 < x) : lo8 x &&& 255 = x := by
  have t : ∀ k : Fin 256, lo8 (Int32.ofNat k.val) &&& 255 = Int32.ofNat k.val := by decide +kernel
  rw [Int32.lt_iff_toInt_lt] at h0 h1
  have e0 : (0 : Int32).toInt = 0 := rfl
  have e1 : (255 : Int32).toInt = 255 := rfl
  obtain ⟨k, hk⟩ : ∃ k : Nat, x.toInt = k := ⟨x.toInt.toNat, by omega⟩
  have hx : x = Int32.ofNat k := Int32.toInt_inj.mp (by rw [hk, Int32.toInt_ofNat_small (by omega)])
  rw [hx]
  exact t ⟨k, by omega⟩
end StrChars
namespace StrChars.Road
open Jvm Sem ClassFile Op Lib Jvm.Stand Jvm.Free Jvm.Free.XT
open Jvm.Lib.Cold (StaticIs)
abbrev ST : String := "java/lang/String"
/-- every table word that New1's law asks, flat -/
abbrev words : List Jvm.Cond := [.code New1.yN New1.yB 2 none, .initialized ST, .methodLink ST 27 New4.yN, .instanceMethod New4.yN,
  .code New4.yN New4.yB 6 none, .fieldLink ST 38 ST "COMPACT_STRINGS" "Z", .laysFinal ST ST "value" "[B", .fieldLink ST 9 ST "value" "[B", .laysFinal ST ST "coder" "B", .fieldLink ST 15 ST "coder" "B",
  .methodLink ST 1 Lib.objectInit, .instanceMethod Lib.objectInit, .code Lib.objectInit ⟨#[0xb1]⟩ 1 none, .methodLink ST 177 Cmp3.yN, .static Cmp3.yN, .methodLink ST 47 CodL.yN, .static CodL.yN,
  .code Cmp3.yN Cmp3.yB 6 (some (.array .byte)), .initialized U16, .arrayClass .byte, .methodLink U16 115 Cmp5.yN, .static Cmp5.yN, .code Cmp5.yN Cmp5.yB 7 (some .int), .code CodL.yN CodL.yB 2 (some .byte)]
theorem tab_of {a : Array Value} {s : State} (h : ∀ w ∈ words, w.before a s = true) : New1.tab.before a s = true := by
  have h5 : Cmp5.tab.before a s = true := unparts (wk h (.code Cmp5.yN Cmp5.yB 7 (some .int))) (wks h (.initialized Cmp5.yN.cls :: Cmp5.site))
  have hc : CodL.tab.before a s = true := unparts (wk h (.code CodL.yN CodL.yB 2 (some .byte))) (wks h (.initialized CodL.yN.cls :: CodL.site))
  have q5 : ∀ w ∈ Cmp5.tab :: words, w.before a s = true := fun w hw => (List.mem_cons.mp hw).elim (fun e => e ▸ h5) (h w)
  have h3 : Cmp3.tab.before a s = true := unparts (wk q5 (.code Cmp3.yN Cmp3.yB 6 (some (.array .byte)))) (wks q5 (.initialized Cmp3.yN.cls :: Cmp3.site))
  have q3 : ∀ w ∈ Cmp3.tab :: CodL.tab :: words, w.before a s = true := fun w hw => (List.mem_cons.mp hw).elim (fun e => e ▸ h3) fun hw => (List.mem_cons.mp hw).elim (fun e => e ▸ hc) (h w)
  have h4 : New4.tab.before a s = true := unparts (wk q3 (.code New4.yN New4.yB 6 none)) (wks q3 (.initialized New4.yN.cls :: New4.site))
  have q4 : ∀ w ∈ New4.tab :: words, w.before a s = true := fun w hw => (List.mem_cons.mp hw).elim (fun e => e ▸ h4) (h w)
  exact unparts (wk q4 (.code New1.yN New1.yB 2 none)) (wks q4 (.initialized New1.yN.cls :: New1.site))
/-- the words ride from the start Z to the walk's own state -/
theorem moved {Z s : State} {a0 args : Array Value} (hZ : Z.Warmed39 s.vm) (hw : ∀ d ∈ words, d.before a0 Z = true) : ∀ d ∈ words, d.before args s = true := fun d hd => by
  have q := hw d hd
  have t : ∀ d ∈ words, d = .arrayClass .byte ∨ (d.onTables && d.keepsFace) = true := by decide +kernel
  rcases t d hd with rfl | t
  · exact RoadKit.mvA hZ q
  · exact RoadKit.mv hZ q t
/-- WHAT COMES BACK, over the tables of the start Z: h the heap at the call, h' behind it -/
def Q (Z : State) (x : Addr) (A : Cell) (h : Heap) (v : Option Value) (h' : Heap) (L : List Loc) : Prop := v = none ∧ (∀ y ∈ L, y.base = x) ∧ RoadKit.Keep h h' [x] ∧ h'.size = h.size + 1 ∧ RoadKit.Exa Z h' x ST ∧ RoadKit.Fld Z h' x ST "value" "[B" (.ref h.size) ∧ RoadKit.Fld Z h' x ST "coder" "B" (.int 0) ∧
  (∃ V : Cell, RoadKit.Arr Z h' h.size V .byte ∧ V.vm = .none ∧ Z.vm.findClass "[B" = some V.cls ∧ V.slots.size = A.slots.size ∧ ∀ j, j < A.slots.size → V.slots[j]? = some (.int (lo8 (cv A j)))) ∧
  ∀ (O n d : String) (w : Value), RoadKit.Fld Z h x O n d w → RoadKit.slotOf Z O n d ≠ RoadKit.slotOf Z ST "value" "[B" → RoadKit.slotOf Z O n d ≠ RoadKit.slotOf Z ST "coder" "B" → RoadKit.Fld Z h' x O n d w
/-- **new String(chars) AT A CALL, IN THE ROAD'S FORM**: for specialBack behind newO: x the fresh String, b the char[] with the cell A -/
theorem back {p : Program} {l : Launch} {e : Env} {R : Room} {s : State} {args : Array Value} {below : List Frame} {len W : Nat} {Z : State} {a0 : Array Value} {h : Heap} (hZ : Z.Warmed39 s.vm) (hw : ∀ d ∈ words, d.before a0 Z = true) {kI : Nat} (wi : (Jvm.Cond.instantiable ST kI).before a0 Z = true)
    {x b : Addr} {A : Cell} {z : Int32} {v0 c0 : Value} (E : RoadKit.Exa Z h x ST) (V : RoadKit.Fld Z h x ST "value" "[B" v0) (C : RoadKit.Fld Z h x ST "coder" "B" c0) (K : RoadKit.Arr Z h b A .char) (hty : Typed .char A) (S : RoadKit.Sta Z h ST "COMPACT_STRINGS" "Z" (.int z)) (hz : ¬ z = 0)
    (l0 : 0 < A.slots.size) (l2 : A.slots.size ≤ 536870912) (hp : ∀ i, i < A.slots.size → ¬ 255 < cv A i) (hfr : 4 ≤ R.frames) (hlo : W + 65 ≤ R.locals) :
    Back l R p e below s args New1.yN len W (fun P a => a = #[.ref x, .ref b] ∧ P.U.heap = h ∧ P.cells + 1 ≤ R.cells ∧ P.slots + A.slots.size ≤ R.slots)
      (fun P _ v B => ∃ L, Q Z x A h v B.U.heap L ∧ B.locs = P.locs ++ L ∧ B.cells = P.cells + 1 ∧ B.slots = P.slots + A.slots.size) := by
  intro m meth c P g ig mk a X hg hsize hdg hW hn hp'
  obtain ⟨rfl, rfl, r1, r2⟩ := hp'
  have al : Z.vm.Alike P.U.vm := hZ.alike.trans X.warmed.alike
  obtain ⟨D, cfV, kV, iV, fV, hD, gV, stV, knV, obV, asV, slV⟩ := id V
  obtain ⟨D', cfC, kC, iC, fC, hD', gC, stC, -, -, asC, slC⟩ := id C
  cases hD.symm.trans hD'
  obtain ⟨D2, kD, e1, e2, e3, e4, e5⟩ := id E
  cases hD.symm.trans e1
  obtain ⟨c2, k2, i1, i2, i3, -⟩ := Cond.instantiable_spec wi
  cases e2.symm.trans i1
  cases e3.symm.trans i2
  obtain ⟨kU, u1, u2⟩ := al.2.2 _ _ e3
  have hB : Blank ST x D P.U := ⟨hD, ⟨knV, fun q hq => by rw [hq] at obV; cases obV⟩, by rw [al.findClass]; exact e2, kU, u1, by rw [u2]; exact i3, by rw [u2]; exact e5 i3⟩
  have F1 : Found ST "value" "[B" fV P.U := ⟨SBG.found_only al ⟨cfV, kV, iV, gV⟩, stV⟩
  have F2 : Found ST "coder" "B" fC P.U := ⟨SBG.found_only al ⟨cfC, kC, iC, gC⟩, stC⟩
  have hA : Ch b A P.U := ⟨⟨K.1, State.isArrayOf_alike al K.2.1, K.2.2, by omega⟩, hty⟩
  have hS : StaticIs P.U ST "COMPACT_STRINGS" "Z" (.int z) := by
    obtain ⟨cfS, iS, kS, fS, st, cS, t1, t2, t3, t4, t5, t6, t7⟩ := S
    exact StaticIs.there (s := { Z with heap := P.U.heap }) ⟨cfS, iS, kS, fS, st, cS, t1, t2, t3, t4, t5, (fun q => by rw [q] at t6; cases t6), t7⟩ al rfl
  obtain ⟨v, B, X', ⟨⟨hv, E', V', q1, q2, q3, q4, q5, q6, q7, q8, q9, q10, q11⟩, hl, hc, hs⟩, st⟩ := New1.pays x D fV fC b A z (tab_of (moved hZ hw)) hfr hlo m meth c P g ig mk _ X hg hsize hdg hW hn ⟨r1, r2, rfl, hB, F1, F2, hA, hS, hz, l0, l2, hp⟩
  have al' : Z.vm.Alike B.U.vm := hZ.alike.trans X'.warmed.alike
  have hsz : E'.slots.size = D.slots.size := by
    obtain ⟨-, -, -, kB, w1, w2, w3⟩ := q1
    obtain ⟨kB', y1, y2⟩ := al'.2.2 _ _ e3
    rw [q2.2.1] at w1
    cases w1.symm.trans y1
    rw [w3, e5 i3, y2]
  refine ⟨v, B, X', ⟨_, ⟨hv, ?_, ⟨by omega, fun y cy hy hn' => q10 y cy (by simpa using hn') hy, fun y cy hy => ?_⟩, q11, ⟨E', _, q1.1, by rw [q2.2.1]; exact e2, by rw [q2.2.1]; exact e3, by rw [q2.1]; exact obV, fun _ => by rw [hsz]; exact e5 i3⟩,
    ⟨E', cfV, kV, iV, fV, q1.1, gV, stV, by rw [q2.1]; exact knV, by rw [q2.1]; exact obV, by rw [q2.2.1]; exact asV, q3⟩, ⟨E', cfC, kC, iC, fC, q1.1, gC, stC, by rw [q2.1]; exact knV, by rw [q2.1]; exact obV, by rw [q2.2.1]; exact asC, q4⟩,
    ⟨V', ⟨q5.1, State.isArrayOf_alike al'.symm q5.2.1, q5.2.2.1⟩, q6, by rw [← al'.findClass]; exact q7, q8, fun j hj => by have := q9 j hj; rwa [Nat.zero_add] at this⟩, fun O n d w F n1 n2 => ?_⟩, hl, hc, hs⟩, st⟩
  · intro y hy
    simp only [List.mem_cons, List.not_mem_nil, or_false] at hy
    rcases hy with rfl | rfl <;> rfl
  · by_cases q : y = x
    · subst q
      cases hD.symm.trans hy
      exact ⟨E', q1.1, q2.2.1, q2.1, hsz⟩
    · exact ⟨cy, q10 y cy q hy, rfl, rfl, rfl⟩
  · obtain ⟨D3, cf, k, i, f, g1, g2, g3, g4, g5, g6, g7⟩ := F
    cases hD.symm.trans g1
    simp only [RoadKit.slotOf, g2, gV, gC, Option.map_some, Option.getD_some] at n1 n2
    exact ⟨E', cf, k, i, f, q1.1, g2, g3, by rw [q2.1]; exact g4, by rw [q2.1]; exact g5, by rw [q2.2.1]; exact g6, by rw [q2.2.2 f.slot (by simp [n1, n2])]; exact g7⟩
end StrChars.Road
namespace StrChars.Road
open Jvm Sem ClassFile Op Lib Jvm.Stand Jvm.Free Jvm.Free.XT
/-- WHAT COMES BACK, the byte[] as a list of values -/
def QA (Z : State) (x : Addr) (zn : Int32) (cs : List Int32) (h : Heap) (v : Option Value) (h' : Heap) (L : List Loc) : Prop := v = none ∧ (∀ y ∈ L, y.base = x) ∧ RoadKit.Keep h h' [x] ∧ h'.size = h.size + 1 ∧ RoadKit.Exa Z h' x ST ∧ RoadKit.Fld Z h' x ST "value" "[B" (.ref h.size) ∧ RoadKit.Fld Z h' x ST "coder" "B" (.int 0) ∧
  (∃ kb, Z.vm.findClass "[B" = some kb ∧ RoadKit.Arv Z h' h.size kb .byte zn (cs.map fun c => .int (lo8 c)) (.int 0)) ∧
  ∀ (O n d : String) (w : Value), RoadKit.Fld Z h x O n d w → RoadKit.slotOf Z O n d ≠ RoadKit.slotOf Z ST "value" "[B" → RoadKit.slotOf Z O n d ≠ RoadKit.slotOf Z ST "coder" "B" → RoadKit.Fld Z h' x O n d w
/-- **new String(chars) AT A CALL, THE ARRAYS AS LISTS**: the char[] at b holds cs, not empty, no char above 255 -/
theorem backArv {p : Program} {l : Launch} {e : Env} {R : Room} {s : State} {args : Array Value} {below : List Frame} {len W : Nat} {Z : State} {a0 : Array Value} {h : Heap} (hZ : Z.Warmed39 s.vm) (hw : ∀ d ∈ words, d.before a0 Z = true) {kI : Nat} (wi : (Jvm.Cond.instantiable ST kI).before a0 Z = true)
    {x b : Addr} {k : ClassId} {zn z : Int32} {cs : List Int32} {dv v0 c0 : Value} (E : RoadKit.Exa Z h x ST) (V : RoadKit.Fld Z h x ST "value" "[B" v0) (C : RoadKit.Fld Z h x ST "coder" "B" c0) (K : RoadKit.Arv Z h b k .char zn (cs.map Value.int) dv) (S : RoadKit.Sta Z h ST "COMPACT_STRINGS" "Z" (.int z)) (hz : ¬ z = 0)
    (hlen : zn.toNatClampNeg = cs.length) (h0 : 0 < cs.length) (hbig : cs.length ≤ 536870912) (hall : ∀ c ∈ cs, ¬ 255 < c) (hfr : 4 ≤ R.frames) (hlo : W + 65 ≤ R.locals) :
    Back l R p e below s args New1.yN len W (fun P a => a = #[.ref x, .ref b] ∧ P.U.heap = h ∧ P.cells + 1 ≤ R.cells ∧ P.slots + cs.length ≤ R.slots)
      (fun P _ v B => ∃ L, QA Z x zn cs h v B.U.heap L ∧ B.locs = P.locs ++ L ∧ B.cells = P.cells + 1 ∧ B.slots = P.slots + cs.length) := by
  obtain ⟨A, K1, K2, K3, K4, K5, K6⟩ := K
  have e : A.slots.size = cs.length := K3.trans hlen
  have hat : ∀ (i : Nat) (hi : i < cs.length), A.slots[i]? = some (.int cs[i]) := fun i hi => by rw [K5 i (by omega)]; simp [List.getD_eq_getElem?_getD, hi]
  have hcv : ∀ (i : Nat) (hi : i < cs.length), cv A i = cs[i] := fun i hi => by unfold cv; rw [hat i hi]
  have hty : Typed .char A := fun i v hv => by
    have hi : i < A.slots.size := (Array.getElem?_eq_some_iff.mp hv).1
    have q := K5 i hi
    rw [hv] at q
    rw [Option.some.inj q]
    exact K6 i hi
  refine Back.mono (back hZ hw wi E V C K1 hty S hz (by omega) (by omega) (fun i hi => by rw [hcv i (by omega)]; exact hall _ (List.getElem_mem _)) hfr hlo) (fun P a hp => ⟨hp.1, hp.2.1, hp.2.2.1, by rw [e]; exact hp.2.2.2⟩) (fun P a v B hp hq => ?_)
  obtain ⟨L, ⟨q1, q2, q3, q4, q5, q6, q7, ⟨V', v1, v2, v3, v4, v5⟩, q9⟩, hl, hc, hs⟩ := hq
  refine ⟨L, ⟨q1, q2, q3, q4, q5, q6, q7, ⟨V'.cls, v3, V', v1, rfl, by rw [v4, e, hlen], K4, fun i hi => ?_, fun i hi => ?_⟩, q9⟩, hl, hc, by rw [hs, e]⟩
  · have hi' : i < cs.length := by omega
    rw [v5 i (by omega), hcv i hi']; simp [List.getD_eq_getElem?_getD, hi']
  · have hi' : i < cs.length := by omega
    simp only [List.getD_eq_getElem?_getD, List.getElem?_map, List.getElem?_eq_getElem hi', Option.map_some, Option.getD_some]
    exact fits_lo8 _
end StrChars.Road
namespace StrChars.Road
open Jvm Sem ClassFile Op Lib Jvm.Stand Jvm.Free Jvm.Free.XT
/-- WHAT COMES BACK, in the writer's own shape -/
def QV (Z : State) (x : Addr) (N : Int32) (bs : List Int32) (h : Heap) (n0 : Nat) (v : Option Value) (h' : Heap) (L : List Loc) : Prop := v = none ∧ RoadKit.Fr n0 L ∧ RoadKit.Keep h h' [x] ∧ RoadKit.Exa Z h' x ST ∧ RoadKit.Fld Z h' x ST "coder" "B" (.int 0) ∧
  ∃ (t : Addr) (kb : ClassId), n0 ≤ t ∧ h.size ≤ t ∧ ¬ t = x ∧ RoadKit.Fld Z h' x ST "value" "[B" (.ref t) ∧ RoadKit.Arv Z h' t kb .byte N (bs.map Value.int) (.int 0)
/-- **new String(chars) AT A CALL, FOR THE WRITER**: a char[] of n known ints, each 0 to 255 -/
theorem backV {p : Program} {l : Launch} {e : Env} {R : Room} {s : State} {args : Array Value} {below : List Frame} {len W : Nat} {Z : State} {a0 : Array Value} {h : Heap} (hZ : Z.Warmed39 s.vm) (hw : ∀ d ∈ words, d.before a0 Z = true) {kI : Nat} (wi : (Jvm.Cond.instantiable ST kI).before a0 Z = true)
    {x b : Addr} {kC : ClassId} {cs bs : List Int32} {d v0 c0 : Value} {z N : Int32} {n n0 : Nat} (hx0 : n0 ≤ x) (hh0 : n0 ≤ h.size) (E : RoadKit.Exa Z h x ST) (V : RoadKit.Fld Z h x ST "value" "[B" v0) (C : RoadKit.Fld Z h x ST "coder" "B" c0) (K : RoadKit.Arv Z h b kC .char N (cs.map Value.int) d) (S : RoadKit.Sta Z h ST "COMPACT_STRINGS" "Z" (.int z)) (hz : ¬ z = 0)
    (hn : cs.length = n) (hN : N = Int32.ofNat n) (l0 : 0 < n) (l2 : n ≤ 4000) (hp : ∀ c ∈ cs, ¬ c < 0 ∧ ¬ (255 : Int32) < c) (hb : bs = cs.map (fun c => c.toInt8.toInt32)) (hfr : 4 ≤ R.frames) (hlo : W + 65 ≤ R.locals) :
    Back l R p e below s args (⟨"java/lang/String", "<init>", "([C)V"⟩ : MethodName) len W (fun P a => a = #[.ref x, .ref b] ∧ P.U.heap = h ∧ P.cells + 1 ≤ R.cells ∧ P.slots + n ≤ R.slots)
      (fun P _ v B => ∃ L, QV Z x N bs h n0 v B.U.heap L ∧ B.locs = P.locs ++ L ∧ B.cells = P.cells + 1 ∧ B.slots = P.slots + n) := by
  subst hn hN hb
  refine Back.mono (backArv hZ hw wi E V C K S hz (n32 (by omega)) l0 (by omega) (fun c hc => (hp c hc).2) hfr hlo) (fun P a hp => hp) (fun P a v B hp hq => ?_)
  obtain ⟨L, ⟨q1, q2, q3, q4, q5, q6, q7, ⟨kb, v1, v2⟩, q9⟩, hl, hc, hs⟩ := hq
  exact ⟨L, ⟨q1, fun y hy => by rw [q2 y hy]; exact hx0, q3, q5, q7, h.size, kb, hh0, Nat.le_refl _, Nat.ne_of_gt E.lt, q6, by rw [List.map_map]; exact v2⟩, hl, hc, hs⟩
end StrChars.Road
namespace StrChars
open Jvm Sem ClassFile Op Lib Jvm.Stand Jvm.Free.XT Jvm.Free.ALB Jvm.Free.JM Jvm.Free
open Jvm.Lib.Cold (StaticIs)
def hi8 (x : Int32) : Int32 := lo8 (x >>> ((8 : Int32) &&& 31))
/-- what StringUTF16.getChar makes of two bytes -/
def pairCh (u v : Int32) : Int32 := (((u &&& 255) <<< ((0 : Int32) &&& 31)) ||| ((v &&& 255) <<< ((8 : Int32) &&& 31))).toUInt32.toUInt16.toUInt32.toInt32
theorem lo8_and (x : Int32) : (lo8 x &&& 255).toBitVec.toNat = x.toBitVec.toNat % 256 := by
  have h : (lo8 x).toBitVec = (x.toBitVec.signExtend 8).signExtend 32 := by rw [lo8, Int8.toBitVec_toInt32, Int32.toBitVec_toInt8]
  rw [Int32.toBitVec_and, BitVec.toNat_and, h]
  have e : ((x.toBitVec.signExtend 8).signExtend 32).toNat % 256 = x.toBitVec.toNat % 256 := by
    rw [BitVec.toNat_signExtend]
    have hlt := x.toBitVec.isLt
    simp only [BitVec.toNat_setWidth, BitVec.toNat_signExtend]
    split <;> split <;> omega
  rw [← e]
  exact Nat.and_two_pow_sub_one_eq_mod _ 8
theorem pair_says {c : Int32} (h0 : ¬ c < 0) (h1 : ¬ 65535 < c) : pairCh (lo8 c) (hi8 c) = c := by
  rw [Int32.lt_iff_toInt_lt] at h0 h1
  have e0 : (0 : Int32).toInt = 0 := rfl
  have e1 : (65535 : Int32).toInt = 65535 := rfl
  have hc : c.toInt = c.toBitVec.toNat := by
    have := c.toBitVec.isLt
    have e : c.toInt = c.toBitVec.toInt := rfl
    rw [e] at h0 h1
    rw [e]
    rw [BitVec.toInt_eq_toNat_cond] at h0 h1 ⊢
    split at h0 <;> split <;> omega
  have hn : c.toBitVec.toNat < 65536 := by omega
  have a1 := lo8_and c
  have a2 : (hi8 c &&& 255).toBitVec.toNat = c.toBitVec.toNat / 256 := by
    rw [hi8, lo8_and]
    have e : ((8 : Int32) &&& 31) = 8 := by decide
    rw [e, Int32.toBitVec_shiftRight]
    have e2 : ((8 : Int32).toBitVec.smod 32) = 8#32 := by decide
    rw [e2, BitVec.sshiftRight_eq', BitVec.toNat_sshiftRight_of_msb_false (by rw [BitVec.msb_eq_false_iff_two_mul_lt]; omega)]
    show c.toBitVec.toNat >>> 8 % 256 = _
    rw [Nat.shiftRight_eq_div_pow]
    omega
  unfold pairCh
  apply Int32.toBitVec_inj.mp
  apply BitVec.eq_of_toNat_eq
  have f0 : ((0 : Int32) &&& 31) = 0 := by decide
  have f8 : ((8 : Int32) &&& 31) = 8 := by decide
  rw [f0, f8]
  have g : (((lo8 c &&& 255) <<< (0 : Int32)) ||| ((hi8 c &&& 255) <<< (8 : Int32))).toBitVec.toNat = c.toBitVec.toNat := by
    rw [Int32.toBitVec_or, Int32.toBitVec_shiftLeft, Int32.toBitVec_shiftLeft]
    have s0 : ((0 : Int32).toBitVec.smod 32) = 0#32 := by decide
    have s8 : ((8 : Int32).toBitVec.smod 32) = 8#32 := by decide
    rw [s0, s8, BitVec.toNat_or]
    simp only [BitVec.shiftLeft_eq', BitVec.toNat_shiftLeft, a1, a2]
    show (c.toBitVec.toNat % 256) <<< 0 % 2 ^ 32 ||| (c.toBitVec.toNat / 256) <<< 8 % 2 ^ 32 = _
    rw [Nat.shiftLeft_zero, Nat.mod_eq_of_lt (show c.toBitVec.toNat % 256 < 2 ^ 32 by omega), Nat.mod_eq_of_lt (show (c.toBitVec.toNat / 256) <<< 8 < 2 ^ 32 by rw [Nat.shiftLeft_eq]; omega), Nat.or_comm, ← Nat.shiftLeft_add_eq_or_of_lt (by omega), Nat.shiftLeft_eq]
    omega
  show BitVec.toNat (((((lo8 c &&& 255) <<< (0 : Int32)) ||| ((hi8 c &&& 255) <<< (8 : Int32))).toBitVec.setWidth 16).setWidth 32) = _
  rw [BitVec.toNat_setWidth, BitVec.toNat_setWidth, g]
  omega
end StrChars
namespace StrChars
open Jvm Sem ClassFile Op Lib Jvm.Stand Jvm.Free.XT Jvm.Free.ALB Jvm.Free.JM Jvm.Free
open Jvm.Lib.Cold (StaticIs)
/-- the array's cell V codes the n chars f 0 .. f (n - 1) by the coder cd, as the JDK does: coder 1 just where some char is above 255 -/
def Cod (cd : Int32) (n : Nat) (f : Nat → Int32) (V : Cell) : Prop := (cd = 0 ∧ V.slots.size = n ∧ ∀ j, j < n → V.slots[j]? = some (.int (lo8 (f j))) ∧ ¬ 255 < f j) ∨ (cd = 1 ∧ V.slots.size = 2 * n ∧ (∀ j, j < n → V.slots[2 * j]? = some (.int (lo8 (f j))) ∧ V.slots[2 * j + 1]? = some (.int (hi8 (f j)))) ∧ ∃ j, j < n ∧ 255 < f j)
/-- **x is a String of the n chars f 0 .. f (n - 1)**, Latin-1 or UTF-16; its array at t has the cell V -/
def Txt (x t : Addr) (V : Cell) (cd : Int32) (n : Nat) (f : Nat → Int32) (U : State) : Prop := Exact "java/lang/String" x U ∧ Has x "java/lang/String" "value" "[B" (.ref t) U ∧ Has x "java/lang/String" "coder" "B" (.int cd) U ∧ XT.Arr .byte t V U ∧ Cod cd n f V ∧ ∀ j, j < n → ¬ f j < 0 ∧ ¬ 65535 < f j
theorem Txt.mv {x t : Addr} {V : Cell} {cd : Int32} {n : Nat} {f : Nat → Int32} {U U' : State} (h : Txt x t V cd n f U) (hal : U.vm.Alike U'.vm) (hh : U'.heap = U.heap) : Txt x t V cd n f U' := ⟨h.1.mv hal hh, h.2.1.mv hal hh, h.2.2.1.mv hal hh, h.2.2.2.1.mv hal hh, h.2.2.2.2⟩
end StrChars
namespace StrChars.Road
open Jvm Sem ClassFile Op Lib Jvm.Stand Jvm.Free Jvm.Free.XT
open Jvm.Lib.Cold (StaticIs)
theorem consq {a : Array Value} {s : State} {c : Jvm.Cond} {L : List Jvm.Cond} (h0 : c.before a s = true) (h : ∀ w ∈ L, w.before a s = true) : ∀ w ∈ c :: L, w.before a s = true := fun w hw => (List.mem_cons.mp hw).elim (fun e => e ▸ h0) (h w)
/-- the bytes of the chars cs, low before high -/
def wideBytes : List Int32 → List Value
  | [] => []
  | c :: cs => .int (lo8 c) :: .int (hi8 c) :: wideBytes cs
theorem wide_lo (d : Value) : ∀ (cs : List Int32) (j : Nat), j < cs.length → (wideBytes cs).getD (2 * j) d = .int (lo8 (cs.getD j 0))
  | [], j, h => absurd h (Nat.not_lt_zero j)
  | c :: cs, 0, _ => rfl
  | c :: cs, j + 1, h => by
    have q := wide_lo d cs j (by simpa using h)
    rw [show 2 * (j + 1) = 2 * j + 1 + 1 from by omega]
    simpa [wideBytes] using q
theorem wide_hi (d : Value) : ∀ (cs : List Int32) (j : Nat), j < cs.length → (wideBytes cs).getD (2 * j + 1) d = .int (hi8 (cs.getD j 0))
  | [], j, h => absurd h (Nat.not_lt_zero j)
  | c :: cs, 0, _ => rfl
  | c :: cs, j + 1, h => by
    have q := wide_hi d cs j (by simpa using h)
    rw [show 2 * (j + 1) + 1 = 2 * j + 1 + 1 + 1 from by omega]
    simpa [wideBytes] using q
theorem low_at (d : Value) (cs : List Int32) (j : Nat) (h : j < cs.length) : (cs.map fun c => Value.int (lo8 c)).getD j d = .int (lo8 (cs.getD j 0)) := by
  simp [List.getD_eq_getElem?_getD, h]
/-- an array of N2 bytes vs codes the chars cs by the coder cd -/
def CodA (cs : List Int32) (cd N2 : Int32) (vs : List Value) : Prop := (cd = 0 ∧ N2 = Int32.ofNat cs.length ∧ vs = (cs.map fun c => Value.int (lo8 c)) ∧ ∀ c ∈ cs, ¬ 255 < c) ∨ (cd = 1 ∧ N2 = Int32.ofNat (2 * cs.length) ∧ vs = wideBytes cs ∧ ∃ c ∈ cs, 255 < c)
theorem CodA.cod {cs : List Int32} {cd N2 : Int32} {vs : List Value} {V : Cell} (h : CodA cs cd N2 vs) (hn : 2 * cs.length < 2 ^ 31) (hs : V.slots.size = N2.toNatClampNeg) (hv : RoadKit.Has V vs (.int 0)) : Cod cd cs.length (fun j => cs.getD j 0) V := by
  rcases h with ⟨rfl, rfl, rfl, h⟩ | ⟨rfl, rfl, rfl, c, hc, hw⟩
  · rw [n32 (by omega)] at hs
    exact Or.inl ⟨rfl, hs, fun j hj => ⟨by rw [hv j (by omega), low_at _ _ _ hj], by
      have e : cs.getD j 0 = cs[j] := by simp [List.getD_eq_getElem?_getD, hj]
      show ¬ 255 < cs.getD j 0
      rw [e]; exact h _ (List.getElem_mem _)⟩⟩
  · rw [n32 (by omega)] at hs
    obtain ⟨j, hj, rfl⟩ := List.getElem_of_mem hc
    exact Or.inr ⟨rfl, hs, fun j hj => ⟨by rw [hv _ (by omega), wide_lo _ _ _ hj], by rw [hv _ (by omega), wide_hi _ _ _ hj]⟩, j, hj, by
      have e : cs.getD j 0 = cs[j] := by simp [List.getD_eq_getElem?_getD, hj]
      show 255 < cs.getD j 0
      rw [e]; exact hw⟩
/-- an object of exactly java/lang/String, its two fields found: as the laws ask it -/
theorem strObj {Z U : State} {a0 : Array Value} {kI : Nat} (wi : (Jvm.Cond.instantiable ST kI).before a0 Z = true) (al : Z.vm.Alike U.vm) {x : Addr} {v0 c0 : Value} (E : RoadKit.Exa Z U.heap x ST) (V : RoadKit.Fld Z U.heap x ST "value" "[B" v0) (C : RoadKit.Fld Z U.heap x ST "coder" "B" c0) :
    ∃ (D : Cell) (fV fC : Field), Blank ST x D U ∧ Found ST "value" "[B" fV U ∧ Found ST "coder" "B" fC U ∧ D.slots[fV.slot]? = some v0 ∧ D.slots[fC.slot]? = some c0 ∧ RoadKit.slotOf Z ST "value" "[B" = fV.slot ∧ RoadKit.slotOf Z ST "coder" "B" = fC.slot := by
  obtain ⟨D, cfV, kV, iV, fV, hD, gV, stV, knV, obV, asV, slV⟩ := V
  obtain ⟨D', cfC, kC, iC, fC, hD', gC, stC, -, -, asC, slC⟩ := C
  cases hD.symm.trans hD'
  obtain ⟨D2, kD, e1, e2, e3, e4, e5⟩ := E
  cases hD.symm.trans e1
  obtain ⟨c2, k2, i1, i2, i3, -⟩ := Cond.instantiable_spec wi
  cases e2.symm.trans i1
  cases e3.symm.trans i2
  obtain ⟨kU, u1, u2⟩ := al.2.2 _ _ e3
  exact ⟨D, fV, fC, ⟨hD, ⟨knV, fun q hq => by rw [hq] at obV; cases obV⟩, by rw [al.findClass]; exact e2, kU, u1, by rw [u2]; exact i3, by rw [u2]; exact e5 i3⟩, ⟨SBG.found_only al ⟨cfV, kV, iV, gV⟩, stV⟩, ⟨SBG.found_only al ⟨cfC, kC, iC, gC⟩, stC⟩, slV, slC, by simp [RoadKit.slotOf, gV], by simp [RoadKit.slotOf, gC]⟩
theorem sta_is {Z U : State} (al : Z.vm.Alike U.vm) {C n d : String} {v : Value} (S : RoadKit.Sta Z U.heap C n d v) : StaticIs U C n d v := by
  obtain ⟨cfS, iS, kS, fS, st, cS, t1, t2, t3, t4, t5, t6, t7⟩ := S
  exact StaticIs.there (s := { Z with heap := U.heap }) ⟨cfS, iS, kS, fS, st, cS, t1, t2, t3, t4, t5, (fun q => by rw [q] at t6; cases t6), t7⟩ al rfl
end StrChars.Road
namespace StrChars
open Jvm Sem ClassFile Op Lib Jvm.Stand Jvm.Free.XT Jvm.Free.ALB Jvm.Free.JM Jvm.Free
open Jvm.Lib.Cold (StaticIs)
/-- what place i of a byte[]'s cell holds -/
def yv (A : Cell) (i : Nat) : Int32 := match A.slots[i]? with | some (.int x) => x | _ => 0
theorem yv_get {a : Addr} {A : Cell} {U : State} (h : XT.Arr .byte a A U) (ht : Typed .byte A) {i : Nat} (hi : i < A.slots.size) : A.slots[i]? = some (.int (yv A i)) := by
  have e := Array.getElem?_eq_getElem hi
  have f := ht i _ e
  unfold yv; rw [e]
  generalize A.slots[i] = v at f
  cases v <;> simp [fits] at f ⊢
/-- the two arrays are equal, place for place -/
def EqC (A B : Cell) : Prop := A.slots.size = B.slots.size ∧ ∀ i, i < A.slots.size → yv A i = yv B i
/-- a boolean that says whether p -/
def Says01 (q : Prop) (r : Option Value) (s u : State) : Prop := ∃ v : Int32, r = some (.int v) ∧ u.heap = s.heap ∧ ((v = 1 ∧ q) ∨ (v = 0 ∧ ¬ q))
theorem Says01.mv {q : Prop} : ∀ r (U U' V V' : State), U'.heap = U.heap → V.vm.Alike V'.vm → V'.heap = V.heap → Says01 q r U V → Says01 q r U' V' :=
  fun r U U' V V' h1 _ h2 ⟨v, a, b, c⟩ => ⟨v, a, by rw [h1, h2]; exact b, c⟩
namespace LEq
def yN : MethodName := ⟨"java/lang/StringLatin1", "equals", "([B[B)Z"⟩
abbrev yB : ByteArray := jdk_43_method_13_code
theorem d0 : decode yB 0 = .ok (.aload_n 0, 1) := by decide +kernel
theorem d1 : decode yB 1 = .ok (.arraylength, 1) := by decide +kernel
theorem d2 : decode yB 2 = .ok (.aload_n 1, 1) := by decide +kernel
theorem d3 : decode yB 3 = .ok (.arraylength, 1) := by decide +kernel
theorem d4 : decode yB 4 = .ok (.if_icmp (.ne) 30, 3) := by decide +kernel
theorem d7 : decode yB 7 = .ok (.iconst 0, 1) := by decide +kernel
theorem d8 : decode yB 8 = .ok (.istore_n 2, 1) := by decide +kernel
theorem d9 : decode yB 9 = .ok (.iload_n 2, 1) := by decide +kernel
theorem d10 : decode yB 10 = .ok (.aload_n 0, 1) := by decide +kernel
theorem d11 : decode yB 11 = .ok (.arraylength, 1) := by decide +kernel
theorem d12 : decode yB 12 = .ok (.if_icmp (.ge) 20, 3) := by decide +kernel
theorem d15 : decode yB 15 = .ok (.aload_n 0, 1) := by decide +kernel
theorem d16 : decode yB 16 = .ok (.iload_n 2, 1) := by decide +kernel
theorem d17 : decode yB 17 = .ok (.baload, 1) := by decide +kernel
theorem d18 : decode yB 18 = .ok (.aload_n 1, 1) := by decide +kernel
theorem d19 : decode yB 19 = .ok (.iload_n 2, 1) := by decide +kernel
theorem d20 : decode yB 20 = .ok (.baload, 1) := by decide +kernel
theorem d21 : decode yB 21 = .ok (.if_icmp (.eq) 5, 3) := by decide +kernel
theorem d24 : decode yB 24 = .ok (.iconst 0, 1) := by decide +kernel
theorem d25 : decode yB 25 = .ok (.ireturn, 1) := by decide +kernel
theorem d26 : decode yB 26 = .ok (.iinc 2 1, 3) := by decide +kernel
theorem d29 : decode yB 29 = .ok (.goto (-20), 3) := by decide +kernel
theorem d32 : decode yB 32 = .ok (.iconst 1, 1) := by decide +kernel
theorem d33 : decode yB 33 = .ok (.ireturn, 1) := by decide +kernel
theorem d34 : decode yB 34 = .ok (.iconst 0, 1) := by decide +kernel
theorem d35 : decode yB 35 = .ok (.ireturn, 1) := by decide +kernel
def site : List Cond := []
def tab : Cond := tabOf yN yB 3 (some .boolean) site
def P (a : Addr) (A : Cell) (b : Addr) (B : Cell) (args : Array Value) (s : State) : Prop := args = #[.ref a, .ref b] ∧ XT.Arr .byte a A s ∧ Typed .byte A ∧ XT.Arr .byte b B s ∧ Typed .byte B
/-- whether two byte[] are equal, place for place -/
theorem law (l : Launch) (a : Addr) (A : Cell) (b : Addr) (B : Cell) : Law l yN 2 2 0 0 yB 3 (some .boolean) site (P a A b B) (Says01 (EqC A B)) [] 0 0 := by
  refine Law.of_walk (plainFor_of_name (by decide +kernel)) (by decide +kernel) (by decide +kernel) (by decide) (fun _ _ h => by rw [h.1]; rfl) (fun _ U U' hal hh h => ⟨h.1, h.2.1.mv hal hh, h.2.2.1, h.2.2.2.1.mv hal hh, h.2.2.2.2⟩) (fun r U U' V V' h1 hal h2 h => Says01.mv r U U' V V' h1 hal h2 h) ?_
  intro p e s m args below meth c s₁ X0 hexec hbytes hml hret hlk hnm hown hh0 W hP
  obtain ⟨rfl, hA, tA, hB, tB⟩ := hP
  have a31 := hA.2.2.2
  have b31 := hB.2.2.2
  have hA0 := hA.mv X0.warmed.alike hh0
  have hB0 := hB.mv X0.warmed.alike hh0
  have c1 : Steps p.tables e below (s₁.setTop (entryFrame m #[.ref a, .ref b] 3)) (s₁.setTop (mkF m 0 #[.val (.ref a), .val (.ref b), .unset] [])) := entry rfl
  have c2 : Steps p.tables e below (s₁.setTop (entryFrame m #[.ref a, .ref b] 3)) (s₁.setTop (mkF m 4 #[.val (.ref a), .val (.ref b), .unset] [.int (Int32.ofNat B.slots.size), .int (Int32.ofNat A.slots.size)])) := c1.trans (by
    refine XS.aloadN X0.here hexec rfl (hb hbytes d0) rfl rfl ?_
    refine X0.alen hexec hA0 rfl rfl (hb hbytes d1) ?_
    refine XS.aloadN X0.here hexec rfl (hb hbytes d2) rfl rfl ?_
    refine X0.alen hexec hB0 rfl rfl (hb hbytes d3) ?_
    exact Steps.refl _)
  by_cases hs : A.slots.size = B.slots.size
  · have c3 : Steps p.tables e below (s₁.setTop (entryFrame m #[.ref a, .ref b] 3)) (s₁.setTop (mkF m 9 #[.val (.ref a), .val (.ref b), .val (.int 0)] [])) := c2.trans (by
      refine XS.icmpNo X0.here hexec rfl (hb hbytes d4) rfl (ii_ne_f (by rw [hs])) ?_
      refine iconstV X0.here hexec rfl 0 (hb hbytes d7) (by decide) ?_
      refine XS.istoreN X0.here hexec rfl (hb hbytes d8) rfl rfl ?_
      exact Steps.refl _)
    have loop : ∀ (r i : Nat), i + r = A.slots.size → (∀ j, j < i → yv A j = yv B j) → Steps p.tables e below (s₁.setTop (entryFrame m #[.ref a, .ref b] 3)) (s₁.setTop (mkF m 9 #[.val (.ref a), .val (.ref b), .val (.int (Int32.ofNat i))] [])) → ∃ (pc : Nat) (Ls : Array Slot) (v : Int32), (pc = 25 ∨ pc = 33) ∧ ((v = 1 ∧ EqC A B) ∨ (v = 0 ∧ ¬ EqC A B)) ∧ Steps p.tables e below (s₁.setTop (entryFrame m #[.ref a, .ref b] 3)) (s₁.setTop (mkF m pc Ls [.int v])) := by
      intro r
      induction r with
      | zero =>
        intro i hi he cl
        exact ⟨33, _, 1, Or.inr rfl, Or.inl ⟨rfl, hs, fun j hj => he j (by omega)⟩, cl.trans (by
          refine XS.iloadN X0.here hexec rfl (hb hbytes d9) rfl ?_
          refine XS.aloadN X0.here hexec rfl (hb hbytes d10) rfl rfl ?_
          refine X0.alen hexec hA0 rfl rfl (hb hbytes d11) ?_
          refine XS.icmpYes X0.here hexec rfl (pc0 := 12) rfl (hb hbytes d12) rfl (ii_ge_t (nlt32 (by omega) (by omega))) (by decide) rfl ?_
          refine iconstV X0.here hexec rfl 1 (hb hbytes d32) (by decide) ?_
          exact Steps.refl _)⟩
      | succ r ih =>
        intro i hi he cl
        have c4 : Steps p.tables e below (s₁.setTop (entryFrame m #[.ref a, .ref b] 3)) (s₁.setTop (mkF m 21 #[.val (.ref a), .val (.ref b), .val (.int (Int32.ofNat i))] [.int (yv B i), .int (yv A i)])) := cl.trans (by
          refine XS.iloadN X0.here hexec rfl (hb hbytes d9) rfl ?_
          refine XS.aloadN X0.here hexec rfl (hb hbytes d10) rfl rfl ?_
          refine X0.alen hexec hA0 rfl rfl (hb hbytes d11) ?_
          refine XS.icmpNo X0.here hexec rfl (hb hbytes d12) rfl (ii_ge_f (lt32 (by omega) (by omega))) ?_
          refine XS.aloadN X0.here hexec rfl (hb hbytes d15) rfl rfl ?_
          refine XS.iloadN X0.here hexec rfl (hb hbytes d16) rfl ?_
          refine X0.aget hexec hA0 rfl (yv_get hA tA (i := i) (by omega)) rfl rfl (hb hbytes d17) ?_
          refine XS.aloadN X0.here hexec rfl (hb hbytes d18) rfl rfl ?_
          refine XS.iloadN X0.here hexec rfl (hb hbytes d19) rfl ?_
          refine X0.aget hexec hB0 rfl (yv_get hB tB (i := i) (by omega)) rfl rfl (hb hbytes d20) ?_
          exact Steps.refl _)
        by_cases hv : yv A i = yv B i
        · have c5 : Steps p.tables e below (s₁.setTop (entryFrame m #[.ref a, .ref b] 3)) (s₁.setTop (mkF m 9 #[.val (.ref a), .val (.ref b), .val (.int (Int32.ofNat i + 1))] [])) := c4.trans (by
            refine XS.icmpYes X0.here hexec rfl (pc0 := 21) rfl (hb hbytes d21) rfl (ii_eq_t hv) (by decide) rfl ?_
            refine iincV X0.here hexec rfl 1 (hb hbytes d26) (by decide) rfl rfl ?_
            refine XS.goto X0.here hexec rfl (pc0 := 29) rfl (hb hbytes d29) (by decide) rfl ?_
            exact Steps.refl _)
          rw [succ32] at c5
          exact ih (i + 1) (by omega) (fun j hj => by
            by_cases e : j = i
            · rw [e]; exact hv
            · exact he j (by omega)) c5
        · exact ⟨25, _, 0, Or.inl rfl, Or.inr ⟨rfl, fun q => hv (q.2 i (by omega))⟩, c4.trans (by
            refine XS.icmpNo X0.here hexec rfl (hb hbytes d21) rfl (ii_eq_f hv) ?_
            refine iconstV X0.here hexec rfl 0 (hb hbytes d24) (by decide) ?_
            exact Steps.refl _)⟩
    obtain ⟨pc, Ls, v, hpc, hv, cz⟩ := loop A.slots.size 0 (by omega) (fun j hj => absurd hj (Nat.not_lt_zero j)) c3
    have nv : narrow .boolean (.int v) = .int v := by rcases hv with ⟨rfl, -⟩ | ⟨rfl, -⟩ <;> rfl
    rcases hpc with rfl | rfl
    · exact ⟨s₁, some (.int v), _, _, _, X0, rfl, rfl, rfl, (fun h => by cases h), ⟨v, rfl, hh0, hv⟩, fun fs hl => cz.trans (X0.ireturnOut hexec hret nv (Or.inr (Or.inl rfl)) (hb hbytes d25) hl)⟩
    · exact ⟨s₁, some (.int v), _, _, _, X0, rfl, rfl, rfl, (fun h => by cases h), ⟨v, rfl, hh0, hv⟩, fun fs hl => cz.trans (X0.ireturnOut hexec hret nv (Or.inr (Or.inl rfl)) (hb hbytes d33) hl)⟩
  · have c3 : Steps p.tables e below (s₁.setTop (entryFrame m #[.ref a, .ref b] 3)) (s₁.setTop (mkF m 35 #[.val (.ref a), .val (.ref b), .unset] [.int 0])) := c2.trans (by
      refine XS.icmpYes X0.here hexec rfl (pc0 := 4) rfl (hb hbytes d4) rfl (ii_ne_t (ne32 a31 b31 hs)) (by decide) rfl ?_
      refine iconstV X0.here hexec rfl 0 (hb hbytes d34) (by decide) ?_
      exact Steps.refl _)
    exact ⟨s₁, some (.int 0), _, _, _, X0, rfl, rfl, rfl, (fun h => by cases h), ⟨0, rfl, hh0, Or.inr ⟨rfl, fun q => hs q.1⟩⟩, fun fs hl => c3.trans (X0.ireturnOut hexec hret rfl (Or.inr (Or.inl rfl)) (hb hbytes d35) hl)⟩
end LEq
theorem Cod.ty {cd : Int32} {n : Nat} {f : Nat → Int32} {V : Cell} (h : Cod cd n f V) : Typed .byte V := fun i v hv => by
  have hi : i < V.slots.size := (Array.getElem?_eq_some_iff.mp hv).1
  rcases h with ⟨-, k1, k2⟩ | ⟨-, k1, k2, -⟩
  · rw [(k2 i (by omega)).1] at hv; cases hv; exact fits_lo8 _
  · rcases Nat.mod_two_eq_zero_or_one i with e | e
    · obtain ⟨j, rfl⟩ : ∃ j, i = 2 * j := ⟨i / 2, by omega⟩
      rw [(k2 j (by omega)).1] at hv; cases hv; exact fits_lo8 _
    · obtain ⟨j, rfl⟩ : ∃ j, i = 2 * j + 1 := ⟨i / 2, by omega⟩
      rw [(k2 j (by omega)).2] at hv; cases hv; exact fits_lo8 _
/-- the same text -/
def SameT (n : Nat) (f : Nat → Int32) (k : Nat) (g : Nat → Int32) : Prop := n = k ∧ ∀ j, j < n → f j = g j
theorem lo8_inj {x y : Int32} (h0 : ¬ x < 0) (h1 : ¬ 255 < x) (k0 : ¬ y < 0) (k1 : ¬ 255 < y) (h : lo8 x = lo8 y) : x = y := by
  rw [← lo8_mask h0 h1, ← lo8_mask k0 k1, h]
/-- arrays coded by one coder are equal just where the texts are -/
theorem Cod.eqv {cd : Int32} {n k : Nat} {f g : Nat → Int32} {V V' : Cell} (h : Cod cd n f V) (h' : Cod cd k g V') (hf : ∀ j, j < n → ¬ f j < 0 ∧ ¬ 65535 < f j) (hg : ∀ j, j < k → ¬ g j < 0 ∧ ¬ 65535 < g j) : EqC V V' ↔ SameT n f k g := by
  have yvv : ∀ {W : Cell} {i : Nat} {x : Int32}, W.slots[i]? = some (.int x) → yv W i = x := fun q => by unfold yv; rw [q]
  rcases h with ⟨rfl, k1, k2⟩ | ⟨rfl, k1, k2, -⟩
  · rcases h' with ⟨-, m1, m2⟩ | ⟨e, -⟩
    · constructor
      · rintro ⟨e1, e2⟩
        refine ⟨by omega, fun j hj => ?_⟩
        have q := e2 j (by omega)
        rw [yvv (k2 j hj).1, yvv (m2 j (by omega)).1] at q
        exact lo8_inj (hf j hj).1 (k2 j hj).2 (hg j (by omega)).1 (m2 j (by omega)).2 q
      · rintro ⟨rfl, e2⟩
        refine ⟨by omega, fun j hj => ?_⟩
        rw [yvv (k2 j (by omega)).1, yvv (m2 j (by omega)).1, e2 j (by omega)]
    · exact absurd e (by decide)
  · rcases h' with ⟨e, -⟩ | ⟨-, m1, m2, -⟩
    · exact absurd e (by decide)
    · constructor
      · rintro ⟨e1, e2⟩
        refine ⟨by omega, fun j hj => ?_⟩
        have q1 := e2 (2 * j) (by omega)
        have q2 := e2 (2 * j + 1) (by omega)
        rw [yvv (k2 j hj).1, yvv (m2 j (by omega)).1] at q1
        rw [yvv (k2 j hj).2, yvv (m2 j (by omega)).2] at q2
        rw [← pair_says (hf j hj).1 (hf j hj).2, ← pair_says (hg j (by omega)).1 (hg j (by omega)).2, q1, q2]
      · rintro ⟨rfl, e2⟩
        refine ⟨by omega, fun i hi => ?_⟩
        rcases Nat.mod_two_eq_zero_or_one i with e | e
        · obtain ⟨j, rfl⟩ : ∃ j, i = 2 * j := ⟨i / 2, by omega⟩
          rw [yvv (k2 j (by omega)).1, yvv (m2 j (by omega)).1, e2 j (by omega)]
        · obtain ⟨j, rfl⟩ : ∃ j, i = 2 * j + 1 := ⟨i / 2, by omega⟩
          rw [yvv (k2 j (by omega)).2, yvv (m2 j (by omega)).2, e2 j (by omega)]
/-- two codings differ: so do the texts -/
theorem Cod.dif {cd cd' : Int32} {n k : Nat} {f g : Nat → Int32} {V V' : Cell} (h : Cod cd n f V) (h' : Cod cd' k g V') (hne : ¬ cd = cd') : ¬ SameT n f k g := by
  rintro ⟨rfl, e⟩
  rcases h with ⟨rfl, -, k2⟩ | ⟨rfl, -, -, j, hj, hw⟩
  · rcases h' with ⟨rfl, -⟩ | ⟨-, -, -, j, hj, hw⟩
    · exact hne rfl
    · exact (k2 j hj).2 (by rw [e j hj]; exact hw)
  · rcases h' with ⟨-, -, m2⟩ | ⟨rfl, -⟩
    · exact (m2 j hj).2 (by rw [← e j hj]; exact hw)
    · exact hne rfl
/-- an object of exactly C is an instance of C -/
theorem cinst {p : Program} {l : Launch} {e : Env} {R : Room} {s : State} {m : MethodId} {args : Array Value} {below : List Frame} {meth : Method} {c : Code} {T : State} {locs : List Loc} {cells slots : Nat} (X : Stand p l e R s m args below meth c T locs cells slots) (hexec : p.tables.exec = Jvm.exec) {own C : String} {index : Nat} (hown : s.vm.findClass own = some m.cls) (hlink : (Cond.classLink own index C).before args s = true) {a : Addr} (hE : Exact C a T)
    {g : JFrame} (hg : g.method = m) {rest : List Value} (hstack : g.stack = .ref a :: rest) (hdg : decode c.code g.pc = .ok (.instanceof index, 3)) :
    ∃ T', Stand p l e R s m args below meth c T' locs cells slots ∧ T'.heap = T.heap ∧ ∀ target, Steps p.tables e below (T'.setTop { g with pc := g.pc + 3, stack := .int 1 :: rest }) target → Steps p.tables e below (T.setTop g) target := by
  obtain ⟨cB, h1, D, h2, h3, h4⟩ := hE
  have h1' : s.vm.findClass C = some cB := by rw [← X.warmed.alike.findClass]; exact h1
  obtain ⟨vm', X', st⟩ := X.instanceofYes hexec hown hlink h2 h4 h1' (by rw [h3]; exact Jvm.Free.SB.assignable_self _ _) hg hstack hdg
  exact ⟨_, X', rfl, st⟩
theorem cself {p : Program} {l : Launch} {e : Env} {R : Room} {s : State} {m : MethodId} {args : Array Value} {below : List Frame} {meth : Method} {c : Code} {T : State} {locs : List Loc} {cells slots : Nat} (X : Stand p l e R s m args below meth c T locs cells slots) (hexec : p.tables.exec = Jvm.exec) {own C : String} {index : Nat} (hown : s.vm.findClass own = some m.cls) (hlink : (Cond.classLink own index C).before args s = true) {a : Addr} (hE : Exact C a T)
    {g : JFrame} (hg : g.method = m) {rest : List Value} (hstack : g.stack = .ref a :: rest) (hdg : decode c.code g.pc = .ok (.checkcast index, 3)) :
    ∃ T', Stand p l e R s m args below meth c T' locs cells slots ∧ T'.heap = T.heap ∧ ∀ target, Steps p.tables e below (T'.setTop { g with pc := g.pc + 3, stack := .ref a :: rest }) target → Steps p.tables e below (T.setTop g) target := by
  obtain ⟨cB, h1, D, h2, h3, h4⟩ := hE
  have h1' : s.vm.findClass C = some cB := by rw [← X.warmed.alike.findClass]; exact h1
  obtain ⟨vm', X', st⟩ := X.checkcastYes hexec hown hlink h2 h4 h1' (by rw [h3]; exact Jvm.Free.SB.assignable_self _ _) hg hstack hdg
  exact ⟨_, X', rfl, fun t h => st t (by rw [← hstack] at h; exact h)⟩
namespace SEq
def yN : MethodName := ⟨"java/lang/String", "equals", "(Ljava/lang/Object;)Z"⟩
abbrev yB : ByteArray := jdk_42_method_66_code
theorem d0 : decode yB 0 = .ok (.aload_n 0, 1) := by decide +kernel
theorem d1 : decode yB 1 = .ok (.aload_n 1, 1) := by decide +kernel
theorem d2 : decode yB 2 = .ok (.if_acmp (.ne) 5, 3) := by decide +kernel
theorem d5 : decode yB 5 = .ok (.iconst 1, 1) := by decide +kernel
theorem d6 : decode yB 6 = .ok (.ireturn, 1) := by decide +kernel
theorem d7 : decode yB 7 = .ok (.aload_n 1, 1) := by decide +kernel
theorem d8 : decode yB 8 = .ok (.instanceof 10, 3) := by decide +kernel
theorem d11 : decode yB 11 = .ok (.ifCond (.eq) 43, 3) := by decide +kernel
theorem d14 : decode yB 14 = .ok (.aload_n 1, 1) := by decide +kernel
theorem d15 : decode yB 15 = .ok (.checkcast 10, 3) := by decide +kernel
theorem d18 : decode yB 18 = .ok (.astore_n 2, 1) := by decide +kernel
theorem d19 : decode yB 19 = .ok (.getstatic 38, 3) := by decide +kernel
theorem d22 : decode yB 22 = .ok (.ifCond (.eq) 14, 3) := by decide +kernel
theorem d25 : decode yB 25 = .ok (.aload_n 0, 1) := by decide +kernel
theorem d26 : decode yB 26 = .ok (.getfield 15, 3) := by decide +kernel
theorem d29 : decode yB 29 = .ok (.aload_n 2, 1) := by decide +kernel
theorem d30 : decode yB 30 = .ok (.getfield 15, 3) := by decide +kernel
theorem d33 : decode yB 33 = .ok (.if_icmp (.ne) 21, 3) := by decide +kernel
theorem d36 : decode yB 36 = .ok (.aload_n 0, 1) := by decide +kernel
theorem d37 : decode yB 37 = .ok (.getfield 9, 3) := by decide +kernel
theorem d40 : decode yB 40 = .ok (.aload_n 2, 1) := by decide +kernel
theorem d41 : decode yB 41 = .ok (.getfield 9, 3) := by decide +kernel
theorem d44 : decode yB 44 = .ok (.invokestatic 541, 3) := by decide +kernel
theorem d47 : decode yB 47 = .ok (.ifCond (.eq) 7, 3) := by decide +kernel
theorem d50 : decode yB 50 = .ok (.iconst 1, 1) := by decide +kernel
theorem d51 : decode yB 51 = .ok (.goto 4, 3) := by decide +kernel
theorem d54 : decode yB 54 = .ok (.iconst 0, 1) := by decide +kernel
theorem d55 : decode yB 55 = .ok (.ireturn, 1) := by decide +kernel
def site : List Cond := [.classLink "java/lang/String" 10 "java/lang/String", .fieldLink "java/lang/String" 38 "java/lang/String" "COMPACT_STRINGS" "Z", .fieldLink "java/lang/String" 15 "java/lang/String" "coder" "B", .fieldLink "java/lang/String" 9 "java/lang/String" "value" "[B", LEq.tab] ++ staticW "java/lang/String" 541 LEq.yN
def tab : Cond := tabOf yN yB 3 (some .boolean) site
def P (x t : Addr) (V : Cell) (cd : Int32) (n : Nat) (f : Nat → Int32) (y t' : Addr) (V' : Cell) (cd' : Int32) (k : Nat) (g : Nat → Int32) (z : Int32) (args : Array Value) (s : State) : Prop := args = #[.ref x, .ref y] ∧ Txt x t V cd n f s ∧ Txt y t' V' cd' k g s ∧ StaticIs s "java/lang/String" "COMPACT_STRINGS" "Z" (.int z) ∧ ¬ z = 0
/-- equals(Object) of two Strings: whether the texts are the same -/
theorem law (l : Launch) (x t : Addr) (V : Cell) (cd : Int32) (n : Nat) (f : Nat → Int32) (y t' : Addr) (V' : Cell) (cd' : Int32) (k : Nat) (g : Nat → Int32) (z : Int32) : Law l yN 2 1 1 14 yB 3 (some .boolean) site (P x t V cd n f y t' V' cd' k g z) (Says01 (SameT n f k g)) [] 0 0 := by
  refine Law.of_walk (plainFor_of_name (by decide +kernel)) (by decide +kernel) (by decide +kernel) (by decide) (fun _ _ h => by rw [h.1]; rfl) (fun _ U U' hal hh h => ⟨h.1, h.2.1.mv hal hh, h.2.2.1.mv hal hh, h.2.2.2.1.there hal hh, h.2.2.2.2⟩) (fun r U U' V V' h1 hal h2 h => Says01.mv r U U' V V' h1 hal h2 h) ?_
  intro p e s m args below meth c s₁ X0 hexec hbytes hml hret hlk hnm hown hh0 W hP
  obtain ⟨rfl, hx, hy, s1, hz⟩ := hP
  have c1 : Steps p.tables e below (s₁.setTop (entryFrame m #[.ref x, .ref y] 3)) (s₁.setTop (mkF m 2 #[.val (.ref x), .val (.ref y), .unset] [.ref y, .ref x])) := Steps.trans (entry rfl) (by
    show Steps p.tables e below (s₁.setTop (mkF m 0 #[.val (.ref x), .val (.ref y), .unset] [])) _
    refine XS.aloadN X0.here hexec rfl (hb hbytes d0) rfl rfl ?_
    refine XS.aloadN X0.here hexec rfl (hb hbytes d1) rfl rfl ?_
    exact Steps.refl _)
  by_cases hxy : x = y
  · have c2 : Steps p.tables e below (s₁.setTop (entryFrame m #[.ref x, .ref y] 3)) (s₁.setTop (mkF m 6 #[.val (.ref x), .val (.ref y), .unset] [.int 1])) := c1.trans (by
      refine acmpNo X0.here hexec rfl (hb hbytes d2) rfl rfl rfl (by simp [acmp, hxy]) ?_
      refine iconstV X0.here hexec rfl 1 (hb hbytes d5) (by decide) ?_
      exact Steps.refl _)
    subst hxy
    have ec : cd = cd' := by
      obtain ⟨D, fd, a1, a2, a3⟩ := hx.2.2.1
      obtain ⟨D', fd', b1, b2, b3⟩ := hy.2.2.1
      cases a1.symm.trans b1
      obtain ⟨q1, q2, q3, q4⟩ := a2.1
      obtain ⟨r1, r2, r3, r4⟩ := b2.1
      cases q4.symm.trans r4
      cases a3.symm.trans b3; rfl
    have et : t = t' := by
      obtain ⟨D, fd, a1, a2, a3⟩ := hx.2.1
      obtain ⟨D', fd', b1, b2, b3⟩ := hy.2.1
      cases a1.symm.trans b1
      obtain ⟨q1, q2, q3, q4⟩ := a2.1
      obtain ⟨r1, r2, r3, r4⟩ := b2.1
      cases q4.symm.trans r4
      cases a3.symm.trans b3; rfl
    subst ec et
    have ev : V = V' := by cases hx.2.2.2.1.1.symm.trans hy.2.2.2.1.1; rfl
    subst ev
    have hs : SameT n f k g := (Cod.eqv hx.2.2.2.2.1 hy.2.2.2.2.1 hx.2.2.2.2.2 hy.2.2.2.2.2).mp ⟨rfl, fun _ _ => rfl⟩
    exact ⟨s₁, some (.int 1), _, _, _, X0, rfl, rfl, rfl, (fun h => by cases h), ⟨1, rfl, hh0, Or.inl ⟨rfl, hs⟩⟩, fun fs hl => c2.trans (X0.ireturnOut hexec hret rfl (Or.inr (Or.inl rfl)) (hb hbytes d6) hl)⟩
  · have c2 : Steps p.tables e below (s₁.setTop (entryFrame m #[.ref x, .ref y] 3)) (s₁.setTop (mkF m 8 #[.val (.ref x), .val (.ref y), .unset] [.ref y])) := c1.trans (by
      refine acmpYes X0.here hexec rfl (pc0 := 2) rfl (hb hbytes d2) rfl rfl rfl (by simp [acmp, hxy]) (by decide) rfl ?_
      refine XS.aloadN X0.here hexec rfl (hb hbytes d7) rfl rfl ?_
      exact Steps.refl _)
    obtain ⟨T3, X3, q3, st3⟩ := cinst X0 hexec hown (wk W (.classLink "java/lang/String" 10 "java/lang/String")) (hy.mv X0.warmed.alike hh0).1 (g := (mkF m 8 #[.val (.ref x), .val (.ref y), .unset] [.ref y])) rfl (rest := []) rfl (hb hbytes d8)
    have hh3 := q3.trans hh0
    have c4 : Steps p.tables e below (s₁.setTop (entryFrame m #[.ref x, .ref y] 3)) (T3.setTop (mkF m 15 #[.val (.ref x), .val (.ref y), .unset] [.ref y])) := (c2.trans (st3 _ (Steps.refl _))).trans (by
      refine XS.ifNo X3.here hexec rfl (hb hbytes d11) rfl (i0_eq_f (by decide)) ?_
      refine XS.aloadN X3.here hexec rfl (hb hbytes d14) rfl rfl ?_
      exact Steps.refl _)
    obtain ⟨T5, X5, q5, st5⟩ := cself X3 hexec hown (wk W (.classLink "java/lang/String" 10 "java/lang/String")) (hy.mv X3.warmed.alike hh3).1 (g := (mkF m 15 #[.val (.ref x), .val (.ref y), .unset] [.ref y])) rfl (rest := []) rfl (hb hbytes d15)
    have hh5 := q5.trans hh3
    have c6 : Steps p.tables e below (s₁.setTop (entryFrame m #[.ref x, .ref y] 3)) (T5.setTop (mkF m 19 #[.val (.ref x), .val (.ref y), .val (.ref y)] [])) := (c4.trans (st5 _ (Steps.refl _))).trans (by
      refine XS.astoreN X5.here hexec rfl (hb hbytes d18) rfl rfl rfl ?_
      exact Steps.refl _)
    obtain ⟨T7, X7, q7, st7⟩ := X5.sget hexec hown (wk W (.fieldLink "java/lang/String" 38 "java/lang/String" "COMPACT_STRINGS" "Z")) s1 (fun _ _ h => by rw [hh5]; exact h) (g := (mkF m 19 #[.val (.ref x), .val (.ref y), .val (.ref y)] [])) rfl (hb hbytes d19)
    have hh7 := q7.trans hh5
    have c8 : Steps p.tables e below (s₁.setTop (entryFrame m #[.ref x, .ref y] 3)) (T7.setTop (mkF m 26 #[.val (.ref x), .val (.ref y), .val (.ref y)] [.ref x])) := (c6.trans (st7 _ (Steps.refl _))).trans (by
      refine XS.ifNo X7.here hexec rfl (hb hbytes d22) rfl (i0_eq_f hz) ?_
      refine XS.aloadN X7.here hexec rfl (hb hbytes d25) rfl rfl ?_
      exact Steps.refl _)
    obtain ⟨T9, X9, q9, st9⟩ := X7.hget hexec hown (wk W (.fieldLink "java/lang/String" 15 "java/lang/String" "coder" "B")) (hx.mv X7.warmed.alike hh7).2.2.1 (g := (mkF m 26 #[.val (.ref x), .val (.ref y), .val (.ref y)] [.ref x])) rfl (rest := []) rfl (hb hbytes d26)
    have hh9 := q9.trans hh7
    have c10 : Steps p.tables e below (s₁.setTop (entryFrame m #[.ref x, .ref y] 3)) (T9.setTop (mkF m 30 #[.val (.ref x), .val (.ref y), .val (.ref y)] [.ref y, .int cd])) := (c8.trans (st9 _ (Steps.refl _))).trans (by
      refine XS.aloadN X9.here hexec rfl (hb hbytes d29) rfl rfl ?_
      exact Steps.refl _)
    obtain ⟨T11, X11, q11, st11⟩ := X9.hget hexec hown (wk W (.fieldLink "java/lang/String" 15 "java/lang/String" "coder" "B")) (hy.mv X9.warmed.alike hh9).2.2.1 (g := (mkF m 30 #[.val (.ref x), .val (.ref y), .val (.ref y)] [.ref y, .int cd])) rfl (rest := [.int cd]) rfl (hb hbytes d30)
    have hh11 := q11.trans hh9
    have c12 : Steps p.tables e below (s₁.setTop (entryFrame m #[.ref x, .ref y] 3)) (T11.setTop (mkF m 33 #[.val (.ref x), .val (.ref y), .val (.ref y)] [.int cd', .int cd])) := c10.trans (st11 _ (Steps.refl _))
    by_cases hcd : cd = cd'
    · subst hcd
      have c13 : Steps p.tables e below (s₁.setTop (entryFrame m #[.ref x, .ref y] 3)) (T11.setTop (mkF m 37 #[.val (.ref x), .val (.ref y), .val (.ref y)] [.ref x])) := c12.trans (by
        refine XS.icmpNo X11.here hexec rfl (hb hbytes d33) rfl (ii_ne_f rfl) ?_
        refine XS.aloadN X11.here hexec rfl (hb hbytes d36) rfl rfl ?_
        exact Steps.refl _)
      obtain ⟨T14, X14, q14, st14⟩ := X11.hget hexec hown (wk W (.fieldLink "java/lang/String" 9 "java/lang/String" "value" "[B")) (hx.mv X11.warmed.alike hh11).2.1 (g := (mkF m 37 #[.val (.ref x), .val (.ref y), .val (.ref y)] [.ref x])) rfl (rest := []) rfl (hb hbytes d37)
      have hh14 := q14.trans hh11
      have c15 : Steps p.tables e below (s₁.setTop (entryFrame m #[.ref x, .ref y] 3)) (T14.setTop (mkF m 41 #[.val (.ref x), .val (.ref y), .val (.ref y)] [.ref y, .ref t])) := (c13.trans (st14 _ (Steps.refl _))).trans (by
        refine XS.aloadN X14.here hexec rfl (hb hbytes d40) rfl rfl ?_
        exact Steps.refl _)
      obtain ⟨T16, X16, q16, st16⟩ := X14.hget hexec hown (wk W (.fieldLink "java/lang/String" 9 "java/lang/String" "value" "[B")) (hy.mv X14.warmed.alike hh14).2.1 (g := (mkF m 41 #[.val (.ref x), .val (.ref y), .val (.ref y)] [.ref y, .ref t])) rfl (rest := [.ref t]) rfl (hb hbytes d41)
      have hh16 := q16.trans hh14
      have c17 : Steps p.tables e below (s₁.setTop (entryFrame m #[.ref x, .ref y] 3)) (T16.setTop (mkF m 44 #[.val (.ref x), .val (.ref y), .val (.ref y)] [.ref t', .ref t])) := c15.trans (st16 _ (Steps.refl _))
      obtain ⟨v18, T18, X18, E18, g18⟩ := X16.callS hexec (LEq.law l t V t' V') hown (wks W (staticW "java/lang/String" 541 LEq.yN)) (wk W LEq.tab) (W := 0) (Nat.le_of_ble_eq_true rfl) (Nat.le_of_ble_eq_true rfl) (Nat.le_refl _) (Nat.le_refl _) (g := (mkF m 44 #[.val (.ref x), .val (.ref y), .val (.ref y)] [.ref t', .ref t])) rfl (by rw [hml]; rfl) c17 (argsL := [.ref t, .ref t']) (rest := []) rfl rfl (by show 2 * 0 + 0 ≤ _; decide) (hb hbytes d44) (⟨rfl, hx.2.2.2.1.mv X16.warmed.alike hh16, hx.2.2.2.2.1.ty, hy.2.2.2.1.mv X16.warmed.alike hh16, hy.2.2.2.2.1.ty⟩)
      obtain ⟨v, rfl, q18, hv⟩ := E18
      have iff := Cod.eqv hx.2.2.2.2.1 hy.2.2.2.2.1 hx.2.2.2.2.2 hy.2.2.2.2.2
      rcases hv with ⟨rfl, he⟩ | ⟨rfl, he⟩
      · have c19 : Steps p.tables e below (s₁.setTop (entryFrame m #[.ref x, .ref y] 3)) (T18.setTop (mkF m 55 #[.val (.ref x), .val (.ref y), .val (.ref y)] [.int 1])) := Steps.trans g18 (by
          refine XS.ifNo X18.here hexec rfl (hb hbytes d47) rfl (i0_eq_f (by decide)) ?_
          refine iconstV X18.here hexec rfl 1 (hb hbytes d50) (by decide) ?_
          refine XS.goto X18.here hexec rfl (pc0 := 51) rfl (hb hbytes d51) (by decide) rfl ?_
          exact Steps.refl _)
        exact ⟨T18, some (.int 1), _, _, _, X18, rfl, rfl, rfl, (fun h => by cases h), ⟨1, rfl, q18.trans hh16, Or.inl ⟨rfl, iff.mp he⟩⟩, fun fs hl => c19.trans (X18.ireturnOut hexec hret rfl (Or.inr (Or.inl rfl)) (hb hbytes d55) hl)⟩
      · have c19 : Steps p.tables e below (s₁.setTop (entryFrame m #[.ref x, .ref y] 3)) (T18.setTop (mkF m 55 #[.val (.ref x), .val (.ref y), .val (.ref y)] [.int 0])) := Steps.trans g18 (by
          refine XS.ifYes X18.here hexec rfl (pc0 := 47) rfl (hb hbytes d47) rfl (i0_eq_t rfl) (by decide) rfl ?_
          refine iconstV X18.here hexec rfl 0 (hb hbytes d54) (by decide) ?_
          exact Steps.refl _)
        exact ⟨T18, some (.int 0), _, _, _, X18, rfl, rfl, rfl, (fun h => by cases h), ⟨0, rfl, q18.trans hh16, Or.inr ⟨rfl, fun q => he (iff.mpr q)⟩⟩, fun fs hl => c19.trans (X18.ireturnOut hexec hret rfl (Or.inr (Or.inl rfl)) (hb hbytes d55) hl)⟩
    · have c13 : Steps p.tables e below (s₁.setTop (entryFrame m #[.ref x, .ref y] 3)) (T11.setTop (mkF m 55 #[.val (.ref x), .val (.ref y), .val (.ref y)] [.int 0])) := c12.trans (by
        refine XS.icmpYes X11.here hexec rfl (pc0 := 33) rfl (hb hbytes d33) rfl (ii_ne_t hcd) (by decide) rfl ?_
        refine iconstV X11.here hexec rfl 0 (hb hbytes d54) (by decide) ?_
        exact Steps.refl _)
      exact ⟨T11, some (.int 0), _, _, _, X11, rfl, rfl, rfl, (fun h => by cases h), ⟨0, rfl, hh11, Or.inr ⟨rfl, Cod.dif hx.2.2.2.2.1 hy.2.2.2.2.1 hcd⟩⟩, fun fs hl => c13.trans (X11.ireturnOut hexec hret rfl (Or.inr (Or.inl rfl)) (hb hbytes d55) hl)⟩
theorem pays {l : Launch} {R : Room} {p : Program} {e : Env} {below : List Frame} {s : State} {sargs : Array Value} {len W : Nat} (x t : Addr) (V : Cell) (cd : Int32) (n : Nat) (f : Nat → Int32) (y t' : Addr) (V' : Cell) (cd' : Int32) (k : Nat) (g : Nat → Int32) (z : Int32) (htab : tab.before sargs s = true) (hfr : 2 ≤ R.frames) (hlo : W + 28 ≤ R.locals) :
    Back l R p e below s sargs yN len W (fun A₁ a₁ => A₁.cells + 0 ≤ R.cells ∧ A₁.slots + 0 ≤ R.slots ∧ P x t V cd n f y t' V' cd' k g z a₁ A₁.U) (fun A₁ _ v₁ B₁ => Says01 (SameT n f k g) v₁ A₁.U B₁.U ∧ B₁.locs = A₁.locs ++ [] ∧ B₁.cells = A₁.cells + 0 ∧ B₁.slots = A₁.slots + 0) :=
  (law l x t V cd n f y t' V' cd' k g z).pays htab hfr (by omega)
end SEq
end StrChars
namespace StrChars.Road
open Jvm Sem ClassFile Op Lib Jvm.Stand Jvm.Free Jvm.Free.XT
open Jvm.Lib.Cold (StaticIs)
/-- the words of String.equals(Object) -/
abbrev wordsEq : List Jvm.Cond := [.code SEq.yN SEq.yB 3 (some .boolean), .initialized ST, .classLink ST 10 ST, .fieldLink ST 38 ST "COMPACT_STRINGS" "Z", .fieldLink ST 15 ST "coder" "B", .fieldLink ST 9 ST "value" "[B", .methodLink ST 541 LEq.yN, .static LEq.yN, .code LEq.yN LEq.yB 3 (some .boolean), .initialized "java/lang/StringLatin1"]
theorem tabEq_of {a : Array Value} {s : State} (h : ∀ w ∈ wordsEq, w.before a s = true) : SEq.tab.before a s = true := by
  have hl : LEq.tab.before a s = true := unparts (wk h (.code LEq.yN LEq.yB 3 (some .boolean))) (wks h (.initialized LEq.yN.cls :: LEq.site))
  have q := consq hl h
  exact unparts (wk q (.code SEq.yN SEq.yB 3 (some .boolean))) (wks q (.initialized SEq.yN.cls :: SEq.site))
theorem movedEq {Z s : State} {a0 args : Array Value} (hZ : Z.Warmed39 s.vm) (hw : ∀ d ∈ wordsEq, d.before a0 Z = true) : ∀ d ∈ wordsEq, d.before args s = true := fun d hd => by
  have t : ∀ d ∈ wordsEq, (d.onTables && d.keepsFace) = true := by decide +kernel
  exact RoadKit.mv hZ (hw d hd) (t d hd)
/-- the road's facts of a String, as the laws ask it -/
theorem txt_of {Z U : State} {a0 : Array Value} {kI : Nat} (wi : (Jvm.Cond.instantiable ST kI).before a0 Z = true) (al : Z.vm.Alike U.vm) {x t : Addr} {kb : ClassId} {cs : List Int32} {cd N2 : Int32} {vs : List Value} (E : RoadKit.Exa Z U.heap x ST) (V : RoadKit.Fld Z U.heap x ST "value" "[B" (.ref t)) (C : RoadKit.Fld Z U.heap x ST "coder" "B" (.int cd)) (K : RoadKit.Arv Z U.heap t kb .byte N2 vs (.int 0)) (hc : CodA cs cd N2 vs) (hb : ∀ c ∈ cs, ¬ c < 0 ∧ ¬ (65535 : Int32) < c) (l2 : cs.length ≤ 4000) :
    ∃ A, Txt x t A cd cs.length (fun j => cs.getD j 0) U := by
  obtain ⟨A, K1, K2, K3, K4, K5, K6⟩ := K
  have hcod := hc.cod (by omega) K3 K5
  obtain ⟨D, fV, fC, hB, F1, F2, g1, g2, -, -⟩ := strObj wi al E V C
  exact ⟨A, ⟨_, hB.2.2.1, D, hB.1, rfl, by cases q : D.vm <;> first | rfl | exact absurd q (hB.2.1.2 _)⟩, Has.of hB F1 g1, Has.of hB F2 g2, ⟨K1.1, State.isArrayOf_alike al K1.2.1, K1.2.2, by rcases hcod with ⟨-, q, -⟩ | ⟨-, q, -⟩ <;> omega⟩, hcod, fun j hj => by
    have e : cs.getD j 0 = cs[j] := by simp [List.getD_eq_getElem?_getD, hj]
    show ¬ cs.getD j 0 < 0 ∧ ¬ 65535 < cs.getD j 0
    rw [e]; exact hb _ (List.getElem_mem _)⟩
theorem same_list (cs ds : List Int32) : SameT cs.length (fun j => cs.getD j 0) ds.length (fun j => ds.getD j 0) ↔ cs = ds := by
  constructor
  · rintro ⟨e, q⟩
    refine List.ext_getElem e fun j h1 h2 => ?_
    have := q j h1
    simpa [List.getD_eq_getElem?_getD, h1, h2] using this
  · rintro rfl
    exact ⟨rfl, fun _ _ => rfl⟩
/-- **equals(Object) OF TWO SUCH STRINGS**: 1 just where the chars are the same -/
theorem eqW {p : Program} {l : Launch} {e : Env} {R : Room} {s : State} {args : Array Value} {below : List Frame} {len W : Nat} {Z : State} {a0 : Array Value} {h : Heap} (hZ : Z.Warmed39 s.vm) (hw : ∀ d ∈ wordsEq, d.before a0 Z = true) {kI : Nat} (wi : (Jvm.Cond.instantiable ST kI).before a0 Z = true)
    {x t : Addr} {kb : ClassId} {cs : List Int32} {cd N2 : Int32} {vs : List Value} (E : RoadKit.Exa Z h x ST) (V : RoadKit.Fld Z h x ST "value" "[B" (.ref t)) (C : RoadKit.Fld Z h x ST "coder" "B" (.int cd)) (K : RoadKit.Arv Z h t kb .byte N2 vs (.int 0)) (hc : CodA cs cd N2 vs) (hb : ∀ c ∈ cs, ¬ c < 0 ∧ ¬ (65535 : Int32) < c) (l2 : cs.length ≤ 4000)
    {y t' : Addr} {kb' : ClassId} {ds : List Int32} {cd' N2' : Int32} {vs' : List Value} (E' : RoadKit.Exa Z h y ST) (V' : RoadKit.Fld Z h y ST "value" "[B" (.ref t')) (C' : RoadKit.Fld Z h y ST "coder" "B" (.int cd')) (K' : RoadKit.Arv Z h t' kb' .byte N2' vs' (.int 0)) (hc' : CodA ds cd' N2' vs') (hb' : ∀ c ∈ ds, ¬ c < 0 ∧ ¬ (65535 : Int32) < c) (l2' : ds.length ≤ 4000)
    {z : Int32} (S : RoadKit.Sta Z h ST "COMPACT_STRINGS" "Z" (.int z)) (hz : ¬ z = 0) (hfr : 2 ≤ R.frames) (hlo : W + 28 ≤ R.locals) :
    Back l R p e below s args (⟨"java/lang/String", "equals", "(Ljava/lang/Object;)Z"⟩ : MethodName) len W (fun P a => a = #[.ref x, .ref y] ∧ P.U.heap = h ∧ P.cells + 0 ≤ R.cells ∧ P.slots + 0 ≤ R.slots)
      (fun P _ v B => ∃ L, (((v = some (.int 1) ∧ cs = ds) ∨ (v = some (.int 0) ∧ ¬ cs = ds)) ∧ L = [] ∧ B.U.heap = h) ∧ B.locs = P.locs ++ L ∧ B.cells = P.cells + 0 ∧ B.slots = P.slots + 0) := by
  intro m meth c P g ig mk a X hg hsize hdg hW hn hp'
  obtain ⟨rfl, rfl, r1, r2⟩ := hp'
  have al : Z.vm.Alike P.U.vm := hZ.alike.trans X.warmed.alike
  obtain ⟨A, hx⟩ := txt_of wi al E V C K hc hb l2
  obtain ⟨A', hy⟩ := txt_of wi al E' V' C' K' hc' hb' l2'
  obtain ⟨v, B, X', ⟨⟨w, hv, hh, hq⟩, hl, hk, hs⟩, st⟩ := SEq.pays x t A cd cs.length (fun j => cs.getD j 0) y t' A' cd' ds.length (fun j => ds.getD j 0) z (tabEq_of (movedEq hZ hw)) hfr hlo m meth c P g ig mk _ X hg hsize hdg hW hn ⟨r1, r2, rfl, hx, hy, sta_is al S, hz⟩
  refine ⟨v, B, X', ⟨[], ⟨?_, rfl, hh⟩, hl, hk, hs⟩, st⟩
  rcases hq with ⟨rfl, q⟩ | ⟨rfl, q⟩
  · exact Or.inl ⟨hv, (same_list cs ds).mp q⟩
  · exact Or.inr ⟨hv, fun e => q ((same_list cs ds).mpr e)⟩
end StrChars.Road
namespace StrChars.Road
open Jvm Sem ClassFile Op Lib Jvm.Stand Jvm.Free Jvm.Free.XT
open Jvm.Lib.Cold (StaticIs)
/-- what backV says of its String, as the contracts of this text ask it: cs's low bytes, coder 0 -/
theorem codOf {cs : List Int32} {n : Nat} (hn : cs.length = n) (hb : ∀ c ∈ cs, ¬ 255 < c) : CodA cs 0 (Int32.ofNat n) ((cs.map lo8).map Value.int) := Or.inl ⟨rfl, by rw [hn], by simp [List.map_map, Function.comp_def], hb⟩
end StrChars.Road
end Jvm.Pilot.@@N@@
namespace Jvm.Pilot.@@N@@
open Jvm Jvm.ClassFile Sem Op Lib Jvm.Free Jvm.Stand Jvm.LawKit Jvm.RoadKit Bundle Jvm.Pilot.@@N@@.Jvm.D
section OwnKit
variable {p : Program} {l : Launch} {e : Env} {R : Room} {s : State} {m : MethodId} {args : Array Value} {below : List Frame} {meth : Method} {c : Code} {T : State} {Z : State} {own mn : String} {bytes : ByteArray} {ml n0 k n : Nat} {rt : Option FieldType} {h : Heap} {G : Outcome → State → Prop} {pc q : Nat} {L : Array Slot} {st rest : List Value} {a0 : Array Value}
/-- the run from S comes to an end of which G speaks -/
def Goes (p : Program) (e : Env) (below : List Frame) (G : Outcome → State → Prop) (S : State) : Prop := ∃ s₂ o, Steps p.tables e below S s₂ ∧ s₂.status = .running ∧ Ended s₂ below o ∧ G o s₂
theorem go_st {S S' : State} (f : ∀ t, Steps p.tables e below S' t → Steps p.tables e below S t) (r : Goes p e below G S') : Goes p e below G S := by
  obtain ⟨s₂, o, a, b⟩ := r; exact ⟨s₂, o, f _ a, b⟩
theorem go_tr {S S' : State} (f : Steps p.tables e below S S') (r : Goes p e below G S') : Goes p e below G S := by
  obtain ⟨s₂, o, a, b⟩ := r; exact ⟨s₂, o, f.trans a, b⟩
/-- what a body's walk knows from its start on -/
def Cx (p : Program) (s : State) (m : MethodId) (meth : Method) (c : Code) (Z : State) (own : String) (bytes : ByteArray) (ml : Nat) (rt : Option FieldType) (mn : String) : Prop :=
  p.tables.exec = Jvm.exec ∧ Z.Warmed39 s.vm ∧ s.vm.findClass own = some m.cls ∧ c.code = bytes ∧ c.maxLocals = ml ∧ meth.sig.returnType = rt ∧ meth.locks = false ∧ meth.name = mn
/-- where it stands: the heap is h; all that was written lies at n0 or above; at most k cells and n slots are new -/
def St (p : Program) (l : Launch) (e : Env) (R : Room) (s : State) (m : MethodId) (args : Array Value) (below : List Frame) (meth : Method) (c : Code) (n0 : Nat) (T : State) (h : Heap) (k n : Nat) : Prop :=
  ∃ locs cells slots, Stand p l e R s m args below meth c T locs cells slots ∧ Fr n0 locs ∧ T.heap = h ∧ cells ≤ k ∧ slots ≤ n
def FinN (Q : Option Value → Heap → Prop) (s : State) (n0 k n : Nat) (o : Outcome) (U : State) : Prop := ∃ v L, o = .returned v ∧ (Fr n0 L ∧ Q v U.heap) ∧ FrameEnd s o U L k n
def Met (l : Launch) (Z : State) (y : MethodName) (bytes : ByteArray) (ml : Nat) (rt : Option FieldType) (rm : Room) (as' : Array Value) (h0 : Heap) (n0 : Nat) (Q : Option Value → Heap → Prop) : Prop :=
  ∀ ws : List Jvm.Cond, MetFree l y (head1 (Jvm.Cond.code y bytes ml rt :: ws) rm) (fun a U => a = as' ∧ Z.Warmed39 U.vm ∧ U.heap = h0) (fun _ _ _ _ _ => True) (fun _ U o U' => ∃ v L, o = .returned v ∧ (Fr n0 L ∧ Q v U'.heap) ∧ FrameEnd U o U' L rm.cells rm.slots)
abbrev Met1 (l : Launch) (Z : State) (y : MethodName) (bytes : ByteArray) (ml : Nat) (rt : Option FieldType) (rm : Room) (as' : Array Value) (h0 : Heap) (n0 : Nat) (Q : Value → Heap → Prop) : Prop := Met l Z y bytes ml rt rm as' h0 n0 (fun v h => ∃ w, v = some w ∧ Q w h)
abbrev Met0 (l : Launch) (Z : State) (y : MethodName) (bytes : ByteArray) (ml : Nat) (rt : Option FieldType) (rm : Room) (as' : Array Value) (h0 : Heap) (n0 : Nat) (Q : Heap → Prop) : Prop := Met l Z y bytes ml rt rm as' h0 n0 (fun v h => v = none ∧ Q h)
theorem met_of {y : MethodName} {rm : Room} {as' : Array Value} {Q : Option Value → Heap → Prop} (hp : plainFor y = true) (hef : ∀ m, entryFrame m as' ml = mkF m 0 L [])
    (body : ∀ (p : Program) (e : Env) (s : State) (m : MethodId) (below : List Frame) (meth : Method) (c : Code) (T : State), Cx p s m meth c Z y.cls bytes ml rt y.name → St p l e rm s m as' below meth c n0 T h 0 0 → Goes p e below (FinN Q s n0 rm.cells rm.slots) (T.setTop (mkF m 0 L []))) :
    Met l Z y bytes ml rt rm as' h n0 Q := by
  intro ws
  refine MetFree.of_bodySF hp hisR ?_
  intro p e s m args below meth c s₁ Bd hml hP hK
  obtain ⟨rfl, hZ, hh⟩ := hP
  have e0 : s₁.heap = h := by rw [← hh, Bd.state]; rfl
  have b := body p e s m below meth c s₁ ⟨Bd.exec, hZ, findClass_of_methodNamed Bd.named, Bd.bytes, hml, Bd.returns, BodyLoose.notSynchronized Bd, (name_of_methodNamed Bd.named Bd.method).1⟩ ⟨[], 0, 0, Stand.of_body Bd, Fr.nil _, e0, Nat.le_refl _, Nat.le_refl _⟩
  rw [hef m]
  exact b
theorem St.mono {k' n' : Nat} (X : St p l e R s m args below meth c n0 T h k n) (hk : k ≤ k') (hn : n ≤ n') : St p l e R s m args below meth c n0 T h k' n' := by
  obtain ⟨a, b, d, x, y, z, u, v⟩ := X; exact ⟨a, b, d, x, y, z, Nat.le_trans u hk, Nat.le_trans v hn⟩
theorem g_aloadN (C : Cx p s m meth c Z own bytes ml rt mn) (X : St p l e R s m args below meth c n0 T h k n) {j : Fin 4} {v : Value} (hd : decode bytes pc = .ok (.aload_n j, 1)) (hq : pc + 1 = q) (hl : L[j.val]? = some (.val v)) (hv : v.isRef = true) (r : Goes p e below G (T.setTop (mkF m q L (v :: st)))) : Goes p e below G (T.setTop (mkF m pc L (st))) := by
  obtain ⟨hx, -, -, hby, -⟩ := C
  obtain ⟨_, _, _, X, -⟩ := X
  subst hq 
  exact go_st (fun t k => XS.aloadN X.here hx rfl (hb hby hd) hl hv k) r
theorem g_aload (C : Cx p s m meth c Z own bytes ml rt mn) (X : St p l e R s m args below meth c n0 T h k n) {j : Nat} {v : Value} (hd : decode bytes pc = .ok (.aload j, 2)) (hq : pc + 2 = q) (hl : L[j]? = some (.val v)) (hv : v.isRef = true) (r : Goes p e below G (T.setTop (mkF m q L (v :: st)))) : Goes p e below G (T.setTop (mkF m pc L (st))) := by
  obtain ⟨hx, -, -, hby, -⟩ := C
  obtain ⟨_, _, _, X, -⟩ := X
  subst hq 
  exact go_st (fun t k => XS.aload X.here hx rfl (hb hby hd) hl hv k) r
theorem g_iloadN (C : Cx p s m meth c Z own bytes ml rt mn) (X : St p l e R s m args below meth c n0 T h k n) {j : Fin 4} {v : Int32} (hd : decode bytes pc = .ok (.iload_n j, 1)) (hq : pc + 1 = q) (hl : L[j.val]? = some (.val (.int v))) (r : Goes p e below G (T.setTop (mkF m q L (.int v :: st)))) : Goes p e below G (T.setTop (mkF m pc L (st))) := by
  obtain ⟨hx, -, -, hby, -⟩ := C
  obtain ⟨_, _, _, X, -⟩ := X
  subst hq 
  exact go_st (fun t k => XS.iloadN X.here hx rfl (hb hby hd) hl k) r
theorem g_iload (C : Cx p s m meth c Z own bytes ml rt mn) (X : St p l e R s m args below meth c n0 T h k n) {j : Nat} {v : Int32} (hd : decode bytes pc = .ok (.iload j, 2)) (hq : pc + 2 = q) (hl : L[j]? = some (.val (.int v))) (r : Goes p e below G (T.setTop (mkF m q L (.int v :: st)))) : Goes p e below G (T.setTop (mkF m pc L (st))) := by
  obtain ⟨hx, -, -, hby, -⟩ := C
  obtain ⟨_, _, _, X, -⟩ := X
  subst hq 
  exact go_st (fun t k => XS.iload X.here hx rfl (hb hby hd) hl k) r
theorem g_lloadN (C : Cx p s m meth c Z own bytes ml rt mn) (X : St p l e R s m args below meth c n0 T h k n) {j : Fin 4} {v : Int64} (hd : decode bytes pc = .ok (.lload_n j, 1)) (hq : pc + 1 = q) (hl : L[j.val]? = some (.val (.long v))) (r : Goes p e below G (T.setTop (mkF m q L (.long v :: st)))) : Goes p e below G (T.setTop (mkF m pc L (st))) := by
  obtain ⟨hx, -, -, hby, -⟩ := C
  obtain ⟨_, _, _, X, -⟩ := X
  subst hq 
  exact go_st (fun t k => XS.lloadN X.here hx rfl (hb hby hd) hl k) r
theorem g_lload (C : Cx p s m meth c Z own bytes ml rt mn) (X : St p l e R s m args below meth c n0 T h k n) {j : Nat} {v : Int64} (hd : decode bytes pc = .ok (.lload j, 2)) (hq : pc + 2 = q) (hl : L[j]? = some (.val (.long v))) (r : Goes p e below G (T.setTop (mkF m q L (.long v :: st)))) : Goes p e below G (T.setTop (mkF m pc L (st))) := by
  obtain ⟨hx, -, -, hby, -⟩ := C
  obtain ⟨_, _, _, X, -⟩ := X
  subst hq 
  exact go_st (fun t k => XS.lload X.here hx rfl (hb hby hd) hl k) r
theorem g_iconst (C : Cx p s m meth c Z own bytes ml rt mn) (X : St p l e R s m args below meth c n0 T h k n) {i : Int} {z : Int32} (hd : decode bytes pc = .ok (.iconst i, 1)) (hq : pc + 1 = q) (hz : Int32.ofInt i = z) (r : Goes p e below G (T.setTop (mkF m q L (.int z :: st)))) : Goes p e below G (T.setTop (mkF m pc L (st))) := by
  obtain ⟨hx, -, -, hby, -⟩ := C
  obtain ⟨_, _, _, X, -⟩ := X
  subst hq hz
  exact go_st (fun t k => XS.iconst X.here hx rfl (hb hby hd)  k) r
theorem g_bipush (C : Cx p s m meth c Z own bytes ml rt mn) (X : St p l e R s m args below meth c n0 T h k n) {i : Int} {z : Int32} (hd : decode bytes pc = .ok (.bipush i, 2)) (hq : pc + 2 = q) (hz : (Int8.ofInt i).toInt32 = z) (r : Goes p e below G (T.setTop (mkF m q L (.int z :: st)))) : Goes p e below G (T.setTop (mkF m pc L (st))) := by
  obtain ⟨hx, -, -, hby, -⟩ := C
  obtain ⟨_, _, _, X, -⟩ := X
  subst hq hz
  exact go_st (fun t k => XS.bipush X.here hx rfl (hb hby hd)  k) r
theorem g_sipush (C : Cx p s m meth c Z own bytes ml rt mn) (X : St p l e R s m args below meth c n0 T h k n) {i : Int} {z : Int32} (hd : decode bytes pc = .ok (.sipush i, 3)) (hq : pc + 3 = q) (hz : (Int16.ofInt i).toInt32 = z) (r : Goes p e below G (T.setTop (mkF m q L (.int z :: st)))) : Goes p e below G (T.setTop (mkF m pc L (st))) := by
  obtain ⟨hx, -, -, hby, -⟩ := C
  obtain ⟨_, _, _, X, -⟩ := X
  subst hq hz
  exact go_st (fun t k => XS.sipush X.here hx rfl (hb hby hd)  k) r
theorem g_aconstNull (C : Cx p s m meth c Z own bytes ml rt mn) (X : St p l e R s m args below meth c n0 T h k n)  (hd : decode bytes pc = .ok (.aconst_null, 1)) (hq : pc + 1 = q)  (r : Goes p e below G (T.setTop (mkF m q L (.null :: st)))) : Goes p e below G (T.setTop (mkF m pc L (st))) := by
  obtain ⟨hx, -, -, hby, -⟩ := C
  obtain ⟨_, _, _, X, -⟩ := X
  subst hq 
  exact go_st (fun t k => XS.aconstNull X.here hx rfl (hb hby hd)  k) r
theorem g_iadd (C : Cx p s m meth c Z own bytes ml rt mn) (X : St p l e R s m args below meth c n0 T h k n) {x y z : Int32} (hd : decode bytes pc = .ok (.iadd, 1)) (hq : pc + 1 = q) (hz : x + y = z) (r : Goes p e below G (T.setTop (mkF m q L (.int z :: st)))) : Goes p e below G (T.setTop (mkF m pc L (.int y :: .int x :: st))) := by
  obtain ⟨hx, -, -, hby, -⟩ := C
  obtain ⟨_, _, _, X, -⟩ := X
  subst hq hz
  exact go_st (fun t k => XS.iadd X.here hx rfl (hb hby hd) rfl k) r
theorem g_isub (C : Cx p s m meth c Z own bytes ml rt mn) (X : St p l e R s m args below meth c n0 T h k n) {x y z : Int32} (hd : decode bytes pc = .ok (.isub, 1)) (hq : pc + 1 = q) (hz : x - y = z) (r : Goes p e below G (T.setTop (mkF m q L (.int z :: st)))) : Goes p e below G (T.setTop (mkF m pc L (.int y :: .int x :: st))) := by
  obtain ⟨hx, -, -, hby, -⟩ := C
  obtain ⟨_, _, _, X, -⟩ := X
  subst hq hz
  exact go_st (fun t k => XS.isub X.here hx rfl (hb hby hd) rfl k) r
theorem g_imul (C : Cx p s m meth c Z own bytes ml rt mn) (X : St p l e R s m args below meth c n0 T h k n) {x y z : Int32} (hd : decode bytes pc = .ok (.imul, 1)) (hq : pc + 1 = q) (hz : x * y = z) (r : Goes p e below G (T.setTop (mkF m q L (.int z :: st)))) : Goes p e below G (T.setTop (mkF m pc L (.int y :: .int x :: st))) := by
  obtain ⟨hx, -, -, hby, -⟩ := C
  obtain ⟨_, _, _, X, -⟩ := X
  subst hq hz
  exact go_st (fun t k => XS.imul X.here hx rfl (hb hby hd) rfl k) r
theorem g_iand (C : Cx p s m meth c Z own bytes ml rt mn) (X : St p l e R s m args below meth c n0 T h k n) {x y z : Int32} (hd : decode bytes pc = .ok (.iand, 1)) (hq : pc + 1 = q) (hz : x &&& y = z) (r : Goes p e below G (T.setTop (mkF m q L (.int z :: st)))) : Goes p e below G (T.setTop (mkF m pc L (.int y :: .int x :: st))) := by
  obtain ⟨hx, -, -, hby, -⟩ := C
  obtain ⟨_, _, _, X, -⟩ := X
  subst hq hz
  exact go_st (fun t k => XS.iand X.here hx rfl (hb hby hd) rfl k) r
theorem g_ior (C : Cx p s m meth c Z own bytes ml rt mn) (X : St p l e R s m args below meth c n0 T h k n) {x y z : Int32} (hd : decode bytes pc = .ok (.ior, 1)) (hq : pc + 1 = q) (hz : x ||| y = z) (r : Goes p e below G (T.setTop (mkF m q L (.int z :: st)))) : Goes p e below G (T.setTop (mkF m pc L (.int y :: .int x :: st))) := by
  obtain ⟨hx, -, -, hby, -⟩ := C
  obtain ⟨_, _, _, X, -⟩ := X
  subst hq hz
  exact go_st (fun t k => XS.ior X.here hx rfl (hb hby hd) rfl k) r
theorem g_ixor (C : Cx p s m meth c Z own bytes ml rt mn) (X : St p l e R s m args below meth c n0 T h k n) {x y z : Int32} (hd : decode bytes pc = .ok (.ixor, 1)) (hq : pc + 1 = q) (hz : x ^^^ y = z) (r : Goes p e below G (T.setTop (mkF m q L (.int z :: st)))) : Goes p e below G (T.setTop (mkF m pc L (.int y :: .int x :: st))) := by
  obtain ⟨hx, -, -, hby, -⟩ := C
  obtain ⟨_, _, _, X, -⟩ := X
  subst hq hz
  exact go_st (fun t k => XS.ixor X.here hx rfl (hb hby hd) rfl k) r
theorem g_ishl (C : Cx p s m meth c Z own bytes ml rt mn) (X : St p l e R s m args below meth c n0 T h k n) {x y z : Int32} (hd : decode bytes pc = .ok (.ishl, 1)) (hq : pc + 1 = q) (hz : x <<< (y &&& 31) = z) (r : Goes p e below G (T.setTop (mkF m q L (.int z :: st)))) : Goes p e below G (T.setTop (mkF m pc L (.int y :: .int x :: st))) := by
  obtain ⟨hx, -, -, hby, -⟩ := C
  obtain ⟨_, _, _, X, -⟩ := X
  subst hq hz
  exact go_st (fun t k => XS.ishl X.here hx rfl (hb hby hd) rfl k) r
theorem g_ishr (C : Cx p s m meth c Z own bytes ml rt mn) (X : St p l e R s m args below meth c n0 T h k n) {x y z : Int32} (hd : decode bytes pc = .ok (.ishr, 1)) (hq : pc + 1 = q) (hz : x >>> (y &&& 31) = z) (r : Goes p e below G (T.setTop (mkF m q L (.int z :: st)))) : Goes p e below G (T.setTop (mkF m pc L (.int y :: .int x :: st))) := by
  obtain ⟨hx, -, -, hby, -⟩ := C
  obtain ⟨_, _, _, X, -⟩ := X
  subst hq hz
  exact go_st (fun t k => XS.ishr X.here hx rfl (hb hby hd) rfl k) r
theorem g_iushr (C : Cx p s m meth c Z own bytes ml rt mn) (X : St p l e R s m args below meth c n0 T h k n) {x y z : Int32} (hd : decode bytes pc = .ok (.iushr, 1)) (hq : pc + 1 = q) (hz : (x.toUInt32 >>> (y &&& 31).toUInt32).toInt32 = z) (r : Goes p e below G (T.setTop (mkF m q L (.int z :: st)))) : Goes p e below G (T.setTop (mkF m pc L (.int y :: .int x :: st))) := by
  obtain ⟨hx, -, -, hby, -⟩ := C
  obtain ⟨_, _, _, X, -⟩ := X
  subst hq hz
  exact go_st (fun t k => XS.iushr X.here hx rfl (hb hby hd) rfl k) r
theorem g_idiv (C : Cx p s m meth c Z own bytes ml rt mn) (X : St p l e R s m args below meth c n0 T h k n) {x y z : Int32} (hd : decode bytes pc = .ok (.idiv, 1)) (hq : pc + 1 = q) (hy : y ≠ 0) (hz : x / y = z) (r : Goes p e below G (T.setTop (mkF m q L (.int z :: st)))) : Goes p e below G (T.setTop (mkF m pc L (.int y :: .int x :: st))) := by
  obtain ⟨hx, -, -, hby, -⟩ := C
  obtain ⟨_, _, _, X, -⟩ := X
  subst hq hz
  exact go_st (fun t k => XS.idiv X.here hx rfl (hb hby hd) rfl hy k) r
theorem g_irem (C : Cx p s m meth c Z own bytes ml rt mn) (X : St p l e R s m args below meth c n0 T h k n) {x y z : Int32} (hd : decode bytes pc = .ok (.irem, 1)) (hq : pc + 1 = q) (hy : y ≠ 0) (hz : x % y = z) (r : Goes p e below G (T.setTop (mkF m q L (.int z :: st)))) : Goes p e below G (T.setTop (mkF m pc L (.int y :: .int x :: st))) := by
  obtain ⟨hx, -, -, hby, -⟩ := C
  obtain ⟨_, _, _, X, -⟩ := X
  subst hq hz
  exact go_st (fun t k => iremM X hx rfl (hb hby hd) rfl hy k) r
theorem g_ineg (C : Cx p s m meth c Z own bytes ml rt mn) (X : St p l e R s m args below meth c n0 T h k n) {x z : Int32} (hd : decode bytes pc = .ok (.ineg, 1)) (hq : pc + 1 = q) (hz : -x = z) (r : Goes p e below G (T.setTop (mkF m q L (.int z :: st)))) : Goes p e below G (T.setTop (mkF m pc L (.int x :: st))) := by
  obtain ⟨hx, -, -, hby, -⟩ := C
  obtain ⟨_, _, _, X, -⟩ := X
  subst hq hz
  exact go_st (fun t k => XS.ineg X.here hx rfl (hb hby hd) rfl k) r
theorem g_ladd (C : Cx p s m meth c Z own bytes ml rt mn) (X : St p l e R s m args below meth c n0 T h k n) {x y z : Int64} (hd : decode bytes pc = .ok (.ladd, 1)) (hq : pc + 1 = q) (hz : x + y = z) (r : Goes p e below G (T.setTop (mkF m q L (.long z :: st)))) : Goes p e below G (T.setTop (mkF m pc L (.long y :: .long x :: st))) := by
  obtain ⟨hx, -, -, hby, -⟩ := C
  obtain ⟨_, _, _, X, -⟩ := X
  subst hq hz
  exact go_st (fun t k => XS.ladd X.here hx rfl (hb hby hd) rfl k) r
theorem g_lsub (C : Cx p s m meth c Z own bytes ml rt mn) (X : St p l e R s m args below meth c n0 T h k n) {x y z : Int64} (hd : decode bytes pc = .ok (.lsub, 1)) (hq : pc + 1 = q) (hz : x - y = z) (r : Goes p e below G (T.setTop (mkF m q L (.long z :: st)))) : Goes p e below G (T.setTop (mkF m pc L (.long y :: .long x :: st))) := by
  obtain ⟨hx, -, -, hby, -⟩ := C
  obtain ⟨_, _, _, X, -⟩ := X
  subst hq hz
  exact go_st (fun t k => XS.lsub X.here hx rfl (hb hby hd) rfl k) r
theorem g_lmul (C : Cx p s m meth c Z own bytes ml rt mn) (X : St p l e R s m args below meth c n0 T h k n) {x y z : Int64} (hd : decode bytes pc = .ok (.lmul, 1)) (hq : pc + 1 = q) (hz : x * y = z) (r : Goes p e below G (T.setTop (mkF m q L (.long z :: st)))) : Goes p e below G (T.setTop (mkF m pc L (.long y :: .long x :: st))) := by
  obtain ⟨hx, -, -, hby, -⟩ := C
  obtain ⟨_, _, _, X, -⟩ := X
  subst hq hz
  exact go_st (fun t k => XS.lmul X.here hx rfl (hb hby hd) rfl k) r
theorem g_land (C : Cx p s m meth c Z own bytes ml rt mn) (X : St p l e R s m args below meth c n0 T h k n) {x y z : Int64} (hd : decode bytes pc = .ok (.land, 1)) (hq : pc + 1 = q) (hz : x &&& y = z) (r : Goes p e below G (T.setTop (mkF m q L (.long z :: st)))) : Goes p e below G (T.setTop (mkF m pc L (.long y :: .long x :: st))) := by
  obtain ⟨hx, -, -, hby, -⟩ := C
  obtain ⟨_, _, _, X, -⟩ := X
  subst hq hz
  exact go_st (fun t k => XS.land X.here hx rfl (hb hby hd) rfl k) r
theorem g_lor (C : Cx p s m meth c Z own bytes ml rt mn) (X : St p l e R s m args below meth c n0 T h k n) {x y z : Int64} (hd : decode bytes pc = .ok (.lor, 1)) (hq : pc + 1 = q) (hz : x ||| y = z) (r : Goes p e below G (T.setTop (mkF m q L (.long z :: st)))) : Goes p e below G (T.setTop (mkF m pc L (.long y :: .long x :: st))) := by
  obtain ⟨hx, -, -, hby, -⟩ := C
  obtain ⟨_, _, _, X, -⟩ := X
  subst hq hz
  exact go_st (fun t k => XS.lor X.here hx rfl (hb hby hd) rfl k) r
theorem g_lxor (C : Cx p s m meth c Z own bytes ml rt mn) (X : St p l e R s m args below meth c n0 T h k n) {x y z : Int64} (hd : decode bytes pc = .ok (.lxor, 1)) (hq : pc + 1 = q) (hz : x ^^^ y = z) (r : Goes p e below G (T.setTop (mkF m q L (.long z :: st)))) : Goes p e below G (T.setTop (mkF m pc L (.long y :: .long x :: st))) := by
  obtain ⟨hx, -, -, hby, -⟩ := C
  obtain ⟨_, _, _, X, -⟩ := X
  subst hq hz
  exact go_st (fun t k => XS.lxor X.here hx rfl (hb hby hd) rfl k) r
theorem g_lshl (C : Cx p s m meth c Z own bytes ml rt mn) (X : St p l e R s m args below meth c n0 T h k n) {x z : Int64} {y : Int32} (hd : decode bytes pc = .ok (.lshl, 1)) (hq : pc + 1 = q) (hz : x <<< (y &&& 0x3f).toInt64 = z) (r : Goes p e below G (T.setTop (mkF m q L (.long z :: st)))) : Goes p e below G (T.setTop (mkF m pc L (.int y :: .long x :: st))) := by
  obtain ⟨hx, -, -, hby, -⟩ := C
  obtain ⟨_, _, _, X, -⟩ := X
  subst hq hz
  exact go_st (fun t k => XS.lshl X.here hx rfl (hb hby hd) rfl k) r
theorem g_lshr (C : Cx p s m meth c Z own bytes ml rt mn) (X : St p l e R s m args below meth c n0 T h k n) {x z : Int64} {y : Int32} (hd : decode bytes pc = .ok (.lshr, 1)) (hq : pc + 1 = q) (hz : x >>> (y &&& 0x3f).toInt64 = z) (r : Goes p e below G (T.setTop (mkF m q L (.long z :: st)))) : Goes p e below G (T.setTop (mkF m pc L (.int y :: .long x :: st))) := by
  obtain ⟨hx, -, -, hby, -⟩ := C
  obtain ⟨_, _, _, X, -⟩ := X
  subst hq hz
  exact go_st (fun t k => XS.lshr X.here hx rfl (hb hby hd) rfl k) r
theorem g_lushr (C : Cx p s m meth c Z own bytes ml rt mn) (X : St p l e R s m args below meth c n0 T h k n) {x z : Int64} {y : Int32} (hd : decode bytes pc = .ok (.lushr, 1)) (hq : pc + 1 = q) (hz : (x.toUInt64 >>> (y &&& 0x3f).toInt64.toUInt64).toInt64 = z) (r : Goes p e below G (T.setTop (mkF m q L (.long z :: st)))) : Goes p e below G (T.setTop (mkF m pc L (.int y :: .long x :: st))) := by
  obtain ⟨hx, -, -, hby, -⟩ := C
  obtain ⟨_, _, _, X, -⟩ := X
  subst hq hz
  exact go_st (fun t k => XS.lushr X.here hx rfl (hb hby hd) rfl k) r
theorem g_ldiv (C : Cx p s m meth c Z own bytes ml rt mn) (X : St p l e R s m args below meth c n0 T h k n) {x y z : Int64} (hd : decode bytes pc = .ok (.ldiv, 1)) (hq : pc + 1 = q) (hy : y ≠ 0) (hz : x / y = z) (r : Goes p e below G (T.setTop (mkF m q L (.long z :: st)))) : Goes p e below G (T.setTop (mkF m pc L (.long y :: .long x :: st))) := by
  obtain ⟨hx, -, -, hby, -⟩ := C
  obtain ⟨_, _, _, X, -⟩ := X
  subst hq hz
  exact go_st (fun t k => XS.ldiv X.here hx rfl (hb hby hd) rfl hy k) r
theorem g_lrem (C : Cx p s m meth c Z own bytes ml rt mn) (X : St p l e R s m args below meth c n0 T h k n) {x y z : Int64} (hd : decode bytes pc = .ok (.lrem, 1)) (hq : pc + 1 = q) (hy : y ≠ 0) (hz : x % y = z) (r : Goes p e below G (T.setTop (mkF m q L (.long z :: st)))) : Goes p e below G (T.setTop (mkF m pc L (.long y :: .long x :: st))) := by
  obtain ⟨hx, -, -, hby, -⟩ := C
  obtain ⟨_, _, _, X, -⟩ := X
  subst hq hz
  have w := lrem_mod x y
  exact go_st (fun t k => XS.lrem X.here hx rfl (hb hby hd) rfl hy (by rw [w]; exact k)) r
theorem g_lneg (C : Cx p s m meth c Z own bytes ml rt mn) (X : St p l e R s m args below meth c n0 T h k n) {x z : Int64} (hd : decode bytes pc = .ok (.lneg, 1)) (hq : pc + 1 = q) (hz : -x = z) (r : Goes p e below G (T.setTop (mkF m q L (.long z :: st)))) : Goes p e below G (T.setTop (mkF m pc L (.long x :: st))) := by
  obtain ⟨hx, -, -, hby, -⟩ := C
  obtain ⟨_, _, _, X, -⟩ := X
  subst hq hz
  exact go_st (fun t k => XS.lneg X.here hx rfl (hb hby hd) rfl k) r
theorem g_i2l (C : Cx p s m meth c Z own bytes ml rt mn) (X : St p l e R s m args below meth c n0 T h k n) {x : Int32} {z : Int64} (hd : decode bytes pc = .ok (.i2l, 1)) (hq : pc + 1 = q) (hz : x.toInt64 = z) (r : Goes p e below G (T.setTop (mkF m q L (.long z :: st)))) : Goes p e below G (T.setTop (mkF m pc L (.int x :: st))) := by
  obtain ⟨hx, -, -, hby, -⟩ := C
  obtain ⟨_, _, _, X, -⟩ := X
  subst hq hz
  exact go_st (fun t k => XS.i2l X.here hx rfl (hb hby hd) rfl k) r
theorem g_l2i (C : Cx p s m meth c Z own bytes ml rt mn) (X : St p l e R s m args below meth c n0 T h k n) {x : Int64} {z : Int32} (hd : decode bytes pc = .ok (.l2i, 1)) (hq : pc + 1 = q) (hz : x.toInt32 = z) (r : Goes p e below G (T.setTop (mkF m q L (.int z :: st)))) : Goes p e below G (T.setTop (mkF m pc L (.long x :: st))) := by
  obtain ⟨hx, -, -, hby, -⟩ := C
  obtain ⟨_, _, _, X, -⟩ := X
  subst hq hz
  exact go_st (fun t k => XS.l2i X.here hx rfl (hb hby hd) rfl k) r
theorem g_i2b (C : Cx p s m meth c Z own bytes ml rt mn) (X : St p l e R s m args below meth c n0 T h k n) {x z : Int32} (hd : decode bytes pc = .ok (.i2b, 1)) (hq : pc + 1 = q) (hz : x.toInt8.toInt32 = z) (r : Goes p e below G (T.setTop (mkF m q L (.int z :: st)))) : Goes p e below G (T.setTop (mkF m pc L (.int x :: st))) := by
  obtain ⟨hx, -, -, hby, -⟩ := C
  obtain ⟨_, _, _, X, -⟩ := X
  subst hq hz
  exact go_st (fun t k => XS.i2b X.here hx rfl (hb hby hd) rfl k) r
theorem g_i2s (C : Cx p s m meth c Z own bytes ml rt mn) (X : St p l e R s m args below meth c n0 T h k n) {x z : Int32} (hd : decode bytes pc = .ok (.i2s, 1)) (hq : pc + 1 = q) (hz : x.toInt16.toInt32 = z) (r : Goes p e below G (T.setTop (mkF m q L (.int z :: st)))) : Goes p e below G (T.setTop (mkF m pc L (.int x :: st))) := by
  obtain ⟨hx, -, -, hby, -⟩ := C
  obtain ⟨_, _, _, X, -⟩ := X
  subst hq hz
  exact go_st (fun t k => XS.i2s X.here hx rfl (hb hby hd) rfl k) r
theorem g_i2c (C : Cx p s m meth c Z own bytes ml rt mn) (X : St p l e R s m args below meth c n0 T h k n) {x z : Int32} (hd : decode bytes pc = .ok (.i2c, 1)) (hq : pc + 1 = q) (hz : x.toUInt32.toUInt16.toUInt32.toInt32 = z) (r : Goes p e below G (T.setTop (mkF m q L (.int z :: st)))) : Goes p e below G (T.setTop (mkF m pc L (.int x :: st))) := by
  obtain ⟨hx, -, -, hby, -⟩ := C
  obtain ⟨_, _, _, X, -⟩ := X
  subst hq hz
  exact go_st (fun t k => XS.i2c X.here hx rfl (hb hby hd) rfl k) r
theorem g_lconst (C : Cx p s m meth c Z own bytes ml rt mn) (X : St p l e R s m args below meth c n0 T h k n) {i : Fin 2} {z : Int64} (hd : decode bytes pc = .ok (.lconst i, 1)) (hq : pc + 1 = q) (hz : (i.val.toInt64) = z) (r : Goes p e below G (T.setTop (mkF m q L (.long z :: st)))) : Goes p e below G (T.setTop (mkF m pc L (st))) := by
  obtain ⟨hx, -, -, hby, -⟩ := C
  obtain ⟨_, _, _, X, -⟩ := X
  subst hq hz
  exact go_st (fun t k => XS.lconst X.here hx rfl (hb hby hd) k) r
theorem own_lcW (x y : Int64) : (if x > y then (1 : Int32) else if x = y then 0 else -1) = lcmpW x y := rfl
theorem g_lcmp (C : Cx p s m meth c Z own bytes ml rt mn) (X : St p l e R s m args below meth c n0 T h k n) {x y : Int64} {z : Int32} (hd : decode bytes pc = .ok (.lcmp, 1)) (hq : pc + 1 = q) (hz : lcmpW x y = z) (r : Goes p e below G (T.setTop (mkF m q L (.int z :: st)))) : Goes p e below G (T.setTop (mkF m pc L (.long y :: .long x :: st))) := by
  obtain ⟨hx, -, -, hby, -⟩ := C
  obtain ⟨_, _, _, X, -⟩ := X
  subst hq hz
  exact go_st (fun t k => XS.lcmp X.here hx rfl (hb hby hd) rfl k) r
theorem g_dup (C : Cx p s m meth c Z own bytes ml rt mn) (X : St p l e R s m args below meth c n0 T h k n) {x : Value} (hd : decode bytes pc = .ok (.dup, 1)) (hq : pc + 1 = q) (hc : x.category = 1) (r : Goes p e below G (T.setTop (mkF m q L (x :: x :: st)))) : Goes p e below G (T.setTop (mkF m pc L (x :: st))) := by
  obtain ⟨hx, -, -, hby, -⟩ := C
  obtain ⟨_, _, _, X, -⟩ := X
  subst hq 
  exact go_st (fun t k => XS.dup X.here hx rfl (hb hby hd) rfl hc k) r
theorem g_pop (C : Cx p s m meth c Z own bytes ml rt mn) (X : St p l e R s m args below meth c n0 T h k n) {x : Value} (hd : decode bytes pc = .ok (.pop, 1)) (hq : pc + 1 = q) (hc : x.category = 1) (r : Goes p e below G (T.setTop (mkF m q L (st)))) : Goes p e below G (T.setTop (mkF m pc L (x :: st))) := by
  obtain ⟨hx, -, -, hby, -⟩ := C
  obtain ⟨_, _, _, X, -⟩ := X
  subst hq 
  exact go_st (fun t k => XS.pop X.here hx rfl (hb hby hd) rfl hc k) r
theorem g_dupX1 (C : Cx p s m meth c Z own bytes ml rt mn) (X : St p l e R s m args below meth c n0 T h k n) {x y : Value} (hd : decode bytes pc = .ok (.dup_x1, 1)) (hq : pc + 1 = q) (hc : x.category = 1) (hc' : y.category = 1) (r : Goes p e below G (T.setTop (mkF m q L (x :: y :: x :: st)))) : Goes p e below G (T.setTop (mkF m pc L (x :: y :: st))) := by
  obtain ⟨hx, -, -, hby, -⟩ := C
  obtain ⟨_, _, _, X, -⟩ := X
  subst hq 
  exact go_st (fun t k => XS.dupX1 X.here hx rfl (hb hby hd) rfl hc hc' k) r
theorem g_dup2 (C : Cx p s m meth c Z own bytes ml rt mn) (X : St p l e R s m args below meth c n0 T h k n) {x y : Value} (hd : decode bytes pc = .ok (.dup2, 1)) (hq : pc + 1 = q) (hc : x.category = 1) (hc' : y.category = 1) (r : Goes p e below G (T.setTop (mkF m q L (x :: y :: x :: y :: st)))) : Goes p e below G (T.setTop (mkF m pc L (x :: y :: st))) := by
  obtain ⟨hx, -, -, hby, -⟩ := C
  obtain ⟨_, _, _, X, -⟩ := X
  subst hq 
  exact go_st (fun t k => Jvm.Free.XT.dup2 X.here hx rfl (hb hby hd) rfl hc hc' k) r
theorem g_istoreN (C : Cx p s m meth c Z own bytes ml rt mn) (X : St p l e R s m args below meth c n0 T h k n) {j : Fin 4} {x : Int32} {L' : Array Slot} (hd : decode bytes pc = .ok (.istore_n j, 1)) (hq : pc + 1 = q) (hl : storeLocals L j.val (.int x) = some L') (r : Goes p e below G (T.setTop (mkF m q L' (st)))) : Goes p e below G (T.setTop (mkF m pc L (.int x :: st))) := by
  obtain ⟨hx, -, -, hby, -⟩ := C
  obtain ⟨_, _, _, X, -⟩ := X
  subst hq 
  exact go_st (fun t k => XS.istoreN X.here hx rfl (hb hby hd) rfl hl k) r
theorem g_istore (C : Cx p s m meth c Z own bytes ml rt mn) (X : St p l e R s m args below meth c n0 T h k n) {j : Nat} {x : Int32} {L' : Array Slot} (hd : decode bytes pc = .ok (.istore j, 2)) (hq : pc + 2 = q) (hl : storeLocals L j (.int x) = some L') (r : Goes p e below G (T.setTop (mkF m q L' (st)))) : Goes p e below G (T.setTop (mkF m pc L (.int x :: st))) := by
  obtain ⟨hx, -, -, hby, -⟩ := C
  obtain ⟨_, _, _, X, -⟩ := X
  subst hq 
  exact go_st (fun t k => XS.istore X.here hx rfl (hb hby hd) rfl hl k) r
theorem g_lstoreN (C : Cx p s m meth c Z own bytes ml rt mn) (X : St p l e R s m args below meth c n0 T h k n) {j : Fin 4} {x : Int64} {L' : Array Slot} (hd : decode bytes pc = .ok (.lstore_n j, 1)) (hq : pc + 1 = q) (hl : storeLocals L j.val (.long x) = some L') (r : Goes p e below G (T.setTop (mkF m q L' (st)))) : Goes p e below G (T.setTop (mkF m pc L (.long x :: st))) := by
  obtain ⟨hx, -, -, hby, -⟩ := C
  obtain ⟨_, _, _, X, -⟩ := X
  subst hq 
  exact go_st (fun t k => XS.lstoreN X.here hx rfl (hb hby hd) rfl hl k) r
theorem g_lstore (C : Cx p s m meth c Z own bytes ml rt mn) (X : St p l e R s m args below meth c n0 T h k n) {j : Nat} {x : Int64} {L' : Array Slot} (hd : decode bytes pc = .ok (.lstore j, 2)) (hq : pc + 2 = q) (hl : storeLocals L j (.long x) = some L') (r : Goes p e below G (T.setTop (mkF m q L' (st)))) : Goes p e below G (T.setTop (mkF m pc L (.long x :: st))) := by
  obtain ⟨hx, -, -, hby, -⟩ := C
  obtain ⟨_, _, _, X, -⟩ := X
  subst hq 
  exact go_st (fun t k => XS.lstore X.here hx rfl (hb hby hd) rfl hl k) r
theorem g_astoreN (C : Cx p s m meth c Z own bytes ml rt mn) (X : St p l e R s m args below meth c n0 T h k n) {j : Fin 4} {x : Value} {L' : Array Slot} (hd : decode bytes pc = .ok (.astore_n j, 1)) (hq : pc + 1 = q) (hv : x.isRef = true) (hl : storeLocals L j.val x = some L') (r : Goes p e below G (T.setTop (mkF m q L' (st)))) : Goes p e below G (T.setTop (mkF m pc L (x :: st))) := by
  obtain ⟨hx, -, -, hby, -⟩ := C
  obtain ⟨_, _, _, X, -⟩ := X
  subst hq 
  exact go_st (fun t k => XS.astoreN X.here hx rfl (hb hby hd) rfl hv hl k) r
theorem g_astore (C : Cx p s m meth c Z own bytes ml rt mn) (X : St p l e R s m args below meth c n0 T h k n) {j : Nat} {x : Value} {L' : Array Slot} (hd : decode bytes pc = .ok (.astore j, 2)) (hq : pc + 2 = q) (hv : x.isRef = true) (hl : storeLocals L j x = some L') (r : Goes p e below G (T.setTop (mkF m q L' (st)))) : Goes p e below G (T.setTop (mkF m pc L (x :: st))) := by
  obtain ⟨hx, -, -, hby, -⟩ := C
  obtain ⟨_, _, _, X, -⟩ := X
  subst hq 
  exact go_st (fun t k => XS.astore X.here hx rfl (hb hby hd) rfl hv hl k) r
theorem g_iinc (C : Cx p s m meth c Z own bytes ml rt mn) (X : St p l e R s m args below meth c n0 T h k n) {j : Nat} {i : Int} {x z : Int32} {L' : Array Slot} (hd : decode bytes pc = .ok (.iinc j i, 3)) (hq : pc + 3 = q) (hl : L[j]? = some (.val (.int x))) (hz : x + Int32.ofInt i = z) (hl' : storeLocals L j (.int z) = some L') (r : Goes p e below G (T.setTop (mkF m q L' (st)))) : Goes p e below G (T.setTop (mkF m pc L (st))) := by
  obtain ⟨hx, -, -, hby, -⟩ := C
  obtain ⟨_, _, _, X, -⟩ := X
  subst hq hz
  exact go_st (fun t k => XS.iinc X.here hx rfl (hb hby hd) hl hl' k) r
theorem g_goto (C : Cx p s m meth c Z own bytes ml rt mn) (X : St p l e R s m args below meth c n0 T h k n)  {o : Int} (hd : decode bytes pc = .ok (.goto o, 3)) (ho : 0 ≤ (pc : Int) + o) (hq : ((pc : Int) + o).toNat = q)  (r : Goes p e below G (T.setTop (mkF m q L st))) : Goes p e below G (T.setTop (mkF m pc L (st))) := by
  obtain ⟨hx, -, -, hby, -⟩ := C
  obtain ⟨_, _, _, X, -⟩ := X
  exact go_st (fun t k => XS.goto X.here hx rfl rfl (hb hby hd) ho hq k) r
theorem g_ifY (C : Cx p s m meth c Z own bytes ml rt mn) (X : St p l e R s m args below meth c n0 T h k n) {cd : ClassFile.Cond} {x : Int32} {o : Int} (hd : decode bytes pc = .ok (.ifCond cd o, 3)) (ho : 0 ≤ (pc : Int) + o) (hq : ((pc : Int) + o).toNat = q) (hc : if_icmp.holds cd x 0 = true) (r : Goes p e below G (T.setTop (mkF m q L st))) : Goes p e below G (T.setTop (mkF m pc L (.int x :: st))) := by
  obtain ⟨hx, -, -, hby, -⟩ := C
  obtain ⟨_, _, _, X, -⟩ := X
  exact go_st (fun t k => XS.ifYes X.here hx rfl rfl (hb hby hd) rfl ((if0 _ _).trans hc) ho hq k) r
theorem g_ifN (C : Cx p s m meth c Z own bytes ml rt mn) (X : St p l e R s m args below meth c n0 T h k n) {cd : ClassFile.Cond} {x : Int32} {o : Int} (hd : decode bytes pc = .ok (.ifCond cd o, 3)) (hq : pc + 3 = q) (hc : if_icmp.holds cd x 0 = false) (r : Goes p e below G (T.setTop (mkF m q L st))) : Goes p e below G (T.setTop (mkF m pc L (.int x :: st))) := by
  obtain ⟨hx, -, -, hby, -⟩ := C
  obtain ⟨_, _, _, X, -⟩ := X
  subst hq
  exact go_st (fun t k => XS.ifNo X.here hx rfl (hb hby hd) rfl ((if0 _ _).trans hc) k) r
theorem g_icY (C : Cx p s m meth c Z own bytes ml rt mn) (X : St p l e R s m args below meth c n0 T h k n) {cd : ClassFile.Cond} {x y : Int32} {o : Int} (hd : decode bytes pc = .ok (.if_icmp cd o, 3)) (ho : 0 ≤ (pc : Int) + o) (hq : ((pc : Int) + o).toNat = q) (hc : if_icmp.holds cd x y = true) (r : Goes p e below G (T.setTop (mkF m q L st))) : Goes p e below G (T.setTop (mkF m pc L (.int y :: .int x :: st))) := by
  obtain ⟨hx, -, -, hby, -⟩ := C
  obtain ⟨_, _, _, X, -⟩ := X
  exact go_st (fun t k => XS.icmpYes X.here hx rfl rfl (hb hby hd) rfl hc ho hq k) r
theorem g_icN (C : Cx p s m meth c Z own bytes ml rt mn) (X : St p l e R s m args below meth c n0 T h k n) {cd : ClassFile.Cond} {x y : Int32} {o : Int} (hd : decode bytes pc = .ok (.if_icmp cd o, 3)) (hq : pc + 3 = q) (hc : if_icmp.holds cd x y = false) (r : Goes p e below G (T.setTop (mkF m q L st))) : Goes p e below G (T.setTop (mkF m pc L (.int y :: .int x :: st))) := by
  obtain ⟨hx, -, -, hby, -⟩ := C
  obtain ⟨_, _, _, X, -⟩ := X
  subst hq
  exact go_st (fun t k => XS.icmpNo X.here hx rfl (hb hby hd) rfl hc k) r
theorem g_nulY (C : Cx p s m meth c Z own bytes ml rt mn) (X : St p l e R s m args below meth c n0 T h k n)  {o : Int} (hd : decode bytes pc = .ok (.ifnull o, 3)) (ho : 0 ≤ (pc : Int) + o) (hq : ((pc : Int) + o).toNat = q)  (r : Goes p e below G (T.setTop (mkF m q L st))) : Goes p e below G (T.setTop (mkF m pc L (.null :: st))) := by
  obtain ⟨hx, -, -, hby, -⟩ := C
  obtain ⟨_, _, _, X, -⟩ := X
  exact go_st (fun t k => XS.ifnullYes X.here hx rfl rfl (hb hby hd) rfl ho hq k) r
theorem g_nulN (C : Cx p s m meth c Z own bytes ml rt mn) (X : St p l e R s m args below meth c n0 T h k n) {b : Addr} {o : Int} (hd : decode bytes pc = .ok (.ifnull o, 3)) (hq : pc + 3 = q)  (r : Goes p e below G (T.setTop (mkF m q L st))) : Goes p e below G (T.setTop (mkF m pc L (.ref b :: st))) := by
  obtain ⟨hx, -, -, hby, -⟩ := C
  obtain ⟨_, _, _, X, -⟩ := X
  subst hq
  exact go_st (fun t k => XS.ifnullNo X.here hx rfl (hb hby hd) rfl k) r
theorem g_nonY (C : Cx p s m meth c Z own bytes ml rt mn) (X : St p l e R s m args below meth c n0 T h k n) {b : Addr} {o : Int} (hd : decode bytes pc = .ok (.ifnonnull o, 3)) (ho : 0 ≤ (pc : Int) + o) (hq : ((pc : Int) + o).toNat = q)  (r : Goes p e below G (T.setTop (mkF m q L st))) : Goes p e below G (T.setTop (mkF m pc L (.ref b :: st))) := by
  obtain ⟨hx, -, -, hby, -⟩ := C
  obtain ⟨_, _, _, X, -⟩ := X
  exact go_st (fun t k => XS.ifnonnullYes X.here hx rfl rfl (hb hby hd) rfl ho hq k) r
theorem g_nonN (C : Cx p s m meth c Z own bytes ml rt mn) (X : St p l e R s m args below meth c n0 T h k n)  {o : Int} (hd : decode bytes pc = .ok (.ifnonnull o, 3)) (hq : pc + 3 = q)  (r : Goes p e below G (T.setTop (mkF m q L st))) : Goes p e below G (T.setTop (mkF m pc L (.null :: st))) := by
  obtain ⟨hx, -, -, hby, -⟩ := C
  obtain ⟨_, _, _, X, -⟩ := X
  subst hq
  exact go_st (fun t k => XS.ifnonnullNo X.here hx rfl (hb hby hd) rfl k) r
theorem g_boolF (C : Cx p s m meth c Z own bytes ml rt mn) (X : St p l e R s m args below meth c n0 T h k n) {cd : ClassFile.Cond} {x : Int32} (hd : decode bytes pc = .ok (.ifCond cd 7, 3)) (hd1 : decode bytes (pc + 3) = .ok (.iconst 1, 1)) (hd2 : decode bytes (pc + 4) = .ok (.goto 4, 3)) (hd3 : decode bytes (pc + 7) = .ok (.iconst 0, 1)) (hq : pc + 8 = q) (r : ∀ b : Int32, (if_icmp.holds cd x 0 = true → b = 0) → (if_icmp.holds cd x 0 = false → b = 1) → Goes p e below G (T.setTop (mkF m q L (.int b :: st)))) : Goes p e below G (T.setTop (mkF m pc L (.int x :: st))) := by
  subst hq
  cases hc : if_icmp.holds cd x 0
  · refine g_ifN C X hd (q := pc + 3) rfl hc ?_
    refine g_iconst C X hd1 (q := pc + 4) rfl (z := 1) rfl ?_
    refine g_goto C X hd2 (by omega) (q := pc + 8) (by omega) ?_
    exact r 1 (fun z => by rw [hc] at z; cases z) (fun _ => rfl)
  · refine g_ifY C X hd (by omega) (q := pc + 7) (by omega) hc ?_
    refine g_iconst C X hd3 (q := pc + 8) rfl (z := 0) rfl ?_
    exact r 0 (fun _ => rfl) (fun z => by rw [hc] at z; cases z)
theorem g_selF (C : Cx p s m meth c Z own bytes ml rt mn) (X : St p l e R s m args below meth c n0 T h k n) {cd : ClassFile.Cond} {x v1 v2 : Int32} {j1 j2 : Fin 4} (hd : decode bytes pc = .ok (.ifCond cd 7, 3)) (hd1 : decode bytes (pc + 3) = .ok (.iload_n j1, 1)) (hd2 : decode bytes (pc + 4) = .ok (.goto 4, 3)) (hd3 : decode bytes (pc + 7) = .ok (.iload_n j2, 1)) (hq : pc + 8 = q) (l1 : L[j1.val]? = some (.val (.int v1))) (l2 : L[j2.val]? = some (.val (.int v2))) (r : ∀ b : Int32, (if_icmp.holds cd x 0 = true → b = v2) → (if_icmp.holds cd x 0 = false → b = v1) → Goes p e below G (T.setTop (mkF m q L (.int b :: st)))) : Goes p e below G (T.setTop (mkF m pc L (.int x :: st))) := by
  subst hq
  cases hc : if_icmp.holds cd x 0
  · refine g_ifN C X hd (q := pc + 3) rfl hc ?_
    refine g_iloadN C X hd1 (q := pc + 4) rfl l1 ?_
    refine g_goto C X hd2 (by omega) (q := pc + 8) (by omega) ?_
    exact r v1 (fun z => by rw [hc] at z; cases z) (fun _ => rfl)
  · refine g_ifY C X hd (by omega) (q := pc + 7) (by omega) hc ?_
    refine g_iloadN C X hd3 (q := pc + 8) rfl l2 ?_
    exact r v2 (fun _ => rfl) (fun z => by rw [hc] at z; cases z)
theorem g_boolC (C : Cx p s m meth c Z own bytes ml rt mn) (X : St p l e R s m args below meth c n0 T h k n) {cd : ClassFile.Cond} {x y : Int32} (hd : decode bytes pc = .ok (.if_icmp cd 7, 3)) (hd1 : decode bytes (pc + 3) = .ok (.iconst 1, 1)) (hd2 : decode bytes (pc + 4) = .ok (.goto 4, 3)) (hd3 : decode bytes (pc + 7) = .ok (.iconst 0, 1)) (hq : pc + 8 = q) (r : ∀ b : Int32, (if_icmp.holds cd x y = true → b = 0) → (if_icmp.holds cd x y = false → b = 1) → Goes p e below G (T.setTop (mkF m q L (.int b :: st)))) : Goes p e below G (T.setTop (mkF m pc L (.int y :: .int x :: st))) := by
  subst hq
  cases hc : if_icmp.holds cd x y
  · refine g_icN C X hd (q := pc + 3) rfl hc ?_
    refine g_iconst C X hd1 (q := pc + 4) rfl (z := 1) rfl ?_
    refine g_goto C X hd2 (by omega) (q := pc + 8) (by omega) ?_
    exact r 1 (fun z => by rw [hc] at z; cases z) (fun _ => rfl)
  · refine g_icY C X hd (by omega) (q := pc + 7) (by omega) hc ?_
    refine g_iconst C X hd3 (q := pc + 8) rfl (z := 0) rfl ?_
    exact r 0 (fun _ => rfl) (fun z => by rw [hc] at z; cases z)
theorem g_acmp (C : Cx p s m meth c Z own bytes ml rt mn) (X : St p l e R s m args below meth c n0 T h k n) {cd : ACond} {x y : Value} {o : Int} {same : Bool} (hd : decode bytes pc = .ok (.if_acmp cd o, 3)) (h1 : x.isRef = true) (h2 : y.isRef = true) (hs : decide (x = y) = same) (ho : 0 ≤ (pc : Int) + o) (hq : q = if acV cd same = true then ((pc : Int) + o).toNat else pc + 3) (r : Goes p e below G (T.setTop (mkF m q L st))) : Goes p e below G (T.setTop (mkF m pc L (y :: x :: st))) := by
  obtain ⟨hx, -, -, hby, -⟩ := C
  obtain ⟨_, _, _, X, -⟩ := X
  exact go_st (fun t k => Jvm.RoadKit.acmp (g := mkF m pc L (y :: x :: st)) X hx rfl h1 h2 rfl (hb hby hd) rfl hs ho hq k) r
theorem g_lsw (C : Cx p s m meth c Z own bytes ml rt mn) (X : St p l e R s m args below meth c n0 T h k n) {d o : Int} {ps : Array (Int × Int)} {i : Int32} {len : Nat} (hd : decode bytes pc = .ok (.lookupswitch d ps, len)) (hinc : (ps.toList.zip (ps.toList.drop 1)).all (fun (a, next) => a.1 < next.1) = true) (hoff : lookupswitch.offset ps.toList d i.toInt = o) (ho : 0 ≤ (pc : Int) + o) (hq : ((pc : Int) + o).toNat = q) (r : Goes p e below G (T.setTop (mkF m q L st))) : Goes p e below G (T.setTop (mkF m pc L (.int i :: st))) := by
  obtain ⟨hx, -, -, hby, -⟩ := C
  obtain ⟨_, _, _, X, -⟩ := X
  subst hq
  refine go_st (fun t k => ?_) r
  have hd' := hb hby hd
  show Steps p.tables e below (T.setTop { method := m, pc := pc, locals := L, stack := .int i :: st, locked := none }) _
  jvm_step X.here [X.here.top, hx, hd', lookupswitch.wp_chain, hoff, ho]
  refine ⟨?_, k⟩
  intro a b a1 b1 hm
  simpa using List.all_eq_true.mp hinc ((a, b), a1, b1) (by simpa using hm)
theorem g_tswI (C : Cx p s m meth c Z own bytes ml rt mn) (X : St p l e R s m args below meth c n0 T h k n) {d lo hi o : Int} {offs : Array Int} {i : Int32} {len : Nat} (hd : decode bytes pc = .ok (.tableswitch d lo hi offs, len)) (hin : ¬ (i.toInt < lo ∨ i.toInt > hi)) (hoff : offs[(i.toInt - lo).toNat]? = some o) (ho : 0 ≤ (pc : Int) + o) (hq : ((pc : Int) + o).toNat = q) (r : Goes p e below G (T.setTop (mkF m q L st))) : Goes p e below G (T.setTop (mkF m pc L (.int i :: st))) := by
  obtain ⟨hx, -, -, hby, -⟩ := C
  obtain ⟨_, _, _, X, -⟩ := X
  exact go_st (fun t k => XS.tswIn X.here hx rfl rfl (hb hby hd) rfl hin hoff ho hq k) r
theorem g_tswO (C : Cx p s m meth c Z own bytes ml rt mn) (X : St p l e R s m args below meth c n0 T h k n) {d lo hi : Int} {offs : Array Int} {i : Int32} {len : Nat} (hd : decode bytes pc = .ok (.tableswitch d lo hi offs, len)) (hin : i.toInt < lo ∨ i.toInt > hi) (ho : 0 ≤ (pc : Int) + d) (hq : ((pc : Int) + d).toNat = q) (r : Goes p e below G (T.setTop (mkF m q L st))) : Goes p e below G (T.setTop (mkF m pc L (.int i :: st))) := by
  obtain ⟨hx, -, -, hby, -⟩ := C
  obtain ⟨_, _, _, X, -⟩ := X
  exact go_st (fun t k => XS.tswOut X.here hx rfl rfl (hb hby hd) rfl hin ho hq k) r
theorem g_ldcI (C : Cx p s m meth c Z own bytes ml rt mn) (X : St p l e R s m args below meth c n0 T h k n) {i : Nat} {v : Int32} (w : (Cond.constant own i v).before a0 Z = true) (hd : decode bytes pc = .ok (.ldc i, 2)) (hq : pc + 2 = q) (r : Goes p e below G (T.setTop (mkF m q L (.int v :: st)))) : Goes p e below G (T.setTop (mkF m pc L st)) := by
  obtain ⟨hx, hZ, hown, hby, -⟩ := C
  obtain ⟨_, _, _, X, -⟩ := X
  subst hq
  exact go_st (fun t k => X.ldcInt hx hown (mvT hZ w) (g := mkF m pc L st) rfl (hb hby hd) t k) r
theorem g_ldcJ (C : Cx p s m meth c Z own bytes ml rt mn) (X : St p l e R s m args below meth c n0 T h k n) {i : Nat} {v : Int64} (w : (Cond.constantLong own i v).before a0 Z = true) (hd : decode bytes pc = .ok (.ldc2_w i, 3)) (hq : pc + 3 = q) (r : Goes p e below G (T.setTop (mkF m q L (.long v :: st)))) : Goes p e below G (T.setTop (mkF m pc L st)) := by
  obtain ⟨hx, hZ, hown, hby, -⟩ := C
  obtain ⟨_, _, _, X, -⟩ := X
  subst hq
  exact go_st (fun t k => X.ldc2Long hx hown (mvT hZ w) (g := mkF m pc L st) rfl (hb hby hd) t k) r
theorem own_end (C : Cx p s m meth c Z own bytes ml rt mn) (X : St p l e R s m args below meth c n0 T h k n) {Q : Option Value → Heap → Prop} {K N : Nat} {S : State} {v : Option Value} (hv : rt = none → v = none) (hk : k ≤ K) (hn : n ≤ N) (hQ : Q v h)
    (f : ∀ locs cells slots fs, Stand p l e R s m args below meth c T locs cells slots → (∀ (f : JFrame) (acts : List Action), f.method = m → f.locked = none → f.entered = [] → (doReturn e (T.setTop f) acts v).1 = T.setFrames fs) → Steps p.tables e below S (T.setFrames fs)) : Goes p e below (FinN Q s n0 K N) S := by
  obtain ⟨hx, -, -, hby, -, hret, hlk, -⟩ := C
  obtain ⟨locs, cells, slots, X, hF, rfl, h1, h2⟩ := X
  obtain ⟨fs, hr, hrun, hended, hW, hsame⟩ := X.leave (v := v) (fun h => hv (hret.symm.trans h)) hlk
  exact ⟨_, _, f _ _ _ fs X hr, hrun, hended, _, _, rfl, ⟨hF, hQ⟩, ⟨_, rfl⟩, hW, hsame.mono (Nat.le_trans h1 hk) (Nat.le_trans h2 hn)⟩
theorem g_retI (C : Cx p s m meth c Z own bytes ml (some .int) mn) (X : St p l e R s m args below meth c n0 T h k n) {Q : Option Value → Heap → Prop} {K N : Nat} {z : Int32} (hd : decode bytes pc = .ok (.ireturn, 1)) (hk : k ≤ K) (hn : n ≤ N) (hQ : Q (some (.int z)) h) : Goes p e below (FinN Q s n0 K N) (T.setTop (mkF m pc L (.int z :: st))) := by
  refine own_end C X (by simp) hk hn hQ fun locs cells slots fs X hr => ?_
  obtain ⟨hx, -, -, hby, -, hret, hlk, -⟩ := C
  exact retOut X hx hret rfl (Or.inl ⟨rfl, Or.inl rfl, _, rfl⟩) (hb hby hd) hr
theorem g_retN {t : FieldType} (C : Cx p s m meth c Z own bytes ml (some t) mn) (X : St p l e R s m args below meth c n0 T h k n) {Q : Option Value → Heap → Prop} {K N : Nat} {z z' : Int32} (ht : t = .boolean ∨ t = .byte ∨ t = .char ∨ t = .short) (hz : nar t z = z') (hd : decode bytes pc = .ok (.ireturn, 1)) (hk : k ≤ K) (hn : n ≤ N) (hQ : Q (some (.int z')) h) : Goes p e below (FinN Q s n0 K N) (T.setTop (mkF m pc L (.int z :: st))) := by
  subst hz
  refine own_end C X (by simp) hk hn hQ fun locs cells slots fs X hr => ?_
  obtain ⟨hx, -, -, hby, -, hret, hlk, -⟩ := C
  exact retN X hx hret ht (hb hby hd) hr
theorem g_retA {t : FieldType} (C : Cx p s m meth c Z own bytes ml (some t) mn) (X : St p l e R s m args below meth c n0 T h k n) {Q : Option Value → Heap → Prop} {K N : Nat} {v : Value} (ht : t.isReference = true) (hv : v.isRef = true) (hd : decode bytes pc = .ok (.areturn, 1)) (hk : k ≤ K) (hn : n ≤ N) (hQ : Q (some v) h) : Goes p e below (FinN Q s n0 K N) (T.setTop (mkF m pc L (v :: st))) := by
  refine own_end C X (by simp) hk hn hQ fun locs cells slots fs X hr => ?_
  obtain ⟨hx, -, -, hby, -, hret, hlk, -⟩ := C
  have hn' : narrow t v = v := by rcases ref_cases hv with rfl | ⟨b, rfl⟩ <;> cases t <;> first | rfl | (cases ht)
  exact retOut X hx hret hn' (Or.inr (Or.inr (Or.inr (Or.inr ⟨rfl, ht, hv⟩)))) (hb hby hd) hr
theorem g_retJ (C : Cx p s m meth c Z own bytes ml (some .long) mn) (X : St p l e R s m args below meth c n0 T h k n) {Q : Option Value → Heap → Prop} {K N : Nat} {z : Int64} (hd : decode bytes pc = .ok (.lreturn, 1)) (hk : k ≤ K) (hn : n ≤ N) (hQ : Q (some (.long z)) h) : Goes p e below (FinN Q s n0 K N) (T.setTop (mkF m pc L (.long z :: st))) := by
  refine own_end C X (by simp) hk hn hQ fun locs cells slots fs X hr => ?_
  obtain ⟨hx, -, -, hby, -, hret, hlk, -⟩ := C
  exact retOut X hx hret rfl (Or.inr (Or.inl ⟨rfl, rfl, _, rfl⟩)) (hb hby hd) hr
theorem g_retV (C : Cx p s m meth c Z own bytes ml none mn) (X : St p l e R s m args below meth c n0 T h k n) {Q : Option Value → Heap → Prop} {K N : Nat} (hd : decode bytes pc = .ok (.return_, 1)) (hk : k ≤ K) (hn : n ≤ N) (hQ : Q none h) : Goes p e below (FinN Q s n0 K N) (T.setTop (mkF m pc L [])) := by
  refine own_end C X (fun _ => rfl) hk hn hQ fun locs cells slots fs X hr => ?_
  obtain ⟨hx, -, -, hby, -, hret, hlk, -⟩ := C
  exact X.returnOut hx hret (hb hby hd) hr
theorem g_dloadN (C : Cx p s m meth c Z own bytes ml rt mn) (X : St p l e R s m args below meth c n0 T h k n) {j : Fin 4} {v : UInt64} (hd : decode bytes pc = .ok (.dload_n j, 1)) (hq : pc + 1 = q) (hl : L[j.val]? = some (.val (.double v))) (r : Goes p e below G (T.setTop (mkF m q L (.double v :: st)))) : Goes p e below G (T.setTop (mkF m pc L (st))) := by
  obtain ⟨hx, -, -, hby, -⟩ := C
  obtain ⟨_, _, _, X, -⟩ := X
  subst hq 
  exact go_st (fun t k => XS.dloadN X.here hx rfl (hb hby hd) hl k) r
theorem g_dload (C : Cx p s m meth c Z own bytes ml rt mn) (X : St p l e R s m args below meth c n0 T h k n) {j : Nat} {v : UInt64} (hd : decode bytes pc = .ok (.dload j, 2)) (hq : pc + 2 = q) (hl : L[j]? = some (.val (.double v))) (r : Goes p e below G (T.setTop (mkF m q L (.double v :: st)))) : Goes p e below G (T.setTop (mkF m pc L (st))) := by
  obtain ⟨hx, -, -, hby, -⟩ := C
  obtain ⟨_, _, _, X, -⟩ := X
  subst hq 
  exact go_st (fun t k => XS.dload X.here hx rfl (hb hby hd) hl k) r
theorem g_dstoreN (C : Cx p s m meth c Z own bytes ml rt mn) (X : St p l e R s m args below meth c n0 T h k n) {j : Fin 4} {x : UInt64} {L' : Array Slot} (hd : decode bytes pc = .ok (.dstore_n j, 1)) (hq : pc + 1 = q) (hl : storeLocals L j.val (.double x) = some L') (r : Goes p e below G (T.setTop (mkF m q L' (st)))) : Goes p e below G (T.setTop (mkF m pc L (.double x :: st))) := by
  obtain ⟨hx, -, -, hby, -⟩ := C
  obtain ⟨_, _, _, X, -⟩ := X
  subst hq 
  exact go_st (fun t k => XS.dstoreN X.here hx rfl (hb hby hd) rfl hl k) r
theorem g_dstore (C : Cx p s m meth c Z own bytes ml rt mn) (X : St p l e R s m args below meth c n0 T h k n) {j : Nat} {x : UInt64} {L' : Array Slot} (hd : decode bytes pc = .ok (.dstore j, 2)) (hq : pc + 2 = q) (hl : storeLocals L j (.double x) = some L') (r : Goes p e below G (T.setTop (mkF m q L' (st)))) : Goes p e below G (T.setTop (mkF m pc L (.double x :: st))) := by
  obtain ⟨hx, -, -, hby, -⟩ := C
  obtain ⟨_, _, _, X, -⟩ := X
  subst hq 
  exact go_st (fun t k => XS.dstore X.here hx rfl (hb hby hd) rfl hl k) r
theorem g_i2d (C : Cx p s m meth c Z own bytes ml rt mn) (X : St p l e R s m args below meth c n0 T h k n) {x : Int32} {z : UInt64} (hd : decode bytes pc = .ok (.i2d, 1)) (hq : pc + 1 = q) (hz : FP.i2d x = z) (r : Goes p e below G (T.setTop (mkF m q L (.double z :: st)))) : Goes p e below G (T.setTop (mkF m pc L (.int x :: st))) := by
  obtain ⟨hx, -, -, hby, -⟩ := C
  obtain ⟨_, _, _, X, -⟩ := X
  subst hq 
  exact go_st (fun t k => XS.i2dS X.here hx rfl (hb hby hd) rfl hz k) r
theorem g_dcmp (C : Cx p s m meth c Z own bytes ml rt mn) (X : St p l e R s m args below meth c n0 T h k n) {o : CmpOp} {x y : UInt64} {z : Int32} (hd : decode bytes pc = .ok (.dcmp o, 1)) (hq : pc + 1 = q) (hz : cmpValue (FP.dcmp x y) o = z) (r : Goes p e below G (T.setTop (mkF m q L (.int z :: st)))) : Goes p e below G (T.setTop (mkF m pc L (.double y :: .double x :: st))) := by
  obtain ⟨hx, -, -, hby, -⟩ := C
  obtain ⟨_, _, _, X, -⟩ := X
  subst hq 
  exact go_st (fun t k => XS.dcmpS X.here hx rfl (hb hby hd) rfl hz k) r
theorem g_pop2 (C : Cx p s m meth c Z own bytes ml rt mn) (X : St p l e R s m args below meth c n0 T h k n) {x : Value} (hd : decode bytes pc = .ok (.pop2, 1)) (hq : pc + 1 = q) (hc : x.category = 2) (r : Goes p e below G (T.setTop (mkF m q L st))) : Goes p e below G (T.setTop (mkF m pc L (x :: st))) := by
  obtain ⟨hx, -, -, hby, -⟩ := C
  obtain ⟨_, _, _, X, -⟩ := X
  subst hq
  refine go_st (fun t k => ?_) r
  have hd' := hb hby hd
  show Steps p.tables e below (T.setTop { method := m, pc := pc, locals := L, stack := x :: st, locked := none }) _
  jvm_step X.here [X.here.top, hx, hd', hc]
  exact k
theorem g_dconst0 (C : Cx p s m meth c Z own bytes ml rt mn) (X : St p l e R s m args below meth c n0 T h k n) {z : UInt64} (hd : decode bytes pc = .ok (.dconst 0, 1)) (hq : pc + 1 = q) (hz : FP.dconst0 = z) (r : Goes p e below G (T.setTop (mkF m q L (.double z :: st)))) : Goes p e below G (T.setTop (mkF m pc L (st))) := by
  obtain ⟨hx, -, -, hby, -⟩ := C
  obtain ⟨_, _, _, X, -⟩ := X
  subst hq 
  exact go_st (fun t k => XS.dconst0 X.here hx rfl (hb hby hd) hz k) r
theorem g_dconst1 (C : Cx p s m meth c Z own bytes ml rt mn) (X : St p l e R s m args below meth c n0 T h k n) {z : UInt64} (hd : decode bytes pc = .ok (.dconst 1, 1)) (hq : pc + 1 = q) (hz : FP.dconst1 = z) (r : Goes p e below G (T.setTop (mkF m q L (.double z :: st)))) : Goes p e below G (T.setTop (mkF m pc L (st))) := by
  obtain ⟨hx, -, -, hby, -⟩ := C
  obtain ⟨_, _, _, X, -⟩ := X
  subst hq 
  exact go_st (fun t k => XS.dconst1 X.here hx rfl (hb hby hd) hz k) r
theorem g_retD (C : Cx p s m meth c Z own bytes ml (some .double) mn) (X : St p l e R s m args below meth c n0 T h k n) {Q : Option Value → Heap → Prop} {K N : Nat} {z : UInt64} (hd : decode bytes pc = .ok (.dreturn, 1)) (hk : k ≤ K) (hn : n ≤ N) (hQ : Q (some (.double z)) h) : Goes p e below (FinN Q s n0 K N) (T.setTop (mkF m pc L (.double z :: st))) := by
  refine own_end C X (by simp) hk hn hQ fun locs cells slots fs X hr => ?_
  obtain ⟨hx, -, -, hby, -, hret, hlk, -⟩ := C
  exact retOut X hx hret rfl (Or.inr (Or.inr (Or.inl ⟨rfl, rfl, _, rfl⟩))) (hb hby hd) hr
theorem g_getS (C : Cx p s m meth c Z own bytes ml rt mn) (X : St p l e R s m args below meth c n0 T h k n) {R0 O f d host : String} {i : Nat} {v : Value} (w : (Cond.fieldLink own i R0 f d).before a0 Z = true ∨ (Cond.fieldLinkNest own i R0 f d host).before a0 Z = true) (via : Via Z R0 O f d) (F : Sta Z h O f d v) (hd : decode bytes pc = .ok (.getstatic i, 3)) (hq : pc + 3 = q) (r : ∀ T', St p l e R s m args below meth c n0 T' h k n → Goes p e below G (T'.setTop (mkF m q L (v :: st)))) : Goes p e below G (T.setTop (mkF m pc L st)) := by
  obtain ⟨hx, hZ, hown, hby, -⟩ := C
  obtain ⟨_, _, _, X, hF, eT, h1, h2⟩ := X
  subst hq
  obtain ⟨T', X', e', st'⟩ := getS2 X hx hZ hown w via eT F (g := mkF m pc L st) rfl (hb hby hd)
  exact go_st st' (r T' ⟨_, _, _, X', hF, e', h1, h2⟩)
theorem g_getF (C : Cx p s m meth c Z own bytes ml rt mn) (X : St p l e R s m args below meth c n0 T h k n) {R0 O f d host : String} {i : Nat} {a : Addr} {v : Value} (w : (Cond.fieldLink own i R0 f d).before a0 Z = true ∨ (Cond.fieldLinkNest own i R0 f d host).before a0 Z = true) (via : Via Z R0 O f d) (F : Fld Z h a O f d v) (hd : decode bytes pc = .ok (.getfield i, 3)) (hq : pc + 3 = q) (r : ∀ T', St p l e R s m args below meth c n0 T' h k n → Goes p e below G (T'.setTop (mkF m q L (v :: st)))) : Goes p e below G (T.setTop (mkF m pc L (.ref a :: st))) := by
  obtain ⟨hx, hZ, hown, hby, -⟩ := C
  obtain ⟨_, _, _, X, hF, eT, h1, h2⟩ := X
  subst hq
  obtain ⟨T', X', e', st'⟩ := getF X hx hZ hown w via eT F (g := mkF m pc L (.ref a :: st)) rfl rfl (hb hby hd)
  exact go_st st' (r T' ⟨_, _, _, X', hF, e', h1, h2⟩)
theorem g_putF (C : Cx p s m meth c Z own bytes ml rt mn) (X : St p l e R s m args below meth c n0 T h k n) {R0 O f d host K : String} {i kk : Nat} {ty : FieldType} {a : Addr} {v old : Value} (w : (Cond.fieldLink own i R0 f d).before a0 Z = true ∨ (Cond.fieldLinkNest own i R0 f d host).before a0 Z = true) (via : Via Z R0 O f d) (F : Fld Z h a O f d old) (E : Exa Z h a K) (Ly : (Cond.lays K O f d).before a0 Z = true ∨ ((Cond.laysFinal K O f d).before a0 Z = true ∧ own = O ∧ mn = "<init>")) (wi : (Cond.instantiable K kk).before a0 Z = true)
    (hty : parseFieldDescriptor d = some ty) (hnn : narrow ty v = v) (hff : fits ty v = true) (hd : decode bytes pc = .ok (.putfield i, 3)) (hq : pc + 3 = q) (ha : n0 ≤ a) (r : ∀ T' h', St p l e R s m args below meth c n0 T' h' k n → Wr h h' a (Jvm.RoadKit.slotOf Z O f d) v → Goes p e below G (T'.setTop (mkF m q L st))) : Goes p e below G (T.setTop (mkF m pc L (v :: .ref a :: st))) := by
  obtain ⟨hx, hZ, hown, hby, -, -, -, hnm⟩ := C
  obtain ⟨_, _, _, X, hF, eT, h1, h2⟩ := X
  subst hq
  obtain ⟨T', h', X', e', W', st'⟩ := putF X hx hZ hown w via eT F E (Ly.imp id fun z => ⟨z.1, z.2.1, hnm.trans z.2.2⟩) wi hty hnn hff (g := mkF m pc L (v :: .ref a :: st)) rfl rfl (hb hby hd)
  exact go_st st' (r T' h' ⟨_, _, _, X', Fr.snoc X' hF ha, e', h1, h2⟩ W')
theorem g_putFN (C : Cx p s m meth c Z own bytes ml rt mn) (X : St p l e R s m args below meth c n0 T h k n) {R0 O f d K : String} {i kk : Nat} {ty : FieldType} {a : Addr} {v v' old : Value} (w : (Cond.fieldLink own i R0 f d).before a0 Z = true) (via : Via Z R0 O f d) (F : Fld Z h a O f d old) (E : Exa Z h a K) (Ly : (Cond.lays K O f d).before a0 Z = true ∨ ((Cond.laysFinal K O f d).before a0 Z = true ∧ own = O ∧ mn = "<init>")) (wi : (Cond.instantiable K kk).before a0 Z = true)
    (hty : parseFieldDescriptor d = some ty) (hnn : narrow ty v = v') (hff : fits ty v' = true) (hd : decode bytes pc = .ok (.putfield i, 3)) (hq : pc + 3 = q) (ha : n0 ≤ a) (r : ∀ T' h', St p l e R s m args below meth c n0 T' h' k n → Wr h h' a (Jvm.RoadKit.slotOf Z O f d) v' → Goes p e below G (T'.setTop (mkF m q L st))) : Goes p e below G (T.setTop (mkF m pc L (v :: .ref a :: st))) := by
  obtain ⟨hx, hZ, hown, hby, -, -, -, hnm⟩ := C
  obtain ⟨_, _, _, X, hF, eT, h1, h2⟩ := X
  subst hq
  obtain ⟨T', h', X', e', W', st'⟩ := putFN X hx hZ hown w via eT F E (Ly.imp id fun z => ⟨z.1, z.2.1, hnm.trans z.2.2⟩) wi hty hnn hff (g := mkF m pc L (v :: .ref a :: st)) rfl rfl (hb hby hd)
  exact go_st st' (r T' h' ⟨_, _, _, X', Fr.snoc X' hF ha, e', h1, h2⟩ W')
theorem g_new (C : Cx p s m meth c Z own bytes ml rt mn) (X : St p l e R s m args below meth c n0 T h k n) {K : String} {i z k' n' : Nat} (w : (Cond.classLink own i K).before a0 Z = true) (wi : (Cond.instantiable K z).before a0 Z = true) (wz : (Cond.initialized K).before a0 Z = true) (hd : decode bytes pc = .ok (.new i, 3)) (hq : pc + 3 = q) (hk : k + 1 = k') (hn : n + z = n') (hkR : k' ≤ R.cells) (hnR : n' ≤ R.slots)
    (r : ∀ T' h' a, a = h.size → St p l e R s m args below meth c n0 T' h' k' n' → Ext h h' → Exa Z h' a K → (∀ {O nm d : String} {ty : FieldType}, Laid Z a0 K O nm d → parseFieldDescriptor d = some ty → Fld Z h' a O nm d (defaultValue ty)) → Goes p e below G (T'.setTop (mkF m q L (.ref a :: st)))) : Goes p e below G (T.setTop (mkF m pc L st)) := by
  obtain ⟨hx, hZ, hown, hby, -⟩ := C
  obtain ⟨_, _, _, X, hF, eT, h1, h2⟩ := X
  subst hq hk hn
  obtain ⟨T', h', X', e', E', A', D', -, st'⟩ := newO X hx hZ hown w wi wz eT (g := mkF m pc L st) rfl (hb hby hd) (Nat.le_trans (Nat.add_le_add_right h1 1) hkR) (Nat.le_trans (Nat.add_le_add_right h2 z) hnR)
  exact go_st st' (r T' h' _ rfl ⟨_, _, _, X', hF, e', Nat.add_le_add_right h1 1, Nat.add_le_add_right h2 z⟩ E' A' D')
theorem g_newP (C : Cx p s m meth c Z own bytes ml rt mn) (X : St p l e R s m args below meth c n0 T h k n) {aty : ArrayType} {ty : FieldType} {z : Int32} {cap k' n' : Nat} (w : (Cond.arrayClass ty).before a0 Z = true) (hty : newarray.typeOf aty = ty) (hd : decode bytes pc = .ok (.newarray aty, 2)) (hq : pc + 2 = q) (hz : ¬ z < 0) (hcap : z.toNatClampNeg ≤ cap) (hcb : cap * 8 ≤ 536870912) (hk : k + 1 = k') (hn : n + cap = n') (hkR : k' ≤ R.cells) (hnR : n' ≤ R.slots)
    (r : ∀ T' h' cA a, a = h.size → St p l e R s m args below meth c n0 T' h' k' n' → Ext h h' → Arv Z h' a cA ty z [] (defaultValue ty) → Goes p e below G (T'.setTop (mkF m q L (.ref a :: st)))) : Goes p e below G (T.setTop (mkF m pc L (.int z :: st))) := by
  obtain ⟨hx, hZ, hown, hby, -⟩ := C
  obtain ⟨_, _, _, X, hF, eT, h1, h2⟩ := X
  subst hq hk hn hty
  obtain ⟨T', h', cA, X', e', E', A', st'⟩ := newP X hx hZ w eT (g := mkF m pc L (.int z :: st)) rfl (hb hby hd) rfl hz (cap := cap) hcap hcb (Nat.le_trans (Nat.add_le_add_right h1 1) hkR) (Nat.le_trans (Nat.add_le_add_right h2 cap) hnR)
  exact go_st st' (r T' h' cA _ rfl ⟨_, _, _, X', hF, e', Nat.add_le_add_right h1 1, Nat.add_le_add_right h2 cap⟩ E' (Arv.new A' hz))
theorem g_initO (C : Cx p s m meth c Z own bytes ml rt mn) (X : St p l e R s m args below meth c n0 T h k n) {i : Nat} {a : Addr} (w1 : (Cond.methodLink own i Lib.objectInit).before a0 Z = true) (w2 : (Cond.instanceMethod Lib.objectInit).before a0 Z = true) (w3 : (Cond.code Lib.objectInit ⟨#[0xb1]⟩ 1 none).before a0 Z = true) (hsz : L.size = ml) (hd : decode bytes pc = .ok (.invokespecial i, 3)) (hq : pc + 3 = q) (hf : 1 ≤ R.frames) (hW : (st.map fun v => v.category).sum + 12 ≤ R.locals)
    (r : ∀ T', St p l e R s m args below meth c n0 T' h k n → Goes p e below G (T'.setTop (mkF m q L st))) : Goes p e below G (T.setTop (mkF m pc L (.ref a :: st))) := by
  obtain ⟨hx, hZ, hown, hby, hml, -⟩ := C
  obtain ⟨_, _, _, X, hF, eT, h1, h2⟩ := X
  subst hq
  obtain ⟨T', X', e', st'⟩ := initO X hx hZ hown w1 w2 w3 eT (g := mkF m pc L (.ref a :: st)) rfl (hsz.trans hml.symm) rfl (hb hby hd) hf (W := (st.map fun v => v.category).sum) (by show 2 * 0 + _ ≤ _; omega) hW
  exact go_st st' (r T' ⟨_, _, _, X', hF, e', h1, h2⟩)
theorem g_iastore (C : Cx p s m meth c Z own bytes ml rt mn) (X : St p l e R s m args below meth c n0 T h k n) {a : Addr} {cA : ClassId} {z j : Int32} {vs vs' : List Value} {dv : Value} {i : Nat} {v : Int32} (V : Arv Z h a cA .int z vs dv) (hj : ¬ j < 0 ∧ j < z) (hi : j.toNatClampNeg = i) (hlt : i < vs.length) (hvs : vs.set i (.int v) = vs') (ha : n0 ≤ a) (hd : decode bytes pc = .ok (.iastore, 1)) (hq : pc + 1 = q)
    (r : ∀ T' h', St p l e R s m args below meth c n0 T' h' k n → Wr h h' a i (.int v) → Arv Z h' a cA .int z vs' dv → Goes p e below G (T'.setTop (mkF m q L st))) : Goes p e below G (T.setTop (mkF m pc L (.int v :: .int j :: .ref a :: st))) := by
  obtain ⟨hx, hZ, hown, hby, -⟩ := C
  obtain ⟨_, _, _, X, hF, eT, h1, h2⟩ := X
  subst hq hi hvs
  obtain ⟨cl, A, q1, Sz, q3, H, Gf⟩ := V
  obtain ⟨T', h', X', e', W', st'⟩ := stI X hx hZ eT A (j := j) (inb_of Sz hj) (g := mkF m pc L (.int v :: .int j :: .ref a :: st)) rfl rfl (hb hby hd)
  exact go_st st' (r T' h' ⟨_, _, _, X', Fr.snoc X' hF ha, e', h1, h2⟩ W' (Arv.set A q1 Sz q3 H Gf rfl W' _ rfl hlt))
theorem g_castore (C : Cx p s m meth c Z own bytes ml rt mn) (X : St p l e R s m args below meth c n0 T h k n) {a : Addr} {cA : ClassId} {z j : Int32} {vs vs' : List Value} {dv : Value} {i : Nat} {v : Int32} (V : Arv Z h a cA .char z vs dv) (hj : ¬ j < 0 ∧ j < z) (hi : j.toNatClampNeg = i) (hlt : i < vs.length) (hvs : vs.set i (.int (nar .char v)) = vs') (ha : n0 ≤ a) (hd : decode bytes pc = .ok (.castore, 1)) (hq : pc + 1 = q)
    (r : ∀ T' h', St p l e R s m args below meth c n0 T' h' k n → Wr h h' a i (.int (nar .char v)) → Arv Z h' a cA .char z vs' dv → Goes p e below G (T'.setTop (mkF m q L st))) : Goes p e below G (T.setTop (mkF m pc L (.int v :: .int j :: .ref a :: st))) := by
  obtain ⟨hx, hZ, hown, hby, -⟩ := C
  obtain ⟨_, _, _, X, hF, eT, h1, h2⟩ := X
  subst hq hi hvs
  obtain ⟨cl, A, q1, Sz, q3, H, Gf⟩ := V
  obtain ⟨T', h', X', e', W', st'⟩ := stC X hx hZ eT A (j := j) (inb_of Sz hj) (g := mkF m pc L (.int v :: .int j :: .ref a :: st)) rfl rfl (hb hby hd)
  exact go_st st' (r T' h' ⟨_, _, _, X', Fr.snoc X' hF ha, e', h1, h2⟩ W' (Arv.set A q1 Sz q3 H Gf (fits_nar_char _) W' _ rfl hlt))
theorem g_bastore (C : Cx p s m meth c Z own bytes ml rt mn) (X : St p l e R s m args below meth c n0 T h k n) {a : Addr} {cA : ClassId} {z j : Int32} {vs vs' : List Value} {dv : Value} {i : Nat} {v : Int32} (V : Arv Z h a cA .byte z vs dv) (hj : ¬ j < 0 ∧ j < z) (hi : j.toNatClampNeg = i) (hlt : i < vs.length) (hvs : vs.set i (.int (nar .byte v)) = vs') (ha : n0 ≤ a) (hd : decode bytes pc = .ok (.bastore, 1)) (hq : pc + 1 = q)
    (r : ∀ T' h', St p l e R s m args below meth c n0 T' h' k n → Wr h h' a i (.int (nar .byte v)) → Arv Z h' a cA .byte z vs' dv → Goes p e below G (T'.setTop (mkF m q L st))) : Goes p e below G (T.setTop (mkF m pc L (.int v :: .int j :: .ref a :: st))) := by
  obtain ⟨hx, hZ, hown, hby, -⟩ := C
  obtain ⟨_, _, _, X, hF, eT, h1, h2⟩ := X
  subst hq hi hvs
  obtain ⟨cl, A, q1, Sz, q3, H, Gf⟩ := V
  obtain ⟨T', h', X', e', W', st'⟩ := stB X hx hZ eT A (j := j) (inb_of Sz hj) (g := mkF m pc L (.int v :: .int j :: .ref a :: st)) rfl rfl (hb hby hd)
  exact go_st st' (r T' h' ⟨_, _, _, X', Fr.snoc X' hF ha, e', h1, h2⟩ W' (Arv.set A q1 Sz q3 H Gf (fits_nar_byte _) W' _ rfl hlt))
theorem g_zastore (C : Cx p s m meth c Z own bytes ml rt mn) (X : St p l e R s m args below meth c n0 T h k n) {a : Addr} {cA : ClassId} {z j : Int32} {vs vs' : List Value} {dv : Value} {i : Nat} {v : Int32} (V : Arv Z h a cA .boolean z vs dv) (hj : ¬ j < 0 ∧ j < z) (hi : j.toNatClampNeg = i) (hlt : i < vs.length) (hvs : vs.set i (.int (nar .boolean v)) = vs') (ha : n0 ≤ a) (hd : decode bytes pc = .ok (.bastore, 1)) (hq : pc + 1 = q)
    (r : ∀ T' h', St p l e R s m args below meth c n0 T' h' k n → Wr h h' a i (.int (nar .boolean v)) → Arv Z h' a cA .boolean z vs' dv → Goes p e below G (T'.setTop (mkF m q L st))) : Goes p e below G (T.setTop (mkF m pc L (.int v :: .int j :: .ref a :: st))) := by
  obtain ⟨hx, hZ, hown, hby, -⟩ := C
  obtain ⟨_, _, _, X, hF, eT, h1, h2⟩ := X
  subst hq hi hvs
  obtain ⟨cl, A, q1, Sz, q3, H, Gf⟩ := V
  obtain ⟨T', h', X', e', W', st'⟩ := stZ X hx hZ eT A (j := j) (inb_of Sz hj) (g := mkF m pc L (.int v :: .int j :: .ref a :: st)) rfl rfl (hb hby hd)
  exact go_st st' (r T' h' ⟨_, _, _, X', Fr.snoc X' hF ha, e', h1, h2⟩ W' (Arv.set A q1 Sz q3 H Gf (fits_nar_bool _) W' _ rfl hlt))
theorem g_lastore (C : Cx p s m meth c Z own bytes ml rt mn) (X : St p l e R s m args below meth c n0 T h k n) {a : Addr} {cA : ClassId} {z j : Int32} {vs vs' : List Value} {dv : Value} {i : Nat} {v : Int64} (V : Arv Z h a cA .long z vs dv) (hj : ¬ j < 0 ∧ j < z) (hi : j.toNatClampNeg = i) (hlt : i < vs.length) (hvs : vs.set i (.long v) = vs') (ha : n0 ≤ a) (hd : decode bytes pc = .ok (.lastore, 1)) (hq : pc + 1 = q)
    (r : ∀ T' h', St p l e R s m args below meth c n0 T' h' k n → Wr h h' a i (.long v) → Arv Z h' a cA .long z vs' dv → Goes p e below G (T'.setTop (mkF m q L st))) : Goes p e below G (T.setTop (mkF m pc L (.long v :: .int j :: .ref a :: st))) := by
  obtain ⟨hx, hZ, hown, hby, -⟩ := C
  obtain ⟨_, _, _, X, hF, eT, h1, h2⟩ := X
  subst hq hi hvs
  obtain ⟨cl, A, q1, Sz, q3, H, Gf⟩ := V
  obtain ⟨T', h', X', e', W', st'⟩ := stJ X hx hZ eT A (j := j) (inb_of Sz hj) (g := mkF m pc L (.long v :: .int j :: .ref a :: st)) rfl rfl (hb hby hd)
  exact go_st st' (r T' h' ⟨_, _, _, X', Fr.snoc X' hF ha, e', h1, h2⟩ W' (Arv.set A q1 Sz q3 H Gf rfl W' _ rfl hlt))
theorem g_dastore (C : Cx p s m meth c Z own bytes ml rt mn) (X : St p l e R s m args below meth c n0 T h k n) {a : Addr} {cA : ClassId} {z j : Int32} {vs vs' : List Value} {dv : Value} {i : Nat} {v : UInt64} (V : Arv Z h a cA .double z vs dv) (hj : ¬ j < 0 ∧ j < z) (hi : j.toNatClampNeg = i) (hlt : i < vs.length) (hvs : vs.set i (.double v) = vs') (ha : n0 ≤ a) (hd : decode bytes pc = .ok (.dastore, 1)) (hq : pc + 1 = q)
    (r : ∀ T' h', St p l e R s m args below meth c n0 T' h' k n → Wr h h' a i (.double v) → Arv Z h' a cA .double z vs' dv → Goes p e below G (T'.setTop (mkF m q L st))) : Goes p e below G (T.setTop (mkF m pc L (.double v :: .int j :: .ref a :: st))) := by
  obtain ⟨hx, hZ, hown, hby, -⟩ := C
  obtain ⟨_, _, _, X, hF, eT, h1, h2⟩ := X
  subst hq hi hvs
  obtain ⟨cl, A, q1, Sz, q3, H, Gf⟩ := V
  obtain ⟨T', h', X', e', W', st'⟩ := stD X hx hZ eT A (j := j) (inb_of Sz hj) (g := mkF m pc L (.double v :: .int j :: .ref a :: st)) rfl rfl (hb hby hd)
  exact go_st st' (r T' h' ⟨_, _, _, X', Fr.snoc X' hF ha, e', h1, h2⟩ W' (Arv.set A q1 Sz q3 H Gf rfl W' _ rfl hlt))
theorem g_aastore (C : Cx p s m meth c Z own bytes ml rt mn) (X : St p l e R s m args below meth c n0 T h k n) {a : Addr} {cA : ClassId} {z j : Int32} {vs vs' : List Value} {dv v : Value} {ty : FieldType} {i : Nat} (V : Arv Z h a cA ty z vs dv) (hty : ty.isReference = true) (F : Sto Z h a v) (hfv : fits ty v = true) (hj : ¬ j < 0 ∧ j < z) (hi : j.toNatClampNeg = i) (hlt : i < vs.length) (hvs : vs.set i v = vs') (ha : n0 ≤ a) (hd : decode bytes pc = .ok (.aastore, 1)) (hq : pc + 1 = q)
    (r : ∀ T' h', St p l e R s m args below meth c n0 T' h' k n → Wr h h' a i v → Arv Z h' a cA ty z vs' dv → Goes p e below G (T'.setTop (mkF m q L st))) : Goes p e below G (T.setTop (mkF m pc L (v :: .int j :: .ref a :: st))) := by
  obtain ⟨hx, hZ, hown, hby, -⟩ := C
  obtain ⟨_, _, _, X, hF, eT, h1, h2⟩ := X
  subst hq hi hvs
  obtain ⟨cl, A, q1, Sz, q3, H, Gf⟩ := V
  obtain ⟨T', h', X', e', W', st'⟩ := stR X hx hZ eT A (j := j) (inb_of Sz hj) hty F (g := mkF m pc L (v :: .int j :: .ref a :: st)) rfl rfl (hb hby hd)
  exact go_st st' (r T' h' ⟨_, _, _, X', Fr.snoc X' hF ha, e', h1, h2⟩ W' (Arv.set A q1 Sz q3 H Gf hfv W' _ rfl hlt))
theorem g_iaload (C : Cx p s m meth c Z own bytes ml rt mn) (X : St p l e R s m args below meth c n0 T h k n) {a : Addr} {cA : ClassId} {z j : Int32} {vs : List Value} {dv w : Value}  (V : Arv Z h a cA .int z vs dv) (hj : ¬ j < 0 ∧ j < z) (hv : vs.getD j.toNatClampNeg dv = w) (hd : decode bytes pc = .ok (.iaload, 1)) (hq : pc + 1 = q) (r : Goes p e below G (T.setTop (mkF m q L (w :: st)))) : Goes p e below G (T.setTop (mkF m pc L (.int j :: .ref a :: st))) := by
  obtain ⟨hx, hZ, hown, hby, -⟩ := C
  obtain ⟨_, _, _, X, hF, eT, h1, h2⟩ := X
  subst hq
  obtain ⟨cl, A, q1, Sz, q3, H, Gf⟩ := V
  exact go_st (fun t k => X.iaload hx (j := j) (v := w) (by rw [eT]; exact A.1) (State.isArrayOf_alike hZ.alike A.2.1) A.2.2 (inb_of Sz hj) (H.at (inb_of Sz hj) hv) (g := mkF m pc L (.int j :: .ref a :: st)) rfl rfl (hb hby hd) t k) r
theorem g_caload (C : Cx p s m meth c Z own bytes ml rt mn) (X : St p l e R s m args below meth c n0 T h k n) {a : Addr} {cA : ClassId} {z j : Int32} {vs : List Value} {dv w : Value}  (V : Arv Z h a cA .char z vs dv) (hj : ¬ j < 0 ∧ j < z) (hv : vs.getD j.toNatClampNeg dv = w) (hd : decode bytes pc = .ok (.caload, 1)) (hq : pc + 1 = q) (r : Goes p e below G (T.setTop (mkF m q L (w :: st)))) : Goes p e below G (T.setTop (mkF m pc L (.int j :: .ref a :: st))) := by
  obtain ⟨hx, hZ, hown, hby, -⟩ := C
  obtain ⟨_, _, _, X, hF, eT, h1, h2⟩ := X
  subst hq
  obtain ⟨cl, A, q1, Sz, q3, H, Gf⟩ := V
  exact go_st (fun t k => X.caload hx (j := j) (v := w) (by rw [eT]; exact A.1) (State.isArrayOf_alike hZ.alike A.2.1) A.2.2 (inb_of Sz hj) (H.at (inb_of Sz hj) hv) (g := mkF m pc L (.int j :: .ref a :: st)) rfl rfl (hb hby hd) t k) r
theorem g_baload (C : Cx p s m meth c Z own bytes ml rt mn) (X : St p l e R s m args below meth c n0 T h k n) {a : Addr} {cA : ClassId} {z j : Int32} {vs : List Value} {dv w : Value}  (V : Arv Z h a cA .byte z vs dv) (hj : ¬ j < 0 ∧ j < z) (hv : vs.getD j.toNatClampNeg dv = w) (hd : decode bytes pc = .ok (.baload, 1)) (hq : pc + 1 = q) (r : Goes p e below G (T.setTop (mkF m q L (w :: st)))) : Goes p e below G (T.setTop (mkF m pc L (.int j :: .ref a :: st))) := by
  obtain ⟨hx, hZ, hown, hby, -⟩ := C
  obtain ⟨_, _, _, X, hF, eT, h1, h2⟩ := X
  subst hq
  obtain ⟨cl, A, q1, Sz, q3, H, Gf⟩ := V
  exact go_st (fun t k => X.baloadBytes hx (j := j) (v := w) (by rw [eT]; exact A.1) (State.isArrayOf_alike hZ.alike A.2.1) A.2.2 (inb_of Sz hj) (H.at (inb_of Sz hj) hv) (g := mkF m pc L (.int j :: .ref a :: st)) rfl rfl (hb hby hd) t k) r
theorem g_zaload (C : Cx p s m meth c Z own bytes ml rt mn) (X : St p l e R s m args below meth c n0 T h k n) {a : Addr} {cA : ClassId} {z j : Int32} {vs : List Value} {dv w : Value}  (V : Arv Z h a cA .boolean z vs dv) (hj : ¬ j < 0 ∧ j < z) (hv : vs.getD j.toNatClampNeg dv = w) (hd : decode bytes pc = .ok (.baload, 1)) (hq : pc + 1 = q) (r : Goes p e below G (T.setTop (mkF m q L (w :: st)))) : Goes p e below G (T.setTop (mkF m pc L (.int j :: .ref a :: st))) := by
  obtain ⟨hx, hZ, hown, hby, -⟩ := C
  obtain ⟨_, _, _, X, hF, eT, h1, h2⟩ := X
  subst hq
  obtain ⟨cl, A, q1, Sz, q3, H, Gf⟩ := V
  exact go_st (fun t k => X.baloadBooleans hx (j := j) (v := w) (by rw [eT]; exact A.1) (State.isArrayOf_alike hZ.alike A.2.1) A.2.2 (inb_of Sz hj) (H.at (inb_of Sz hj) hv) (g := mkF m pc L (.int j :: .ref a :: st)) rfl rfl (hb hby hd) t k) r
theorem g_laload (C : Cx p s m meth c Z own bytes ml rt mn) (X : St p l e R s m args below meth c n0 T h k n) {a : Addr} {cA : ClassId} {z j : Int32} {vs : List Value} {dv w : Value}  (V : Arv Z h a cA .long z vs dv) (hj : ¬ j < 0 ∧ j < z) (hv : vs.getD j.toNatClampNeg dv = w) (hd : decode bytes pc = .ok (.laload, 1)) (hq : pc + 1 = q) (r : Goes p e below G (T.setTop (mkF m q L (w :: st)))) : Goes p e below G (T.setTop (mkF m pc L (.int j :: .ref a :: st))) := by
  obtain ⟨hx, hZ, hown, hby, -⟩ := C
  obtain ⟨_, _, _, X, hF, eT, h1, h2⟩ := X
  subst hq
  obtain ⟨cl, A, q1, Sz, q3, H, Gf⟩ := V
  exact go_st (fun t k => X.laload hx (j := j) (v := w) (by rw [eT]; exact A.1) (State.isArrayOf_alike hZ.alike A.2.1) A.2.2 (inb_of Sz hj) (H.at (inb_of Sz hj) hv) (g := mkF m pc L (.int j :: .ref a :: st)) rfl rfl (hb hby hd) t k) r
theorem g_daload (C : Cx p s m meth c Z own bytes ml rt mn) (X : St p l e R s m args below meth c n0 T h k n) {a : Addr} {cA : ClassId} {z j : Int32} {vs : List Value} {dv w : Value}  (V : Arv Z h a cA .double z vs dv) (hj : ¬ j < 0 ∧ j < z) (hv : vs.getD j.toNatClampNeg dv = w) (hd : decode bytes pc = .ok (.daload, 1)) (hq : pc + 1 = q) (r : Goes p e below G (T.setTop (mkF m q L (w :: st)))) : Goes p e below G (T.setTop (mkF m pc L (.int j :: .ref a :: st))) := by
  obtain ⟨hx, hZ, hown, hby, -⟩ := C
  obtain ⟨_, _, _, X, hF, eT, h1, h2⟩ := X
  subst hq
  obtain ⟨cl, A, q1, Sz, q3, H, Gf⟩ := V
  exact go_st (fun t k => X.daload hx (j := j) (v := w) (by rw [eT]; exact A.1) (State.isArrayOf_alike hZ.alike A.2.1) A.2.2 (inb_of Sz hj) (H.at (inb_of Sz hj) hv) (g := mkF m pc L (.int j :: .ref a :: st)) rfl rfl (hb hby hd) t k) r
theorem g_aaload (C : Cx p s m meth c Z own bytes ml rt mn) (X : St p l e R s m args below meth c n0 T h k n) {a : Addr} {cA : ClassId} {z j : Int32} {vs : List Value} {dv w : Value} {ty : FieldType} (hty : ty.isReference = true) (V : Arv Z h a cA ty z vs dv) (hj : ¬ j < 0 ∧ j < z) (hv : vs.getD j.toNatClampNeg dv = w) (hd : decode bytes pc = .ok (.aaload, 1)) (hq : pc + 1 = q) (r : Goes p e below G (T.setTop (mkF m q L (w :: st)))) : Goes p e below G (T.setTop (mkF m pc L (.int j :: .ref a :: st))) := by
  obtain ⟨hx, hZ, hown, hby, -⟩ := C
  obtain ⟨_, _, _, X, hF, eT, h1, h2⟩ := X
  subst hq
  obtain ⟨cl, A, q1, Sz, q3, H, Gf⟩ := V
  exact go_st (fun t k => X.aaload hx (j := j) (v := w) (by rw [eT]; exact A.1) (State.isArrayOf_alike hZ.alike A.2.1) hty A.2.2 (inb_of Sz hj) (H.at (inb_of Sz hj) hv) (g := mkF m pc L (.int j :: .ref a :: st)) rfl rfl (hb hby hd) t k) r
theorem g_alen (C : Cx p s m meth c Z own bytes ml rt mn) (X : St p l e R s m args below meth c n0 T h k n) {a : Addr} {cA : ClassId} {z : Int32} {vs : List Value} {dv : Value} {ty : FieldType} (V : Arv Z h a cA ty z vs dv) (hd : decode bytes pc = .ok (.arraylength, 1)) (hq : pc + 1 = q) (r : Goes p e below G (T.setTop (mkF m q L (.int z :: st)))) : Goes p e below G (T.setTop (mkF m pc L (.ref a :: st))) := by
  obtain ⟨hx, hZ, hown, hby, -⟩ := C
  obtain ⟨_, _, _, X, hF, eT, h1, h2⟩ := X
  subst hq
  obtain ⟨cl, A, q1, Sz, q3, H, Gf⟩ := V
  exact go_st (fun t k => X.arraylength hx (by rw [eT]; exact A.1) (State.isArrayOf_alike hZ.alike A.2.1) (g := mkF m pc L (.ref a :: st)) rfl rfl (hb hby hd) t (by rw [len_of Sz q3]; exact k)) r
theorem g_newR (C : Cx p s m meth c Z own bytes ml rt mn) (X : St p l e R s m args below meth c n0 T h k n) {K : String} {i cap k' n' : Nat} {z : Int32} (w1 : (Cond.classLink own i K).before a0 Z = true) (w2 : (Cond.arrayOver (.object K)).before a0 Z = true) (hd : decode bytes pc = .ok (.anewarray i, 3)) (hq : pc + 3 = q) (hz : ¬ z < 0) (hcap : z.toNatClampNeg ≤ cap) (hcb : cap * 8 ≤ 536870912) (hk : k + 1 = k') (hn : n + cap = n') (hkR : k' ≤ R.cells) (hnR : n' ≤ R.slots)
    (r : ∀ T' h' cA a, a = h.size → St p l e R s m args below meth c n0 T' h' k' n' → Ext h h' → Arv Z h' a cA (.object K) z [] .null → Ovr Z cA K → Goes p e below G (T'.setTop (mkF m q L (.ref a :: st)))) : Goes p e below G (T.setTop (mkF m pc L (.int z :: st))) := by
  obtain ⟨hx, hZ, hown, hby, -⟩ := C
  obtain ⟨_, _, _, X, hF, eT, h1, h2⟩ := X
  subst hq hk hn
  obtain ⟨T', h', cA, X', e', E', A', O', st'⟩ := newR X hx hZ hown w1 w2 eT (g := mkF m pc L (.int z :: st)) rfl (hb hby hd) rfl hz (cap := cap) hcap hcb (Nat.le_trans (Nat.add_le_add_right h1 1) hkR) (Nat.le_trans (Nat.add_le_add_right h2 cap) hnR)
  exact go_st st' (r T' h' cA _ rfl ⟨_, _, _, X', hF, e', Nat.add_le_add_right h1 1, Nat.add_le_add_right h2 cap⟩ E' (Arv.new A' hz) O')
theorem g_castY (C : Cx p s m meth c Z own bytes ml rt mn) (X : St p l e R s m args below meth c n0 T h k n) {K : String} {i : Nat} {a : Addr} (w : (Cond.classLink own i K).before a0 Z = true) (I : Ins Z h a K true) (hd : decode bytes pc = .ok (.checkcast i, 3)) (hq : pc + 3 = q) (r : ∀ T', St p l e R s m args below meth c n0 T' h k n → Goes p e below G (T'.setTop (mkF m q L (.ref a :: st)))) : Goes p e below G (T.setTop (mkF m pc L (.ref a :: st))) := by
  obtain ⟨hx, hZ, hown, hby, -⟩ := C
  obtain ⟨_, _, _, X, hF, eT, h1, h2⟩ := X
  subst hq
  obtain ⟨T', X', e', st'⟩ := castY X hx hZ hown w eT I (g := mkF m pc L (.ref a :: st)) rfl rfl (hb hby hd)
  exact go_st st' (r T' ⟨_, _, _, X', hF, e', h1, h2⟩)
theorem g_instY (C : Cx p s m meth c Z own bytes ml rt mn) (X : St p l e R s m args below meth c n0 T h k n) {K : String} {i : Nat} {a : Addr} (w : (Cond.classLink own i K).before a0 Z = true) (I : Ins Z h a K true) (hd : decode bytes pc = .ok (.instanceof i, 3)) (hq : pc + 3 = q) (r : ∀ T', St p l e R s m args below meth c n0 T' h k n → Goes p e below G (T'.setTop (mkF m q L (.int 1 :: st)))) : Goes p e below G (T.setTop (mkF m pc L (.ref a :: st))) := by
  obtain ⟨hx, hZ, hown, hby, -⟩ := C
  obtain ⟨_, _, _, X, hF, eT, h1, h2⟩ := X
  subst hq
  obtain ⟨T', X', e', st'⟩ := instY X hx hZ hown w eT I (g := mkF m pc L (.ref a :: st)) rfl rfl (hb hby hd)
  exact go_st st' (r T' ⟨_, _, _, X', hF, e', h1, h2⟩)
theorem g_instNo (C : Cx p s m meth c Z own bytes ml rt mn) (X : St p l e R s m args below meth c n0 T h k n) {K K' : String} {i : Nat} {a : Addr} (w : (Cond.classLink own i K).before a0 Z = true) (E : Exa Z h a K') (F : ∃ c t, Z.vm.findClass K' = some c ∧ Z.vm.findClass K = some t ∧ Z.vm.assignable c t = false) (hd : decode bytes pc = .ok (.instanceof i, 3)) (hq : pc + 3 = q) (r : ∀ T', St p l e R s m args below meth c n0 T' h k n → Goes p e below G (T'.setTop (mkF m q L (.int 0 :: st)))) : Goes p e below G (T.setTop (mkF m pc L (.ref a :: st))) := by
  obtain ⟨hx, hZ, hown, hby, -⟩ := C
  obtain ⟨_, _, _, X, hF, eT, h1, h2⟩ := X
  subst hq
  obtain ⟨T', X', e', st'⟩ := instNo X hx hZ hown w eT E F (g := mkF m pc L (.ref a :: st)) rfl rfl (hb hby hd)
  exact go_st st' (r T' ⟨_, _, _, X', hF, e', h1, h2⟩)
theorem g_instNull (C : Cx p s m meth c Z own bytes ml rt mn) (X : St p l e R s m args below meth c n0 T h k n) {i : Nat} (hd : decode bytes pc = .ok (.instanceof i, 3)) (hq : pc + 3 = q) (r : Goes p e below G (T.setTop (mkF m q L (.int 0 :: st)))) : Goes p e below G (T.setTop (mkF m pc L (.null :: st))) := by
  obtain ⟨hx, hZ, hown, hby, -⟩ := C
  obtain ⟨_, _, _, X, hF, eT, h1, h2⟩ := X
  subst hq
  exact go_st (fun t k => X.instanceofNull hx (g := mkF m pc L (.null :: st)) rfl rfl (hb hby hd) t k) r
theorem g_castNull (C : Cx p s m meth c Z own bytes ml rt mn) (X : St p l e R s m args below meth c n0 T h k n) {i : Nat} (hd : decode bytes pc = .ok (.checkcast i, 3)) (hq : pc + 3 = q) (r : Goes p e below G (T.setTop (mkF m q L (.null :: st)))) : Goes p e below G (T.setTop (mkF m pc L (.null :: st))) := by
  obtain ⟨hx, hZ, hown, hby, -⟩ := C
  obtain ⟨_, _, _, X, hF, eT, h1, h2⟩ := X
  subst hq
  exact go_st (fun t k => X.checkcastNull hx (g := mkF m pc L (.null :: st)) rfl rfl (hb hby hd) t k) r
theorem g_getClass (C : Cx p s m meth c Z own bytes ml rt mn) (X : St p l e R s m args below meth c n0 T h k n) {K : String} {i : Nat} {a mr : Addr} (w1 : (Cond.methodLink own i ⟨"java/lang/Object", "getClass", "()Ljava/lang/Class;"⟩).before a0 Z = true) (w2 : (Cond.declares ⟨"java/lang/Object", "getClass", "()Ljava/lang/Class;"⟩).before a0 Z = true) (w4 : (Cond.selects K ⟨"java/lang/Object", "getClass", "()Ljava/lang/Class;"⟩ ⟨"java/lang/Object", "getClass", "()Ljava/lang/Class;"⟩).before a0 Z = true)
    (w5 : (Cond.instanceMethod ⟨"java/lang/Object", "getClass", "()Ljava/lang/Class;"⟩).before a0 Z = true) (w6 : (Cond.native ⟨"java/lang/Object", "getClass", "()Ljava/lang/Class;"⟩).before a0 Z = true) (E : Exa Z h a K) (M : ∃ c k, Z.vm.findClass K = some c ∧ Z.vm.classes[c]? = some k ∧ k.mirror = some mr) (hsz : L.size = ml) (hd : decode bytes pc = .ok (.invokevirtual i, 3)) (hq : pc + 3 = q) (hf : 1 ≤ R.frames) (hl : (st.map fun v => v.category).sum + (nativeFrameWords "java/lang/Object" "getClass" 1 + 11) ≤ R.locals)
    (r : ∀ T', St p l e R s m args below meth c n0 T' h k n → Goes p e below G (T'.setTop (mkF m q L (.ref mr :: st)))) : Goes p e below G (T.setTop (mkF m pc L (.ref a :: st))) := by
  obtain ⟨hx, hZ, hown, hby, hml, -⟩ := C
  obtain ⟨_, _, _, X, hF, eT, h1, h2⟩ := X
  subst hq
  obtain ⟨cB, kB, i1, i2, i3⟩ := isOf hZ eT E
  obtain ⟨cc, kc, m1, m2, m3⟩ := M
  rw [hZ.alike.findClass] at i1
  cases i1.symm.trans m1
  obtain ⟨k', q, ek⟩ := hZ.alike.2.2 _ _ m2
  obtain ⟨vm', X', st'⟩ := X.getClassOf hx hown (mvT hZ w1) (mvT hZ w2) (notFace_of_selects (args := #[]) (mvT hZ w4)) (mvT hZ w4) (mvT hZ w5) (mvT hZ w6) (by rw [hZ.alike.findClass]; exact m1) i3 q (by rw [ek]; exact m3) (g := mkF m pc L (.ref a :: st)) rfl (hsz.trans hml.symm) rfl (hb hby hd) hf (by show 2 * 0 + _ + _ ≤ _; omega)
  exact go_st st' (r _ ⟨_, _, _, X', hF, eT, h1, h2⟩)
theorem g_callSb (C : Cx p s m meth c Z own bytes ml rt mn) (X : St p l e R s m args below meth c n0 T h k n) {as' : Array Value} {argsL : List Value} {ps : List FieldType} {rt' : Option FieldType} {k' n' W kc ks : Nat} {QL : Option Value → Heap → List Loc → Prop} {y : MethodName} {i : Nat} (hy : y.cls ≠ "java/lang/invoke/MethodHandle" ∧ y.cls ≠ "java/lang/invoke/VarHandle") (w1 : (Cond.methodLink own i y).before a0 Z = true) (w2 : (Cond.static y).before a0 Z = true) {bts : ByteArray} {mxl : Nat} {rty : Option FieldType} (w8 : (Cond.code y bts mxl rty).before a0 Z = true) (w9 : (Cond.initialized y.cls).before a0 Z = true) (bk : Back l R p e below s args y 3 W (fun A a => a = as' ∧ A.U.heap = h ∧ A.cells + kc ≤ R.cells ∧ A.slots + ks ≤ R.slots) (fun A _ v B => ∃ L, QL v B.U.heap L ∧ B.locs = A.locs ++ L ∧ B.cells = A.cells + kc ∧ B.slots = A.slots + ks)) (hk : k + kc = k') (hn : n + ks = n') (hkR : k' ≤ R.cells) (hnR : n' ≤ R.slots) (hsz : L.size = ml) (hdd : parseMethodDescriptor y.desc = some ⟨ps, rt'⟩) (hlen : argsL.length = ps.length) (hst : st = argsL.reverse ++ rest) (has : argsL.toArray = as') (hW : (rest.map fun v => v.category).sum = W) (hd : decode bytes pc = .ok (.invokestatic i, 3)) (hq : pc + 3 = q)
    (r : ∀ v T' h' L', St p l e R s m args below meth c n0 T' h' k' n' ∨ ¬ Fr n0 L' → QL v h' L' → Goes p e below G (T'.setTop (mkF m q L (v.toList ++ rest)))) : Goes p e below G (T.setTop (mkF m pc L st)) := by
  obtain ⟨hx, hZ, hown, hby, hml, -⟩ := C
  obtain ⟨_, cells, slots, X, hF, eT, h1, h2⟩ := X
  subst hq hk hn has hst hW
  obtain ⟨_, _, ⟨T', Lo, kk, nn⟩, -, X', ⟨Lc, hQ, q1, q2, q3⟩, st'⟩ := Jvm.LawKit.callS X hx hown (mvT hZ w1) (mvT hZ w2) (mvT hZ w9) (mvT hZ w8) hy bk (g := mkF m pc L (argsL.reverse ++ rest)) rfl (hsz.trans hml.symm) (argsL := argsL) (rest := rest) (lenOf hdd hlen) rfl (by show 2 * 0 + _ ≤ _; omega) (hb hby hd) (fun _ _ => ⟨rfl, eT, Nat.le_trans (Nat.add_le_add_right h1 _) hkR, Nat.le_trans (Nat.add_le_add_right h2 _) hnR⟩)
  dsimp only [Pt.U, Pt.locs, Pt.cells, Pt.slots] at X' q1 q2 q3 st' hQ
  subst q1 q2 q3
  refine go_st st' (r _ T' _ Lc ?_ hQ)
  by_cases hFr : Fr n0 Lc
  · exact Or.inl ⟨_, _, _, X', Fr.app hF hFr, rfl, Nat.add_le_add_right h1 _, Nat.add_le_add_right h2 _⟩
  · exact Or.inr hFr
theorem g_callS1 (C : Cx p s m meth c Z own bytes ml rt mn) (X : St p l e R s m args below meth c n0 T h k n) {rm : Room} {as' : Array Value} {bts : ByteArray} {mxl : Nat} {rty : Option FieldType} {argsL : List Value} {ps : List FieldType} {rt' : Option FieldType} {k' n' W : Nat} {Q : Value → Heap → Prop} {y : MethodName} {i : Nat} (hy : y.cls ≠ "java/lang/invoke/MethodHandle" ∧ y.cls ≠ "java/lang/invoke/VarHandle") (w1 : (Cond.methodLink own i y).before a0 Z = true) (w2 : (Cond.static y).before a0 Z = true) (w8 : (Cond.code y bts mxl rty).before a0 Z = true) (w9 : (Cond.initialized y.cls).before a0 Z = true) (hM : Met1 l Z y bts mxl rty rm as' h n0 Q) (hf : rm.frames + 1 ≤ R.frames) (hl : W + (mxl + 11) + rm.locals ≤ R.locals) (hk : k + rm.cells = k') (hn : n + rm.slots = n') (hkR : k' ≤ R.cells) (hnR : n' ≤ R.slots) (hsz : L.size = ml) (hdd : parseMethodDescriptor y.desc = some ⟨ps, rt'⟩) (hlen : argsL.length = ps.length) (hst : st = argsL.reverse ++ rest) (has : argsL.toArray = as') (hW : (rest.map fun v => v.category).sum = W) (hd : decode bytes pc = .ok (.invokestatic i, 3)) (hq : pc + 3 = q)
    (r : ∀ w T' h', St p l e R s m args below meth c n0 T' h' k' n' → Q w h' → Goes p e below G (T'.setTop (mkF m q L (w :: rest)))) : Goes p e below G (T.setTop (mkF m pc L st)) := by
  have bk := backOf (Q := fun v h L => Fr n0 L ∧ (∃ w, v = some w ∧ Q w h)) (R := R) (p := p) (e := e) (below := below) (s := s) (args := args) (len := 3) (W := W) (hM []) C.2.1 w8 w9 hf hl
  refine g_callSb C X (QL := fun v h L => Fr n0 L ∧ (∃ w, v = some w ∧ Q w h)) hy w1 w2 w8 w9 bk hk hn hkR hnR hsz hdd hlen hst has hW hd hq ?_
  rintro v T' h' L' hX ⟨hFr, hQ⟩
  obtain ⟨w, rfl, hQ⟩ := hQ
  exact r w T' h' (hX.resolve_right fun z => z hFr) hQ
theorem g_callS0 (C : Cx p s m meth c Z own bytes ml rt mn) (X : St p l e R s m args below meth c n0 T h k n) {rm : Room} {as' : Array Value} {bts : ByteArray} {mxl : Nat} {rty : Option FieldType} {argsL : List Value} {ps : List FieldType} {rt' : Option FieldType} {k' n' W : Nat} {Q : Heap → Prop} {y : MethodName} {i : Nat} (hy : y.cls ≠ "java/lang/invoke/MethodHandle" ∧ y.cls ≠ "java/lang/invoke/VarHandle") (w1 : (Cond.methodLink own i y).before a0 Z = true) (w2 : (Cond.static y).before a0 Z = true) (w8 : (Cond.code y bts mxl rty).before a0 Z = true) (w9 : (Cond.initialized y.cls).before a0 Z = true) (hM : Met0 l Z y bts mxl rty rm as' h n0 Q) (hf : rm.frames + 1 ≤ R.frames) (hl : W + (mxl + 11) + rm.locals ≤ R.locals) (hk : k + rm.cells = k') (hn : n + rm.slots = n') (hkR : k' ≤ R.cells) (hnR : n' ≤ R.slots) (hsz : L.size = ml) (hdd : parseMethodDescriptor y.desc = some ⟨ps, rt'⟩) (hlen : argsL.length = ps.length) (hst : st = argsL.reverse ++ rest) (has : argsL.toArray = as') (hW : (rest.map fun v => v.category).sum = W) (hd : decode bytes pc = .ok (.invokestatic i, 3)) (hq : pc + 3 = q)
    (r : ∀ T' h', St p l e R s m args below meth c n0 T' h' k' n' → Q h' → Goes p e below G (T'.setTop (mkF m q L rest))) : Goes p e below G (T.setTop (mkF m pc L st)) := by
  have bk := backOf (Q := fun v h L => Fr n0 L ∧ (v = none ∧ Q h)) (R := R) (p := p) (e := e) (below := below) (s := s) (args := args) (len := 3) (W := W) (hM []) C.2.1 w8 w9 hf hl
  refine g_callSb C X (QL := fun v h L => Fr n0 L ∧ (v = none ∧ Q h)) hy w1 w2 w8 w9 bk hk hn hkR hnR hsz hdd hlen hst has hW hd hq ?_
  rintro v T' h' L' hX ⟨hFr, hQ⟩
  obtain ⟨rfl, hQ⟩ := hQ
  exact r T' h' (hX.resolve_right fun z => z hFr) hQ
theorem g_callIb (C : Cx p s m meth c Z own bytes ml rt mn) (X : St p l e R s m args below meth c n0 T h k n) {as' : Array Value} {argsL : List Value} {ps : List FieldType} {rt' : Option FieldType} {k' n' W kc ks : Nat} {QL : Option Value → Heap → List Loc → Prop} {y : MethodName} {i : Nat} {a : Addr} (hy : y.cls ≠ "java/lang/invoke/MethodHandle" ∧ y.cls ≠ "java/lang/invoke/VarHandle") (hy1 : y.name = "<init>") (w1 : (Cond.methodLink own i y).before a0 Z = true) (w2 : (Cond.instanceMethod y).before a0 Z = true) {bts : ByteArray} {mxl : Nat} (w8 : (Cond.code y bts mxl none).before a0 Z = true) (bk : Back l R p e below s args y 3 W (fun A a => a = as' ∧ A.U.heap = h ∧ A.cells + kc ≤ R.cells ∧ A.slots + ks ≤ R.slots) (fun A _ v B => ∃ L, QL v B.U.heap L ∧ B.locs = A.locs ++ L ∧ B.cells = A.cells + kc ∧ B.slots = A.slots + ks)) (hk : k + kc = k') (hn : n + ks = n') (hkR : k' ≤ R.cells) (hnR : n' ≤ R.slots) (hsz : L.size = ml) (hdd : parseMethodDescriptor y.desc = some ⟨ps, rt'⟩) (hlen : argsL.length = ps.length) (hst : st = argsL.reverse ++ .ref a :: rest) (has : (.ref a :: argsL).toArray = as') (hW : (rest.map fun v => v.category).sum = W) (hd : decode bytes pc = .ok (.invokespecial i, 3)) (hq : pc + 3 = q)
    (r : ∀ v T' h' L', St p l e R s m args below meth c n0 T' h' k' n' ∨ ¬ Fr n0 L' → QL v h' L' → Goes p e below G (T'.setTop (mkF m q L (v.toList ++ rest)))) : Goes p e below G (T.setTop (mkF m pc L st)) := by
  obtain ⟨hx, hZ, hown, hby, hml, -⟩ := C
  obtain ⟨_, cells, slots, X, hF, eT, h1, h2⟩ := X
  subst hq hk hn has hst hW
  obtain ⟨_, _, ⟨T', Lo, kk, nn⟩, -, X', ⟨Lc, hQ, q1, q2, q3⟩, st'⟩ := X.specialBack hx hy1 hown (mvT hZ w1) (mvT hZ w2) (mvT hZ w8) hy bk (g := mkF m pc L (argsL.reverse ++ .ref a :: rest)) rfl (hsz.trans hml.symm) (Steps.refl _) (a := a) (argsL := argsL) (rest := rest) (lenOf hdd hlen) rfl (by show 2 * 0 + _ ≤ _; omega) (hb hby hd) (fun _ _ => ⟨rfl, eT, Nat.le_trans (Nat.add_le_add_right h1 _) hkR, Nat.le_trans (Nat.add_le_add_right h2 _) hnR⟩)
  dsimp only [Pt.U, Pt.locs, Pt.cells, Pt.slots] at X' q1 q2 q3 st' hQ
  subst q1 q2 q3
  refine go_tr st' (r _ T' _ Lc ?_ hQ)
  by_cases hFr : Fr n0 Lc
  · exact Or.inl ⟨_, _, _, X', Fr.app hF hFr, rfl, Nat.add_le_add_right h1 _, Nat.add_le_add_right h2 _⟩
  · exact Or.inr hFr
theorem g_callI0 (C : Cx p s m meth c Z own bytes ml rt mn) (X : St p l e R s m args below meth c n0 T h k n) {rm : Room} {as' : Array Value} {bts : ByteArray} {mxl : Nat} {argsL : List Value} {ps : List FieldType} {rt' : Option FieldType} {k' n' W : Nat} {Q : Heap → Prop} {y : MethodName} {i : Nat} {a : Addr} (hy : y.cls ≠ "java/lang/invoke/MethodHandle" ∧ y.cls ≠ "java/lang/invoke/VarHandle") (hy1 : y.name = "<init>") (w1 : (Cond.methodLink own i y).before a0 Z = true) (w2 : (Cond.instanceMethod y).before a0 Z = true) (w8 : (Cond.code y bts mxl none).before a0 Z = true) (w9 : (Cond.initialized y.cls).before a0 Z = true) (hM : Met0 l Z y bts mxl none rm as' h n0 Q) (hf : rm.frames + 1 ≤ R.frames) (hl : W + (mxl + 11) + rm.locals ≤ R.locals) (hk : k + rm.cells = k') (hn : n + rm.slots = n') (hkR : k' ≤ R.cells) (hnR : n' ≤ R.slots) (hsz : L.size = ml) (hdd : parseMethodDescriptor y.desc = some ⟨ps, rt'⟩) (hlen : argsL.length = ps.length) (hst : st = argsL.reverse ++ .ref a :: rest) (has : (.ref a :: argsL).toArray = as') (hW : (rest.map fun v => v.category).sum = W) (hd : decode bytes pc = .ok (.invokespecial i, 3)) (hq : pc + 3 = q)
    (r : ∀ T' h', St p l e R s m args below meth c n0 T' h' k' n' → Q h' → Goes p e below G (T'.setTop (mkF m q L rest))) : Goes p e below G (T.setTop (mkF m pc L st)) := by
  have bk := backOf (Q := fun v h L => Fr n0 L ∧ (v = none ∧ Q h)) (R := R) (p := p) (e := e) (below := below) (s := s) (args := args) (len := 3) (W := W) (hM []) C.2.1 w8 w9 hf hl
  refine g_callIb C X (QL := fun v h L => Fr n0 L ∧ (v = none ∧ Q h)) hy hy1 w1 w2 w8 bk hk hn hkR hnR hsz hdd hlen hst has hW hd hq ?_
  rintro v T' h' L' hX ⟨hFr, hQ⟩
  obtain ⟨rfl, hQ⟩ := hQ
  exact r T' h' (hX.resolve_right fun z => z hFr) hQ
theorem g_callVb (C : Cx p s m meth c Z own bytes ml rt mn) (X : St p l e R s m args below meth c n0 T h k n) {as' : Array Value} {argsL : List Value} {ps : List FieldType} {rt' : Option FieldType} {k' n' W kc ks : Nat} {QL : Option Value → Heap → List Loc → Prop} {y z : MethodName} {i : Nat} {a : Addr} {K : String} (hy : y.cls ≠ "java/lang/invoke/MethodHandle" ∧ y.cls ≠ "java/lang/invoke/VarHandle") (w1 : (Cond.methodLink own i y).before a0 Z = true) (w2 : (Cond.declares y).before a0 Z = true) (w3 : (Cond.selects K y z).before a0 Z = true) (w4 : (Cond.instanceMethod z).before a0 Z = true) (hnf : ∀ s' : State, Z.Warmed39 s'.vm → NotFace s' y) (E : Exa Z h a K) (bk : Back l R p e below s args z 3 W (fun A a => a = as' ∧ A.U.heap = h ∧ A.cells + kc ≤ R.cells ∧ A.slots + ks ≤ R.slots) (fun A _ v B => ∃ L, QL v B.U.heap L ∧ B.locs = A.locs ++ L ∧ B.cells = A.cells + kc ∧ B.slots = A.slots + ks)) (hk : k + kc = k') (hn : n + ks = n') (hkR : k' ≤ R.cells) (hnR : n' ≤ R.slots) (hsz : L.size = ml) (hdd : parseMethodDescriptor y.desc = some ⟨ps, rt'⟩) (hlen : argsL.length = ps.length) (hst : st = argsL.reverse ++ .ref a :: rest) (has : (.ref a :: argsL).toArray = as') (hW : (rest.map fun v => v.category).sum = W) (hd : decode bytes pc = .ok (.invokevirtual i, 3)) (hq : pc + 3 = q)
    (r : ∀ v T' h' L', St p l e R s m args below meth c n0 T' h' k' n' ∨ ¬ Fr n0 L' → QL v h' L' → Goes p e below G (T'.setTop (mkF m q L (v.toList ++ rest)))) : Goes p e below G (T.setTop (mkF m pc L st)) := by
  obtain ⟨hx, hZ, hown, hby, hml, -⟩ := C
  obtain ⟨_, cells, slots, X, hF, eT, h1, h2⟩ := X
  subst hq hk hn has hst hW
  obtain ⟨cB, kB, qa, qb, qc⟩ := isOf hZ eT E
  obtain ⟨_, _, ⟨T', Lo, kk, nn⟩, -, X', ⟨Lc, hQ, q1, q2, q3⟩, st'⟩ := X.virtualBack hx hown (mvT hZ w1) (mvT hZ w2) (hnf s hZ) (mvT hZ w3) (mvT hZ w4) hy bk qa qc (g := mkF m pc L (argsL.reverse ++ .ref a :: rest)) rfl (hsz.trans hml.symm) (Steps.refl _) (argsL := argsL) (rest := rest) (lenOf hdd hlen) rfl (by show 2 * 0 + _ ≤ _; omega) (hb hby hd) (fun _ _ => ⟨rfl, eT, Nat.le_trans (Nat.add_le_add_right h1 _) hkR, Nat.le_trans (Nat.add_le_add_right h2 _) hnR⟩)
  dsimp only [Pt.U, Pt.locs, Pt.cells, Pt.slots] at X' q1 q2 q3 st' hQ
  subst q1 q2 q3
  refine go_tr st' (r _ T' _ Lc ?_ hQ)
  by_cases hFr : Fr n0 Lc
  · exact Or.inl ⟨_, _, _, X', Fr.app hF hFr, rfl, Nat.add_le_add_right h1 _, Nat.add_le_add_right h2 _⟩
  · exact Or.inr hFr
theorem g_callV1 (C : Cx p s m meth c Z own bytes ml rt mn) (X : St p l e R s m args below meth c n0 T h k n) {rm : Room} {as' : Array Value} {bts : ByteArray} {mxl : Nat} {rty : Option FieldType} {argsL : List Value} {ps : List FieldType} {rt' : Option FieldType} {k' n' W : Nat} {Q : Value → Heap → Prop} {y z : MethodName} {i : Nat} {a : Addr} {K : String} (hy : y.cls ≠ "java/lang/invoke/MethodHandle" ∧ y.cls ≠ "java/lang/invoke/VarHandle") (w1 : (Cond.methodLink own i y).before a0 Z = true) (w2 : (Cond.declares y).before a0 Z = true) (w3 : (Cond.selects K y z).before a0 Z = true) (w4 : (Cond.instanceMethod z).before a0 Z = true) (hnf : ∀ s' : State, Z.Warmed39 s'.vm → NotFace s' y) (E : Exa Z h a K) (w8 : (Cond.code z bts mxl rty).before a0 Z = true) (w9 : (Cond.initialized z.cls).before a0 Z = true) (hM : Met1 l Z z bts mxl rty rm as' h n0 Q) (hf : rm.frames + 1 ≤ R.frames) (hl : W + (mxl + 11) + rm.locals ≤ R.locals) (hk : k + rm.cells = k') (hn : n + rm.slots = n') (hkR : k' ≤ R.cells) (hnR : n' ≤ R.slots) (hsz : L.size = ml) (hdd : parseMethodDescriptor y.desc = some ⟨ps, rt'⟩) (hlen : argsL.length = ps.length) (hst : st = argsL.reverse ++ .ref a :: rest) (has : (.ref a :: argsL).toArray = as') (hW : (rest.map fun v => v.category).sum = W) (hd : decode bytes pc = .ok (.invokevirtual i, 3)) (hq : pc + 3 = q)
    (r : ∀ w T' h', St p l e R s m args below meth c n0 T' h' k' n' → Q w h' → Goes p e below G (T'.setTop (mkF m q L (w :: rest)))) : Goes p e below G (T.setTop (mkF m pc L st)) := by
  have bk := backOf (Q := fun v h L => Fr n0 L ∧ (∃ w, v = some w ∧ Q w h)) (R := R) (p := p) (e := e) (below := below) (s := s) (args := args) (len := 3) (W := W) (hM []) C.2.1 w8 w9 hf hl
  refine g_callVb C X (QL := fun v h L => Fr n0 L ∧ (∃ w, v = some w ∧ Q w h)) hy w1 w2 w3 w4 hnf E bk hk hn hkR hnR hsz hdd hlen hst has hW hd hq ?_
  rintro v T' h' L' hX ⟨hFr, hQ⟩
  obtain ⟨w, rfl, hQ⟩ := hQ
  exact r w T' h' (hX.resolve_right fun z => z hFr) hQ
theorem g_callV0 (C : Cx p s m meth c Z own bytes ml rt mn) (X : St p l e R s m args below meth c n0 T h k n) {rm : Room} {as' : Array Value} {bts : ByteArray} {mxl : Nat} {rty : Option FieldType} {argsL : List Value} {ps : List FieldType} {rt' : Option FieldType} {k' n' W : Nat} {Q : Heap → Prop} {y z : MethodName} {i : Nat} {a : Addr} {K : String} (hy : y.cls ≠ "java/lang/invoke/MethodHandle" ∧ y.cls ≠ "java/lang/invoke/VarHandle") (w1 : (Cond.methodLink own i y).before a0 Z = true) (w2 : (Cond.declares y).before a0 Z = true) (w3 : (Cond.selects K y z).before a0 Z = true) (w4 : (Cond.instanceMethod z).before a0 Z = true) (hnf : ∀ s' : State, Z.Warmed39 s'.vm → NotFace s' y) (E : Exa Z h a K) (w8 : (Cond.code z bts mxl rty).before a0 Z = true) (w9 : (Cond.initialized z.cls).before a0 Z = true) (hM : Met0 l Z z bts mxl rty rm as' h n0 Q) (hf : rm.frames + 1 ≤ R.frames) (hl : W + (mxl + 11) + rm.locals ≤ R.locals) (hk : k + rm.cells = k') (hn : n + rm.slots = n') (hkR : k' ≤ R.cells) (hnR : n' ≤ R.slots) (hsz : L.size = ml) (hdd : parseMethodDescriptor y.desc = some ⟨ps, rt'⟩) (hlen : argsL.length = ps.length) (hst : st = argsL.reverse ++ .ref a :: rest) (has : (.ref a :: argsL).toArray = as') (hW : (rest.map fun v => v.category).sum = W) (hd : decode bytes pc = .ok (.invokevirtual i, 3)) (hq : pc + 3 = q)
    (r : ∀ T' h', St p l e R s m args below meth c n0 T' h' k' n' → Q h' → Goes p e below G (T'.setTop (mkF m q L rest))) : Goes p e below G (T.setTop (mkF m pc L st)) := by
  have bk := backOf (Q := fun v h L => Fr n0 L ∧ (v = none ∧ Q h)) (R := R) (p := p) (e := e) (below := below) (s := s) (args := args) (len := 3) (W := W) (hM []) C.2.1 w8 w9 hf hl
  refine g_callVb C X (QL := fun v h L => Fr n0 L ∧ (v = none ∧ Q h)) hy w1 w2 w3 w4 hnf E bk hk hn hkR hnR hsz hdd hlen hst has hW hd hq ?_
  rintro v T' h' L' hX ⟨hFr, hQ⟩
  obtain ⟨rfl, hQ⟩ := hQ
  exact r T' h' (hX.resolve_right fun z => z hFr) hQ
theorem g_callUb (C : Cx p s m meth c Z own bytes ml rt mn) (X : St p l e R s m args below meth c n0 T h k n) {as' : Array Value} {argsL : List Value} {ps : List FieldType} {rt' : Option FieldType} {k' n' W kc ks : Nat} {QL : Option Value → Heap → List Loc → Prop} {y z : MethodName} {i : Nat} {a : Addr} {K owner : String} (hy : owner ≠ "java/lang/invoke/MethodHandle" ∧ owner ≠ "java/lang/invoke/VarHandle") (w1 : (Cond.methodLink own i y).before a0 Z = true) (w2 : (Cond.sameMethod y.cls owner y.name y.desc).before a0 Z = true) (w2' : (Cond.declares ⟨owner, y.name, y.desc⟩).before a0 Z = true) (w3 : (Cond.selects K y z).before a0 Z = true) (w4 : (Cond.instanceMethod z).before a0 Z = true) (E : Exa Z h a K) (bk : Back l R p e below s args z 3 W (fun A a => a = as' ∧ A.U.heap = h ∧ A.cells + kc ≤ R.cells ∧ A.slots + ks ≤ R.slots) (fun A _ v B => ∃ L, QL v B.U.heap L ∧ B.locs = A.locs ++ L ∧ B.cells = A.cells + kc ∧ B.slots = A.slots + ks)) (hk : k + kc = k') (hn : n + ks = n') (hkR : k' ≤ R.cells) (hnR : n' ≤ R.slots) (hsz : L.size = ml) (hdd : parseMethodDescriptor y.desc = some ⟨ps, rt'⟩) (hlen : argsL.length = ps.length) (hst : st = argsL.reverse ++ .ref a :: rest) (has : (.ref a :: argsL).toArray = as') (hW : (rest.map fun v => v.category).sum = W) (hd : decode bytes pc = .ok (.invokevirtual i, 3)) (hq : pc + 3 = q)
    (r : ∀ v T' h' L', St p l e R s m args below meth c n0 T' h' k' n' ∨ ¬ Fr n0 L' → QL v h' L' → Goes p e below G (T'.setTop (mkF m q L (v.toList ++ rest)))) : Goes p e below G (T.setTop (mkF m pc L st)) := by
  obtain ⟨hx, hZ, hown, hby, hml, -⟩ := C
  obtain ⟨_, cells, slots, X, hF, eT, h1, h2⟩ := X
  subst hq hk hn has hst hW
  obtain ⟨cB, kB, qa, qb, qc⟩ := isOf hZ eT E
  obtain ⟨_, _, ⟨T', Lo, kk, nn⟩, -, X', ⟨Lc, hQ, q1, q2, q3⟩, st'⟩ := X.virtualBackUp hx hown (mvT hZ w1) (mvT hZ w2) (mvT hZ w2') hy (mvT hZ w3) (mvT hZ w4) bk qa qc (g := mkF m pc L (argsL.reverse ++ .ref a :: rest)) rfl (hsz.trans hml.symm) (Steps.refl _) (argsL := argsL) (rest := rest) (lenOf hdd hlen) rfl (by show 2 * 0 + _ ≤ _; omega) (hb hby hd) (fun _ _ => ⟨rfl, eT, Nat.le_trans (Nat.add_le_add_right h1 _) hkR, Nat.le_trans (Nat.add_le_add_right h2 _) hnR⟩)
  dsimp only [Pt.U, Pt.locs, Pt.cells, Pt.slots] at X' q1 q2 q3 st' hQ
  subst q1 q2 q3
  refine go_tr st' (r _ T' _ Lc ?_ hQ)
  by_cases hFr : Fr n0 Lc
  · exact Or.inl ⟨_, _, _, X', Fr.app hF hFr, rfl, Nat.add_le_add_right h1 _, Nat.add_le_add_right h2 _⟩
  · exact Or.inr hFr
theorem g_callU1 (C : Cx p s m meth c Z own bytes ml rt mn) (X : St p l e R s m args below meth c n0 T h k n) {rm : Room} {as' : Array Value} {bts : ByteArray} {mxl : Nat} {rty : Option FieldType} {argsL : List Value} {ps : List FieldType} {rt' : Option FieldType} {k' n' W : Nat} {Q : Value → Heap → Prop} {y z : MethodName} {i : Nat} {a : Addr} {K owner : String} (hy : owner ≠ "java/lang/invoke/MethodHandle" ∧ owner ≠ "java/lang/invoke/VarHandle") (w1 : (Cond.methodLink own i y).before a0 Z = true) (w2 : (Cond.sameMethod y.cls owner y.name y.desc).before a0 Z = true) (w2' : (Cond.declares ⟨owner, y.name, y.desc⟩).before a0 Z = true) (w3 : (Cond.selects K y z).before a0 Z = true) (w4 : (Cond.instanceMethod z).before a0 Z = true) (E : Exa Z h a K) (w8 : (Cond.code z bts mxl rty).before a0 Z = true) (w9 : (Cond.initialized z.cls).before a0 Z = true) (hM : Met1 l Z z bts mxl rty rm as' h n0 Q) (hf : rm.frames + 1 ≤ R.frames) (hl : W + (mxl + 11) + rm.locals ≤ R.locals) (hk : k + rm.cells = k') (hn : n + rm.slots = n') (hkR : k' ≤ R.cells) (hnR : n' ≤ R.slots) (hsz : L.size = ml) (hdd : parseMethodDescriptor y.desc = some ⟨ps, rt'⟩) (hlen : argsL.length = ps.length) (hst : st = argsL.reverse ++ .ref a :: rest) (has : (.ref a :: argsL).toArray = as') (hW : (rest.map fun v => v.category).sum = W) (hd : decode bytes pc = .ok (.invokevirtual i, 3)) (hq : pc + 3 = q)
    (r : ∀ w T' h', St p l e R s m args below meth c n0 T' h' k' n' → Q w h' → Goes p e below G (T'.setTop (mkF m q L (w :: rest)))) : Goes p e below G (T.setTop (mkF m pc L st)) := by
  have bk := backOf (Q := fun v h L => Fr n0 L ∧ (∃ w, v = some w ∧ Q w h)) (R := R) (p := p) (e := e) (below := below) (s := s) (args := args) (len := 3) (W := W) (hM []) C.2.1 w8 w9 hf hl
  refine g_callUb C X (QL := fun v h L => Fr n0 L ∧ (∃ w, v = some w ∧ Q w h)) hy w1 w2 w2' w3 w4 E bk hk hn hkR hnR hsz hdd hlen hst has hW hd hq ?_
  rintro v T' h' L' hX ⟨hFr, hQ⟩
  obtain ⟨w, rfl, hQ⟩ := hQ
  exact r w T' h' (hX.resolve_right fun z => z hFr) hQ
theorem g_callU0 (C : Cx p s m meth c Z own bytes ml rt mn) (X : St p l e R s m args below meth c n0 T h k n) {rm : Room} {as' : Array Value} {bts : ByteArray} {mxl : Nat} {rty : Option FieldType} {argsL : List Value} {ps : List FieldType} {rt' : Option FieldType} {k' n' W : Nat} {Q : Heap → Prop} {y z : MethodName} {i : Nat} {a : Addr} {K owner : String} (hy : owner ≠ "java/lang/invoke/MethodHandle" ∧ owner ≠ "java/lang/invoke/VarHandle") (w1 : (Cond.methodLink own i y).before a0 Z = true) (w2 : (Cond.sameMethod y.cls owner y.name y.desc).before a0 Z = true) (w2' : (Cond.declares ⟨owner, y.name, y.desc⟩).before a0 Z = true) (w3 : (Cond.selects K y z).before a0 Z = true) (w4 : (Cond.instanceMethod z).before a0 Z = true) (E : Exa Z h a K) (w8 : (Cond.code z bts mxl rty).before a0 Z = true) (w9 : (Cond.initialized z.cls).before a0 Z = true) (hM : Met0 l Z z bts mxl rty rm as' h n0 Q) (hf : rm.frames + 1 ≤ R.frames) (hl : W + (mxl + 11) + rm.locals ≤ R.locals) (hk : k + rm.cells = k') (hn : n + rm.slots = n') (hkR : k' ≤ R.cells) (hnR : n' ≤ R.slots) (hsz : L.size = ml) (hdd : parseMethodDescriptor y.desc = some ⟨ps, rt'⟩) (hlen : argsL.length = ps.length) (hst : st = argsL.reverse ++ .ref a :: rest) (has : (.ref a :: argsL).toArray = as') (hW : (rest.map fun v => v.category).sum = W) (hd : decode bytes pc = .ok (.invokevirtual i, 3)) (hq : pc + 3 = q)
    (r : ∀ T' h', St p l e R s m args below meth c n0 T' h' k' n' → Q h' → Goes p e below G (T'.setTop (mkF m q L rest))) : Goes p e below G (T.setTop (mkF m pc L st)) := by
  have bk := backOf (Q := fun v h L => Fr n0 L ∧ (v = none ∧ Q h)) (R := R) (p := p) (e := e) (below := below) (s := s) (args := args) (len := 3) (W := W) (hM []) C.2.1 w8 w9 hf hl
  refine g_callUb C X (QL := fun v h L => Fr n0 L ∧ (v = none ∧ Q h)) hy w1 w2 w2' w3 w4 E bk hk hn hkR hnR hsz hdd hlen hst has hW hd hq ?_
  rintro v T' h' L' hX ⟨hFr, hQ⟩
  obtain ⟨rfl, hQ⟩ := hQ
  exact r T' h' (hX.resolve_right fun z => z hFr) hQ
theorem g_callPb (C : Cx p s m meth c Z own bytes ml rt mn) (X : St p l e R s m args below meth c n0 T h k n) {as' : Array Value} {argsL : List Value} {ps : List FieldType} {rt' : Option FieldType} {k' n' W kc ks : Nat} {QL : Option Value → Heap → List Loc → Prop} {y : MethodName} {i : Nat} {a : Addr} {K : String} (hy : y.cls ≠ "java/lang/invoke/MethodHandle" ∧ y.cls ≠ "java/lang/invoke/VarHandle") (w1 : (Cond.methodLink own i y).before a0 Z = true) (w3 : (Cond.selects y.cls y y).before a0 Z = true) (w4 : (Cond.instanceMethod y).before a0 Z = true) (w5 : (Cond.privateMethod y).before a0 Z = true) (E : Exa Z h a K) {bts : ByteArray} {mxl : Nat} {rty : Option FieldType} (w8 : (Cond.code y bts mxl rty).before a0 Z = true) (bk : Back l R p e below s args y 3 W (fun A a => a = as' ∧ A.U.heap = h ∧ A.cells + kc ≤ R.cells ∧ A.slots + ks ≤ R.slots) (fun A _ v B => ∃ L, QL v B.U.heap L ∧ B.locs = A.locs ++ L ∧ B.cells = A.cells + kc ∧ B.slots = A.slots + ks)) (hk : k + kc = k') (hn : n + ks = n') (hkR : k' ≤ R.cells) (hnR : n' ≤ R.slots) (hsz : L.size = ml) (hdd : parseMethodDescriptor y.desc = some ⟨ps, rt'⟩) (hlen : argsL.length = ps.length) (hst : st = argsL.reverse ++ .ref a :: rest) (has : (.ref a :: argsL).toArray = as') (hW : (rest.map fun v => v.category).sum = W) (hd : decode bytes pc = .ok (.invokevirtual i, 3)) (hq : pc + 3 = q)
    (r : ∀ v T' h' L', St p l e R s m args below meth c n0 T' h' k' n' ∨ ¬ Fr n0 L' → QL v h' L' → Goes p e below G (T'.setTop (mkF m q L (v.toList ++ rest)))) : Goes p e below G (T.setTop (mkF m pc L st)) := by
  obtain ⟨hx, hZ, hown, hby, hml, -⟩ := C
  obtain ⟨_, cells, slots, X, hF, eT, h1, h2⟩ := X
  subst hq hk hn has hst hW
  obtain ⟨cq, qa, qb⟩ := E.cell
  obtain ⟨_, _, ⟨T', Lo, kk, nn⟩, -, X', ⟨Lc, hQ, q1, q2, q3⟩, st'⟩ := X.privateBack hx hown (mvT hZ w1) (mvT hZ w4) (mvT hZ w3) (Cond.privateMethod_at (mvP hZ w5 (args := #[]))) (mvT hZ w8) hy bk (g := mkF m pc L (argsL.reverse ++ .ref a :: rest)) rfl (hsz.trans hml.symm) (Steps.refl _) (a := a) (by rw [eT]; exact qa) qb (argsL := argsL) (rest := rest) (lenOf hdd hlen) rfl (by show 2 * 0 + _ ≤ _; omega) (hb hby hd) (fun _ _ => ⟨rfl, eT, Nat.le_trans (Nat.add_le_add_right h1 _) hkR, Nat.le_trans (Nat.add_le_add_right h2 _) hnR⟩)
  dsimp only [Pt.U, Pt.locs, Pt.cells, Pt.slots] at X' q1 q2 q3 st' hQ
  subst q1 q2 q3
  refine go_tr st' (r _ T' _ Lc ?_ hQ)
  by_cases hFr : Fr n0 Lc
  · exact Or.inl ⟨_, _, _, X', Fr.app hF hFr, rfl, Nat.add_le_add_right h1 _, Nat.add_le_add_right h2 _⟩
  · exact Or.inr hFr
theorem g_callP1 (C : Cx p s m meth c Z own bytes ml rt mn) (X : St p l e R s m args below meth c n0 T h k n) {rm : Room} {as' : Array Value} {bts : ByteArray} {mxl : Nat} {rty : Option FieldType} {argsL : List Value} {ps : List FieldType} {rt' : Option FieldType} {k' n' W : Nat} {Q : Value → Heap → Prop} {y : MethodName} {i : Nat} {a : Addr} {K : String} (hy : y.cls ≠ "java/lang/invoke/MethodHandle" ∧ y.cls ≠ "java/lang/invoke/VarHandle") (w1 : (Cond.methodLink own i y).before a0 Z = true) (w3 : (Cond.selects y.cls y y).before a0 Z = true) (w4 : (Cond.instanceMethod y).before a0 Z = true) (w5 : (Cond.privateMethod y).before a0 Z = true) (E : Exa Z h a K) (w8 : (Cond.code y bts mxl rty).before a0 Z = true) (w9 : (Cond.initialized y.cls).before a0 Z = true) (hM : Met1 l Z y bts mxl rty rm as' h n0 Q) (hf : rm.frames + 1 ≤ R.frames) (hl : W + (mxl + 11) + rm.locals ≤ R.locals) (hk : k + rm.cells = k') (hn : n + rm.slots = n') (hkR : k' ≤ R.cells) (hnR : n' ≤ R.slots) (hsz : L.size = ml) (hdd : parseMethodDescriptor y.desc = some ⟨ps, rt'⟩) (hlen : argsL.length = ps.length) (hst : st = argsL.reverse ++ .ref a :: rest) (has : (.ref a :: argsL).toArray = as') (hW : (rest.map fun v => v.category).sum = W) (hd : decode bytes pc = .ok (.invokevirtual i, 3)) (hq : pc + 3 = q)
    (r : ∀ w T' h', St p l e R s m args below meth c n0 T' h' k' n' → Q w h' → Goes p e below G (T'.setTop (mkF m q L (w :: rest)))) : Goes p e below G (T.setTop (mkF m pc L st)) := by
  have bk := backOf (Q := fun v h L => Fr n0 L ∧ (∃ w, v = some w ∧ Q w h)) (R := R) (p := p) (e := e) (below := below) (s := s) (args := args) (len := 3) (W := W) (hM []) C.2.1 w8 w9 hf hl
  refine g_callPb C X (QL := fun v h L => Fr n0 L ∧ (∃ w, v = some w ∧ Q w h)) hy w1 w3 w4 w5 E w8 bk hk hn hkR hnR hsz hdd hlen hst has hW hd hq ?_
  rintro v T' h' L' hX ⟨hFr, hQ⟩
  obtain ⟨w, rfl, hQ⟩ := hQ
  exact r w T' h' (hX.resolve_right fun z => z hFr) hQ
theorem g_callP0 (C : Cx p s m meth c Z own bytes ml rt mn) (X : St p l e R s m args below meth c n0 T h k n) {rm : Room} {as' : Array Value} {bts : ByteArray} {mxl : Nat} {rty : Option FieldType} {argsL : List Value} {ps : List FieldType} {rt' : Option FieldType} {k' n' W : Nat} {Q : Heap → Prop} {y : MethodName} {i : Nat} {a : Addr} {K : String} (hy : y.cls ≠ "java/lang/invoke/MethodHandle" ∧ y.cls ≠ "java/lang/invoke/VarHandle") (w1 : (Cond.methodLink own i y).before a0 Z = true) (w3 : (Cond.selects y.cls y y).before a0 Z = true) (w4 : (Cond.instanceMethod y).before a0 Z = true) (w5 : (Cond.privateMethod y).before a0 Z = true) (E : Exa Z h a K) (w8 : (Cond.code y bts mxl rty).before a0 Z = true) (w9 : (Cond.initialized y.cls).before a0 Z = true) (hM : Met0 l Z y bts mxl rty rm as' h n0 Q) (hf : rm.frames + 1 ≤ R.frames) (hl : W + (mxl + 11) + rm.locals ≤ R.locals) (hk : k + rm.cells = k') (hn : n + rm.slots = n') (hkR : k' ≤ R.cells) (hnR : n' ≤ R.slots) (hsz : L.size = ml) (hdd : parseMethodDescriptor y.desc = some ⟨ps, rt'⟩) (hlen : argsL.length = ps.length) (hst : st = argsL.reverse ++ .ref a :: rest) (has : (.ref a :: argsL).toArray = as') (hW : (rest.map fun v => v.category).sum = W) (hd : decode bytes pc = .ok (.invokevirtual i, 3)) (hq : pc + 3 = q)
    (r : ∀ T' h', St p l e R s m args below meth c n0 T' h' k' n' → Q h' → Goes p e below G (T'.setTop (mkF m q L rest))) : Goes p e below G (T.setTop (mkF m pc L st)) := by
  have bk := backOf (Q := fun v h L => Fr n0 L ∧ (v = none ∧ Q h)) (R := R) (p := p) (e := e) (below := below) (s := s) (args := args) (len := 3) (W := W) (hM []) C.2.1 w8 w9 hf hl
  refine g_callPb C X (QL := fun v h L => Fr n0 L ∧ (v = none ∧ Q h)) hy w1 w3 w4 w5 E w8 bk hk hn hkR hnR hsz hdd hlen hst has hW hd hq ?_
  rintro v T' h' L' hX ⟨hFr, hQ⟩
  obtain ⟨rfl, hQ⟩ := hQ
  exact r T' h' (hX.resolve_right fun z => z hFr) hQ
theorem sel_priv {y : MethodName} {kk : Nat} (wi : (Cond.instantiable y.cls kk).before a0 Z = true) (w4 : (Cond.instanceMethod y).before a0 Z = true) (w5 : (Cond.privateMethod y).before a0 Z = true) (hy : y.cls ≠ "java/lang/invoke/MethodHandle" ∧ y.cls ≠ "java/lang/invoke/VarHandle") : (Cond.selects y.cls y y).before a0 Z = true := by
  obtain ⟨c1, k1, i1, i2, -, i4, -⟩ := Cond.instantiable_spec wi
  exact Stand.selects_self_of_private i1 i2 (by simp only [Bool.or_eq_false_iff] at i4; exact i4.1) (Cond.privateMethod_at w5) w4 hy
theorem own_noInst {K O Ko : String} {nn : Nat} (wO : (Cond.noSuperclass O).before a0 Z = true) (wC : (Cond.superclass Ko O).before a0 Z = true) (wK : (Cond.instantiable K nn).before a0 Z = true) (h1 : Ko ≠ K) (h2 : O ≠ K) : ∃ c t, Z.vm.findClass Ko = some c ∧ Z.vm.findClass K = some t ∧ Z.vm.assignable c t = false := by
  obtain ⟨t, kt, g1, g2, g3, g4, -⟩ := Cond.instantiable_spec wK
  obtain ⟨o, ko, o1, o2, o3, -, -⟩ := Cond.noSuperclass_spec wO
  have neO := ids_ne o1 g1 h2
  have nO : NS Z O K := ⟨o, t, o1, g1, fun fuel => by
    cases fuel with
    | zero => rfl
    | succ f => simp [Vm.isSubclassAux, neO, o2, o3]⟩
  obtain ⟨c, t', h0, g0, n3⟩ := NS.step wC nO h1
  cases g1.symm.trans g0
  obtain ⟨p, k, kp, q1, q2, q3, q4, q5, -, q7⟩ := Cond.superclass_spec h0 wC
  have neC := ids_ne h0 g1 h1
  simp only [Bool.or_eq_false_iff] at g4
  refine ⟨c, t, h0, g1, ?_⟩
  show Z.vm.assignableAux (255 + 1) c t = false
  simp [Vm.assignableAux, neC, q2, g2, q5, g3, g4.1, Vm.isSubclass, n3]
theorem own_nb {b : Int32} {t : Bool} (h1 : t = true → b = 0) (h2 : t = false → b = 1) : nar .boolean b = b := by
  cases t
  · rw [h2 rfl]; decide
  · rw [h1 rfl]; decide
theorem nf_sel {y : MethodName} {K : String} (w : (Cond.selects K y y).before a0 Z = true) : ∀ s' : State, Z.Warmed39 s'.vm → NotFace s' y := fun s' hZ => notFace_of_selects (args := #[]) (mvT hZ w)
end OwnKit
theorem own_i32 {x y : Int32} (h : x.toInt = y.toInt) : x = y := Int32.toInt_inj.mp h
theorem own_r1 {u w : Int32} {hi : Int} (h : u.toInt ≤ hi) (hw : hi < w.toInt) : u < w := Int32.lt_iff_toInt_lt.mpr (Int.lt_of_le_of_lt h hw)
theorem own_r2 {u w : Int32} {lo : Int} (h : lo ≤ u.toInt) (hw : w.toInt ≤ lo) : ¬ u < w := fun q => by have := Int32.lt_iff_toInt_lt.mp q; omega
theorem own_r3 {u w : Int32} {lo : Int} (h : lo ≤ w.toInt) (hu : u.toInt < lo) : u < w := Int32.lt_iff_toInt_lt.mpr (by omega)
theorem own_r4 {u w : Int32} {hi : Int} (h : w.toInt ≤ hi) (hu : hi ≤ u.toInt) : ¬ u < w := fun q => by have := Int32.lt_iff_toInt_lt.mp q; omega
theorem own_r5 {u w : Int32} {lo : Int} (h : lo ≤ u.toInt) (hw : w.toInt < lo) : ¬ u = w := fun q => by subst q; omega
theorem own_r6 {u w : Int32} {hi : Int} (h : u.toInt ≤ hi) (hw : hi < w.toInt) : ¬ u = w := fun q => by subst q; omega
theorem own_f0 {u w : Int32} {z : Int} (h1 : z ≤ u.toInt) (h2 : u.toInt ≤ z) (hz : w.toInt = z) : u = w := own_i32 (by omega)
theorem own_f1 {u w : Int32} {z : Int} (h : u < w) (hz : w.toInt = z + 1) : u.toInt ≤ z := by have := Int32.lt_iff_toInt_lt.mp h; omega
theorem own_f2 {u w : Int32} {z : Int} (h : ¬ u < w) (hz : w.toInt = z) : z ≤ u.toInt := by rw [Int32.lt_iff_toInt_lt] at h; omega
theorem own_f3 {u w : Int32} {z : Int} (h : w < u) (hz : w.toInt + 1 = z) : z ≤ u.toInt := by have := Int32.lt_iff_toInt_lt.mp h; omega
theorem own_f4 {u w : Int32} {z : Int} (h : ¬ w < u) (hz : w.toInt = z) : u.toInt ≤ z := by rw [Int32.lt_iff_toInt_lt] at h; omega
theorem own_f5 {u w : Int32} {z lo : Int} (h : ¬ u = w) (hl : lo ≤ u.toInt) (hz : w.toInt = lo ∧ z = lo + 1) : z ≤ u.toInt := by
  have : u.toInt ≠ w.toInt := fun q => h (own_i32 q)
  omega
theorem own_f6 {u w : Int32} {z hi : Int} (h : ¬ u = w) (hl : u.toInt ≤ hi) (hz : w.toInt = hi ∧ z = hi - 1) : u.toInt ≤ z := by
  have : u.toInt ≠ w.toInt := fun q => h (own_i32 q)
  omega
theorem own_i2c {v : Int32} {lo hi : Int} (h1 : lo ≤ v.toInt) (h2 : v.toInt ≤ hi) (h3 : 0 ≤ lo) (h4 : hi ≤ 65535) : v.toUInt32.toUInt16.toUInt32.toInt32 = v := by
  have h := c_i2c v
  apply own_i32
  omega
theorem own_narC {v : Int32} {lo hi : Int} (h1 : lo ≤ v.toInt) (h2 : v.toInt ≤ hi) (h3 : 0 ≤ lo) (h4 : hi ≤ 65535) : nar .char v = v := own_i2c h1 h2 h3 h4
theorem own_ch {v : Int32} {lo hi : Int} (h1 : lo ≤ v.toInt) (h2 : v.toInt ≤ hi) (h3 : 0 ≤ lo) (h4 : hi ≤ 255) : ¬ v < 0 ∧ ¬ (255 : Int32) < v := ⟨own_r2 h1 h3, own_r4 h2 h4⟩
theorem own_rem {x y : Int32} {d : Int} (hy : y.toInt = d + 1) (hd : 0 < d + 1) (hx : 0 ≤ x.toInt) : 0 ≤ (x % y).toInt ∧ (x % y).toInt ≤ d := by
  have h := (c_irem x y (d + 1) hy).1 hx
  rw [h]
  have := Int.emod_nonneg x.toInt (show d + 1 ≠ 0 by omega)
  have := Int.emod_lt_of_pos x.toInt hd
  omega
theorem own_ne {a b : Addr} {h : Heap} (h1 : a < h.size) (h2 : b = h.size) : a ≠ b := fun q => by subst q; subst h2; exact Nat.lt_irrefl _ h1
theorem own_ge {Z : State} {n0 : Nat} {h : Heap} {a : Addr} (O : Old Z n0 h) (g : a = h.size) : n0 ≤ a := by rw [g, ← O.1]; exact O.2.1
theorem own_szO {Z : State} {n0 : Nat} {h : Heap} (O : Old Z n0 h) : n0 ≤ h.size := by rw [← O.1]; exact O.2.1
theorem own_sz {h h' : Heap} {a : Addr} (q : h.size ≤ h'.size) (g : a = h'.size) : h.size ≤ a := g ▸ q
theorem own_neO {Z : State} {n0 : Nat} {h : Heap} {a b : Addr} (q : a < Z.heap.size) (O : Old Z n0 h) (r : n0 ≤ b) : a ≠ b := O.ne q r
theorem own_sta {s : State} {args : Array Value} {C n d K : String} (h : (Jvm.Cond.exactly (.static C n d) K).value args s none s [] = some true) (hi : (Jvm.Cond.initializedFor C n d).before args s = true ∨ ((Jvm.Cond.initialized C).before args s = true ∧ (Jvm.Cond.laysStatic C n d).before args s = true)) : ∃ a, (Term.static C n d).eval args s none [] s = some (.ref a) ∧ Sta s s.heap C n d (.ref a) ∧ Exa s s.heap a K := by
  obtain ⟨a, ev⟩ := exa_v h
  exact ⟨a, ev, Sta.start ev hi, Exa.start ev h⟩
theorem own_fldI {s : State} {args : Array Value} {t : Term} {C n d : String} {v : Int32} {a : Addr} (ev : t.eval args s none [] s = some (.ref a)) (h : (Jvm.Cond.eq (.field t C n d) (.int v)).value args s none s [] = some true) : Fld s s.heap a C n d (.int v) := by
  apply Fld.start
  cases hf : s.fieldOf? a C n d with
  | none => simp [Cond.value, Term.eval, ev, hf] at h
  | some x => cases x <;> simp [Cond.value, Term.eval, ev, hf] at h; subst h; rfl
theorem own_fldN {s : State} {args : Array Value} {t : Term} {C n d : String} {a : Addr} (ev : t.eval args s none [] s = some (.ref a)) (h : (Jvm.Cond.eq (.field t C n d) .null).value args s none s [] = some true) : Fld s s.heap a C n d .null := by
  apply Fld.start
  have := null_v h
  rw [fld_at ev] at this
  exact this
theorem own_fldR {s : State} {args : Array Value} {t : Term} {C n d K : String} {a : Addr} (ev : t.eval args s none [] s = some (.ref a)) (h : (Jvm.Cond.exactly (.field t C n d) K).value args s none s [] = some true) : ∃ b, (Term.field t C n d).eval args s none [] s = some (.ref b) ∧ Fld s s.heap a C n d (.ref b) ∧ Exa s s.heap b K := by
  obtain ⟨b, e2⟩ := exa_v h
  refine ⟨b, e2, Fld.start ?_, Exa.start e2 h⟩
  rw [← fld_at ev]; exact e2
section OwnWide
variable {p : Program} {l : Launch} {e : Env} {R : Room} {s : State} {m : MethodId} {args : Array Value} {below : List Frame} {meth : Method} {c : Code} {T : State} {Z : State} {own mn : String} {bytes : ByteArray} {ml n0 k n : Nat} {rt : Option FieldType} {h h' : Heap} {G : Outcome → State → Prop} {pc q : Nat} {L : Array Slot} {st rest : List Value} {a0 : Array Value} {EL : List (String × Nat)} {vm : Vm}
def FinW (Z : State) (EL : List (String × Nat)) (Q : Option Value → Heap → Prop) (s : State) (n0 k n : Nat) (o : Outcome) (U : State) : Prop := ∃ v L, o = .returned v ∧ (Fr n0 L ∧ Q v U.heap) ∧ CHr Z EL s.vm s.heap U.vm U.heap ∧ ReturnedEndW s o U L k n
def MetW (l : Launch) (Z : State) (EL : List (String × Nat)) (y : MethodName) (bytes : ByteArray) (ml : Nat) (rt : Option FieldType) (rm : Room) (as' : Array Value) (h0 : Heap) (n0 : Nat) (Q : Option Value → Heap → Prop) : Prop :=
  ∀ ws : List Jvm.Cond, MetFree l y (head1 (Jvm.Cond.code y bytes ml rt :: ws) rm) (fun a U => a = as' ∧ Z.Warmed39 U.vm ∧ U.heap = h0 ∧ CHv Z EL U.vm h0) (fun _ _ _ _ _ => True) (fun _ U o U' => ∃ v L, o = .returned v ∧ (Fr n0 L ∧ Q v U'.heap) ∧ CHr Z EL U.vm U.heap U'.vm U'.heap ∧ ReturnedEndW U o U' L rm.cells rm.slots)
abbrev MetW1 (l : Launch) (Z : State) (EL : List (String × Nat)) (y : MethodName) (bytes : ByteArray) (ml : Nat) (rt : Option FieldType) (rm : Room) (as' : Array Value) (h0 : Heap) (n0 : Nat) (Q : Value → Heap → Prop) : Prop := MetW l Z EL y bytes ml rt rm as' h0 n0 (fun v h => ∃ w, v = some w ∧ Q w h)
abbrev MetW0 (l : Launch) (Z : State) (EL : List (String × Nat)) (y : MethodName) (bytes : ByteArray) (ml : Nat) (rt : Option FieldType) (rm : Room) (as' : Array Value) (h0 : Heap) (n0 : Nat) (Q : Heap → Prop) : Prop := MetW l Z EL y bytes ml rt rm as' h0 n0 (fun v h => v = none ∧ Q h)
/-- what a wide walk bears besides: its tables come of the start's, and what they book is said -/
def Wx (Z : State) (EL : List (String × Nat)) (s : State) (vm : Vm) (h : Heap) : Prop := (∃ k0, s.Since vm k0 ∧ k0 ≤ h.size) ∧ CHr Z EL s.vm s.heap vm h
theorem Wx.ext (Y : Wx Z EL s vm h) (E : Ext h h') : Wx Z EL s vm h' := by
  obtain ⟨⟨k0, h1, h2⟩, h3⟩ := Y
  exact ⟨⟨k0, h1, Nat.le_trans h2 E.1⟩, h3.trans (CHr.ext E h3.1)⟩
theorem Wx.wr (Y : Wx Z EL s vm h) {a : Addr} {sl : Nat} {v : Value} (W : Wr h h' a sl v) (S : Safe Z EL vm h a) : Wx Z EL s vm h' := by
  obtain ⟨⟨k0, h1, h2⟩, h3⟩ := Y
  exact ⟨⟨k0, h1, by rw [W.size]; exact h2⟩, h3.trans (CHr.wr W S h3.1)⟩
theorem Wx.keep (Y : Wx Z EL s vm h) {ws : List Addr} (K : Keep h h' ws) (S : ∀ x ∈ ws, Safe Z EL vm h x) : Wx Z EL s vm h' := by
  obtain ⟨⟨k0, h1, h2⟩, h3⟩ := Y
  exact ⟨⟨k0, h1, Nat.le_trans h2 K.1⟩, h3.trans (CHr.keep K S h3.1)⟩
theorem Wx.safe0 (Y : Wx Z EL s vm h) {x : Addr} (hx : h.size ≤ x) : Safe Z EL vm h x := Safe.new hx
theorem Wx.safeE (Y : Wx Z EL s vm h) {x : Addr} (S : Safe Z EL vm h x) (E : Ext h h') : Safe Z EL vm h' x := Safe.ext E Y.2.1 S
theorem Wx.safeW (Y : Wx Z EL s vm h) {a x : Addr} {sl : Nat} {v : Value} (S : Safe Z EL vm h x) (W : Wr h h' a sl v) (Sa : Safe Z EL vm h a) : Safe Z EL vm h' x := Safe.wr W Sa Y.2.1 S
theorem Wx.safeK (Y : Wx Z EL s vm h) {x : Addr} {ws : List Addr} (S : Safe Z EL vm h x) (K : Keep h h' ws) (Sa : ∀ x ∈ ws, Safe Z EL vm h x) : Safe Z EL vm h' x := Safe.keep K Sa Y.2.1 S
theorem Cx.alike (C : Cx p (s.setVm vm) m meth c Z own bytes ml rt mn) : Z.vm.Alike vm := C.2.1.alike
theorem metW_of {y : MethodName} {rm : Room} {as' : Array Value} {Q : Option Value → Heap → Prop} (hp : plainFor y = true) (hef : ∀ m, entryFrame m as' ml = mkF m 0 L [])
    (body : ∀ (p : Program) (e : Env) (s : State) (m : MethodId) (below : List Frame) (meth : Method) (c : Code) (T : State) (vm : Vm), Cx p (s.setVm vm) m meth c Z y.cls bytes ml rt y.name → St p l e rm (s.setVm vm) m as' below meth c n0 T h 0 0 → Wx Z EL s vm h → Goes p e below (FinW Z EL Q s n0 rm.cells rm.slots) (T.setTop (mkF m 0 L []))) :
    MetW l Z EL y bytes ml rt rm as' h n0 Q := by
  intro ws
  refine MetFree.of_bodySF hp hisR ?_
  intro p e s m args below meth c s₁ Bd hml hP hK
  obtain ⟨rfl, hZ, hh, hCH⟩ := hP
  have e0 : s₁.heap = h := by rw [← hh, Bd.state]; rfl
  have b := body p e s m below meth c s₁ s.vm ⟨Bd.exec, hZ, findClass_of_methodNamed Bd.named, Bd.bytes, hml, Bd.returns, BodyLoose.notSynchronized Bd, (name_of_methodNamed Bd.named Bd.method).1⟩ ⟨[], 0, 0, Stand.of_body Bd, Fr.nil _, e0, Nat.le_refl _, Nat.le_refl _⟩
    ⟨⟨0, (State.WarmedH.refl s).since 0, Nat.zero_le _⟩, by rw [hh]; exact CHr.refl hCH⟩
  rw [hef m]
  exact b
theorem own_endW (C : Cx p (s.setVm vm) m meth c Z own bytes ml rt mn) (X : St p l e R (s.setVm vm) m args below meth c n0 T h k n) (Y : Wx Z EL s vm h) (hEL : EW Z a0 EL) {Q : Option Value → Heap → Prop} {K N : Nat} {S : State} {v : Option Value} (hv : rt = none → v = none) (hk : k ≤ K) (hn : n ≤ N) (hQ : Q v h)
    (f : ∀ locs cells slots fs, Stand p l e R (s.setVm vm) m args below meth c T locs cells slots → (∀ (f : JFrame) (acts : List Action), f.method = m → f.locked = none → f.entered = [] → (doReturn e (T.setTop f) acts v).1 = T.setFrames fs) → Steps p.tables e below S (T.setFrames fs)) : Goes p e below (FinW Z EL Q s n0 K N) S := by
  obtain ⟨hx, hZ, -, hby, -, hret, hlk, -⟩ := C
  obtain ⟨locs, cells, slots, X, hF, rfl, h1, h2⟩ := X
  obtain ⟨⟨k0, hS, hk0⟩, hC⟩ := Y
  have hA := CHv.at X hZ hEL hC.1
  obtain ⟨fs, hr, hrun, hended, hW, hsame⟩ := X.leave (v := v) (fun h => hv (hret.symm.trans h)) hlk
  have hS2 : s.Since (T.setFrames fs).vm T.heap.size := hS.trans (hW.since _) hk0
  refine ⟨_, _, f _ _ _ fs X hr, hrun, hended, _, _, rfl, ⟨hF, hQ⟩, hC.trans hA, ⟨_, rfl⟩, hS2.1, ?_, ?_⟩
  · intro j pp hj hp
    exact hS2.2 j pp hj hp
  · exact (hsame.setVm s.vm).mono (Nat.le_trans h1 hk) (Nat.le_trans h2 hn)
theorem gW_retI (C : Cx p (s.setVm vm) m meth c Z own bytes ml (some .int) mn) (X : St p l e R (s.setVm vm) m args below meth c n0 T h k n) (Y : Wx Z EL s vm h) (hEL : EW Z a0 EL) {Q : Option Value → Heap → Prop} {K N : Nat} {z : Int32} (hd : decode bytes pc = .ok (.ireturn, 1)) (hk : k ≤ K) (hn : n ≤ N) (hQ : Q (some (.int z)) h) : Goes p e below (FinW Z EL Q s n0 K N) (T.setTop (mkF m pc L (.int z :: st))) := by
  refine own_endW C X Y hEL (by simp) hk hn hQ fun locs cells slots fs X hr => ?_
  obtain ⟨hx, -, -, hby, -, hret, hlk, -⟩ := C
  exact retOut X hx hret rfl (Or.inl ⟨rfl, Or.inl rfl, _, rfl⟩) (hb hby hd) hr
theorem gW_retN {t : FieldType} (C : Cx p (s.setVm vm) m meth c Z own bytes ml (some t) mn) (X : St p l e R (s.setVm vm) m args below meth c n0 T h k n) (Y : Wx Z EL s vm h) (hEL : EW Z a0 EL) {Q : Option Value → Heap → Prop} {K N : Nat} {z z' : Int32} (ht : t = .boolean ∨ t = .byte ∨ t = .char ∨ t = .short) (hz : nar t z = z') (hd : decode bytes pc = .ok (.ireturn, 1)) (hk : k ≤ K) (hn : n ≤ N) (hQ : Q (some (.int z')) h) : Goes p e below (FinW Z EL Q s n0 K N) (T.setTop (mkF m pc L (.int z :: st))) := by
  subst hz
  refine own_endW C X Y hEL (by simp) hk hn hQ fun locs cells slots fs X hr => ?_
  obtain ⟨hx, -, -, hby, -, hret, hlk, -⟩ := C
  exact retN X hx hret ht (hb hby hd) hr
theorem gW_retA {t : FieldType} (C : Cx p (s.setVm vm) m meth c Z own bytes ml (some t) mn) (X : St p l e R (s.setVm vm) m args below meth c n0 T h k n) (Y : Wx Z EL s vm h) (hEL : EW Z a0 EL) {Q : Option Value → Heap → Prop} {K N : Nat} {v : Value} (ht : t.isReference = true) (hv : v.isRef = true) (hd : decode bytes pc = .ok (.areturn, 1)) (hk : k ≤ K) (hn : n ≤ N) (hQ : Q (some v) h) : Goes p e below (FinW Z EL Q s n0 K N) (T.setTop (mkF m pc L (v :: st))) := by
  refine own_endW C X Y hEL (by simp) hk hn hQ fun locs cells slots fs X hr => ?_
  obtain ⟨hx, -, -, hby, -, hret, hlk, -⟩ := C
  have hn' : narrow t v = v := by rcases ref_cases hv with rfl | ⟨b, rfl⟩ <;> cases t <;> first | rfl | (cases ht)
  exact retOut X hx hret hn' (Or.inr (Or.inr (Or.inr (Or.inr ⟨rfl, ht, hv⟩)))) (hb hby hd) hr
theorem gW_retV (C : Cx p (s.setVm vm) m meth c Z own bytes ml none mn) (X : St p l e R (s.setVm vm) m args below meth c n0 T h k n) (Y : Wx Z EL s vm h) (hEL : EW Z a0 EL) {Q : Option Value → Heap → Prop} {K N : Nat} (hd : decode bytes pc = .ok (.return_, 1)) (hk : k ≤ K) (hn : n ≤ N) (hQ : Q none h) : Goes p e below (FinW Z EL Q s n0 K N) (T.setTop (mkF m pc L [])) := by
  refine own_endW C X Y hEL (fun _ => rfl) hk hn hQ fun locs cells slots fs X hr => ?_
  obtain ⟨hx, -, -, hby, -, hret, hlk, -⟩ := C
  exact X.returnOut hx hret (hb hby hd) hr
theorem gW_ldcO (C : Cx p (s.setVm vm) m meth c Z own bytes ml rt mn) (X : St p l e R (s.setVm vm) m args below meth c n0 T h k n) (Y : Wx Z EL s vm h) (hEL : EW Z a0 EL) {text : String} {i nn k' n' : Nat} (w : (Cond.stringLink own i text).before a0 Z = true) (wS : ∀ a ∈ Bundle.stringAtoms, a.before a0 Z = true) (hd : decode bytes pc = .ok (.ldc i, 2)) (hq : pc + 2 = q) (hnn : 4 * text.toList.length ≤ nn) (hbig : nn ≤ 536870912) (hk : k + 2 = k') (hn : n + (nn + 4) = n') (hkR : k' ≤ R.cells) (hnR : n' ≤ R.slots)
    (r : ∀ a T' h' vm', Cx p (s.setVm vm') m meth c Z own bytes ml rt mn → St p l e R (s.setVm vm') m args below meth c n0 T' h' k' n' → Wx Z EL s vm' h' → Ext h h' → CHr Z EL vm h vm' h' → Goes p e below G (T'.setTop (mkF m q L (.ref a :: st)))) : Goes p e below G (T.setTop (mkF m pc L st)) := by
  obtain ⟨hx, hZ, hown, hby, hml, hret, hlk, hnm⟩ := C
  obtain ⟨locs, cells, slots, X, hF, eT, h1, h2⟩ := X
  obtain ⟨⟨k0, hS, hk0⟩, hC⟩ := Y
  subst hq hk hn
  obtain ⟨a, T', h', k1, X', e', E', hS', hk1, hZ', hown', hC', -, st'⟩ := ldcOH X hx hZ hown w wS eT hS hk0 hEL hC.1 (g := mkF m pc L st) rfl (hb hby hd) hnn hbig (Nat.le_trans (Nat.add_le_add_right h1 2) hkR) (Nat.le_trans (Nat.add_le_add_right h2 _) hnR)
  exact go_st st' (r a T' h' T'.vm ⟨hx, hZ', hown', hby, hml, hret, hlk, hnm⟩ ⟨_, _, _, X', hF, e', Nat.add_le_add_right h1 2, Nat.add_le_add_right h2 _⟩ ⟨⟨k1, hS', hk1⟩, hC.trans hC'⟩ E' hC')
theorem gW_ldcC (C : Cx p (s.setVm vm) m meth c Z own bytes ml rt mn) (X : St p l e R (s.setVm vm) m args below meth c n0 T h k n) (Y : Wx Z EL s vm h) (hEL : EW Z a0 EL) {text : String} {i nn k' n' : Nat} {vs : List Value} {z : Int32} (w : (Cond.stringLink own i text).before a0 Z = true) (wS : ∀ a ∈ Bundle.stringAtoms, a.before a0 Z = true) (hmem : (own, i) ∈ EL) (ht : (∀ c ∈ text.toList, c.toNat < 256) ∧ text.toList.map (fun c => Value.int (Jvm.Lit.byteI c.toNat.toUInt16)) = vs) (hz : ¬ z < 0) (hl : z.toNatClampNeg = vs.length) (hd : decode bytes pc = .ok (.ldc i, 2)) (hq : pc + 2 = q) (hnn : 4 * text.toList.length ≤ nn) (hbig : nn ≤ 536870912) (hk : k + 2 = k') (hn : n + (nn + 4) = n') (hkR : k' ≤ R.cells) (hnR : n' ≤ R.slots)
    (r : ∀ a b kk T' h' vm', Cx p (s.setVm vm') m meth c Z own bytes ml rt mn → St p l e R (s.setVm vm') m args below meth c n0 T' h' k' n' → Wx Z EL s vm' h' → Ext h h' → CHr Z EL vm h vm' h' → Exa Z h' a "java/lang/String" → Fld Z h' a "java/lang/String" "coder" "B" (.int 0) → Fld Z h' a "java/lang/String" "value" "[B" (.ref b) → Arv Z h' b kk .byte z vs (.int 0) → (∀ x, Safe Z EL vm' h' x → x ≠ a ∧ x ≠ b) → Goes p e below G (T'.setTop (mkF m q L (.ref a :: st)))) : Goes p e below G (T.setTop (mkF m pc L st)) := by
  obtain ⟨hx, hZ, hown, hby, hml, hret, hlk, hnm⟩ := C
  obtain ⟨locs, cells, slots, X, hF, eT, h1, h2⟩ := X
  obtain ⟨⟨k0, hS, hk0⟩, hC⟩ := Y
  subst hq hk hn
  obtain ⟨a, T', h', k1, b, kk, X', e', E', hS', hk1, hZ', hown', f1, f2, f3, f4, -, -, hC', -, hsf, st'⟩ := ldcCH X hx hZ hown w wS eT hS hk0 hEL hmem hC.1 ht hz hl (g := mkF m pc L st) rfl (hb hby hd) hnn hbig (Nat.le_trans (Nat.add_le_add_right h1 2) hkR) (Nat.le_trans (Nat.add_le_add_right h2 _) hnR)
  exact go_st st' (r a b kk T' h' T'.vm ⟨hx, hZ', hown', hby, hml, hret, hlk, hnm⟩ ⟨_, _, _, X', hF, e', Nat.add_le_add_right h1 2, Nat.add_le_add_right h2 _⟩ ⟨⟨k1, hS', hk1⟩, hC.trans hC'⟩ E' hC' f1 f2 f3 f4 hsf)
theorem gW_callS1 (C : Cx p (s.setVm vm) m meth c Z own bytes ml rt mn) (X : St p l e R (s.setVm vm) m args below meth c n0 T h k n) (Y : Wx Z EL s vm h) (hEL : EW Z a0 EL) {rm : Room} {as' : Array Value} {bts : ByteArray} {mxl : Nat} {rty : Option FieldType} {argsL : List Value} {ps : List FieldType} {rt' : Option FieldType} {k' n' W : Nat} {Q : Value → Heap → Prop} {y : MethodName} {i : Nat} (hy : y.cls ≠ "java/lang/invoke/MethodHandle" ∧ y.cls ≠ "java/lang/invoke/VarHandle") (w1 : (Cond.methodLink own i y).before a0 Z = true) (w2 : (Cond.static y).before a0 Z = true) (w8 : (Cond.code y bts mxl rty).before a0 Z = true) (w9 : (Cond.initialized y.cls).before a0 Z = true) (hM : MetW1 l Z EL y bts mxl rty rm as' h n0 Q) (hf : rm.frames + 1 ≤ R.frames) (hl : W + (mxl + 11) + rm.locals ≤ R.locals) (hk : k + rm.cells = k') (hn : n + rm.slots = n') (hkR : k' ≤ R.cells) (hnR : n' ≤ R.slots) (hsz : L.size = ml) (hdd : parseMethodDescriptor y.desc = some ⟨ps, rt'⟩) (hlen : argsL.length = ps.length) (hst : st = argsL.reverse ++ rest) (has : argsL.toArray = as') (hW : (rest.map fun v => v.category).sum = W) (hd : decode bytes pc = .ok (.invokestatic i, 3)) (hq : pc + 3 = q)
    (r : ∀ w T' h' vm', Cx p (s.setVm vm') m meth c Z own bytes ml rt mn → St p l e R (s.setVm vm') m args below meth c n0 T' h' k' n' → Wx Z EL s vm' h' → CHr Z EL vm h vm' h' → Q w h' → Goes p e below G (T'.setTop (mkF m q L (w :: rest)))) : Goes p e below G (T.setTop (mkF m pc L st)) := by
  obtain ⟨hx, hZ, hown, hby, hml, hret, hlk, hnm⟩ := C
  obtain ⟨_, cells, slots, X, hF, eT, h1, h2⟩ := X
  obtain ⟨⟨k0, hS, hk0⟩, hC⟩ := Y
  subst hq hk hn has hst hW
  have bk := backOfSH (Q := fun v h L => Fr n0 L ∧ (∃ w, v = some w ∧ Q w h)) (R := R) (p := p) (e := e) (below := below) (s := s) (args := args) (len := 3) (W := (rest.map fun v => v.category).sum) (hM []) hZ w8 w9 hf hl hEL hC.1
  obtain ⟨_, _, ⟨T', Lo, kk, nn⟩, -, X', hS', hg', ⟨Lc, hQ, q1, q2, q3, hC'⟩, st'⟩ := callSS X hx hown (mvT hZ w1) (mvT hZ w2) (mvT hZ w9) (mvT hZ w8) hy bk (g := mkF m pc L (argsL.reverse ++ rest)) rfl (hsz.trans hml.symm) (argsL := argsL) (rest := rest) (lenOf hdd hlen) rfl (by show 2 * 0 + _ ≤ _; omega) (hb hby hd) (fun _ _ => ⟨rfl, eT, Nat.le_trans (Nat.add_le_add_right h1 _) hkR, Nat.le_trans (Nat.add_le_add_right h2 _) hnR⟩)
  dsimp only [Pt.U, Pt.locs, Pt.cells, Pt.slots] at X' hS' hg' q1 q2 q3 st' hQ hC'
  subst q1 q2 q3
  obtain ⟨hFr, hQ'⟩ := hQ
  obtain ⟨w, rfl, hQ'⟩ := hQ'
  rw [eT] at hg'
  obtain ⟨X2, hS2, hZ2, hown2⟩ := rebS hS hk0 X' hS' hg' hZ hown
  exact go_tr st' (r w T' _ T'.vm ⟨hx, hZ2, hown2, hby, hml, hret, hlk, hnm⟩ ⟨_, _, _, X2, Fr.app hF hFr, rfl, Nat.add_le_add_right h1 _, Nat.add_le_add_right h2 _⟩ ⟨⟨_, hS2, Nat.le_refl _⟩, hC.trans hC'⟩ hC' hQ')
theorem gW_callS0 (C : Cx p (s.setVm vm) m meth c Z own bytes ml rt mn) (X : St p l e R (s.setVm vm) m args below meth c n0 T h k n) (Y : Wx Z EL s vm h) (hEL : EW Z a0 EL) {rm : Room} {as' : Array Value} {bts : ByteArray} {mxl : Nat} {rty : Option FieldType} {argsL : List Value} {ps : List FieldType} {rt' : Option FieldType} {k' n' W : Nat} {Q : Heap → Prop} {y : MethodName} {i : Nat} (hy : y.cls ≠ "java/lang/invoke/MethodHandle" ∧ y.cls ≠ "java/lang/invoke/VarHandle") (w1 : (Cond.methodLink own i y).before a0 Z = true) (w2 : (Cond.static y).before a0 Z = true) (w8 : (Cond.code y bts mxl rty).before a0 Z = true) (w9 : (Cond.initialized y.cls).before a0 Z = true) (hM : MetW0 l Z EL y bts mxl rty rm as' h n0 Q) (hf : rm.frames + 1 ≤ R.frames) (hl : W + (mxl + 11) + rm.locals ≤ R.locals) (hk : k + rm.cells = k') (hn : n + rm.slots = n') (hkR : k' ≤ R.cells) (hnR : n' ≤ R.slots) (hsz : L.size = ml) (hdd : parseMethodDescriptor y.desc = some ⟨ps, rt'⟩) (hlen : argsL.length = ps.length) (hst : st = argsL.reverse ++ rest) (has : argsL.toArray = as') (hW : (rest.map fun v => v.category).sum = W) (hd : decode bytes pc = .ok (.invokestatic i, 3)) (hq : pc + 3 = q)
    (r : ∀ T' h' vm', Cx p (s.setVm vm') m meth c Z own bytes ml rt mn → St p l e R (s.setVm vm') m args below meth c n0 T' h' k' n' → Wx Z EL s vm' h' → CHr Z EL vm h vm' h' → Q h' → Goes p e below G (T'.setTop (mkF m q L rest))) : Goes p e below G (T.setTop (mkF m pc L st)) := by
  obtain ⟨hx, hZ, hown, hby, hml, hret, hlk, hnm⟩ := C
  obtain ⟨_, cells, slots, X, hF, eT, h1, h2⟩ := X
  obtain ⟨⟨k0, hS, hk0⟩, hC⟩ := Y
  subst hq hk hn has hst hW
  have bk := backOfSH (Q := fun v h L => Fr n0 L ∧ (v = none ∧ Q h)) (R := R) (p := p) (e := e) (below := below) (s := s) (args := args) (len := 3) (W := (rest.map fun v => v.category).sum) (hM []) hZ w8 w9 hf hl hEL hC.1
  obtain ⟨_, _, ⟨T', Lo, kk, nn⟩, -, X', hS', hg', ⟨Lc, hQ, q1, q2, q3, hC'⟩, st'⟩ := callSS X hx hown (mvT hZ w1) (mvT hZ w2) (mvT hZ w9) (mvT hZ w8) hy bk (g := mkF m pc L (argsL.reverse ++ rest)) rfl (hsz.trans hml.symm) (argsL := argsL) (rest := rest) (lenOf hdd hlen) rfl (by show 2 * 0 + _ ≤ _; omega) (hb hby hd) (fun _ _ => ⟨rfl, eT, Nat.le_trans (Nat.add_le_add_right h1 _) hkR, Nat.le_trans (Nat.add_le_add_right h2 _) hnR⟩)
  dsimp only [Pt.U, Pt.locs, Pt.cells, Pt.slots] at X' hS' hg' q1 q2 q3 st' hQ hC'
  subst q1 q2 q3
  obtain ⟨hFr, hQ'⟩ := hQ
  obtain ⟨rfl, hQ'⟩ := hQ'
  rw [eT] at hg'
  obtain ⟨X2, hS2, hZ2, hown2⟩ := rebS hS hk0 X' hS' hg' hZ hown
  exact go_tr st' (r T' _ T'.vm ⟨hx, hZ2, hown2, hby, hml, hret, hlk, hnm⟩ ⟨_, _, _, X2, Fr.app hF hFr, rfl, Nat.add_le_add_right h1 _, Nat.add_le_add_right h2 _⟩ ⟨⟨_, hS2, Nat.le_refl _⟩, hC.trans hC'⟩ hC' hQ')
theorem gW_callI1 (C : Cx p (s.setVm vm) m meth c Z own bytes ml rt mn) (X : St p l e R (s.setVm vm) m args below meth c n0 T h k n) (Y : Wx Z EL s vm h) (hEL : EW Z a0 EL) {rm : Room} {as' : Array Value} {bts : ByteArray} {mxl : Nat} {rty : Option FieldType} {argsL : List Value} {ps : List FieldType} {rt' : Option FieldType} {k' n' W : Nat} {Q : Value → Heap → Prop} {y : MethodName} {i : Nat} {a : Addr} (hy : y.cls ≠ "java/lang/invoke/MethodHandle" ∧ y.cls ≠ "java/lang/invoke/VarHandle") (hy1 : y.name = "<init>") (hrn : rty = none) (w1 : (Cond.methodLink own i y).before a0 Z = true) (w2 : (Cond.instanceMethod y).before a0 Z = true) (w8 : (Cond.code y bts mxl rty).before a0 Z = true) (w9 : (Cond.initialized y.cls).before a0 Z = true) (hM : MetW1 l Z EL y bts mxl rty rm as' h n0 Q) (hf : rm.frames + 1 ≤ R.frames) (hl : W + (mxl + 11) + rm.locals ≤ R.locals) (hk : k + rm.cells = k') (hn : n + rm.slots = n') (hkR : k' ≤ R.cells) (hnR : n' ≤ R.slots) (hsz : L.size = ml) (hdd : parseMethodDescriptor y.desc = some ⟨ps, rt'⟩) (hlen : argsL.length = ps.length) (hst : st = argsL.reverse ++ .ref a :: rest) (has : (.ref a :: argsL).toArray = as') (hW : (rest.map fun v => v.category).sum = W) (hd : decode bytes pc = .ok (.invokespecial i, 3)) (hq : pc + 3 = q)
    (r : ∀ w T' h' vm', Cx p (s.setVm vm') m meth c Z own bytes ml rt mn → St p l e R (s.setVm vm') m args below meth c n0 T' h' k' n' → Wx Z EL s vm' h' → CHr Z EL vm h vm' h' → Q w h' → Goes p e below G (T'.setTop (mkF m q L (w :: rest)))) : Goes p e below G (T.setTop (mkF m pc L st)) := by
  obtain ⟨hx, hZ, hown, hby, hml, hret, hlk, hnm⟩ := C
  obtain ⟨_, cells, slots, X, hF, eT, h1, h2⟩ := X
  obtain ⟨⟨k0, hS, hk0⟩, hC⟩ := Y
  subst hq hk hn has hst hW
  have bk := backOfSH (Q := fun v h L => Fr n0 L ∧ (∃ w, v = some w ∧ Q w h)) (R := R) (p := p) (e := e) (below := below) (s := s) (args := args) (len := 3) (W := (rest.map fun v => v.category).sum) (hM []) hZ w8 w9 hf hl hEL hC.1
  subst hrn
  obtain ⟨_, _, ⟨T', Lo, kk, nn⟩, -, X', hS', hg', ⟨Lc, hQ, q1, q2, q3, hC'⟩, st'⟩ := X.specialBackS hx hy1 hown (mvT hZ w1) (mvT hZ w2) (mvT hZ w8) hy bk (g := mkF m pc L (argsL.reverse ++ .ref a :: rest)) rfl (hsz.trans hml.symm) (Steps.refl _) (a := a) (argsL := argsL) (rest := rest) (lenOf hdd hlen) rfl (by show 2 * 0 + _ ≤ _; omega) (hb hby hd) (fun _ _ => ⟨rfl, eT, Nat.le_trans (Nat.add_le_add_right h1 _) hkR, Nat.le_trans (Nat.add_le_add_right h2 _) hnR⟩)
  dsimp only [Pt.U, Pt.locs, Pt.cells, Pt.slots] at X' hS' hg' q1 q2 q3 st' hQ hC'
  subst q1 q2 q3
  obtain ⟨hFr, hQ'⟩ := hQ
  obtain ⟨w, rfl, hQ'⟩ := hQ'
  rw [eT] at hg'
  obtain ⟨X2, hS2, hZ2, hown2⟩ := rebS hS hk0 X' hS' hg' hZ hown
  exact go_tr st' (r w T' _ T'.vm ⟨hx, hZ2, hown2, hby, hml, hret, hlk, hnm⟩ ⟨_, _, _, X2, Fr.app hF hFr, rfl, Nat.add_le_add_right h1 _, Nat.add_le_add_right h2 _⟩ ⟨⟨_, hS2, Nat.le_refl _⟩, hC.trans hC'⟩ hC' hQ')
theorem gW_callI0 (C : Cx p (s.setVm vm) m meth c Z own bytes ml rt mn) (X : St p l e R (s.setVm vm) m args below meth c n0 T h k n) (Y : Wx Z EL s vm h) (hEL : EW Z a0 EL) {rm : Room} {as' : Array Value} {bts : ByteArray} {mxl : Nat} {rty : Option FieldType} {argsL : List Value} {ps : List FieldType} {rt' : Option FieldType} {k' n' W : Nat} {Q : Heap → Prop} {y : MethodName} {i : Nat} {a : Addr} (hy : y.cls ≠ "java/lang/invoke/MethodHandle" ∧ y.cls ≠ "java/lang/invoke/VarHandle") (hy1 : y.name = "<init>") (hrn : rty = none) (w1 : (Cond.methodLink own i y).before a0 Z = true) (w2 : (Cond.instanceMethod y).before a0 Z = true) (w8 : (Cond.code y bts mxl rty).before a0 Z = true) (w9 : (Cond.initialized y.cls).before a0 Z = true) (hM : MetW0 l Z EL y bts mxl rty rm as' h n0 Q) (hf : rm.frames + 1 ≤ R.frames) (hl : W + (mxl + 11) + rm.locals ≤ R.locals) (hk : k + rm.cells = k') (hn : n + rm.slots = n') (hkR : k' ≤ R.cells) (hnR : n' ≤ R.slots) (hsz : L.size = ml) (hdd : parseMethodDescriptor y.desc = some ⟨ps, rt'⟩) (hlen : argsL.length = ps.length) (hst : st = argsL.reverse ++ .ref a :: rest) (has : (.ref a :: argsL).toArray = as') (hW : (rest.map fun v => v.category).sum = W) (hd : decode bytes pc = .ok (.invokespecial i, 3)) (hq : pc + 3 = q)
    (r : ∀ T' h' vm', Cx p (s.setVm vm') m meth c Z own bytes ml rt mn → St p l e R (s.setVm vm') m args below meth c n0 T' h' k' n' → Wx Z EL s vm' h' → CHr Z EL vm h vm' h' → Q h' → Goes p e below G (T'.setTop (mkF m q L rest))) : Goes p e below G (T.setTop (mkF m pc L st)) := by
  obtain ⟨hx, hZ, hown, hby, hml, hret, hlk, hnm⟩ := C
  obtain ⟨_, cells, slots, X, hF, eT, h1, h2⟩ := X
  obtain ⟨⟨k0, hS, hk0⟩, hC⟩ := Y
  subst hq hk hn has hst hW
  have bk := backOfSH (Q := fun v h L => Fr n0 L ∧ (v = none ∧ Q h)) (R := R) (p := p) (e := e) (below := below) (s := s) (args := args) (len := 3) (W := (rest.map fun v => v.category).sum) (hM []) hZ w8 w9 hf hl hEL hC.1
  subst hrn
  obtain ⟨_, _, ⟨T', Lo, kk, nn⟩, -, X', hS', hg', ⟨Lc, hQ, q1, q2, q3, hC'⟩, st'⟩ := X.specialBackS hx hy1 hown (mvT hZ w1) (mvT hZ w2) (mvT hZ w8) hy bk (g := mkF m pc L (argsL.reverse ++ .ref a :: rest)) rfl (hsz.trans hml.symm) (Steps.refl _) (a := a) (argsL := argsL) (rest := rest) (lenOf hdd hlen) rfl (by show 2 * 0 + _ ≤ _; omega) (hb hby hd) (fun _ _ => ⟨rfl, eT, Nat.le_trans (Nat.add_le_add_right h1 _) hkR, Nat.le_trans (Nat.add_le_add_right h2 _) hnR⟩)
  dsimp only [Pt.U, Pt.locs, Pt.cells, Pt.slots] at X' hS' hg' q1 q2 q3 st' hQ hC'
  subst q1 q2 q3
  obtain ⟨hFr, hQ'⟩ := hQ
  obtain ⟨rfl, hQ'⟩ := hQ'
  rw [eT] at hg'
  obtain ⟨X2, hS2, hZ2, hown2⟩ := rebS hS hk0 X' hS' hg' hZ hown
  exact go_tr st' (r T' _ T'.vm ⟨hx, hZ2, hown2, hby, hml, hret, hlk, hnm⟩ ⟨_, _, _, X2, Fr.app hF hFr, rfl, Nat.add_le_add_right h1 _, Nat.add_le_add_right h2 _⟩ ⟨⟨_, hS2, Nat.le_refl _⟩, hC.trans hC'⟩ hC' hQ')
theorem gW_callV1 (C : Cx p (s.setVm vm) m meth c Z own bytes ml rt mn) (X : St p l e R (s.setVm vm) m args below meth c n0 T h k n) (Y : Wx Z EL s vm h) (hEL : EW Z a0 EL) {rm : Room} {as' : Array Value} {bts : ByteArray} {mxl : Nat} {rty : Option FieldType} {argsL : List Value} {ps : List FieldType} {rt' : Option FieldType} {k' n' W : Nat} {Q : Value → Heap → Prop} {y z : MethodName} {i : Nat} {a : Addr} {K : String} (hy : y.cls ≠ "java/lang/invoke/MethodHandle" ∧ y.cls ≠ "java/lang/invoke/VarHandle") (w1 : (Cond.methodLink own i y).before a0 Z = true) (w2 : (Cond.declares y).before a0 Z = true) (w3 : (Cond.selects K y z).before a0 Z = true) (w4 : (Cond.instanceMethod z).before a0 Z = true) (hnf : ∀ s' : State, Z.Warmed39 s'.vm → NotFace s' y) (E : Exa Z h a K) (w8 : (Cond.code z bts mxl rty).before a0 Z = true) (w9 : (Cond.initialized z.cls).before a0 Z = true) (hM : MetW1 l Z EL z bts mxl rty rm as' h n0 Q) (hf : rm.frames + 1 ≤ R.frames) (hl : W + (mxl + 11) + rm.locals ≤ R.locals) (hk : k + rm.cells = k') (hn : n + rm.slots = n') (hkR : k' ≤ R.cells) (hnR : n' ≤ R.slots) (hsz : L.size = ml) (hdd : parseMethodDescriptor y.desc = some ⟨ps, rt'⟩) (hlen : argsL.length = ps.length) (hst : st = argsL.reverse ++ .ref a :: rest) (has : (.ref a :: argsL).toArray = as') (hW : (rest.map fun v => v.category).sum = W) (hd : decode bytes pc = .ok (.invokevirtual i, 3)) (hq : pc + 3 = q)
    (r : ∀ w T' h' vm', Cx p (s.setVm vm') m meth c Z own bytes ml rt mn → St p l e R (s.setVm vm') m args below meth c n0 T' h' k' n' → Wx Z EL s vm' h' → CHr Z EL vm h vm' h' → Q w h' → Goes p e below G (T'.setTop (mkF m q L (w :: rest)))) : Goes p e below G (T.setTop (mkF m pc L st)) := by
  obtain ⟨hx, hZ, hown, hby, hml, hret, hlk, hnm⟩ := C
  obtain ⟨_, cells, slots, X, hF, eT, h1, h2⟩ := X
  obtain ⟨⟨k0, hS, hk0⟩, hC⟩ := Y
  subst hq hk hn has hst hW
  have bk := backOfSH (Q := fun v h L => Fr n0 L ∧ (∃ w, v = some w ∧ Q w h)) (R := R) (p := p) (e := e) (below := below) (s := s) (args := args) (len := 3) (W := (rest.map fun v => v.category).sum) (hM []) hZ w8 w9 hf hl hEL hC.1
  obtain ⟨cB, kB, qa, qb, qc⟩ := isOf hZ eT E
  obtain ⟨_, _, ⟨T', Lo, kk, nn⟩, -, X', hS', hg', ⟨Lc, hQ, q1, q2, q3, hC'⟩, st'⟩ := X.virtualBackS hx hown (mvT hZ w1) (mvT hZ w2) (hnf _ hZ) (mvT hZ w3) (mvT hZ w4) hy bk qa qc (g := mkF m pc L (argsL.reverse ++ .ref a :: rest)) rfl (hsz.trans hml.symm) (Steps.refl _) (argsL := argsL) (rest := rest) (lenOf hdd hlen) rfl (by show 2 * 0 + _ ≤ _; omega) (hb hby hd) (fun _ _ => ⟨rfl, eT, Nat.le_trans (Nat.add_le_add_right h1 _) hkR, Nat.le_trans (Nat.add_le_add_right h2 _) hnR⟩)
  dsimp only [Pt.U, Pt.locs, Pt.cells, Pt.slots] at X' hS' hg' q1 q2 q3 st' hQ hC'
  subst q1 q2 q3
  obtain ⟨hFr, hQ'⟩ := hQ
  obtain ⟨w, rfl, hQ'⟩ := hQ'
  rw [eT] at hg'
  obtain ⟨X2, hS2, hZ2, hown2⟩ := rebS hS hk0 X' hS' hg' hZ hown
  exact go_tr st' (r w T' _ T'.vm ⟨hx, hZ2, hown2, hby, hml, hret, hlk, hnm⟩ ⟨_, _, _, X2, Fr.app hF hFr, rfl, Nat.add_le_add_right h1 _, Nat.add_le_add_right h2 _⟩ ⟨⟨_, hS2, Nat.le_refl _⟩, hC.trans hC'⟩ hC' hQ')
theorem gW_callV0 (C : Cx p (s.setVm vm) m meth c Z own bytes ml rt mn) (X : St p l e R (s.setVm vm) m args below meth c n0 T h k n) (Y : Wx Z EL s vm h) (hEL : EW Z a0 EL) {rm : Room} {as' : Array Value} {bts : ByteArray} {mxl : Nat} {rty : Option FieldType} {argsL : List Value} {ps : List FieldType} {rt' : Option FieldType} {k' n' W : Nat} {Q : Heap → Prop} {y z : MethodName} {i : Nat} {a : Addr} {K : String} (hy : y.cls ≠ "java/lang/invoke/MethodHandle" ∧ y.cls ≠ "java/lang/invoke/VarHandle") (w1 : (Cond.methodLink own i y).before a0 Z = true) (w2 : (Cond.declares y).before a0 Z = true) (w3 : (Cond.selects K y z).before a0 Z = true) (w4 : (Cond.instanceMethod z).before a0 Z = true) (hnf : ∀ s' : State, Z.Warmed39 s'.vm → NotFace s' y) (E : Exa Z h a K) (w8 : (Cond.code z bts mxl rty).before a0 Z = true) (w9 : (Cond.initialized z.cls).before a0 Z = true) (hM : MetW0 l Z EL z bts mxl rty rm as' h n0 Q) (hf : rm.frames + 1 ≤ R.frames) (hl : W + (mxl + 11) + rm.locals ≤ R.locals) (hk : k + rm.cells = k') (hn : n + rm.slots = n') (hkR : k' ≤ R.cells) (hnR : n' ≤ R.slots) (hsz : L.size = ml) (hdd : parseMethodDescriptor y.desc = some ⟨ps, rt'⟩) (hlen : argsL.length = ps.length) (hst : st = argsL.reverse ++ .ref a :: rest) (has : (.ref a :: argsL).toArray = as') (hW : (rest.map fun v => v.category).sum = W) (hd : decode bytes pc = .ok (.invokevirtual i, 3)) (hq : pc + 3 = q)
    (r : ∀ T' h' vm', Cx p (s.setVm vm') m meth c Z own bytes ml rt mn → St p l e R (s.setVm vm') m args below meth c n0 T' h' k' n' → Wx Z EL s vm' h' → CHr Z EL vm h vm' h' → Q h' → Goes p e below G (T'.setTop (mkF m q L rest))) : Goes p e below G (T.setTop (mkF m pc L st)) := by
  obtain ⟨hx, hZ, hown, hby, hml, hret, hlk, hnm⟩ := C
  obtain ⟨_, cells, slots, X, hF, eT, h1, h2⟩ := X
  obtain ⟨⟨k0, hS, hk0⟩, hC⟩ := Y
  subst hq hk hn has hst hW
  have bk := backOfSH (Q := fun v h L => Fr n0 L ∧ (v = none ∧ Q h)) (R := R) (p := p) (e := e) (below := below) (s := s) (args := args) (len := 3) (W := (rest.map fun v => v.category).sum) (hM []) hZ w8 w9 hf hl hEL hC.1
  obtain ⟨cB, kB, qa, qb, qc⟩ := isOf hZ eT E
  obtain ⟨_, _, ⟨T', Lo, kk, nn⟩, -, X', hS', hg', ⟨Lc, hQ, q1, q2, q3, hC'⟩, st'⟩ := X.virtualBackS hx hown (mvT hZ w1) (mvT hZ w2) (hnf _ hZ) (mvT hZ w3) (mvT hZ w4) hy bk qa qc (g := mkF m pc L (argsL.reverse ++ .ref a :: rest)) rfl (hsz.trans hml.symm) (Steps.refl _) (argsL := argsL) (rest := rest) (lenOf hdd hlen) rfl (by show 2 * 0 + _ ≤ _; omega) (hb hby hd) (fun _ _ => ⟨rfl, eT, Nat.le_trans (Nat.add_le_add_right h1 _) hkR, Nat.le_trans (Nat.add_le_add_right h2 _) hnR⟩)
  dsimp only [Pt.U, Pt.locs, Pt.cells, Pt.slots] at X' hS' hg' q1 q2 q3 st' hQ hC'
  subst q1 q2 q3
  obtain ⟨hFr, hQ'⟩ := hQ
  obtain ⟨rfl, hQ'⟩ := hQ'
  rw [eT] at hg'
  obtain ⟨X2, hS2, hZ2, hown2⟩ := rebS hS hk0 X' hS' hg' hZ hown
  exact go_tr st' (r T' _ T'.vm ⟨hx, hZ2, hown2, hby, hml, hret, hlk, hnm⟩ ⟨_, _, _, X2, Fr.app hF hFr, rfl, Nat.add_le_add_right h1 _, Nat.add_le_add_right h2 _⟩ ⟨⟨_, hS2, Nat.le_refl _⟩, hC.trans hC'⟩ hC' hQ')
end OwnWide
section OwnStr
variable {p : Program} {l : Launch} {e : Env} {R : Room} {s : State} {m : MethodId} {args : Array Value} {below : List Frame} {meth : Method} {c : Code} {T : State} {Z : State} {own mn : String} {bytes : ByteArray} {ml n0 k n : Nat} {rt : Option FieldType} {h h' : Heap} {G : Outcome → State → Prop} {pc q : Nat} {L : Array Slot} {st rest : List Value} {a0 : Array Value} {x y o : Addr} {cs ds : List Int32} {sl : Nat} {v : Value} {ws : List Addr} {ty : FieldType}
/-- the String x spells cs -/
def Str (Z : State) (h : Heap) (x : Addr) (cs : List Int32) : Prop := ∃ (t : Addr) (kb : ClassId), Exa Z h x "java/lang/String" ∧ Fld Z h x "java/lang/String" "value" "[B" (.ref t) ∧ Fld Z h x "java/lang/String" "coder" "B" (.int 0) ∧ Arv Z h t kb .byte (Int32.ofNat cs.length) ((cs.map (fun c => c.toInt8.toInt32)).map Value.int) (.int 0) ∧ (∀ c ∈ cs, ¬ c < 0 ∧ ¬ (255 : Int32) < c) ∧ cs.length ≤ 4000
def Yar (Z : State) (h : Heap) (a : Addr) (ty : FieldType) : Prop := ∃ c : Cell, Arr Z h a c ty
theorem Yar.of {cA : ClassId} {z : Int32} {vs : List Value} {dv : Value} (V : Arv Z h o cA ty z vs dv) : Yar Z h o ty := by obtain ⟨c, A, -⟩ := V; exact ⟨c, A⟩
theorem Yar.ext (Y : Yar Z h o ty) (E : Ext h h') : Yar Z h' o ty := by obtain ⟨c, A⟩ := Y; exact ⟨c, A.ext E⟩
theorem Yar.wr (Y : Yar Z h o ty) (W : Wr h h' x sl v) : Yar Z h' o ty := by
  obtain ⟨c, A⟩ := Y
  by_cases q : o = x
  · subst q; exact ⟨_, A.same W⟩
  · exact ⟨_, A.other W q⟩
theorem Yar.keep (Y : Yar Z h o ty) (K : Keep h h' ws) : Yar Z h' o ty := by
  obtain ⟨c, A1, ⟨A2, kc, A3, comp, A4⟩, A5⟩ := Y
  obtain ⟨c', q1, q2, q3, -⟩ := K.2.2 _ _ A1
  exact ⟨c', q1, ⟨fun r z => A2 r (by rw [← q3]; exact z), kc, by rw [q2]; exact A3, comp, A4⟩, by rw [q3]; exact A5⟩
/-- neither a String nor a byte[] -/
def NoS (Z : State) (h : Heap) (o : Addr) : Prop := (∀ x, Exa Z h x "java/lang/String" → o ≠ x) ∧ ∀ t c, Arr Z h t c .byte → o ≠ t
theorem NoS.exa {K : String} {nn : Nat} (E : Exa Z h o K) (hK : K ≠ "java/lang/String") (wi : (Cond.instantiable K nn).before a0 Z = true) : NoS Z h o := ⟨fun x F => ne_exa E F hK, fun t c A => ne_arr E wi A⟩
theorem NoS.arr {nn : Nat} (Y : Yar Z h o ty) (ht : ty ≠ .byte) (wi : (Cond.instantiable "java/lang/String" nn).before a0 Z = true) : NoS Z h o := by
  obtain ⟨c, A⟩ := Y
  refine ⟨fun x F => Ne.symm (ne_arr F wi A), fun t c' B q => ?_⟩
  subst q
  obtain ⟨A1, ⟨-, k1, A3, comp, A4⟩, -⟩ := A
  obtain ⟨B1, ⟨-, k2, B3, comp', B4⟩, -⟩ := B
  cases A1.symm.trans B1
  cases A3.symm.trans B3
  rw [A4] at B4
  injection B4 with z1 z2
  exact ht z2
theorem Str.lt (F : Str Z h x cs) : x < h.size := by obtain ⟨t, kb, E, -⟩ := F; exact E.lt
theorem Str.exa (F : Str Z h x cs) : Exa Z h x "java/lang/String" := by obtain ⟨t, kb, E, -⟩ := F; exact E
theorem Str.rng (F : Str Z h x cs) : ∀ c ∈ cs, ¬ c < 0 ∧ ¬ (255 : Int32) < c := by obtain ⟨t, kb, -, -, -, -, r, -⟩ := F; exact r
theorem Str.ext (F : Str Z h x cs) (E : Ext h h') : Str Z h' x cs := by obtain ⟨t, kb, f1, f2, f3, f4, r⟩ := F; exact ⟨t, kb, f1.ext E, f2.ext E, f3.ext E, f4.ext E, r⟩
theorem Str.wr (F : Str Z h x cs) (W : Wr h h' o sl v) (N : NoS Z h o) : Str Z h' x cs := by
  obtain ⟨t, kb, f1, f2, f3, f4, r⟩ := F
  have n1 : x ≠ o := Ne.symm (N.1 x f1)
  have n2 : t ≠ o := by obtain ⟨c, A, -⟩ := f4; exact Ne.symm (N.2 t c A)
  exact ⟨t, kb, f1.wr W, f2.other W (Or.inl n1), f3.other W (Or.inl n1), f4.other W n2, r⟩
theorem Str.keep (F : Str Z h x cs) (K : Keep h h' ws) (N : ∀ o ∈ ws, NoS Z h o) : Str Z h' x cs := by
  obtain ⟨t, kb, f1, f2, f3, f4, r⟩ := F
  have n1 : x ∉ ws := fun q => (N x q).1 x f1 rfl
  have n2 : t ∉ ws := fun q => by obtain ⟨c, A, -⟩ := f4; exact (N t q).2 t c A rfl
  exact ⟨t, kb, f1.keep K, f2.keep K n1, f3.keep K n1, f4.keep K n2, r⟩
theorem Str.keepS {nn : Nat} (F : Str Z h x cs) (K : Keep h h' [y]) (hne : x ≠ y) (E : Exa Z h y "java/lang/String") (wi : (Cond.instantiable "java/lang/String" nn).before a0 Z = true) : Str Z h' x cs := by
  obtain ⟨t, kb, f1, f2, f3, f4, r⟩ := F
  have n1 : x ∉ [y] := ninS hne nin0
  have n2 : t ∉ [y] := ninS (by obtain ⟨c, A, -⟩ := f4; exact Ne.symm (ne_arr E wi A)) nin0
  exact ⟨t, kb, f1.keep K, f2.keep K n1, f3.keep K n1, f4.keep K n2, r⟩
theorem Str.cod (hr : ∀ c ∈ cs, ¬ c < 0 ∧ ¬ (255 : Int32) < c) : StrChars.Road.CodA cs 0 (Int32.ofNat cs.length) ((cs.map (fun c => c.toInt8.toInt32)).map Value.int) := StrChars.Road.codOf rfl fun c hc => (hr c hc).2
theorem Str.up (hr : ∀ c ∈ cs, ¬ c < 0 ∧ ¬ (255 : Int32) < c) : ∀ c ∈ cs, ¬ c < 0 ∧ ¬ (65535 : Int32) < c := fun c hc => ⟨(hr c hc).1, fun z => (hr c hc).2 (Int32.lt_trans (by decide) z)⟩
theorem g_strNew (C : Cx p s m meth c Z own bytes ml rt mn) (X : St p l e R s m args below meth c n0 T h k n) {i len k' n' W : Nat} {b : Addr} {kC : ClassId} {d v0 c0 : Value} {z N : Int32} (hwS : ∀ d ∈ StrChars.Road.words, d.before a0 Z = true) (wi : (Cond.instantiable "java/lang/String" 4).before a0 Z = true) (w1 : (Cond.methodLink own i ⟨"java/lang/String", "<init>", "([C)V"⟩).before a0 Z = true) (w2 : (Cond.instanceMethod ⟨"java/lang/String", "<init>", "([C)V"⟩).before a0 Z = true)
    (E : Exa Z h x "java/lang/String") (V : Fld Z h x "java/lang/String" "value" "[B" v0) (Cd : Fld Z h x "java/lang/String" "coder" "B" c0) (K : Arv Z h b kC .char N (cs.map Value.int) d) (S : Sta Z h "java/lang/String" "COMPACT_STRINGS" "Z" (.int z)) (hz : ¬ z = 0) (hlen : cs.length = len) (hN : N = Int32.ofNat len) (l0 : 0 < len) (l2 : len ≤ 4000) (hp : ∀ c ∈ cs, ¬ c < 0 ∧ ¬ (255 : Int32) < c) (hx0 : n0 ≤ x) (hh0 : n0 ≤ h.size)
    (hfr : 4 ≤ R.frames) (hlo : W + 65 ≤ R.locals) (hk : k + 1 = k') (hn : n + len = n') (hkR : k' ≤ R.cells) (hnR : n' ≤ R.slots) (hsz : L.size = ml) (hW : (rest.map fun v => v.category).sum = W) (hd : decode bytes pc = .ok (.invokespecial i, 3)) (hq : pc + 3 = q)
    (r : ∀ T' h', St p l e R s m args below meth c n0 T' h' k' n' → Keep h h' [x] → Str Z h' x cs → Goes p e below G (T'.setTop (mkF m q L rest))) : Goes p e below G (T.setTop (mkF m pc L (.ref b :: .ref x :: rest))) := by
  refine g_callIb C X (y := ⟨"java/lang/String", "<init>", "([C)V"⟩) (a := x) (by decide) rfl w1 w2 (hwS _ (List.mem_cons_self ..)) (StrChars.Road.backV (W := W) C.2.1 hwS (kI := 4) wi (bs := cs.map (fun c => c.toInt8.toInt32)) hx0 hh0 E V Cd K S hz hlen hN l0 l2 hp rfl hfr hlo) hk hn hkR hnR hsz (show parseMethodDescriptor "([C)V" = some ⟨[.array .char], none⟩ by decide +kernel) (argsL := [.ref b]) rfl (rest := rest) rfl rfl hW hd hq ?_
  rintro v T' h' L' hX ⟨rfl, hFr, K', E', C', t, kb, -, -, -, V', A'⟩
  subst hlen hN
  exact r T' h' (hX.resolve_right fun z => z hFr) K' ⟨t, kb, E', V', C', A', hp, l2⟩
theorem g_strEq (C : Cx p s m meth c Z own bytes ml rt mn) (X : St p l e R s m args below meth c n0 T h k n) {i W : Nat} {z : Int32} (hwE : ∀ d ∈ StrChars.Road.wordsEq, d.before a0 Z = true) (wi : (Cond.instantiable "java/lang/String" 4).before a0 Z = true) (w1 : (Cond.methodLink own i ⟨"java/lang/String", "equals", "(Ljava/lang/Object;)Z"⟩).before a0 Z = true) (w2 : (Cond.declares ⟨"java/lang/String", "equals", "(Ljava/lang/Object;)Z"⟩).before a0 Z = true) (w3 : (Cond.selects "java/lang/String" ⟨"java/lang/String", "equals", "(Ljava/lang/Object;)Z"⟩ ⟨"java/lang/String", "equals", "(Ljava/lang/Object;)Z"⟩).before a0 Z = true) (w4 : (Cond.instanceMethod ⟨"java/lang/String", "equals", "(Ljava/lang/Object;)Z"⟩).before a0 Z = true)
    (F : Str Z h x cs) (F' : Str Z h y ds) (S : Sta Z h "java/lang/String" "COMPACT_STRINGS" "Z" (.int z)) (hz : ¬ z = 0) (hfr : 2 ≤ R.frames) (hlo : W + 28 ≤ R.locals) (hkR : k ≤ R.cells) (hnR : n ≤ R.slots) (hsz : L.size = ml) (hW : (rest.map fun v => v.category).sum = W) (hd : decode bytes pc = .ok (.invokevirtual i, 3)) (hq : pc + 3 = q)
    (r : ∀ T', St p l e R s m args below meth c n0 T' h k n → Goes p e below G (T'.setTop (mkF m q L (.int (if cs = ds then 1 else 0) :: rest)))) : Goes p e below G (T.setTop (mkF m pc L (.ref y :: .ref x :: rest))) := by
  obtain ⟨t, kb, E, V, Cd, K, hr, l2⟩ := F
  obtain ⟨t', kb', E', V', Cd', K', hr', l2'⟩ := F'
  refine g_callVb C X (QL := fun v h' L => ((v = some (.int 1) ∧ cs = ds) ∨ (v = some (.int 0) ∧ ¬ cs = ds)) ∧ L = [] ∧ h' = h) (kc := 0) (ks := 0) (y := ⟨"java/lang/String", "equals", "(Ljava/lang/Object;)Z"⟩) (z := ⟨"java/lang/String", "equals", "(Ljava/lang/Object;)Z"⟩) (a := x) (by decide) w1 w2 w3 w4 (nf_sel w3) E (StrChars.Road.eqW (W := W) C.2.1 hwE (kI := 4) wi E V Cd K (Str.cod hr) (Str.up hr) l2 E' V' Cd' K' (Str.cod hr') (Str.up hr') l2' S hz hfr hlo) (k' := k) rfl (n' := n) rfl hkR hnR hsz (show parseMethodDescriptor "(Ljava/lang/Object;)Z" = some ⟨[.object "java/lang/Object"], some .boolean⟩ by decide +kernel) (argsL := [.ref y]) rfl (rest := rest) rfl rfl hW hd hq ?_
  rintro v T' h' L' hX ⟨hv, rfl, rfl⟩
  have r' := r T' (hX.resolve_right fun z => z (Fr.nil _))
  rcases hv with ⟨rfl, hcd⟩ | ⟨rfl, hcd⟩
  · rw [if_pos hcd] at r'; exact r'
  · rw [if_neg hcd] at r'; exact r'
end OwnStr
theorem own_safeY {Z : State} {EL : List (String × Nat)} {vm : Vm} {h : Heap} {o : Addr} {ty : FieldType} (hal : Z.vm.Alike vm) (Y : Yar Z h o ty) (ht : ty ≠ .byte) : Safe Z EL vm h o := by obtain ⟨c, A⟩ := Y; exact Safe.arr hal A ht
theorem own_safeN {Z : State} {EL : List (String × Nat)} {vm : Vm} {h : Heap} {x : Addr} (hal : Z.vm.Alike vm) (E : Exa Z h x "java/lang/String") (F : Fld Z h x "java/lang/String" "value" "[B" .null) : Safe Z EL vm h x := fun B => by
  obtain ⟨p, -, u, a, -, q, -, G, rfl | rfl⟩ := B
  · obtain ⟨cell, cf, k, i, f, h1, h2, h3, h4, h5, h6, h7⟩ := F
    cases (show h[q.sa]? = some q.sC from G.ha).symm.trans h1
    obtain ⟨cS, ⟨⟨-, -, -, ⟨c1, k1, i1, f1, -⟩, -, -, -, v1, -⟩, -⟩, -⟩ := G
    obtain ⟨k3, e3, -⟩ := State.fieldFound?_setVm (s := Z) hal h2
    have e4 := (show (Wst Z vm h).fieldFound? _ _ _ = _ from e3).symm.trans f1
    simp only [Option.some.injEq, Prod.mk.injEq] at e4
    rw [← e4.2.2.2, h7] at v1
    simp at v1
  · obtain ⟨cell, k, e1, e2, e3, -, -⟩ := E
    cases (show h[q.sd]? = some q.SA from G.hd).symm.trans e1
    obtain ⟨cS, -, -, f, -⟩ := G
    have f' : Z.vm.findClass "[B" = some q.SA.cls := by rw [← hal.findClass]; exact f
    obtain ⟨k1, q1, q2⟩ := Vm.findClass_spec f'
    obtain ⟨k2, q3, q4⟩ := Vm.findClass_spec e2
    cases q1.symm.trans q3
    exact absurd (q2.symm.trans q4) (by decide)
def Wd (Z : State) (a_ASC : Addr) (a_DESC : Addr) (cz : Int32) : Prop := Sta Z Z.heap "com/example/sober_repository/soberrepository/Sort$Direction" "ASC" "Lcom/example/sober_repository/soberrepository/Sort$Direction;" (.ref a_ASC) ∧ Exa Z Z.heap a_ASC "com/example/sober_repository/soberrepository/Sort$Direction" ∧ Sta Z Z.heap "com/example/sober_repository/soberrepository/Sort$Direction" "DESC" "Lcom/example/sober_repository/soberrepository/Sort$Direction;" (.ref a_DESC) ∧ Exa Z Z.heap a_DESC "com/example/sober_repository/soberrepository/Sort$Direction" ∧ Fld Z Z.heap a_ASC "java/lang/Enum" "ordinal" "I" (.int (0 : Int32)) ∧ Fld Z Z.heap a_DESC "java/lang/Enum" "ordinal" "I" (.int (1 : Int32)) ∧ Sta Z Z.heap "java/lang/String" "COMPACT_STRINGS" "Z" (.int cz) ∧ ¬ cz = 0
theorem own_words {Z : State} {a0 : Array Value} (hw : ∀ d ∈ tables_1, d.before a0 Z = true) : ∀ d ∈ StrChars.Road.words, d.before a0 Z = true := fun d hd => hw d ((by decide +kernel : ∀ d ∈ StrChars.Road.words, d ∈ tables_1) d hd)
theorem own_wordsEq {Z : State} {a0 : Array Value} (hw : ∀ d ∈ tables_1, d.before a0 Z = true) : ∀ d ∈ StrChars.Road.wordsEq, d.before a0 Z = true := fun d hd => hw d ((by decide +kernel : ∀ d ∈ StrChars.Road.wordsEq, d ∈ tables_1) d hd)

theorem w1 {Z : State} {a0 : Array Value} (hw : ∀ d ∈ tables_1, d.before a0 Z = true) : (Jvm.Cond.initialized "com/example/sober_repository/soberrepository/Sort$Direction").before a0 Z = true := hw _ (List.mem_of_getElem? (i := 1) rfl)
theorem w2 {Z : State} {a0 : Array Value} (hw : ∀ d ∈ tables_1, d.before a0 Z = true) : (Jvm.Cond.laysStatic "com/example/sober_repository/soberrepository/Sort$Direction" "ASC" "Lcom/example/sober_repository/soberrepository/Sort$Direction;").before a0 Z = true := hw _ (List.mem_of_getElem? (i := 2) rfl)
theorem w84 {Z : State} {a0 : Array Value} (hw : ∀ d ∈ tables_1, d.before a0 Z = true) : (Jvm.Cond.laysStatic "com/example/sober_repository/soberrepository/Sort$Direction" "DESC" "Lcom/example/sober_repository/soberrepository/Sort$Direction;").before a0 Z = true := hw _ (List.mem_of_getElem? (i := 84) rfl)
theorem d7_0 : decode method_5_code 0 = .ok (.iload_n 0, 1) := by decide +kernel
theorem d7_1 : decode method_5_code 1 = .ok (.iload_n 2, 1) := by decide +kernel
theorem d7_2 : decode method_5_code 2 = .ok (.if_icmp .eq 5, 3) := by decide +kernel
theorem d7_7 : decode method_5_code 7 = .ok (.iconst 0, 1) := by decide +kernel
theorem d7_8 : decode method_5_code 8 = .ok (.istore 4, 2) := by decide +kernel
theorem d7_10 : decode method_5_code 10 = .ok (.iload_n 0, 1) := by decide +kernel
theorem d7_11 : decode method_5_code 11 = .ok (.iconst 1, 1) := by decide +kernel
theorem d7_12 : decode method_5_code 12 = .ok (.if_icmp .ne 8, 3) := by decide +kernel
theorem d7_15 : decode method_5_code 15 = .ok (.sipush 255, 3) := by decide +kernel
theorem d7_18 : decode method_5_code 18 = .ok (.istore 4, 2) := by decide +kernel
theorem d7_20 : decode method_5_code 20 = .ok (.iload_n 0, 1) := by decide +kernel
theorem d7_21 : decode method_5_code 21 = .ok (.iconst 2, 1) := by decide +kernel
theorem d7_22 : decode method_5_code 22 = .ok (.if_icmp .ne 7, 3) := by decide +kernel
theorem d7_25 : decode method_5_code 25 = .ok (.ldc 44, 2) := by decide +kernel
theorem w88 {Z : State} {a0 : Array Value} (hw : ∀ d ∈ tables_1, d.before a0 Z = true) : (Jvm.Cond.constant "com/example/sober_repository/soberrepository/OrderEqualsPinLaw" (44 : Nat) (65535 : Int32)).before a0 Z = true := hw _ (List.mem_of_getElem? (i := 88) rfl)
theorem d7_27 : decode method_5_code 27 = .ok (.istore 4, 2) := by decide +kernel
theorem d7_29 : decode method_5_code 29 = .ok (.iload_n 0, 1) := by decide +kernel
theorem d7_30 : decode method_5_code 30 = .ok (.iconst 3, 1) := by decide +kernel
theorem d7_31 : decode method_5_code 31 = .ok (.if_icmp .ne 7, 3) := by decide +kernel
theorem d7_34 : decode method_5_code 34 = .ok (.ldc 45, 2) := by decide +kernel
theorem w87 {Z : State} {a0 : Array Value} (hw : ∀ d ∈ tables_1, d.before a0 Z = true) : (Jvm.Cond.constant "com/example/sober_repository/soberrepository/OrderEqualsPinLaw" (45 : Nat) (16777215 : Int32)).before a0 Z = true := hw _ (List.mem_of_getElem? (i := 87) rfl)
theorem d7_36 : decode method_5_code 36 = .ok (.istore 4, 2) := by decide +kernel
theorem d7_38 : decode method_5_code 38 = .ok (.iload_n 1, 1) := by decide +kernel
theorem d7_39 : decode method_5_code 39 = .ok (.iload 4, 2) := by decide +kernel
theorem d7_41 : decode method_5_code 41 = .ok (.iand, 1) := by decide +kernel
theorem d7_42 : decode method_5_code 42 = .ok (.iload_n 3, 1) := by decide +kernel
theorem d7_43 : decode method_5_code 43 = .ok (.iload 4, 2) := by decide +kernel
theorem d7_45 : decode method_5_code 45 = .ok (.iand, 1) := by decide +kernel
theorem d7_46 : decode method_5_code 46 = .ok (.if_icmp .ne 7, 3) := by decide +kernel
theorem d7_49 : decode method_5_code 49 = .ok (.iconst 1, 1) := by decide +kernel
theorem d7_50 : decode method_5_code 50 = .ok (.goto 4, 3) := by decide +kernel
theorem d7_54 : decode method_5_code 54 = .ok (.ireturn, 1) := by decide +kernel
theorem d7_53 : decode method_5_code 53 = .ok (.iconst 0, 1) := by decide +kernel
theorem d7_5 : decode method_5_code 5 = .ok (.iconst 0, 1) := by decide +kernel
theorem d7_6 : decode method_5_code 6 = .ok (.ireturn, 1) := by decide +kernel
theorem pn_33 : plainName "com/example/sober_repository/soberrepository/OrderEqualsPinLaw" = true := by first | (simp [plainName, overriddenIn]; done) | decide +kernel
theorem d1_0 : decode method_4_code 0 = .ok (.iload_n 0, 1) := by decide +kernel
theorem d1_1 : decode method_4_code 1 = .ok (.ifCond .ne 14, 3) := by decide +kernel
theorem d1_4 : decode method_4_code 4 = .ok (.new 35, 3) := by decide +kernel
theorem w7 {Z : State} {a0 : Array Value} (hw : ∀ d ∈ tables_1, d.before a0 Z = true) : (Jvm.Cond.classLink "com/example/sober_repository/soberrepository/OrderEqualsPinLaw" (35 : Nat) "java/lang/String").before a0 Z = true := hw _ (List.mem_of_getElem? (i := 7) rfl)
theorem w8 {Z : State} {a0 : Array Value} (hw : ∀ d ∈ tables_1, d.before a0 Z = true) : (Jvm.Cond.instantiable "java/lang/String" (4 : Nat)).before a0 Z = true := hw _ (List.mem_of_getElem? (i := 8) rfl)
theorem w9 {Z : State} {a0 : Array Value} (hw : ∀ d ∈ tables_1, d.before a0 Z = true) : (Jvm.Cond.initialized "java/lang/String").before a0 Z = true := hw _ (List.mem_of_getElem? (i := 9) rfl)
theorem w23 {Z : State} {a0 : Array Value} (hw : ∀ d ∈ tables_1, d.before a0 Z = true) : (Jvm.Cond.laysFinal "java/lang/String" "java/lang/String" "value" "[B").before a0 Z = true := hw _ (List.mem_of_getElem? (i := 23) rfl)
theorem w24 {Z : State} {a0 : Array Value} (hw : ∀ d ∈ tables_1, d.before a0 Z = true) : (Jvm.Cond.laysFinal "java/lang/String" "java/lang/String" "coder" "B").before a0 Z = true := hw _ (List.mem_of_getElem? (i := 24) rfl)
theorem d1_7 : decode method_4_code 7 = .ok (.dup, 1) := by decide +kernel
theorem d1_8 : decode method_4_code 8 = .ok (.iconst 0, 1) := by decide +kernel
theorem d1_9 : decode method_4_code 9 = .ok (.newarray .char, 2) := by decide +kernel
theorem w10 {Z : State} {a0 : Array Value} (hw : ∀ d ∈ tables_1, d.before a0 Z = true) : (Jvm.Cond.arrayClass Jvm.ClassFile.FieldType.char).before a0 Z = true := hw _ (List.mem_of_getElem? (i := 10) rfl)
theorem d1_11 : decode method_4_code 11 = .ok (.invokespecial 37, 3) := by decide +kernel
theorem w11 {Z : State} {a0 : Array Value} (hw : ∀ d ∈ tables_1, d.before a0 Z = true) : (Jvm.Cond.methodLink "com/example/sober_repository/soberrepository/OrderEqualsPinLaw" (37 : Nat) ({ cls := "java/lang/String", name := "<init>", desc := "([C)V" } : Jvm.MethodName)).before a0 Z = true := hw _ (List.mem_of_getElem? (i := 11) rfl)
theorem d2_0 : decode jdk_42_method_3_code 0 = .ok (.aload_n 0, 1) := by decide +kernel
theorem d2_1 : decode jdk_42_method_3_code 1 = .ok (.aload_n 1, 1) := by decide +kernel
theorem d2_2 : decode jdk_42_method_3_code 2 = .ok (.iconst 0, 1) := by decide +kernel
theorem d2_3 : decode jdk_42_method_3_code 3 = .ok (.aload_n 1, 1) := by decide +kernel
theorem d2_4 : decode jdk_42_method_3_code 4 = .ok (.arraylength, 1) := by decide +kernel
theorem d2_5 : decode jdk_42_method_3_code 5 = .ok (.aconst_null, 1) := by decide +kernel
theorem d2_6 : decode jdk_42_method_3_code 6 = .ok (.invokespecial 27, 3) := by decide +kernel
theorem w14 {Z : State} {a0 : Array Value} (hw : ∀ d ∈ tables_1, d.before a0 Z = true) : (Jvm.Cond.methodLink "java/lang/String" (27 : Nat) ({ cls := "java/lang/String", name := "<init>", desc := "([CIILjava/lang/Void;)V" } : Jvm.MethodName)).before a0 Z = true := hw _ (List.mem_of_getElem? (i := 14) rfl)
theorem d3_0 : decode jdk_42_method_149_code 0 = .ok (.aload_n 0, 1) := by decide +kernel
theorem d3_1 : decode jdk_42_method_149_code 1 = .ok (.invokespecial 1, 3) := by decide +kernel
theorem w18 {Z : State} {a0 : Array Value} (hw : ∀ d ∈ tables_1, d.before a0 Z = true) : (Jvm.Cond.methodLink "java/lang/String" (1 : Nat) ({ cls := "java/lang/Object", name := "<init>", desc := "()V" } : Jvm.MethodName)).before a0 Z = true := hw _ (List.mem_of_getElem? (i := 18) rfl)
theorem w19 {Z : State} {a0 : Array Value} (hw : ∀ d ∈ tables_1, d.before a0 Z = true) : (Jvm.Cond.instanceMethod ({ cls := "java/lang/Object", name := "<init>", desc := "()V" } : Jvm.MethodName)).before a0 Z = true := hw _ (List.mem_of_getElem? (i := 19) rfl)
theorem w20 {Z : State} {a0 : Array Value} (hw : ∀ d ∈ tables_1, d.before a0 Z = true) : (Jvm.Cond.code ({ cls := "java/lang/Object", name := "<init>", desc := "()V" } : Jvm.MethodName) object_method_1_code (1 : Nat) (Option.none : Option Jvm.ClassFile.FieldType)).before a0 Z = true := hw _ (List.mem_of_getElem? (i := 20) rfl)
theorem d3_4 : decode jdk_42_method_149_code 4 = .ok (.iload_n 3, 1) := by decide +kernel
theorem d3_5 : decode jdk_42_method_149_code 5 = .ok (.ifCond .ne 22, 3) := by decide +kernel
theorem d3_8 : decode jdk_42_method_149_code 8 = .ok (.aload_n 0, 1) := by decide +kernel
theorem d3_9 : decode jdk_42_method_149_code 9 = .ok (.ldc 7, 2) := by decide +kernel
theorem w21 {Z : State} {a0 : Array Value} (hw : ∀ d ∈ tables_1, d.before a0 Z = true) : (Jvm.Cond.stringLink "java/lang/String" (7 : Nat) "").before a0 Z = true := hw _ (List.mem_of_getElem? (i := 21) rfl)
theorem d3_11 : decode jdk_42_method_149_code 11 = .ok (.getfield 9, 3) := by decide +kernel
theorem w27 {Z : State} {a0 : Array Value} (hw : ∀ d ∈ tables_1, d.before a0 Z = true) : (Jvm.Cond.fieldLink "java/lang/String" (9 : Nat) "java/lang/String" "value" "[B").before a0 Z = true := hw _ (List.mem_of_getElem? (i := 27) rfl)
theorem d3_14 : decode jdk_42_method_149_code 14 = .ok (.putfield 9, 3) := by decide +kernel
theorem d3_17 : decode jdk_42_method_149_code 17 = .ok (.aload_n 0, 1) := by decide +kernel
theorem d3_18 : decode jdk_42_method_149_code 18 = .ok (.ldc 7, 2) := by decide +kernel
theorem d3_20 : decode jdk_42_method_149_code 20 = .ok (.getfield 15, 3) := by decide +kernel
theorem w28 {Z : State} {a0 : Array Value} (hw : ∀ d ∈ tables_1, d.before a0 Z = true) : (Jvm.Cond.fieldLink "java/lang/String" (15 : Nat) "java/lang/String" "coder" "B").before a0 Z = true := hw _ (List.mem_of_getElem? (i := 28) rfl)
theorem d3_23 : decode jdk_42_method_149_code 23 = .ok (.putfield 15, 3) := by decide +kernel
theorem d3_26 : decode jdk_42_method_149_code 26 = .ok (.return_, 1) := by decide +kernel
theorem pn_61 : plainName "java/lang/String" = true := by first | (simp [plainName, overriddenIn]; done) | decide +kernel
theorem w17 {Z : State} {a0 : Array Value} (hw : ∀ d ∈ tables_1, d.before a0 Z = true) : (Jvm.Cond.code ({ cls := "java/lang/String", name := "<init>", desc := "([CIILjava/lang/Void;)V" } : Jvm.MethodName) jdk_42_method_149_code (6 : Nat) (Option.none : Option Jvm.ClassFile.FieldType)).before a0 Z = true := hw _ (List.mem_of_getElem? (i := 17) rfl)
theorem pd_62 : parseMethodDescriptor "([CIILjava/lang/Void;)V" = some ⟨[(.array .char), .int, .int, (.object "java/lang/Void")], none⟩ := by decide +kernel
theorem w15 {Z : State} {a0 : Array Value} (hw : ∀ d ∈ tables_1, d.before a0 Z = true) : (Jvm.Cond.instanceMethod ({ cls := "java/lang/String", name := "<init>", desc := "([CIILjava/lang/Void;)V" } : Jvm.MethodName)).before a0 Z = true := hw _ (List.mem_of_getElem? (i := 15) rfl)
theorem d2_9 : decode jdk_42_method_3_code 9 = .ok (.return_, 1) := by decide +kernel
theorem w13 {Z : State} {a0 : Array Value} (hw : ∀ d ∈ tables_1, d.before a0 Z = true) : (Jvm.Cond.code ({ cls := "java/lang/String", name := "<init>", desc := "([C)V" } : Jvm.MethodName) jdk_42_method_3_code (2 : Nat) (Option.none : Option Jvm.ClassFile.FieldType)).before a0 Z = true := hw _ (List.mem_of_getElem? (i := 13) rfl)
theorem pd_64 : parseMethodDescriptor "([C)V" = some ⟨[(.array .char)], none⟩ := by decide +kernel
theorem w12 {Z : State} {a0 : Array Value} (hw : ∀ d ∈ tables_1, d.before a0 Z = true) : (Jvm.Cond.instanceMethod ({ cls := "java/lang/String", name := "<init>", desc := "([C)V" } : Jvm.MethodName)).before a0 Z = true := hw _ (List.mem_of_getElem? (i := 12) rfl)
theorem d1_14 : decode method_4_code 14 = .ok (.areturn, 1) := by decide +kernel
theorem d1_15 : decode method_4_code 15 = .ok (.iload_n 0, 1) := by decide +kernel
theorem d1_16 : decode method_4_code 16 = .ok (.iconst 1, 1) := by decide +kernel
theorem d1_17 : decode method_4_code 17 = .ok (.if_icmp .ne 22, 3) := by decide +kernel
theorem d1_20 : decode method_4_code 20 = .ok (.new 35, 3) := by decide +kernel
theorem d1_23 : decode method_4_code 23 = .ok (.dup, 1) := by decide +kernel
theorem d1_24 : decode method_4_code 24 = .ok (.iconst 1, 1) := by decide +kernel
theorem d1_25 : decode method_4_code 25 = .ok (.newarray .char, 2) := by decide +kernel
theorem d1_27 : decode method_4_code 27 = .ok (.dup, 1) := by decide +kernel
theorem d1_28 : decode method_4_code 28 = .ok (.iconst 0, 1) := by decide +kernel
theorem d1_29 : decode method_4_code 29 = .ok (.iload_n 1, 1) := by decide +kernel
theorem d1_30 : decode method_4_code 30 = .ok (.iconst 0, 1) := by decide +kernel
theorem d1_31 : decode method_4_code 31 = .ok (.invokestatic 40, 3) := by decide +kernel
theorem w70 {Z : State} {a0 : Array Value} (hw : ∀ d ∈ tables_1, d.before a0 Z = true) : (Jvm.Cond.methodLink "com/example/sober_repository/soberrepository/OrderEqualsPinLaw" (40 : Nat) ({ cls := "com/example/sober_repository/soberrepository/OrderEqualsPinLaw", name := "ch", desc := "(II)C" } : Jvm.MethodName)).before a0 Z = true := hw _ (List.mem_of_getElem? (i := 70) rfl)
theorem d11_0 : decode method_3_code 0 = .ok (.iload_n 0, 1) := by decide +kernel
theorem d11_1 : decode method_3_code 1 = .ok (.bipush 8, 2) := by decide +kernel
theorem d11_3 : decode method_3_code 3 = .ok (.iload_n 1, 1) := by decide +kernel
theorem d11_4 : decode method_3_code 4 = .ok (.imul, 1) := by decide +kernel
theorem d11_5 : decode method_3_code 5 = .ok (.iushr, 1) := by decide +kernel
theorem d11_6 : decode method_3_code 6 = .ok (.sipush 255, 3) := by decide +kernel
theorem d11_9 : decode method_3_code 9 = .ok (.iand, 1) := by decide +kernel
theorem d11_10 : decode method_3_code 10 = .ok (.i2c, 1) := by decide +kernel
theorem d11_11 : decode method_3_code 11 = .ok (.ireturn, 1) := by decide +kernel
theorem w72 {Z : State} {a0 : Array Value} (hw : ∀ d ∈ tables_1, d.before a0 Z = true) : (Jvm.Cond.code ({ cls := "com/example/sober_repository/soberrepository/OrderEqualsPinLaw", name := "ch", desc := "(II)C" } : Jvm.MethodName) method_3_code (2 : Nat) (Option.some Jvm.ClassFile.FieldType.char)).before a0 Z = true := hw _ (List.mem_of_getElem? (i := 72) rfl)
theorem w5 {Z : State} {a0 : Array Value} (hw : ∀ d ∈ tables_1, d.before a0 Z = true) : (Jvm.Cond.initialized "com/example/sober_repository/soberrepository/OrderEqualsPinLaw").before a0 Z = true := hw _ (List.mem_of_getElem? (i := 5) rfl)
theorem pd_87 : parseMethodDescriptor "(II)C" = some ⟨[.int, .int], some .char⟩ := by decide +kernel
theorem w71 {Z : State} {a0 : Array Value} (hw : ∀ d ∈ tables_1, d.before a0 Z = true) : (Jvm.Cond.static ({ cls := "com/example/sober_repository/soberrepository/OrderEqualsPinLaw", name := "ch", desc := "(II)C" } : Jvm.MethodName)).before a0 Z = true := hw _ (List.mem_of_getElem? (i := 71) rfl)
theorem d1_34 : decode method_4_code 34 = .ok (.castore, 1) := by decide +kernel
theorem d1_35 : decode method_4_code 35 = .ok (.invokespecial 37, 3) := by decide +kernel
theorem d1_38 : decode method_4_code 38 = .ok (.areturn, 1) := by decide +kernel
theorem d1_39 : decode method_4_code 39 = .ok (.iload_n 0, 1) := by decide +kernel
theorem d1_40 : decode method_4_code 40 = .ok (.iconst 2, 1) := by decide +kernel
theorem d1_41 : decode method_4_code 41 = .ok (.if_icmp .ne 30, 3) := by decide +kernel
theorem d1_44 : decode method_4_code 44 = .ok (.new 35, 3) := by decide +kernel
theorem d1_47 : decode method_4_code 47 = .ok (.dup, 1) := by decide +kernel
theorem d1_48 : decode method_4_code 48 = .ok (.iconst 2, 1) := by decide +kernel
theorem d1_49 : decode method_4_code 49 = .ok (.newarray .char, 2) := by decide +kernel
theorem d1_51 : decode method_4_code 51 = .ok (.dup, 1) := by decide +kernel
theorem d1_52 : decode method_4_code 52 = .ok (.iconst 0, 1) := by decide +kernel
theorem d1_53 : decode method_4_code 53 = .ok (.iload_n 1, 1) := by decide +kernel
theorem d1_54 : decode method_4_code 54 = .ok (.iconst 0, 1) := by decide +kernel
theorem d1_55 : decode method_4_code 55 = .ok (.invokestatic 40, 3) := by decide +kernel
theorem d1_58 : decode method_4_code 58 = .ok (.castore, 1) := by decide +kernel
theorem d1_59 : decode method_4_code 59 = .ok (.dup, 1) := by decide +kernel
theorem d1_60 : decode method_4_code 60 = .ok (.iconst 1, 1) := by decide +kernel
theorem d1_61 : decode method_4_code 61 = .ok (.iload_n 1, 1) := by decide +kernel
theorem d1_62 : decode method_4_code 62 = .ok (.iconst 1, 1) := by decide +kernel
theorem d1_63 : decode method_4_code 63 = .ok (.invokestatic 40, 3) := by decide +kernel
theorem d1_66 : decode method_4_code 66 = .ok (.castore, 1) := by decide +kernel
theorem d1_67 : decode method_4_code 67 = .ok (.invokespecial 37, 3) := by decide +kernel
theorem d1_70 : decode method_4_code 70 = .ok (.areturn, 1) := by decide +kernel
theorem d1_71 : decode method_4_code 71 = .ok (.new 35, 3) := by decide +kernel
theorem d1_74 : decode method_4_code 74 = .ok (.dup, 1) := by decide +kernel
theorem d1_75 : decode method_4_code 75 = .ok (.iconst 3, 1) := by decide +kernel
theorem d1_76 : decode method_4_code 76 = .ok (.newarray .char, 2) := by decide +kernel
theorem d1_78 : decode method_4_code 78 = .ok (.dup, 1) := by decide +kernel
theorem d1_79 : decode method_4_code 79 = .ok (.iconst 0, 1) := by decide +kernel
theorem d1_80 : decode method_4_code 80 = .ok (.iload_n 1, 1) := by decide +kernel
theorem d1_81 : decode method_4_code 81 = .ok (.iconst 0, 1) := by decide +kernel
theorem d1_82 : decode method_4_code 82 = .ok (.invokestatic 40, 3) := by decide +kernel
theorem d1_85 : decode method_4_code 85 = .ok (.castore, 1) := by decide +kernel
theorem d1_86 : decode method_4_code 86 = .ok (.dup, 1) := by decide +kernel
theorem d1_87 : decode method_4_code 87 = .ok (.iconst 1, 1) := by decide +kernel
theorem d1_88 : decode method_4_code 88 = .ok (.iload_n 1, 1) := by decide +kernel
theorem d1_89 : decode method_4_code 89 = .ok (.iconst 1, 1) := by decide +kernel
theorem d1_90 : decode method_4_code 90 = .ok (.invokestatic 40, 3) := by decide +kernel
theorem d1_93 : decode method_4_code 93 = .ok (.castore, 1) := by decide +kernel
theorem d1_94 : decode method_4_code 94 = .ok (.dup, 1) := by decide +kernel
theorem d1_95 : decode method_4_code 95 = .ok (.iconst 2, 1) := by decide +kernel
theorem d1_96 : decode method_4_code 96 = .ok (.iload_n 1, 1) := by decide +kernel
theorem d1_97 : decode method_4_code 97 = .ok (.iconst 2, 1) := by decide +kernel
theorem d1_98 : decode method_4_code 98 = .ok (.invokestatic 40, 3) := by decide +kernel
theorem d1_101 : decode method_4_code 101 = .ok (.castore, 1) := by decide +kernel
theorem d1_102 : decode method_4_code 102 = .ok (.invokespecial 37, 3) := by decide +kernel
theorem d1_105 : decode method_4_code 105 = .ok (.areturn, 1) := by decide +kernel
theorem w0 {Z : State} {a0 : Array Value} (hw : ∀ d ∈ tables_1, d.before a0 Z = true) : (Jvm.Cond.fieldLink "com/example/sober_repository/soberrepository/OrderEqualsPinLaw" (13 : Nat) "com/example/sober_repository/soberrepository/Sort$Direction" "ASC" "Lcom/example/sober_repository/soberrepository/Sort$Direction;").before a0 Z = true := hw _ (List.mem_of_getElem? (i := 0) rfl)
theorem w3 {Z : State} {a0 : Array Value} (hw : ∀ d ∈ tables_1, d.before a0 Z = true) : (Jvm.Cond.methodLink "com/example/sober_repository/soberrepository/OrderEqualsPinLaw" (16 : Nat) ({ cls := "com/example/sober_repository/soberrepository/OrderEqualsPinLaw", name := "mk", desc := "(II)Ljava/lang/String;" } : Jvm.MethodName)).before a0 Z = true := hw _ (List.mem_of_getElem? (i := 3) rfl)
theorem w6 {Z : State} {a0 : Array Value} (hw : ∀ d ∈ tables_1, d.before a0 Z = true) : (Jvm.Cond.code ({ cls := "com/example/sober_repository/soberrepository/OrderEqualsPinLaw", name := "mk", desc := "(II)Ljava/lang/String;" } : Jvm.MethodName) method_4_code (2 : Nat) (Option.some (Jvm.ClassFile.FieldType.object "java/lang/String"))).before a0 Z = true := hw _ (List.mem_of_getElem? (i := 6) rfl)
theorem pd_136 : parseMethodDescriptor "(II)Ljava/lang/String;" = some ⟨[.int, .int], some (.object "java/lang/String")⟩ := by decide +kernel
theorem w4 {Z : State} {a0 : Array Value} (hw : ∀ d ∈ tables_1, d.before a0 Z = true) : (Jvm.Cond.static ({ cls := "com/example/sober_repository/soberrepository/OrderEqualsPinLaw", name := "mk", desc := "(II)Ljava/lang/String;" } : Jvm.MethodName)).before a0 Z = true := hw _ (List.mem_of_getElem? (i := 4) rfl)
theorem w29 {Z : State} {a0 : Array Value} (hw : ∀ d ∈ tables_1, d.before a0 Z = true) : (Jvm.Cond.classLink "com/example/sober_repository/soberrepository/OrderEqualsPinLaw" (22 : Nat) "com/example/sober_repository/soberrepository/Sort$Order").before a0 Z = true := hw _ (List.mem_of_getElem? (i := 29) rfl)
theorem w30 {Z : State} {a0 : Array Value} (hw : ∀ d ∈ tables_1, d.before a0 Z = true) : (Jvm.Cond.instantiable "com/example/sober_repository/soberrepository/Sort$Order" (2 : Nat)).before a0 Z = true := hw _ (List.mem_of_getElem? (i := 30) rfl)
theorem w31 {Z : State} {a0 : Array Value} (hw : ∀ d ∈ tables_1, d.before a0 Z = true) : (Jvm.Cond.initialized "com/example/sober_repository/soberrepository/Sort$Order").before a0 Z = true := hw _ (List.mem_of_getElem? (i := 31) rfl)
theorem w44 {Z : State} {a0 : Array Value} (hw : ∀ d ∈ tables_1, d.before a0 Z = true) : (Jvm.Cond.laysFinal "com/example/sober_repository/soberrepository/Sort$Order" "com/example/sober_repository/soberrepository/Sort$Order" "_direction" "Lcom/example/sober_repository/soberrepository/Sort$Direction;").before a0 Z = true := hw _ (List.mem_of_getElem? (i := 44) rfl)
theorem w48 {Z : State} {a0 : Array Value} (hw : ∀ d ∈ tables_1, d.before a0 Z = true) : (Jvm.Cond.laysFinal "com/example/sober_repository/soberrepository/Sort$Order" "com/example/sober_repository/soberrepository/Sort$Order" "_property" "Ljava/lang/String;").before a0 Z = true := hw _ (List.mem_of_getElem? (i := 48) rfl)
theorem w32 {Z : State} {a0 : Array Value} (hw : ∀ d ∈ tables_1, d.before a0 Z = true) : (Jvm.Cond.methodLink "com/example/sober_repository/soberrepository/OrderEqualsPinLaw" (24 : Nat) ({ cls := "com/example/sober_repository/soberrepository/Sort$Order", name := "<init>", desc := "(Lcom/example/sober_repository/soberrepository/Sort$Direction;Ljava/lang/String;)V" } : Jvm.MethodName)).before a0 Z = true := hw _ (List.mem_of_getElem? (i := 32) rfl)
theorem d5_0 : decode prog_53_method_1_code 0 = .ok (.aload_n 0, 1) := by decide +kernel
theorem d5_1 : decode prog_53_method_1_code 1 = .ok (.invokespecial 1, 3) := by decide +kernel
theorem w35 {Z : State} {a0 : Array Value} (hw : ∀ d ∈ tables_1, d.before a0 Z = true) : (Jvm.Cond.methodLink "com/example/sober_repository/soberrepository/Sort$Order" (1 : Nat) ({ cls := "java/lang/Object", name := "<init>", desc := "()V" } : Jvm.MethodName)).before a0 Z = true := hw _ (List.mem_of_getElem? (i := 35) rfl)
theorem d5_4 : decode prog_53_method_1_code 4 = .ok (.aload_n 0, 1) := by decide +kernel
theorem d5_5 : decode prog_53_method_1_code 5 = .ok (.aload_n 1, 1) := by decide +kernel
theorem d5_6 : decode prog_53_method_1_code 6 = .ok (.ldc 7, 2) := by decide +kernel
theorem w36 {Z : State} {a0 : Array Value} (hw : ∀ d ∈ tables_1, d.before a0 Z = true) : (Jvm.Cond.stringLink "com/example/sober_repository/soberrepository/Sort$Order" (7 : Nat) "direction").before a0 Z = true := hw _ (List.mem_of_getElem? (i := 36) rfl)
theorem d5_8 : decode prog_53_method_1_code 8 = .ok (.invokestatic 9, 3) := by decide +kernel
theorem w37 {Z : State} {a0 : Array Value} (hw : ∀ d ∈ tables_1, d.before a0 Z = true) : (Jvm.Cond.methodLink "com/example/sober_repository/soberrepository/Sort$Order" (9 : Nat) ({ cls := "java/util/Objects", name := "requireNonNull", desc := "(Ljava/lang/Object;Ljava/lang/String;)Ljava/lang/Object;" } : Jvm.MethodName)).before a0 Z = true := hw _ (List.mem_of_getElem? (i := 37) rfl)
theorem d6_0 : decode jdk_31_method_11_code 0 = .ok (.aload_n 0, 1) := by decide +kernel
theorem d6_1 : decode jdk_31_method_11_code 1 = .ok (.ifnonnull 12, 3) := by decide +kernel
theorem d6_13 : decode jdk_31_method_11_code 13 = .ok (.aload_n 0, 1) := by decide +kernel
theorem d6_14 : decode jdk_31_method_11_code 14 = .ok (.areturn, 1) := by decide +kernel
theorem pn_147 : plainName "java/util/Objects" = true := by first | (simp [plainName, overriddenIn]; done) | decide +kernel
theorem w40 {Z : State} {a0 : Array Value} (hw : ∀ d ∈ tables_1, d.before a0 Z = true) : (Jvm.Cond.code ({ cls := "java/util/Objects", name := "requireNonNull", desc := "(Ljava/lang/Object;Ljava/lang/String;)Ljava/lang/Object;" } : Jvm.MethodName) jdk_31_method_11_code (2 : Nat) (Option.some (Jvm.ClassFile.FieldType.object "java/lang/Object"))).before a0 Z = true := hw _ (List.mem_of_getElem? (i := 40) rfl)
theorem w39 {Z : State} {a0 : Array Value} (hw : ∀ d ∈ tables_1, d.before a0 Z = true) : (Jvm.Cond.initialized "java/util/Objects").before a0 Z = true := hw _ (List.mem_of_getElem? (i := 39) rfl)
theorem pd_148 : parseMethodDescriptor "(Ljava/lang/Object;Ljava/lang/String;)Ljava/lang/Object;" = some ⟨[(.object "java/lang/Object"), (.object "java/lang/String")], some (.object "java/lang/Object")⟩ := by decide +kernel
theorem w38 {Z : State} {a0 : Array Value} (hw : ∀ d ∈ tables_1, d.before a0 Z = true) : (Jvm.Cond.static ({ cls := "java/util/Objects", name := "requireNonNull", desc := "(Ljava/lang/Object;Ljava/lang/String;)Ljava/lang/Object;" } : Jvm.MethodName)).before a0 Z = true := hw _ (List.mem_of_getElem? (i := 38) rfl)
theorem d5_11 : decode prog_53_method_1_code 11 = .ok (.checkcast 15, 3) := by decide +kernel
theorem w41 {Z : State} {a0 : Array Value} (hw : ∀ d ∈ tables_1, d.before a0 Z = true) : (Jvm.Cond.classLink "com/example/sober_repository/soberrepository/Sort$Order" (15 : Nat) "com/example/sober_repository/soberrepository/Sort$Direction").before a0 Z = true := hw _ (List.mem_of_getElem? (i := 41) rfl)
theorem d5_14 : decode prog_53_method_1_code 14 = .ok (.putfield 17, 3) := by decide +kernel
theorem w43 {Z : State} {a0 : Array Value} (hw : ∀ d ∈ tables_1, d.before a0 Z = true) : (Jvm.Cond.fieldLink "com/example/sober_repository/soberrepository/Sort$Order" (17 : Nat) "com/example/sober_repository/soberrepository/Sort$Order" "_direction" "Lcom/example/sober_repository/soberrepository/Sort$Direction;").before a0 Z = true := hw _ (List.mem_of_getElem? (i := 43) rfl)
theorem d5_17 : decode prog_53_method_1_code 17 = .ok (.aload_n 0, 1) := by decide +kernel
theorem d5_18 : decode prog_53_method_1_code 18 = .ok (.aload_n 2, 1) := by decide +kernel
theorem d5_19 : decode prog_53_method_1_code 19 = .ok (.ldc 23, 2) := by decide +kernel
theorem w45 {Z : State} {a0 : Array Value} (hw : ∀ d ∈ tables_1, d.before a0 Z = true) : (Jvm.Cond.stringLink "com/example/sober_repository/soberrepository/Sort$Order" (23 : Nat) "property").before a0 Z = true := hw _ (List.mem_of_getElem? (i := 45) rfl)
theorem d5_21 : decode prog_53_method_1_code 21 = .ok (.invokestatic 9, 3) := by decide +kernel
theorem d5_24 : decode prog_53_method_1_code 24 = .ok (.checkcast 25, 3) := by decide +kernel
theorem w46 {Z : State} {a0 : Array Value} (hw : ∀ d ∈ tables_1, d.before a0 Z = true) : (Jvm.Cond.classLink "com/example/sober_repository/soberrepository/Sort$Order" (25 : Nat) "java/lang/String").before a0 Z = true := hw _ (List.mem_of_getElem? (i := 46) rfl)
theorem d5_27 : decode prog_53_method_1_code 27 = .ok (.putfield 27, 3) := by decide +kernel
theorem w47 {Z : State} {a0 : Array Value} (hw : ∀ d ∈ tables_1, d.before a0 Z = true) : (Jvm.Cond.fieldLink "com/example/sober_repository/soberrepository/Sort$Order" (27 : Nat) "com/example/sober_repository/soberrepository/Sort$Order" "_property" "Ljava/lang/String;").before a0 Z = true := hw _ (List.mem_of_getElem? (i := 47) rfl)
theorem d5_30 : decode prog_53_method_1_code 30 = .ok (.return_, 1) := by decide +kernel
theorem pn_158 : plainName "com/example/sober_repository/soberrepository/Sort$Order" = true := by first | (simp [plainName, overriddenIn]; done) | decide +kernel
theorem w34 {Z : State} {a0 : Array Value} (hw : ∀ d ∈ tables_1, d.before a0 Z = true) : (Jvm.Cond.code ({ cls := "com/example/sober_repository/soberrepository/Sort$Order", name := "<init>", desc := "(Lcom/example/sober_repository/soberrepository/Sort$Direction;Ljava/lang/String;)V" } : Jvm.MethodName) prog_53_method_1_code (3 : Nat) (Option.none : Option Jvm.ClassFile.FieldType)).before a0 Z = true := hw _ (List.mem_of_getElem? (i := 34) rfl)
theorem pd_159 : parseMethodDescriptor "(Lcom/example/sober_repository/soberrepository/Sort$Direction;Ljava/lang/String;)V" = some ⟨[(.object "com/example/sober_repository/soberrepository/Sort$Direction"), (.object "java/lang/String")], none⟩ := by decide +kernel
theorem w33 {Z : State} {a0 : Array Value} (hw : ∀ d ∈ tables_1, d.before a0 Z = true) : (Jvm.Cond.instanceMethod ({ cls := "com/example/sober_repository/soberrepository/Sort$Order", name := "<init>", desc := "(Lcom/example/sober_repository/soberrepository/Sort$Direction;Ljava/lang/String;)V" } : Jvm.MethodName)).before a0 Z = true := hw _ (List.mem_of_getElem? (i := 33) rfl)
theorem w52 {Z : State} {a0 : Array Value} (hw : ∀ d ∈ tables_1, d.before a0 Z = true) : (Jvm.Cond.methodLink "com/example/sober_repository/soberrepository/OrderEqualsPinLaw" (27 : Nat) ({ cls := "com/example/sober_repository/soberrepository/Sort$Order", name := "equals", desc := "(Ljava/lang/Object;)Z" } : Jvm.MethodName)).before a0 Z = true := hw _ (List.mem_of_getElem? (i := 52) rfl)
theorem d8_0 : decode prog_53_method_6_code 0 = .ok (.aload_n 1, 1) := by decide +kernel
theorem d8_1 : decode prog_53_method_6_code 1 = .ok (.instanceof 18, 3) := by decide +kernel
theorem w57 {Z : State} {a0 : Array Value} (hw : ∀ d ∈ tables_1, d.before a0 Z = true) : (Jvm.Cond.classLink "com/example/sober_repository/soberrepository/Sort$Order" (18 : Nat) "com/example/sober_repository/soberrepository/Sort$Order").before a0 Z = true := hw _ (List.mem_of_getElem? (i := 57) rfl)
theorem d8_4 : decode prog_53_method_6_code 4 = .ok (.ifCond .eq 38, 3) := by decide +kernel
theorem d8_42 : decode prog_53_method_6_code 42 = .ok (.iconst 0, 1) := by decide +kernel
theorem d8_43 : decode prog_53_method_6_code 43 = .ok (.ireturn, 1) := by decide +kernel
theorem w56 {Z : State} {a0 : Array Value} (hw : ∀ d ∈ tables_1, d.before a0 Z = true) : (Jvm.Cond.code ({ cls := "com/example/sober_repository/soberrepository/Sort$Order", name := "equals", desc := "(Ljava/lang/Object;)Z" } : Jvm.MethodName) prog_53_method_6_code (2 : Nat) (Option.some Jvm.ClassFile.FieldType.boolean)).before a0 Z = true := hw _ (List.mem_of_getElem? (i := 56) rfl)
theorem pd_165 : parseMethodDescriptor "(Ljava/lang/Object;)Z" = some ⟨[(.object "java/lang/Object")], some .boolean⟩ := by decide +kernel
theorem w53 {Z : State} {a0 : Array Value} (hw : ∀ d ∈ tables_1, d.before a0 Z = true) : (Jvm.Cond.declares ({ cls := "com/example/sober_repository/soberrepository/Sort$Order", name := "equals", desc := "(Ljava/lang/Object;)Z" } : Jvm.MethodName)).before a0 Z = true := hw _ (List.mem_of_getElem? (i := 53) rfl)
theorem w55 {Z : State} {a0 : Array Value} (hw : ∀ d ∈ tables_1, d.before a0 Z = true) : (Jvm.Cond.selects "com/example/sober_repository/soberrepository/Sort$Order" ({ cls := "com/example/sober_repository/soberrepository/Sort$Order", name := "equals", desc := "(Ljava/lang/Object;)Z" } : Jvm.MethodName) ({ cls := "com/example/sober_repository/soberrepository/Sort$Order", name := "equals", desc := "(Ljava/lang/Object;)Z" } : Jvm.MethodName)).before a0 Z = true := hw _ (List.mem_of_getElem? (i := 55) rfl)
theorem w54 {Z : State} {a0 : Array Value} (hw : ∀ d ∈ tables_1, d.before a0 Z = true) : (Jvm.Cond.instanceMethod ({ cls := "com/example/sober_repository/soberrepository/Sort$Order", name := "equals", desc := "(Ljava/lang/Object;)Z" } : Jvm.MethodName)).before a0 Z = true := hw _ (List.mem_of_getElem? (i := 54) rfl)
theorem w86 {Z : State} {a0 : Array Value} (hw : ∀ d ∈ tables_1, d.before a0 Z = true) : (Jvm.Cond.noSuperclass "java/lang/Object").before a0 Z = true := hw _ (List.mem_of_getElem? (i := 86) rfl)
theorem w85 {Z : State} {a0 : Array Value} (hw : ∀ d ∈ tables_1, d.before a0 Z = true) : (Jvm.Cond.superclass "java/lang/String" "java/lang/Object").before a0 Z = true := hw _ (List.mem_of_getElem? (i := 85) rfl)
theorem d8_7 : decode prog_53_method_6_code 7 = .ok (.aload_n 0, 1) := by decide +kernel
theorem d8_8 : decode prog_53_method_6_code 8 = .ok (.getfield 27, 3) := by decide +kernel
theorem d8_11 : decode prog_53_method_6_code 11 = .ok (.aload_n 1, 1) := by decide +kernel
theorem d8_12 : decode prog_53_method_6_code 12 = .ok (.checkcast 18, 3) := by decide +kernel
theorem d8_15 : decode prog_53_method_6_code 15 = .ok (.getfield 27, 3) := by decide +kernel
theorem d8_18 : decode prog_53_method_6_code 18 = .ok (.invokevirtual 40, 3) := by decide +kernel
theorem w59 {Z : State} {a0 : Array Value} (hw : ∀ d ∈ tables_1, d.before a0 Z = true) : (Jvm.Cond.methodLink "com/example/sober_repository/soberrepository/Sort$Order" (40 : Nat) ({ cls := "java/lang/String", name := "equals", desc := "(Ljava/lang/Object;)Z" } : Jvm.MethodName)).before a0 Z = true := hw _ (List.mem_of_getElem? (i := 59) rfl)
theorem w60 {Z : State} {a0 : Array Value} (hw : ∀ d ∈ tables_1, d.before a0 Z = true) : (Jvm.Cond.declares ({ cls := "java/lang/String", name := "equals", desc := "(Ljava/lang/Object;)Z" } : Jvm.MethodName)).before a0 Z = true := hw _ (List.mem_of_getElem? (i := 60) rfl)
theorem w62 {Z : State} {a0 : Array Value} (hw : ∀ d ∈ tables_1, d.before a0 Z = true) : (Jvm.Cond.selects "java/lang/String" ({ cls := "java/lang/String", name := "equals", desc := "(Ljava/lang/Object;)Z" } : Jvm.MethodName) ({ cls := "java/lang/String", name := "equals", desc := "(Ljava/lang/Object;)Z" } : Jvm.MethodName)).before a0 Z = true := hw _ (List.mem_of_getElem? (i := 62) rfl)
theorem w61 {Z : State} {a0 : Array Value} (hw : ∀ d ∈ tables_1, d.before a0 Z = true) : (Jvm.Cond.instanceMethod ({ cls := "java/lang/String", name := "equals", desc := "(Ljava/lang/Object;)Z" } : Jvm.MethodName)).before a0 Z = true := hw _ (List.mem_of_getElem? (i := 61) rfl)
theorem d8_21 : decode prog_53_method_6_code 21 = .ok (.ifCond .eq 21, 3) := by decide +kernel
theorem d8_24 : decode prog_53_method_6_code 24 = .ok (.aload_n 0, 1) := by decide +kernel
theorem d8_25 : decode prog_53_method_6_code 25 = .ok (.getfield 17, 3) := by decide +kernel
theorem d8_28 : decode prog_53_method_6_code 28 = .ok (.aload_n 1, 1) := by decide +kernel
theorem d8_29 : decode prog_53_method_6_code 29 = .ok (.checkcast 18, 3) := by decide +kernel
theorem d8_32 : decode prog_53_method_6_code 32 = .ok (.getfield 17, 3) := by decide +kernel
theorem d8_35 : decode prog_53_method_6_code 35 = .ok (.if_acmp .ne 7, 3) := by decide +kernel
theorem d8_38 : decode prog_53_method_6_code 38 = .ok (.iconst 1, 1) := by decide +kernel
theorem d8_39 : decode prog_53_method_6_code 39 = .ok (.goto 4, 3) := by decide +kernel
theorem w49 {Z : State} {a0 : Array Value} (hw : ∀ d ∈ tables_1, d.before a0 Z = true) : (Jvm.Cond.methodLink "com/example/sober_repository/soberrepository/OrderEqualsPinLaw" (31 : Nat) ({ cls := "com/example/sober_repository/soberrepository/OrderEqualsPinLaw", name := "sameChars", desc := "(IIII)Z" } : Jvm.MethodName)).before a0 Z = true := hw _ (List.mem_of_getElem? (i := 49) rfl)
theorem w51 {Z : State} {a0 : Array Value} (hw : ∀ d ∈ tables_1, d.before a0 Z = true) : (Jvm.Cond.code ({ cls := "com/example/sober_repository/soberrepository/OrderEqualsPinLaw", name := "sameChars", desc := "(IIII)Z" } : Jvm.MethodName) method_5_code (5 : Nat) (Option.some Jvm.ClassFile.FieldType.boolean)).before a0 Z = true := hw _ (List.mem_of_getElem? (i := 51) rfl)
theorem pd_181 : parseMethodDescriptor "(IIII)Z" = some ⟨[.int, .int, .int, .int], some .boolean⟩ := by decide +kernel
theorem w50 {Z : State} {a0 : Array Value} (hw : ∀ d ∈ tables_1, d.before a0 Z = true) : (Jvm.Cond.static ({ cls := "com/example/sober_repository/soberrepository/OrderEqualsPinLaw", name := "sameChars", desc := "(IIII)Z" } : Jvm.MethodName)).before a0 Z = true := hw _ (List.mem_of_getElem? (i := 50) rfl)
theorem w83 {Z : State} {a0 : Array Value} (hw : ∀ d ∈ tables_1, d.before a0 Z = true) : (Jvm.Cond.fieldLink "com/example/sober_repository/soberrepository/OrderEqualsPinLaw" (7 : Nat) "com/example/sober_repository/soberrepository/Sort$Direction" "DESC" "Lcom/example/sober_repository/soberrepository/Sort$Direction;").before a0 Z = true := hw _ (List.mem_of_getElem? (i := 83) rfl)
theorem own_EL {Z : State} {a0 : Array Value} (hw : ∀ d ∈ tables_1, d.before a0 Z = true) : EW Z a0 consts_1 := (EW.cons (w36 hw) (by decide) (EW.cons (w45 hw) (by decide) (EW.cons (w21 hw) (by decide) EW.nil)))
theorem own_SA {Z : State} {a0 : Array Value} (hw : ∀ d ∈ tables_1, d.before a0 Z = true) : ∀ d ∈ Bundle.stringAtoms, d.before a0 Z = true := fun d hd => hw d ((by decide +kernel : ∀ d ∈ Bundle.stringAtoms, d ∈ tables_1) d hd)
theorem w22 {Z : State} {a0 : Array Value} (hw : ∀ d ∈ tables_1, d.before a0 Z = true) : (Jvm.Cond.arrayClass Jvm.ClassFile.FieldType.byte).before a0 Z = true := hw _ (List.mem_of_getElem? (i := 22) rfl)
def own_same (p0 : Int32) (p1 : Int32) (p2 : Int32) (p3 : Int32) : Int32 := (if p0 = p2 then (if p0 = (1 : Int32) then (if p0 = (2 : Int32) then (if p0 = (3 : Int32) then (if (p1 &&& (16777215 : Int32)) = (p3 &&& (16777215 : Int32)) then (1 : Int32) else (0 : Int32)) else (if (p1 &&& (65535 : Int32)) = (p3 &&& (65535 : Int32)) then (1 : Int32) else (0 : Int32))) else (if p0 = (3 : Int32) then (if (p1 &&& (16777215 : Int32)) = (p3 &&& (16777215 : Int32)) then (1 : Int32) else (0 : Int32)) else (if (p1 &&& (255 : Int32)) = (p3 &&& (255 : Int32)) then (1 : Int32) else (0 : Int32)))) else (if p0 = (2 : Int32) then (if p0 = (3 : Int32) then (if (p1 &&& (16777215 : Int32)) = (p3 &&& (16777215 : Int32)) then (1 : Int32) else (0 : Int32)) else (if (p1 &&& (65535 : Int32)) = (p3 &&& (65535 : Int32)) then (1 : Int32) else (0 : Int32))) else (if p0 = (3 : Int32) then (if (p1 &&& (16777215 : Int32)) = (p3 &&& (16777215 : Int32)) then (1 : Int32) else (0 : Int32)) else (if (p1 &&& (0 : Int32)) = (p3 &&& (0 : Int32)) then (1 : Int32) else (0 : Int32))))) else (0 : Int32))
set_option maxRecDepth 65536 in
set_option maxHeartbeats 40000000 in
theorem rm_own_same {l : Launch} {Z : State} {a0 : Array Value} (hw : ∀ d ∈ tables_1, d.before a0 Z = true) {p0 : Int32} {p1 : Int32} {p2 : Int32} {p3 : Int32} {h0 : Heap} {n0 : Nat} (O : Old Z n0 h0)  :
    Met1 l Z (⟨"com/example/sober_repository/soberrepository/OrderEqualsPinLaw", "sameChars", "(IIII)Z"⟩ : MethodName) method_5_code 5 (some .boolean) ({ frames := 0, cells := 0, slots := 0, locals := 0 } : Room) #[(.int p0), (.int p1), (.int p2), (.int p3)] h0 n0 (fun v h => v = .int (own_same p0 p1 p2 p3) ∧ h0 = h) := by
  refine met_of (L := #[.val (.int p0), .val (.int p1), .val (.int p2), .val (.int p3), .unset]) (plainFor_of_name pn_33) (fun m => by first | (simp [entryFrame, mkF, argsToLocals, Value.category]; done) | rfl) ?_
  intro p e s m below meth c T C X
  change Cx p s m meth c Z "com/example/sober_repository/soberrepository/OrderEqualsPinLaw" method_5_code 5 (some .boolean) "sameChars" at C
  refine g_iloadN C X d7_0 (q := 1) rfl rfl ?_
  refine g_iloadN C X d7_1 (q := 2) rfl rfl ?_
  by_cases hc1 : p0 = p2
  · refine g_icY C X d7_2 (by decide) (q := 7) (by decide) (teq hc1).1 ?_
    refine g_iconst C X d7_7 (q := 8) rfl (z := (0 : Int32)) rfl ?_
    refine g_istore C X d7_8 (q := 10) rfl (L' := #[.val (.int p0), .val (.int p1), .val (.int p2), .val (.int p3), .val (.int (0 : Int32))]) rfl ?_
    refine g_iloadN C X d7_10 (q := 11) rfl rfl ?_
    refine g_iconst C X d7_11 (q := 12) rfl (z := (1 : Int32)) rfl ?_
    by_cases hc2 : p0 = (1 : Int32)
    · refine g_icN C X d7_12 (q := 15) rfl (teq hc2).2 ?_
      refine g_sipush C X d7_15 (q := 18) rfl (z := (255 : Int32)) rfl ?_
      refine g_istore C X d7_18 (q := 20) rfl (L' := #[.val (.int p0), .val (.int p1), .val (.int p2), .val (.int p3), .val (.int (255 : Int32))]) rfl ?_
      refine g_iloadN C X d7_20 (q := 21) rfl rfl ?_
      refine g_iconst C X d7_21 (q := 22) rfl (z := (2 : Int32)) rfl ?_
      by_cases hc3 : p0 = (2 : Int32)
      · refine g_icN C X d7_22 (q := 25) rfl (teq hc3).2 ?_
        refine g_ldcI C X (w88 hw) d7_25 (q := 27) rfl ?_
        refine g_istore C X d7_27 (q := 29) rfl (L' := #[.val (.int p0), .val (.int p1), .val (.int p2), .val (.int p3), .val (.int (65535 : Int32))]) rfl ?_
        refine g_iloadN C X d7_29 (q := 30) rfl rfl ?_
        refine g_iconst C X d7_30 (q := 31) rfl (z := (3 : Int32)) rfl ?_
        by_cases hc4 : p0 = (3 : Int32)
        · refine g_icN C X d7_31 (q := 34) rfl (teq hc4).2 ?_
          refine g_ldcI C X (w87 hw) d7_34 (q := 36) rfl ?_
          refine g_istore C X d7_36 (q := 38) rfl (L' := #[.val (.int p0), .val (.int p1), .val (.int p2), .val (.int p3), .val (.int (16777215 : Int32))]) rfl ?_
          refine g_iloadN C X d7_38 (q := 39) rfl rfl ?_
          refine g_iload C X d7_39 (q := 41) rfl rfl ?_
          refine g_iand C X d7_41 (q := 42) rfl (z := (p1 &&& (16777215 : Int32))) rfl ?_
          refine g_iloadN C X d7_42 (q := 43) rfl rfl ?_
          refine g_iload C X d7_43 (q := 45) rfl rfl ?_
          refine g_iand C X d7_45 (q := 46) rfl (z := (p3 &&& (16777215 : Int32))) rfl ?_
          by_cases hc5 : (p1 &&& (16777215 : Int32)) = (p3 &&& (16777215 : Int32))
          · refine g_icN C X d7_46 (q := 49) rfl (teq hc5).2 ?_
            refine g_iconst C X d7_49 (q := 50) rfl (z := (1 : Int32)) rfl ?_
            refine g_goto C X d7_50 (by decide) (q := 54) (by decide) ?_
            exact g_retN C X (Or.inl rfl) (z' := (1 : Int32)) (by decide) d7_54 (by decide) (by decide) ⟨_, rfl, by unfold own_same; rw [if_pos hc1, if_pos hc2, if_pos hc3, if_pos hc4, if_pos hc5], rfl⟩
          · refine g_icY C X d7_46 (by decide) (q := 53) (by decide) (feq hc5).2 ?_
            refine g_iconst C X d7_53 (q := 54) rfl (z := (0 : Int32)) rfl ?_
            exact g_retN C X (Or.inl rfl) (z' := (0 : Int32)) (by decide) d7_54 (by decide) (by decide) ⟨_, rfl, by unfold own_same; rw [if_pos hc1, if_pos hc2, if_pos hc3, if_pos hc4, if_neg hc5], rfl⟩
        · refine g_icY C X d7_31 (by decide) (q := 38) (by decide) (feq hc4).2 ?_
          refine g_iloadN C X d7_38 (q := 39) rfl rfl ?_
          refine g_iload C X d7_39 (q := 41) rfl rfl ?_
          refine g_iand C X d7_41 (q := 42) rfl (z := (p1 &&& (65535 : Int32))) rfl ?_
          refine g_iloadN C X d7_42 (q := 43) rfl rfl ?_
          refine g_iload C X d7_43 (q := 45) rfl rfl ?_
          refine g_iand C X d7_45 (q := 46) rfl (z := (p3 &&& (65535 : Int32))) rfl ?_
          by_cases hc6 : (p1 &&& (65535 : Int32)) = (p3 &&& (65535 : Int32))
          · refine g_icN C X d7_46 (q := 49) rfl (teq hc6).2 ?_
            refine g_iconst C X d7_49 (q := 50) rfl (z := (1 : Int32)) rfl ?_
            refine g_goto C X d7_50 (by decide) (q := 54) (by decide) ?_
            exact g_retN C X (Or.inl rfl) (z' := (1 : Int32)) (by decide) d7_54 (by decide) (by decide) ⟨_, rfl, by unfold own_same; rw [if_pos hc1, if_pos hc2, if_pos hc3, if_neg hc4, if_pos hc6], rfl⟩
          · refine g_icY C X d7_46 (by decide) (q := 53) (by decide) (feq hc6).2 ?_
            refine g_iconst C X d7_53 (q := 54) rfl (z := (0 : Int32)) rfl ?_
            exact g_retN C X (Or.inl rfl) (z' := (0 : Int32)) (by decide) d7_54 (by decide) (by decide) ⟨_, rfl, by unfold own_same; rw [if_pos hc1, if_pos hc2, if_pos hc3, if_neg hc4, if_neg hc6], rfl⟩
      · refine g_icY C X d7_22 (by decide) (q := 29) (by decide) (feq hc3).2 ?_
        refine g_iloadN C X d7_29 (q := 30) rfl rfl ?_
        refine g_iconst C X d7_30 (q := 31) rfl (z := (3 : Int32)) rfl ?_
        by_cases hc7 : p0 = (3 : Int32)
        · refine g_icN C X d7_31 (q := 34) rfl (teq hc7).2 ?_
          refine g_ldcI C X (w87 hw) d7_34 (q := 36) rfl ?_
          refine g_istore C X d7_36 (q := 38) rfl (L' := #[.val (.int p0), .val (.int p1), .val (.int p2), .val (.int p3), .val (.int (16777215 : Int32))]) rfl ?_
          refine g_iloadN C X d7_38 (q := 39) rfl rfl ?_
          refine g_iload C X d7_39 (q := 41) rfl rfl ?_
          refine g_iand C X d7_41 (q := 42) rfl (z := (p1 &&& (16777215 : Int32))) rfl ?_
          refine g_iloadN C X d7_42 (q := 43) rfl rfl ?_
          refine g_iload C X d7_43 (q := 45) rfl rfl ?_
          refine g_iand C X d7_45 (q := 46) rfl (z := (p3 &&& (16777215 : Int32))) rfl ?_
          by_cases hc8 : (p1 &&& (16777215 : Int32)) = (p3 &&& (16777215 : Int32))
          · refine g_icN C X d7_46 (q := 49) rfl (teq hc8).2 ?_
            refine g_iconst C X d7_49 (q := 50) rfl (z := (1 : Int32)) rfl ?_
            refine g_goto C X d7_50 (by decide) (q := 54) (by decide) ?_
            exact g_retN C X (Or.inl rfl) (z' := (1 : Int32)) (by decide) d7_54 (by decide) (by decide) ⟨_, rfl, by unfold own_same; rw [if_pos hc1, if_pos hc2, if_neg hc3, if_pos hc7, if_pos hc8], rfl⟩
          · refine g_icY C X d7_46 (by decide) (q := 53) (by decide) (feq hc8).2 ?_
            refine g_iconst C X d7_53 (q := 54) rfl (z := (0 : Int32)) rfl ?_
            exact g_retN C X (Or.inl rfl) (z' := (0 : Int32)) (by decide) d7_54 (by decide) (by decide) ⟨_, rfl, by unfold own_same; rw [if_pos hc1, if_pos hc2, if_neg hc3, if_pos hc7, if_neg hc8], rfl⟩
        · refine g_icY C X d7_31 (by decide) (q := 38) (by decide) (feq hc7).2 ?_
          refine g_iloadN C X d7_38 (q := 39) rfl rfl ?_
          refine g_iload C X d7_39 (q := 41) rfl rfl ?_
          refine g_iand C X d7_41 (q := 42) rfl (z := (p1 &&& (255 : Int32))) rfl ?_
          refine g_iloadN C X d7_42 (q := 43) rfl rfl ?_
          refine g_iload C X d7_43 (q := 45) rfl rfl ?_
          refine g_iand C X d7_45 (q := 46) rfl (z := (p3 &&& (255 : Int32))) rfl ?_
          by_cases hc9 : (p1 &&& (255 : Int32)) = (p3 &&& (255 : Int32))
          · refine g_icN C X d7_46 (q := 49) rfl (teq hc9).2 ?_
            refine g_iconst C X d7_49 (q := 50) rfl (z := (1 : Int32)) rfl ?_
            refine g_goto C X d7_50 (by decide) (q := 54) (by decide) ?_
            exact g_retN C X (Or.inl rfl) (z' := (1 : Int32)) (by decide) d7_54 (by decide) (by decide) ⟨_, rfl, by unfold own_same; rw [if_pos hc1, if_pos hc2, if_neg hc3, if_neg hc7, if_pos hc9], rfl⟩
          · refine g_icY C X d7_46 (by decide) (q := 53) (by decide) (feq hc9).2 ?_
            refine g_iconst C X d7_53 (q := 54) rfl (z := (0 : Int32)) rfl ?_
            exact g_retN C X (Or.inl rfl) (z' := (0 : Int32)) (by decide) d7_54 (by decide) (by decide) ⟨_, rfl, by unfold own_same; rw [if_pos hc1, if_pos hc2, if_neg hc3, if_neg hc7, if_neg hc9], rfl⟩
    · refine g_icY C X d7_12 (by decide) (q := 20) (by decide) (feq hc2).2 ?_
      refine g_iloadN C X d7_20 (q := 21) rfl rfl ?_
      refine g_iconst C X d7_21 (q := 22) rfl (z := (2 : Int32)) rfl ?_
      by_cases hc10 : p0 = (2 : Int32)
      · refine g_icN C X d7_22 (q := 25) rfl (teq hc10).2 ?_
        refine g_ldcI C X (w88 hw) d7_25 (q := 27) rfl ?_
        refine g_istore C X d7_27 (q := 29) rfl (L' := #[.val (.int p0), .val (.int p1), .val (.int p2), .val (.int p3), .val (.int (65535 : Int32))]) rfl ?_
        refine g_iloadN C X d7_29 (q := 30) rfl rfl ?_
        refine g_iconst C X d7_30 (q := 31) rfl (z := (3 : Int32)) rfl ?_
        by_cases hc11 : p0 = (3 : Int32)
        · refine g_icN C X d7_31 (q := 34) rfl (teq hc11).2 ?_
          refine g_ldcI C X (w87 hw) d7_34 (q := 36) rfl ?_
          refine g_istore C X d7_36 (q := 38) rfl (L' := #[.val (.int p0), .val (.int p1), .val (.int p2), .val (.int p3), .val (.int (16777215 : Int32))]) rfl ?_
          refine g_iloadN C X d7_38 (q := 39) rfl rfl ?_
          refine g_iload C X d7_39 (q := 41) rfl rfl ?_
          refine g_iand C X d7_41 (q := 42) rfl (z := (p1 &&& (16777215 : Int32))) rfl ?_
          refine g_iloadN C X d7_42 (q := 43) rfl rfl ?_
          refine g_iload C X d7_43 (q := 45) rfl rfl ?_
          refine g_iand C X d7_45 (q := 46) rfl (z := (p3 &&& (16777215 : Int32))) rfl ?_
          by_cases hc12 : (p1 &&& (16777215 : Int32)) = (p3 &&& (16777215 : Int32))
          · refine g_icN C X d7_46 (q := 49) rfl (teq hc12).2 ?_
            refine g_iconst C X d7_49 (q := 50) rfl (z := (1 : Int32)) rfl ?_
            refine g_goto C X d7_50 (by decide) (q := 54) (by decide) ?_
            exact g_retN C X (Or.inl rfl) (z' := (1 : Int32)) (by decide) d7_54 (by decide) (by decide) ⟨_, rfl, by unfold own_same; rw [if_pos hc1, if_neg hc2, if_pos hc10, if_pos hc11, if_pos hc12], rfl⟩
          · refine g_icY C X d7_46 (by decide) (q := 53) (by decide) (feq hc12).2 ?_
            refine g_iconst C X d7_53 (q := 54) rfl (z := (0 : Int32)) rfl ?_
            exact g_retN C X (Or.inl rfl) (z' := (0 : Int32)) (by decide) d7_54 (by decide) (by decide) ⟨_, rfl, by unfold own_same; rw [if_pos hc1, if_neg hc2, if_pos hc10, if_pos hc11, if_neg hc12], rfl⟩
        · refine g_icY C X d7_31 (by decide) (q := 38) (by decide) (feq hc11).2 ?_
          refine g_iloadN C X d7_38 (q := 39) rfl rfl ?_
          refine g_iload C X d7_39 (q := 41) rfl rfl ?_
          refine g_iand C X d7_41 (q := 42) rfl (z := (p1 &&& (65535 : Int32))) rfl ?_
          refine g_iloadN C X d7_42 (q := 43) rfl rfl ?_
          refine g_iload C X d7_43 (q := 45) rfl rfl ?_
          refine g_iand C X d7_45 (q := 46) rfl (z := (p3 &&& (65535 : Int32))) rfl ?_
          by_cases hc13 : (p1 &&& (65535 : Int32)) = (p3 &&& (65535 : Int32))
          · refine g_icN C X d7_46 (q := 49) rfl (teq hc13).2 ?_
            refine g_iconst C X d7_49 (q := 50) rfl (z := (1 : Int32)) rfl ?_
            refine g_goto C X d7_50 (by decide) (q := 54) (by decide) ?_
            exact g_retN C X (Or.inl rfl) (z' := (1 : Int32)) (by decide) d7_54 (by decide) (by decide) ⟨_, rfl, by unfold own_same; rw [if_pos hc1, if_neg hc2, if_pos hc10, if_neg hc11, if_pos hc13], rfl⟩
          · refine g_icY C X d7_46 (by decide) (q := 53) (by decide) (feq hc13).2 ?_
            refine g_iconst C X d7_53 (q := 54) rfl (z := (0 : Int32)) rfl ?_
            exact g_retN C X (Or.inl rfl) (z' := (0 : Int32)) (by decide) d7_54 (by decide) (by decide) ⟨_, rfl, by unfold own_same; rw [if_pos hc1, if_neg hc2, if_pos hc10, if_neg hc11, if_neg hc13], rfl⟩
      · refine g_icY C X d7_22 (by decide) (q := 29) (by decide) (feq hc10).2 ?_
        refine g_iloadN C X d7_29 (q := 30) rfl rfl ?_
        refine g_iconst C X d7_30 (q := 31) rfl (z := (3 : Int32)) rfl ?_
        by_cases hc14 : p0 = (3 : Int32)
        · refine g_icN C X d7_31 (q := 34) rfl (teq hc14).2 ?_
          refine g_ldcI C X (w87 hw) d7_34 (q := 36) rfl ?_
          refine g_istore C X d7_36 (q := 38) rfl (L' := #[.val (.int p0), .val (.int p1), .val (.int p2), .val (.int p3), .val (.int (16777215 : Int32))]) rfl ?_
          refine g_iloadN C X d7_38 (q := 39) rfl rfl ?_
          refine g_iload C X d7_39 (q := 41) rfl rfl ?_
          refine g_iand C X d7_41 (q := 42) rfl (z := (p1 &&& (16777215 : Int32))) rfl ?_
          refine g_iloadN C X d7_42 (q := 43) rfl rfl ?_
          refine g_iload C X d7_43 (q := 45) rfl rfl ?_
          refine g_iand C X d7_45 (q := 46) rfl (z := (p3 &&& (16777215 : Int32))) rfl ?_
          by_cases hc15 : (p1 &&& (16777215 : Int32)) = (p3 &&& (16777215 : Int32))
          · refine g_icN C X d7_46 (q := 49) rfl (teq hc15).2 ?_
            refine g_iconst C X d7_49 (q := 50) rfl (z := (1 : Int32)) rfl ?_
            refine g_goto C X d7_50 (by decide) (q := 54) (by decide) ?_
            exact g_retN C X (Or.inl rfl) (z' := (1 : Int32)) (by decide) d7_54 (by decide) (by decide) ⟨_, rfl, by unfold own_same; rw [if_pos hc1, if_neg hc2, if_neg hc10, if_pos hc14, if_pos hc15], rfl⟩
          · refine g_icY C X d7_46 (by decide) (q := 53) (by decide) (feq hc15).2 ?_
            refine g_iconst C X d7_53 (q := 54) rfl (z := (0 : Int32)) rfl ?_
            exact g_retN C X (Or.inl rfl) (z' := (0 : Int32)) (by decide) d7_54 (by decide) (by decide) ⟨_, rfl, by unfold own_same; rw [if_pos hc1, if_neg hc2, if_neg hc10, if_pos hc14, if_neg hc15], rfl⟩
        · refine g_icY C X d7_31 (by decide) (q := 38) (by decide) (feq hc14).2 ?_
          refine g_iloadN C X d7_38 (q := 39) rfl rfl ?_
          refine g_iload C X d7_39 (q := 41) rfl rfl ?_
          refine g_iand C X d7_41 (q := 42) rfl (z := (p1 &&& (0 : Int32))) rfl ?_
          refine g_iloadN C X d7_42 (q := 43) rfl rfl ?_
          refine g_iload C X d7_43 (q := 45) rfl rfl ?_
          refine g_iand C X d7_45 (q := 46) rfl (z := (p3 &&& (0 : Int32))) rfl ?_
          by_cases hc16 : (p1 &&& (0 : Int32)) = (p3 &&& (0 : Int32))
          · refine g_icN C X d7_46 (q := 49) rfl (teq hc16).2 ?_
            refine g_iconst C X d7_49 (q := 50) rfl (z := (1 : Int32)) rfl ?_
            refine g_goto C X d7_50 (by decide) (q := 54) (by decide) ?_
            exact g_retN C X (Or.inl rfl) (z' := (1 : Int32)) (by decide) d7_54 (by decide) (by decide) ⟨_, rfl, by unfold own_same; rw [if_pos hc1, if_neg hc2, if_neg hc10, if_neg hc14, if_pos hc16], rfl⟩
          · refine g_icY C X d7_46 (by decide) (q := 53) (by decide) (feq hc16).2 ?_
            refine g_iconst C X d7_53 (q := 54) rfl (z := (0 : Int32)) rfl ?_
            exact g_retN C X (Or.inl rfl) (z' := (0 : Int32)) (by decide) d7_54 (by decide) (by decide) ⟨_, rfl, by unfold own_same; rw [if_pos hc1, if_neg hc2, if_neg hc10, if_neg hc14, if_neg hc16], rfl⟩
  · refine g_icN C X d7_2 (q := 5) rfl (feq hc1).1 ?_
    refine g_iconst C X d7_5 (q := 6) rfl (z := (0 : Int32)) rfl ?_
    exact g_retN C X (Or.inl rfl) (z' := (0 : Int32)) (by decide) d7_6 (by decide) (by decide) ⟨_, rfl, by unfold own_same; rw [if_neg hc1], rfl⟩
def own_mk (p0 p1 : Int32) : List Int32 := (if p0 = (0 : Int32) then [] else (if p0 = (1 : Int32) then [(((p1.toUInt32 >>> ((0 : Int32) &&& 31).toUInt32).toInt32) &&& (255 : Int32))] else (if p0 = (2 : Int32) then [(((p1.toUInt32 >>> ((0 : Int32) &&& 31).toUInt32).toInt32) &&& (255 : Int32)), (((p1.toUInt32 >>> ((8 : Int32) &&& 31).toUInt32).toInt32) &&& (255 : Int32))] else [(((p1.toUInt32 >>> ((0 : Int32) &&& 31).toUInt32).toInt32) &&& (255 : Int32)), (((p1.toUInt32 >>> ((8 : Int32) &&& 31).toUInt32).toInt32) &&& (255 : Int32)), (((p1.toUInt32 >>> ((16 : Int32) &&& 31).toUInt32).toInt32) &&& (255 : Int32))])))
set_option maxRecDepth 65536 in
set_option maxHeartbeats 40000000 in
theorem rm_str4_0 {l : Launch} {Z : State} {a0 : Array Value} (hw : ∀ d ∈ tables_1, d.before a0 Z = true) {a_ASC : Addr} {a_DESC : Addr} {cz : Int32} {o0 : Addr} {o1 : Addr} {h0 : Heap} {n0 : Nat} (O : Old Z n0 h0) (W : Wd Z a_ASC a_DESC cz)  (P0 : Exa Z h0 o0 "java/lang/String") (P1 : Fld Z h0 o0 "java/lang/String" "value" "[B" .null) (P2 : Fld Z h0 o0 "java/lang/String" "coder" "B" (.int (0 : Int32))) (G0 : n0 ≤ o0) :
    MetW0 l Z consts_1 (⟨"java/lang/String", "<init>", "([CIILjava/lang/Void;)V"⟩ : MethodName) jdk_42_method_149_code 6 none ({ frames := 1, cells := 4, slots := 8, locals := 12 } : Room) #[(.ref o0), (.ref o1), (.int (0 : Int32)), (.int (0 : Int32)), .null] h0 n0 (fun h => Keep h0 h [o0] ∧ Exa Z h o0 "java/lang/String" ∧ Str Z h o0 []) := by
  refine metW_of (L := #[.val (.ref o0), .val (.ref o1), .val (.int (0 : Int32)), .val (.int (0 : Int32)), .val .null, .unset]) (plainFor_of_name pn_61) (fun m => by first | (simp [entryFrame, mkF, argsToLocals, Value.category]; done) | rfl) ?_
  intro p e s m below meth c T vm C X Y
  change Cx p (s.setVm vm) m meth c Z "java/lang/String" jdk_42_method_149_code 6 none "<init>" at C
  have sf1 := own_safeN (EL := consts_1) (Cx.alike C) P0 P1
  refine g_aloadN C X d3_0 (q := 1) rfl rfl rfl ?_
  refine g_initO C X (w18 hw) (w19 hw) (w20 hw) rfl d3_1 (q := 4) rfl (by decide) (by decide) ?_
  intro T2 X3
  refine g_iloadN C X3 d3_4 (q := 5) rfl rfl ?_
  refine g_ifN C X3 d3_5 (q := 8) rfl (by decide) ?_
  refine g_aloadN C X3 d3_8 (q := 9) rfl rfl rfl ?_
  refine gW_ldcC C X3 Y (own_EL hw) (vs := []) (z := 0) (w21 hw) (own_SA hw) (List.mem_of_getElem? (i := 2) rfl) ⟨by decide, by decide +kernel⟩ (by decide) rfl d3_9 (q := 11) rfl (nn := 0) (by decide) (by decide) (k' := 2) rfl (n' := 4) rfl (by decide) (by decide) ?_
  intro b4 b12 kA13 T5 h6 vm7 C X8 Y9 E10 R11 f14 f15 f16 f17 sf18
  have O19 := O.ext E10
  have F20 : Str Z h6 b4 [] := ⟨b12, kA13, f14, f16, f15, f17, by decide, by decide⟩
  refine g_getF C X8 (host := "") (Or.inl (w27 hw)) Via.refl f16 d3_11 (q := 14) rfl ?_
  intro T21 X22
  have f23 := (P1.ext E10)
  have f24 := (P0.ext E10)
  refine g_putF C X22 (host := "") (Or.inl (w27 hw)) Via.refl f23 f24 (Or.inr ⟨(w23 hw), rfl, rfl⟩) (w8 hw) (ty := (.array .byte)) (by decide) rfl rfl d3_14 (q := 17) rfl G0 ?_
  intro T25 h27 X26 W28
  have FW28 := Fld.same W28 f23
  have Y29 := Wx.wr Y9 W28 (CHr.safe R11 P0.lt sf1)
  have O30 := O19.wr W28 G0
  refine g_aloadN C X26 d3_17 (q := 18) rfl rfl rfl ?_
  refine gW_ldcC C X26 Y29 (own_EL hw) (vs := []) (z := 0) (w21 hw) (own_SA hw) (List.mem_of_getElem? (i := 2) rfl) ⟨by decide, by decide +kernel⟩ (by decide) rfl d3_18 (q := 20) rfl (nn := 0) (by decide) (by decide) (k' := 4) rfl (n' := 8) rfl (by decide) (by decide) ?_
  intro b31 b39 kA40 T32 h33 vm34 C X35 Y36 E37 R38 f41 f42 f43 f44 sf45
  have O46 := O30.ext E37
  have F47 : Str Z h33 b31 [] := ⟨b39, kA40, f41, f43, f42, f44, by decide, by decide⟩
  refine g_getF C X35 (host := "") (Or.inl (w28 hw)) Via.refl f42 d3_20 (q := 23) rfl ?_
  intro T48 X49
  have f50 := (((P2.ext E10).other W28 (Or.inr (slot_ne (Or.inr (w24 hw)) (Or.inr (w23 hw)) (by decide) (t := .byte) (t' := (.array .byte)) (by decide) (by decide)))).ext E37)
  have f51 := ((f24.wr W28).ext E37)
  refine g_putF C X49 (host := "") (Or.inl (w28 hw)) Via.refl f50 f51 (Or.inr ⟨(w24 hw), rfl, rfl⟩) (w8 hw) (ty := .byte) (by decide) rfl rfl d3_23 (q := 26) rfl G0 ?_
  intro T52 h54 X53 W55
  have FW55 := Fld.same W55 f50
  have Y56 := Wx.wr Y36 W55 (CHr.safe R38 (Nat.lt_of_lt_of_le P0.lt (Nat.le_trans E10.1 (Nat.le_of_eq (Wr.size W28).symm))) (Wx.safeW Y9 (CHr.safe R11 P0.lt sf1) W28 (CHr.safe R11 P0.lt sf1)))
  have O57 := O46.wr W55 G0
  have f58 := (f51.wr W55)
  have f59 := ((FW28.ext E37).other W55 (Or.inr (slot_ne (Or.inr (w23 hw)) (Or.inr (w24 hw)) (by decide) (t := (.array .byte)) (t' := .byte) (by decide) (by decide))))
  have f60 := (((f17.other W28 (Ne.symm (sf18 _ (CHr.safe R11 P0.lt sf1)).2)).ext E37).other W55 (Ne.symm (sf18 _ (CHr.safe R11 P0.lt sf1)).2))
  have F61 : Str Z h54 o0 [] := ⟨b12, _, f58, f59, FW55, f60, by decide, by decide⟩
  exact gW_retV C X53 Y56 (own_EL hw) d3_26 (by decide) (by decide) ⟨rfl, (((((Keep.refl h0 [o0]).ext E10).wr W28 (Or.inl (List.mem_of_getElem? (i := 0) rfl))).ext E37).wr W55 (Or.inl (List.mem_of_getElem? (i := 0) rfl))), f58, F61⟩
set_option maxRecDepth 65536 in
set_option maxHeartbeats 40000000 in
theorem rm_str1_0 {l : Launch} {Z : State} {a0 : Array Value} (hw : ∀ d ∈ tables_1, d.before a0 Z = true) {a_ASC : Addr} {a_DESC : Addr} {cz : Int32} {o0 : Addr} {o1 : Addr} {kc2 : ClassId} {h0 : Heap} {n0 : Nat} (O : Old Z n0 h0) (W : Wd Z a_ASC a_DESC cz)  (P0 : Exa Z h0 o0 "java/lang/String") (P1 : Fld Z h0 o0 "java/lang/String" "value" "[B" .null) (P2 : Fld Z h0 o0 "java/lang/String" "coder" "B" (.int (0 : Int32))) (P3 : Arv Z h0 o1 kc2 .char (0 : Int32) [] (.int (0 : Int32))) (G0 : n0 ≤ o0) (G1 : n0 ≤ o1) (N0_1 : o0 ≠ o1) :
    MetW0 l Z consts_1 (⟨"java/lang/String", "<init>", "([C)V"⟩ : MethodName) jdk_42_method_3_code 2 none ({ frames := 2, cells := 4, slots := 8, locals := 29 } : Room) #[(.ref o0), (.ref o1)] h0 n0 (fun h => Keep h0 h [o0] ∧ Exa Z h o0 "java/lang/String" ∧ Str Z h o0 []) := by
  refine metW_of (L := #[.val (.ref o0), .val (.ref o1)]) (plainFor_of_name pn_61) (fun m => by first | (simp [entryFrame, mkF, argsToLocals, Value.category]; done) | rfl) ?_
  intro p e s m below meth c T vm C X Y
  change Cx p (s.setVm vm) m meth c Z "java/lang/String" jdk_42_method_3_code 2 none "<init>" at C
  have sf1 := own_safeN (EL := consts_1) (Cx.alike C) P0 P1
  refine g_aloadN C X d2_0 (q := 1) rfl rfl rfl ?_
  refine g_aloadN C X d2_1 (q := 2) rfl rfl rfl ?_
  refine g_iconst C X d2_2 (q := 3) rfl (z := (0 : Int32)) rfl ?_
  refine g_aloadN C X d2_3 (q := 4) rfl rfl rfl ?_
  refine g_alen C X P3 d2_4 (q := 5) rfl ?_
  refine g_aconstNull C X d2_5 (q := 6) rfl ?_
  refine gW_callI0 C X Y (own_EL hw) (y := (⟨"java/lang/String", "<init>", "([CIILjava/lang/Void;)V"⟩ : MethodName)) (a := o0) (by decide) rfl rfl (w14 hw) (w15 hw) (w17 hw) (w9 hw) (rm_str4_0 hw (o0 := o0) (o1 := o1) O W P0 P1 P2 G0) (W := 0) (by decide) (by decide) (k' := 4) rfl (n' := 8) rfl (by decide) (by decide) rfl pd_62 (argsL := [(.ref o1), (.int (0 : Int32)), (.int (0 : Int32)), .null]) rfl (rest := []) rfl rfl rfl d2_6 (q := 9) rfl ?_
  rintro T2 h4 vm8 C X3 Y9 R10 ⟨K5, f6, f7⟩
  have O11 := O.keep K5 (allS G0 all0)
  exact gW_retV C X3 Y9 (own_EL hw) d2_9 (by decide) (by decide) ⟨rfl, ((Keep.refl h0 [o0]).trans K5 (allS (Or.inl (List.mem_of_getElem? (i := 0) rfl)) all0)), f6, f7⟩
set_option maxRecDepth 65536 in
set_option maxHeartbeats 40000000 in
theorem rm_ch_0 {l : Launch} {Z : State} {a0 : Array Value} (hw : ∀ d ∈ tables_1, d.before a0 Z = true) {p0 : Int32} {h0 : Heap} {n0 : Nat} (O : Old Z n0 h0)  :
    Met1 l Z (⟨"com/example/sober_repository/soberrepository/OrderEqualsPinLaw", "ch", "(II)C"⟩ : MethodName) method_3_code 2 (some .char) ({ frames := 0, cells := 0, slots := 0, locals := 0 } : Room) #[(.int p0), (.int (0 : Int32))] h0 n0 (fun v h => v = .int (((p0.toUInt32 >>> ((0 : Int32) &&& 31).toUInt32).toInt32) &&& (255 : Int32)) ∧ h0 = h) := by
  refine met_of (L := #[.val (.int p0), .val (.int (0 : Int32))]) (plainFor_of_name pn_33) (fun m => by first | (simp [entryFrame, mkF, argsToLocals, Value.category]; done) | rfl) ?_
  intro p e s m below meth c T C X
  change Cx p s m meth c Z "com/example/sober_repository/soberrepository/OrderEqualsPinLaw" method_3_code 2 (some .char) "ch" at C
  refine g_iloadN C X d11_0 (q := 1) rfl rfl ?_
  refine g_bipush C X d11_1 (q := 3) rfl (z := (8 : Int32)) rfl ?_
  refine g_iloadN C X d11_3 (q := 4) rfl rfl ?_
  refine g_imul C X d11_4 (q := 5) rfl (z := (0 : Int32)) (by decide) ?_
  refine g_iushr C X d11_5 (q := 6) rfl (z := ((p0.toUInt32 >>> ((0 : Int32) &&& 31).toUInt32).toInt32)) rfl ?_
  refine g_sipush C X d11_6 (q := 9) rfl (z := (255 : Int32)) rfl ?_
  obtain ⟨v1, ev1⟩ : ∃ z, (((p0.toUInt32 >>> ((0 : Int32) &&& 31).toUInt32).toInt32) &&& (255 : Int32)) = z := ⟨_, rfl⟩
  have hl2 : 0 ≤ v1.toInt := by rw [← ev1]; exact (c_and ((p0.toUInt32 >>> ((0 : Int32) &&& 31).toUInt32).toInt32) (255 : Int32) (by decide)).1
  have hh3 : v1.toInt ≤ 255 := by rw [← ev1]; exact (c_and ((p0.toUInt32 >>> ((0 : Int32) &&& 31).toUInt32).toInt32) (255 : Int32) (by decide)).2
  refine g_iand C X d11_9 (q := 10) rfl (z := v1) ev1 ?_
  refine g_i2c C X d11_10 (q := 11) rfl (z := v1) (own_i2c hl2 hh3 (by decide) (by decide)) ?_
  exact g_retN C X (Or.inr (Or.inr (Or.inl rfl))) (z' := v1) (own_narC hl2 hh3 (by decide) (by decide)) d11_11 (by decide) (by decide) ⟨_, rfl, by rw [← ev1], rfl⟩
set_option maxRecDepth 65536 in
set_option maxHeartbeats 40000000 in
theorem rm_ch_1 {l : Launch} {Z : State} {a0 : Array Value} (hw : ∀ d ∈ tables_1, d.before a0 Z = true) {p0 : Int32} {h0 : Heap} {n0 : Nat} (O : Old Z n0 h0)  :
    Met1 l Z (⟨"com/example/sober_repository/soberrepository/OrderEqualsPinLaw", "ch", "(II)C"⟩ : MethodName) method_3_code 2 (some .char) ({ frames := 0, cells := 0, slots := 0, locals := 0 } : Room) #[(.int p0), (.int (1 : Int32))] h0 n0 (fun v h => v = .int (((p0.toUInt32 >>> ((8 : Int32) &&& 31).toUInt32).toInt32) &&& (255 : Int32)) ∧ h0 = h) := by
  refine met_of (L := #[.val (.int p0), .val (.int (1 : Int32))]) (plainFor_of_name pn_33) (fun m => by first | (simp [entryFrame, mkF, argsToLocals, Value.category]; done) | rfl) ?_
  intro p e s m below meth c T C X
  change Cx p s m meth c Z "com/example/sober_repository/soberrepository/OrderEqualsPinLaw" method_3_code 2 (some .char) "ch" at C
  refine g_iloadN C X d11_0 (q := 1) rfl rfl ?_
  refine g_bipush C X d11_1 (q := 3) rfl (z := (8 : Int32)) rfl ?_
  refine g_iloadN C X d11_3 (q := 4) rfl rfl ?_
  refine g_imul C X d11_4 (q := 5) rfl (z := (8 : Int32)) (by decide) ?_
  refine g_iushr C X d11_5 (q := 6) rfl (z := ((p0.toUInt32 >>> ((8 : Int32) &&& 31).toUInt32).toInt32)) rfl ?_
  refine g_sipush C X d11_6 (q := 9) rfl (z := (255 : Int32)) rfl ?_
  obtain ⟨v1, ev1⟩ : ∃ z, (((p0.toUInt32 >>> ((8 : Int32) &&& 31).toUInt32).toInt32) &&& (255 : Int32)) = z := ⟨_, rfl⟩
  have hl2 : 0 ≤ v1.toInt := by rw [← ev1]; exact (c_and ((p0.toUInt32 >>> ((8 : Int32) &&& 31).toUInt32).toInt32) (255 : Int32) (by decide)).1
  have hh3 : v1.toInt ≤ 255 := by rw [← ev1]; exact (c_and ((p0.toUInt32 >>> ((8 : Int32) &&& 31).toUInt32).toInt32) (255 : Int32) (by decide)).2
  refine g_iand C X d11_9 (q := 10) rfl (z := v1) ev1 ?_
  refine g_i2c C X d11_10 (q := 11) rfl (z := v1) (own_i2c hl2 hh3 (by decide) (by decide)) ?_
  exact g_retN C X (Or.inr (Or.inr (Or.inl rfl))) (z' := v1) (own_narC hl2 hh3 (by decide) (by decide)) d11_11 (by decide) (by decide) ⟨_, rfl, by rw [← ev1], rfl⟩
set_option maxRecDepth 65536 in
set_option maxHeartbeats 40000000 in
theorem rm_ch_2 {l : Launch} {Z : State} {a0 : Array Value} (hw : ∀ d ∈ tables_1, d.before a0 Z = true) {p0 : Int32} {h0 : Heap} {n0 : Nat} (O : Old Z n0 h0)  :
    Met1 l Z (⟨"com/example/sober_repository/soberrepository/OrderEqualsPinLaw", "ch", "(II)C"⟩ : MethodName) method_3_code 2 (some .char) ({ frames := 0, cells := 0, slots := 0, locals := 0 } : Room) #[(.int p0), (.int (2 : Int32))] h0 n0 (fun v h => v = .int (((p0.toUInt32 >>> ((16 : Int32) &&& 31).toUInt32).toInt32) &&& (255 : Int32)) ∧ h0 = h) := by
  refine met_of (L := #[.val (.int p0), .val (.int (2 : Int32))]) (plainFor_of_name pn_33) (fun m => by first | (simp [entryFrame, mkF, argsToLocals, Value.category]; done) | rfl) ?_
  intro p e s m below meth c T C X
  change Cx p s m meth c Z "com/example/sober_repository/soberrepository/OrderEqualsPinLaw" method_3_code 2 (some .char) "ch" at C
  refine g_iloadN C X d11_0 (q := 1) rfl rfl ?_
  refine g_bipush C X d11_1 (q := 3) rfl (z := (8 : Int32)) rfl ?_
  refine g_iloadN C X d11_3 (q := 4) rfl rfl ?_
  refine g_imul C X d11_4 (q := 5) rfl (z := (16 : Int32)) (by decide) ?_
  refine g_iushr C X d11_5 (q := 6) rfl (z := ((p0.toUInt32 >>> ((16 : Int32) &&& 31).toUInt32).toInt32)) rfl ?_
  refine g_sipush C X d11_6 (q := 9) rfl (z := (255 : Int32)) rfl ?_
  obtain ⟨v1, ev1⟩ : ∃ z, (((p0.toUInt32 >>> ((16 : Int32) &&& 31).toUInt32).toInt32) &&& (255 : Int32)) = z := ⟨_, rfl⟩
  have hl2 : 0 ≤ v1.toInt := by rw [← ev1]; exact (c_and ((p0.toUInt32 >>> ((16 : Int32) &&& 31).toUInt32).toInt32) (255 : Int32) (by decide)).1
  have hh3 : v1.toInt ≤ 255 := by rw [← ev1]; exact (c_and ((p0.toUInt32 >>> ((16 : Int32) &&& 31).toUInt32).toInt32) (255 : Int32) (by decide)).2
  refine g_iand C X d11_9 (q := 10) rfl (z := v1) ev1 ?_
  refine g_i2c C X d11_10 (q := 11) rfl (z := v1) (own_i2c hl2 hh3 (by decide) (by decide)) ?_
  exact g_retN C X (Or.inr (Or.inr (Or.inl rfl))) (z' := v1) (own_narC hl2 hh3 (by decide) (by decide)) d11_11 (by decide) (by decide) ⟨_, rfl, by rw [← ev1], rfl⟩
set_option maxRecDepth 65536 in
set_option maxHeartbeats 40000000 in
theorem rm_mk {l : Launch} {Z : State} {a0 : Array Value} (hw : ∀ d ∈ tables_1, d.before a0 Z = true) {p0 p1 : Int32} {a_ASC : Addr} {a_DESC : Addr} {cz : Int32} {h0 : Heap} {n0 : Nat} (O : Old Z n0 h0) (W : Wd Z a_ASC a_DESC cz) :
    MetW1 l Z consts_1 (⟨"com/example/sober_repository/soberrepository/OrderEqualsPinLaw", "mk", "(II)Ljava/lang/String;"⟩ : MethodName) method_4_code 2 (some (.object "java/lang/String")) ({ frames := 4, cells := 6, slots := 12, locals := 66 } : Room) #[(.int p0), (.int p1)] h0 n0 (fun v h => ∃ a : Addr, v = .ref a ∧ Keep h0 h [] ∧ n0 ≤ a ∧ h0.size ≤ a ∧ Exa Z h a "java/lang/String" ∧ Str Z h a (own_mk p0 p1)) := by
  refine metW_of (L := #[.val (.int p0), .val (.int p1)]) (plainFor_of_name pn_33) (fun m => by first | (simp [entryFrame, mkF, argsToLocals, Value.category]; done) | rfl) ?_
  intro p e s m below meth c T vm C X Y
  change Cx p (s.setVm vm) m meth c Z "com/example/sober_repository/soberrepository/OrderEqualsPinLaw" method_4_code 2 (some (.object "java/lang/String")) "mk" at C
  refine g_iloadN C X d1_0 (q := 1) rfl rfl ?_
  by_cases hc1 : p0 = (0 : Int32)
  · refine g_ifN C X d1_1 (q := 4) rfl (teq hc1).2 ?_
    refine g_new C X (w7 hw) (w8 hw) (w9 hw) d1_4 (q := 7) rfl (k' := 1) rfl (n' := 4) rfl (by decide) (by decide) ?_
    intro T3 h4 b2 g6 X5 E7 A8 D9
    have ge10 : n0 ≤ b2 := own_ge O g6
    have sf11 := Wx.safe0 Y (Nat.le_of_eq g6.symm)
    have Y12 := Wx.ext Y E7
    have O13 := O.ext E7
    have f14 : Fld Z h4 b2 "java/lang/String" "value" "[B" .null := D9 (Or.inr (w23 hw)) (ty := (.array .byte)) (by decide)
    have f15 : Fld Z h4 b2 "java/lang/String" "coder" "B" (.int (0 : Int32)) := D9 (Or.inr (w24 hw)) (ty := .byte) (by decide)
    refine g_dup C X5 d1_7 (q := 8) rfl rfl ?_
    refine g_iconst C X5 d1_8 (q := 9) rfl (z := (0 : Int32)) rfl ?_
    refine g_newP C X5 (w10 hw) rfl d1_9 (q := 11) rfl (by decide) (cap := 0) (by decide) (by decide) (k' := 2) rfl (n' := 4) rfl (by decide) (by decide) ?_
    intro T17 h18 kA19 b16 g21 X20 E22 V23
    have ge24 : n0 ≤ b16 := own_ge O13 g21
    have Y25 := Wx.ext Y12 E22
    have O26 := O13.ext E22
    have Y27 := Yar.of V23
    have f28 := (A8.ext E22)
    have f29 := (f14.ext E22)
    have f30 := (f15.ext E22)
    refine gW_callI0 C X20 Y25 (own_EL hw) (y := (⟨"java/lang/String", "<init>", "([C)V"⟩ : MethodName)) (a := b2) (by decide) rfl rfl (w11 hw) (w12 hw) (w13 hw) (w9 hw) (rm_str1_0 hw (o0 := b2) (o1 := b16) (kc2 := kA19) O26 W f28 f29 f30 V23 ge10 ge24 (own_ne A8.lt g21)) (W := 1) (by decide) (by decide) (k' := 6) rfl (n' := 12) rfl (by decide) (by decide) rfl pd_64 (argsL := [(.ref b16)]) rfl (rest := [(.ref b2)]) rfl rfl rfl d1_11 (q := 14) rfl ?_
    rintro T31 h33 vm37 C X32 Y38 R39 ⟨K34, f35, f36⟩
    have O40 := O26.keep K34 (allS ge10 all0)
    have q41 : own_mk p0 p1 = [] := by unfold own_mk; rw [if_pos hc1]
    exact gW_retA C X32 Y38 (own_EL hw) rfl rfl d1_14 (by decide) (by decide) ⟨_, rfl, b2, rfl, ((((Keep.refl h0 []).ext E7).ext E22).trans K34 (allS (Or.inr (own_sz (Keep.refl h0 []).1 g6)) all0)), ge10, (own_sz (Keep.refl h0 []).1 g6), f35, q41 ▸ f36⟩
  · refine g_ifY C X d1_1 (by decide) (q := 15) (by decide) (feq hc1).2 ?_
    refine g_iloadN C X d1_15 (q := 16) rfl rfl ?_
    refine g_iconst C X d1_16 (q := 17) rfl (z := (1 : Int32)) rfl ?_
    by_cases hc42 : p0 = (1 : Int32)
    · refine g_icN C X d1_17 (q := 20) rfl (teq hc42).2 ?_
      refine g_new C X (w7 hw) (w8 hw) (w9 hw) d1_20 (q := 23) rfl (k' := 1) rfl (n' := 4) rfl (by decide) (by decide) ?_
      intro T44 h45 b43 g47 X46 E48 A49 D50
      have ge51 : n0 ≤ b43 := own_ge O g47
      have sf52 := Wx.safe0 Y (Nat.le_of_eq g47.symm)
      have Y53 := Wx.ext Y E48
      have O54 := O.ext E48
      have f55 : Fld Z h45 b43 "java/lang/String" "value" "[B" .null := D50 (Or.inr (w23 hw)) (ty := (.array .byte)) (by decide)
      have f56 : Fld Z h45 b43 "java/lang/String" "coder" "B" (.int (0 : Int32)) := D50 (Or.inr (w24 hw)) (ty := .byte) (by decide)
      refine g_dup C X46 d1_23 (q := 24) rfl rfl ?_
      refine g_iconst C X46 d1_24 (q := 25) rfl (z := (1 : Int32)) rfl ?_
      refine g_newP C X46 (w10 hw) rfl d1_25 (q := 27) rfl (by decide) (cap := 1) (by decide) (by decide) (k' := 2) rfl (n' := 5) rfl (by decide) (by decide) ?_
      intro T58 h59 kA60 b57 g62 X61 E63 V64
      have ge65 : n0 ≤ b57 := own_ge O54 g62
      have Y66 := Wx.ext Y53 E63
      have O67 := O54.ext E63
      have V68 : Arv Z h59 b57 kA60 .char (1 : Int32) [(.int (0 : Int32))] (.int (0 : Int32)) := Arv.pad V64 (pad_rep [] _ 1)
      have Y69 := Yar.of V68
      refine g_dup C X61 d1_27 (q := 28) rfl rfl ?_
      refine g_iconst C X61 d1_28 (q := 29) rfl (z := (0 : Int32)) rfl ?_
      refine g_iloadN C X61 d1_29 (q := 30) rfl rfl ?_
      refine g_iconst C X61 d1_30 (q := 31) rfl (z := (0 : Int32)) rfl ?_
      obtain ⟨v70, ev70⟩ : ∃ z, (((p1.toUInt32 >>> ((0 : Int32) &&& 31).toUInt32).toInt32) &&& (255 : Int32)) = z := ⟨_, rfl⟩
      have hl71 : 0 ≤ v70.toInt := by rw [← ev70]; exact (c_and ((p1.toUInt32 >>> ((0 : Int32) &&& 31).toUInt32).toInt32) (255 : Int32) (by decide)).1
      have hh72 : v70.toInt ≤ 255 := by rw [← ev70]; exact (c_and ((p1.toUInt32 >>> ((0 : Int32) &&& 31).toUInt32).toInt32) (255 : Int32) (by decide)).2
      refine g_callS1 C X61 (y := (⟨"com/example/sober_repository/soberrepository/OrderEqualsPinLaw", "ch", "(II)C"⟩ : MethodName)) (by decide) (w70 hw) (w71 hw) (w72 hw) (w5 hw) (rm_ch_0 hw (p0 := p1) O67) (W := 5) (by decide) (by decide) (k' := 2) rfl (n' := 5) rfl (by decide) (by decide) rfl pd_87 (argsL := [(.int p1), (.int (0 : Int32))]) rfl (rest := [(.int (0 : Int32)), (.ref b57), (.ref b57), (.ref b43), (.ref b43)]) rfl rfl rfl d1_31 (q := 34) rfl ?_
      rintro _ T73 _ X74 ⟨rfl, rfl⟩
      rw [ev70]
      refine g_castore C X74 V68 (by decide) (i := 0) (by decide) (Nat.le_of_ble_eq_true rfl) (vs' := [(.int v70)]) (by rw [own_narC hl71 hh72 (by decide) (by decide)]; rfl) ge65 d1_34 (q := 35) rfl ?_
      intro T75 h76 X77 W78 V79
      have Y80 := Wx.wr Y66 W78 (own_safeY (Cx.alike C) Y69 (by decide))
      have O81 := O67.wr W78 ge65
      have f82 := ((A49.ext E63).wr W78)
      have f83 := ((f55.ext E63).other W78 (Or.inl (own_ne A49.lt g62)))
      have f84 := ((f56.ext E63).other W78 (Or.inl (own_ne A49.lt g62)))
      refine g_strNew C X77 (cs := [v70]) (own_words hw) (w8 hw) (w11 hw) (w12 hw) f82 f83 f84 V79 (W.2.2.2.2.2.2.1.ext O81.2) W.2.2.2.2.2.2.2 (len := 1) rfl rfl (by decide) (by decide) (List.forall_mem_cons.mpr ⟨(own_ch hl71 hh72 (by decide) (by decide)), (fun _ z => nomatch z)⟩) ge51 (own_szO O81) (W := 1) (by decide) (by decide) (k' := 3) rfl (n' := 6) rfl (by decide) (by decide) rfl rfl d1_35 (q := 38) rfl ?_
      intro T85 h86 X87 K88 F89
      have Y90 := Wx.keep Y80 K88 (sfS (Wx.safeW Y66 (Wx.safeE Y53 (Wx.safeE Y sf52 E48) E63) W78 (own_safeY (Cx.alike C) Y69 (by decide))) sf0)
      have O91 := O81.keep K88 (allS ge51 all0)
      have f92 := (f82.keep K88)
      have q93 : own_mk p0 p1 = [v70] := by unfold own_mk; rw [if_neg hc1, if_pos hc42, ev70]
      exact gW_retA C X87 Y90 (own_EL hw) rfl rfl d1_38 (by decide) (by decide) ⟨_, rfl, b43, rfl, (((((Keep.refl h0 []).ext E48).ext E63).wr W78 (Or.inr (own_sz ((Keep.refl h0 []).ext E48).1 g62))).trans K88 (allS (Or.inr (own_sz (Keep.refl h0 []).1 g47)) all0)), ge51, (own_sz (Keep.refl h0 []).1 g47), f92, q93 ▸ F89⟩
    · refine g_icY C X d1_17 (by decide) (q := 39) (by decide) (feq hc42).2 ?_
      refine g_iloadN C X d1_39 (q := 40) rfl rfl ?_
      refine g_iconst C X d1_40 (q := 41) rfl (z := (2 : Int32)) rfl ?_
      by_cases hc94 : p0 = (2 : Int32)
      · refine g_icN C X d1_41 (q := 44) rfl (teq hc94).2 ?_
        refine g_new C X (w7 hw) (w8 hw) (w9 hw) d1_44 (q := 47) rfl (k' := 1) rfl (n' := 4) rfl (by decide) (by decide) ?_
        intro T96 h97 b95 g99 X98 E100 A101 D102
        have ge103 : n0 ≤ b95 := own_ge O g99
        have sf104 := Wx.safe0 Y (Nat.le_of_eq g99.symm)
        have Y105 := Wx.ext Y E100
        have O106 := O.ext E100
        have f107 : Fld Z h97 b95 "java/lang/String" "value" "[B" .null := D102 (Or.inr (w23 hw)) (ty := (.array .byte)) (by decide)
        have f108 : Fld Z h97 b95 "java/lang/String" "coder" "B" (.int (0 : Int32)) := D102 (Or.inr (w24 hw)) (ty := .byte) (by decide)
        refine g_dup C X98 d1_47 (q := 48) rfl rfl ?_
        refine g_iconst C X98 d1_48 (q := 49) rfl (z := (2 : Int32)) rfl ?_
        refine g_newP C X98 (w10 hw) rfl d1_49 (q := 51) rfl (by decide) (cap := 2) (by decide) (by decide) (k' := 2) rfl (n' := 6) rfl (by decide) (by decide) ?_
        intro T110 h111 kA112 b109 g114 X113 E115 V116
        have ge117 : n0 ≤ b109 := own_ge O106 g114
        have Y118 := Wx.ext Y105 E115
        have O119 := O106.ext E115
        have V120 : Arv Z h111 b109 kA112 .char (2 : Int32) [(.int (0 : Int32)), (.int (0 : Int32))] (.int (0 : Int32)) := Arv.pad V116 (pad_rep [] _ 2)
        have Y121 := Yar.of V120
        refine g_dup C X113 d1_51 (q := 52) rfl rfl ?_
        refine g_iconst C X113 d1_52 (q := 53) rfl (z := (0 : Int32)) rfl ?_
        refine g_iloadN C X113 d1_53 (q := 54) rfl rfl ?_
        refine g_iconst C X113 d1_54 (q := 55) rfl (z := (0 : Int32)) rfl ?_
        obtain ⟨v122, ev122⟩ : ∃ z, (((p1.toUInt32 >>> ((0 : Int32) &&& 31).toUInt32).toInt32) &&& (255 : Int32)) = z := ⟨_, rfl⟩
        have hl123 : 0 ≤ v122.toInt := by rw [← ev122]; exact (c_and ((p1.toUInt32 >>> ((0 : Int32) &&& 31).toUInt32).toInt32) (255 : Int32) (by decide)).1
        have hh124 : v122.toInt ≤ 255 := by rw [← ev122]; exact (c_and ((p1.toUInt32 >>> ((0 : Int32) &&& 31).toUInt32).toInt32) (255 : Int32) (by decide)).2
        refine g_callS1 C X113 (y := (⟨"com/example/sober_repository/soberrepository/OrderEqualsPinLaw", "ch", "(II)C"⟩ : MethodName)) (by decide) (w70 hw) (w71 hw) (w72 hw) (w5 hw) (rm_ch_0 hw (p0 := p1) O119) (W := 5) (by decide) (by decide) (k' := 2) rfl (n' := 6) rfl (by decide) (by decide) rfl pd_87 (argsL := [(.int p1), (.int (0 : Int32))]) rfl (rest := [(.int (0 : Int32)), (.ref b109), (.ref b109), (.ref b95), (.ref b95)]) rfl rfl rfl d1_55 (q := 58) rfl ?_
        rintro _ T125 _ X126 ⟨rfl, rfl⟩
        rw [ev122]
        refine g_castore C X126 V120 (by decide) (i := 0) (by decide) (Nat.le_of_ble_eq_true rfl) (vs' := [(.int v122), (.int (0 : Int32))]) (by rw [own_narC hl123 hh124 (by decide) (by decide)]; rfl) ge117 d1_58 (q := 59) rfl ?_
        intro T127 h128 X129 W130 V131
        have Y132 := Wx.wr Y118 W130 (own_safeY (Cx.alike C) Y121 (by decide))
        have O133 := O119.wr W130 ge117
        refine g_dup C X129 d1_59 (q := 60) rfl rfl ?_
        refine g_iconst C X129 d1_60 (q := 61) rfl (z := (1 : Int32)) rfl ?_
        refine g_iloadN C X129 d1_61 (q := 62) rfl rfl ?_
        refine g_iconst C X129 d1_62 (q := 63) rfl (z := (1 : Int32)) rfl ?_
        obtain ⟨v134, ev134⟩ : ∃ z, (((p1.toUInt32 >>> ((8 : Int32) &&& 31).toUInt32).toInt32) &&& (255 : Int32)) = z := ⟨_, rfl⟩
        have hl135 : 0 ≤ v134.toInt := by rw [← ev134]; exact (c_and ((p1.toUInt32 >>> ((8 : Int32) &&& 31).toUInt32).toInt32) (255 : Int32) (by decide)).1
        have hh136 : v134.toInt ≤ 255 := by rw [← ev134]; exact (c_and ((p1.toUInt32 >>> ((8 : Int32) &&& 31).toUInt32).toInt32) (255 : Int32) (by decide)).2
        refine g_callS1 C X129 (y := (⟨"com/example/sober_repository/soberrepository/OrderEqualsPinLaw", "ch", "(II)C"⟩ : MethodName)) (by decide) (w70 hw) (w71 hw) (w72 hw) (w5 hw) (rm_ch_1 hw (p0 := p1) O133) (W := 5) (by decide) (by decide) (k' := 2) rfl (n' := 6) rfl (by decide) (by decide) rfl pd_87 (argsL := [(.int p1), (.int (1 : Int32))]) rfl (rest := [(.int (1 : Int32)), (.ref b109), (.ref b109), (.ref b95), (.ref b95)]) rfl rfl rfl d1_63 (q := 66) rfl ?_
        rintro _ T137 _ X138 ⟨rfl, rfl⟩
        rw [ev134]
        refine g_castore C X138 V131 (by decide) (i := 1) (by decide) (Nat.le_of_ble_eq_true rfl) (vs' := [(.int v122), (.int v134)]) (by rw [own_narC hl135 hh136 (by decide) (by decide)]; rfl) ge117 d1_66 (q := 67) rfl ?_
        intro T139 h140 X141 W142 V143
        have f144 := (Y121.wr W130)
        have Y145 := Wx.wr Y132 W142 (own_safeY (Cx.alike C) f144 (by decide))
        have O146 := O133.wr W142 ge117
        have f147 := (((A101.ext E115).wr W130).wr W142)
        have f148 := (((f107.ext E115).other W130 (Or.inl (own_ne A101.lt g114))).other W142 (Or.inl (own_ne A101.lt g114)))
        have f149 := (((f108.ext E115).other W130 (Or.inl (own_ne A101.lt g114))).other W142 (Or.inl (own_ne A101.lt g114)))
        refine g_strNew C X141 (cs := [v122, v134]) (own_words hw) (w8 hw) (w11 hw) (w12 hw) f147 f148 f149 V143 (W.2.2.2.2.2.2.1.ext O146.2) W.2.2.2.2.2.2.2 (len := 2) rfl rfl (by decide) (by decide) (List.forall_mem_cons.mpr ⟨(own_ch hl123 hh124 (by decide) (by decide)), (List.forall_mem_cons.mpr ⟨(own_ch hl135 hh136 (by decide) (by decide)), (fun _ z => nomatch z)⟩)⟩) ge103 (own_szO O146) (W := 1) (by decide) (by decide) (k' := 3) rfl (n' := 8) rfl (by decide) (by decide) rfl rfl d1_67 (q := 70) rfl ?_
        intro T150 h151 X152 K153 F154
        have Y155 := Wx.keep Y145 K153 (sfS (Wx.safeW Y132 (Wx.safeW Y118 (Wx.safeE Y105 (Wx.safeE Y sf104 E100) E115) W130 (own_safeY (Cx.alike C) Y121 (by decide))) W142 (own_safeY (Cx.alike C) f144 (by decide))) sf0)
        have O156 := O146.keep K153 (allS ge103 all0)
        have f157 := (f147.keep K153)
        have q158 : own_mk p0 p1 = [v122, v134] := by unfold own_mk; rw [if_neg hc1, if_neg hc42, if_pos hc94, ev122, ev134]
        exact gW_retA C X152 Y155 (own_EL hw) rfl rfl d1_70 (by decide) (by decide) ⟨_, rfl, b95, rfl, ((((((Keep.refl h0 []).ext E100).ext E115).wr W130 (Or.inr (own_sz ((Keep.refl h0 []).ext E100).1 g114))).wr W142 (Or.inr (own_sz ((Keep.refl h0 []).ext E100).1 g114))).trans K153 (allS (Or.inr (own_sz (Keep.refl h0 []).1 g99)) all0)), ge103, (own_sz (Keep.refl h0 []).1 g99), f157, q158 ▸ F154⟩
      · refine g_icY C X d1_41 (by decide) (q := 71) (by decide) (feq hc94).2 ?_
        refine g_new C X (w7 hw) (w8 hw) (w9 hw) d1_71 (q := 74) rfl (k' := 1) rfl (n' := 4) rfl (by decide) (by decide) ?_
        intro T160 h161 b159 g163 X162 E164 A165 D166
        have ge167 : n0 ≤ b159 := own_ge O g163
        have sf168 := Wx.safe0 Y (Nat.le_of_eq g163.symm)
        have Y169 := Wx.ext Y E164
        have O170 := O.ext E164
        have f171 : Fld Z h161 b159 "java/lang/String" "value" "[B" .null := D166 (Or.inr (w23 hw)) (ty := (.array .byte)) (by decide)
        have f172 : Fld Z h161 b159 "java/lang/String" "coder" "B" (.int (0 : Int32)) := D166 (Or.inr (w24 hw)) (ty := .byte) (by decide)
        refine g_dup C X162 d1_74 (q := 75) rfl rfl ?_
        refine g_iconst C X162 d1_75 (q := 76) rfl (z := (3 : Int32)) rfl ?_
        refine g_newP C X162 (w10 hw) rfl d1_76 (q := 78) rfl (by decide) (cap := 3) (by decide) (by decide) (k' := 2) rfl (n' := 7) rfl (by decide) (by decide) ?_
        intro T174 h175 kA176 b173 g178 X177 E179 V180
        have ge181 : n0 ≤ b173 := own_ge O170 g178
        have Y182 := Wx.ext Y169 E179
        have O183 := O170.ext E179
        have V184 : Arv Z h175 b173 kA176 .char (3 : Int32) [(.int (0 : Int32)), (.int (0 : Int32)), (.int (0 : Int32))] (.int (0 : Int32)) := Arv.pad V180 (pad_rep [] _ 3)
        have Y185 := Yar.of V184
        refine g_dup C X177 d1_78 (q := 79) rfl rfl ?_
        refine g_iconst C X177 d1_79 (q := 80) rfl (z := (0 : Int32)) rfl ?_
        refine g_iloadN C X177 d1_80 (q := 81) rfl rfl ?_
        refine g_iconst C X177 d1_81 (q := 82) rfl (z := (0 : Int32)) rfl ?_
        obtain ⟨v186, ev186⟩ : ∃ z, (((p1.toUInt32 >>> ((0 : Int32) &&& 31).toUInt32).toInt32) &&& (255 : Int32)) = z := ⟨_, rfl⟩
        have hl187 : 0 ≤ v186.toInt := by rw [← ev186]; exact (c_and ((p1.toUInt32 >>> ((0 : Int32) &&& 31).toUInt32).toInt32) (255 : Int32) (by decide)).1
        have hh188 : v186.toInt ≤ 255 := by rw [← ev186]; exact (c_and ((p1.toUInt32 >>> ((0 : Int32) &&& 31).toUInt32).toInt32) (255 : Int32) (by decide)).2
        refine g_callS1 C X177 (y := (⟨"com/example/sober_repository/soberrepository/OrderEqualsPinLaw", "ch", "(II)C"⟩ : MethodName)) (by decide) (w70 hw) (w71 hw) (w72 hw) (w5 hw) (rm_ch_0 hw (p0 := p1) O183) (W := 5) (by decide) (by decide) (k' := 2) rfl (n' := 7) rfl (by decide) (by decide) rfl pd_87 (argsL := [(.int p1), (.int (0 : Int32))]) rfl (rest := [(.int (0 : Int32)), (.ref b173), (.ref b173), (.ref b159), (.ref b159)]) rfl rfl rfl d1_82 (q := 85) rfl ?_
        rintro _ T189 _ X190 ⟨rfl, rfl⟩
        rw [ev186]
        refine g_castore C X190 V184 (by decide) (i := 0) (by decide) (Nat.le_of_ble_eq_true rfl) (vs' := [(.int v186), (.int (0 : Int32)), (.int (0 : Int32))]) (by rw [own_narC hl187 hh188 (by decide) (by decide)]; rfl) ge181 d1_85 (q := 86) rfl ?_
        intro T191 h192 X193 W194 V195
        have Y196 := Wx.wr Y182 W194 (own_safeY (Cx.alike C) Y185 (by decide))
        have O197 := O183.wr W194 ge181
        refine g_dup C X193 d1_86 (q := 87) rfl rfl ?_
        refine g_iconst C X193 d1_87 (q := 88) rfl (z := (1 : Int32)) rfl ?_
        refine g_iloadN C X193 d1_88 (q := 89) rfl rfl ?_
        refine g_iconst C X193 d1_89 (q := 90) rfl (z := (1 : Int32)) rfl ?_
        obtain ⟨v198, ev198⟩ : ∃ z, (((p1.toUInt32 >>> ((8 : Int32) &&& 31).toUInt32).toInt32) &&& (255 : Int32)) = z := ⟨_, rfl⟩
        have hl199 : 0 ≤ v198.toInt := by rw [← ev198]; exact (c_and ((p1.toUInt32 >>> ((8 : Int32) &&& 31).toUInt32).toInt32) (255 : Int32) (by decide)).1
        have hh200 : v198.toInt ≤ 255 := by rw [← ev198]; exact (c_and ((p1.toUInt32 >>> ((8 : Int32) &&& 31).toUInt32).toInt32) (255 : Int32) (by decide)).2
        refine g_callS1 C X193 (y := (⟨"com/example/sober_repository/soberrepository/OrderEqualsPinLaw", "ch", "(II)C"⟩ : MethodName)) (by decide) (w70 hw) (w71 hw) (w72 hw) (w5 hw) (rm_ch_1 hw (p0 := p1) O197) (W := 5) (by decide) (by decide) (k' := 2) rfl (n' := 7) rfl (by decide) (by decide) rfl pd_87 (argsL := [(.int p1), (.int (1 : Int32))]) rfl (rest := [(.int (1 : Int32)), (.ref b173), (.ref b173), (.ref b159), (.ref b159)]) rfl rfl rfl d1_90 (q := 93) rfl ?_
        rintro _ T201 _ X202 ⟨rfl, rfl⟩
        rw [ev198]
        refine g_castore C X202 V195 (by decide) (i := 1) (by decide) (Nat.le_of_ble_eq_true rfl) (vs' := [(.int v186), (.int v198), (.int (0 : Int32))]) (by rw [own_narC hl199 hh200 (by decide) (by decide)]; rfl) ge181 d1_93 (q := 94) rfl ?_
        intro T203 h204 X205 W206 V207
        have f208 := (Y185.wr W194)
        have Y209 := Wx.wr Y196 W206 (own_safeY (Cx.alike C) f208 (by decide))
        have O210 := O197.wr W206 ge181
        refine g_dup C X205 d1_94 (q := 95) rfl rfl ?_
        refine g_iconst C X205 d1_95 (q := 96) rfl (z := (2 : Int32)) rfl ?_
        refine g_iloadN C X205 d1_96 (q := 97) rfl rfl ?_
        refine g_iconst C X205 d1_97 (q := 98) rfl (z := (2 : Int32)) rfl ?_
        obtain ⟨v211, ev211⟩ : ∃ z, (((p1.toUInt32 >>> ((16 : Int32) &&& 31).toUInt32).toInt32) &&& (255 : Int32)) = z := ⟨_, rfl⟩
        have hl212 : 0 ≤ v211.toInt := by rw [← ev211]; exact (c_and ((p1.toUInt32 >>> ((16 : Int32) &&& 31).toUInt32).toInt32) (255 : Int32) (by decide)).1
        have hh213 : v211.toInt ≤ 255 := by rw [← ev211]; exact (c_and ((p1.toUInt32 >>> ((16 : Int32) &&& 31).toUInt32).toInt32) (255 : Int32) (by decide)).2
        refine g_callS1 C X205 (y := (⟨"com/example/sober_repository/soberrepository/OrderEqualsPinLaw", "ch", "(II)C"⟩ : MethodName)) (by decide) (w70 hw) (w71 hw) (w72 hw) (w5 hw) (rm_ch_2 hw (p0 := p1) O210) (W := 5) (by decide) (by decide) (k' := 2) rfl (n' := 7) rfl (by decide) (by decide) rfl pd_87 (argsL := [(.int p1), (.int (2 : Int32))]) rfl (rest := [(.int (2 : Int32)), (.ref b173), (.ref b173), (.ref b159), (.ref b159)]) rfl rfl rfl d1_98 (q := 101) rfl ?_
        rintro _ T214 _ X215 ⟨rfl, rfl⟩
        rw [ev211]
        refine g_castore C X215 V207 (by decide) (i := 2) (by decide) (Nat.le_of_ble_eq_true rfl) (vs' := [(.int v186), (.int v198), (.int v211)]) (by rw [own_narC hl212 hh213 (by decide) (by decide)]; rfl) ge181 d1_101 (q := 102) rfl ?_
        intro T216 h217 X218 W219 V220
        have f221 := (f208.wr W206)
        have Y222 := Wx.wr Y209 W219 (own_safeY (Cx.alike C) f221 (by decide))
        have O223 := O210.wr W219 ge181
        have f224 := ((((A165.ext E179).wr W194).wr W206).wr W219)
        have f225 := ((((f171.ext E179).other W194 (Or.inl (own_ne A165.lt g178))).other W206 (Or.inl (own_ne A165.lt g178))).other W219 (Or.inl (own_ne A165.lt g178)))
        have f226 := ((((f172.ext E179).other W194 (Or.inl (own_ne A165.lt g178))).other W206 (Or.inl (own_ne A165.lt g178))).other W219 (Or.inl (own_ne A165.lt g178)))
        refine g_strNew C X218 (cs := [v186, v198, v211]) (own_words hw) (w8 hw) (w11 hw) (w12 hw) f224 f225 f226 V220 (W.2.2.2.2.2.2.1.ext O223.2) W.2.2.2.2.2.2.2 (len := 3) rfl rfl (by decide) (by decide) (List.forall_mem_cons.mpr ⟨(own_ch hl187 hh188 (by decide) (by decide)), (List.forall_mem_cons.mpr ⟨(own_ch hl199 hh200 (by decide) (by decide)), (List.forall_mem_cons.mpr ⟨(own_ch hl212 hh213 (by decide) (by decide)), (fun _ z => nomatch z)⟩)⟩)⟩) ge167 (own_szO O223) (W := 1) (by decide) (by decide) (k' := 3) rfl (n' := 10) rfl (by decide) (by decide) rfl rfl d1_102 (q := 105) rfl ?_
        intro T227 h228 X229 K230 F231
        have Y232 := Wx.keep Y222 K230 (sfS (Wx.safeW Y209 (Wx.safeW Y196 (Wx.safeW Y182 (Wx.safeE Y169 (Wx.safeE Y sf168 E164) E179) W194 (own_safeY (Cx.alike C) Y185 (by decide))) W206 (own_safeY (Cx.alike C) f208 (by decide))) W219 (own_safeY (Cx.alike C) f221 (by decide))) sf0)
        have O233 := O223.keep K230 (allS ge167 all0)
        have f234 := (f224.keep K230)
        have q235 : own_mk p0 p1 = [v186, v198, v211] := by unfold own_mk; rw [if_neg hc1, if_neg hc42, if_neg hc94, ev186, ev198, ev211]
        exact gW_retA C X229 Y232 (own_EL hw) rfl rfl d1_105 (by decide) (by decide) ⟨_, rfl, b159, rfl, (((((((Keep.refl h0 []).ext E164).ext E179).wr W194 (Or.inr (own_sz ((Keep.refl h0 []).ext E164).1 g178))).wr W206 (Or.inr (own_sz ((Keep.refl h0 []).ext E164).1 g178))).wr W219 (Or.inr (own_sz ((Keep.refl h0 []).ext E164).1 g178))).trans K230 (allS (Or.inr (own_sz (Keep.refl h0 []).1 g163)) all0)), ge167, (own_sz (Keep.refl h0 []).1 g163), f234, q235 ▸ F231⟩
theorem own_split4 {v : Int32} (h1 : 0 ≤ v.toInt) (h2 : v.toInt < 4) : v = 0 ∨ v = 1 ∨ v = 2 ∨ v = 3 := by
  have h : v.toInt = 0 ∨ v.toInt = 1 ∨ v.toInt = 2 ∨ v.toInt = 3 := by omega
  rcases h with h | h | h | h
  · exact Or.inl (own_i32 h)
  · exact Or.inr (Or.inl (own_i32 h))
  · exact Or.inr (Or.inr (Or.inl (own_i32 h)))
  · exact Or.inr (Or.inr (Or.inr (own_i32 h)))
theorem own_i32u {a b : Int32} : a = b ↔ a.toUInt32 = b.toUInt32 := ⟨congrArg _, fun h => by cases a; cases b; cases h; rfl⟩
theorem own_an {a b m : Int32} {k : Nat} (hm : m.toUInt32.toNat = 2 ^ k - 1) : a &&& m = b &&& m ↔ a.toUInt32.toNat % 2 ^ k = b.toUInt32.toNat % 2 ^ k := by
  rw [own_i32u, ← UInt32.toNat_inj, Int32.toUInt32_and, Int32.toUInt32_and, UInt32.toNat_and, UInt32.toNat_and, hm, Nat.and_two_pow_sub_one_eq_mod, Nat.and_two_pow_sub_one_eq_mod]
theorem own_shr {x s : Int32} {k : Nat} (hs : (s &&& 31).toUInt32.toNat % 32 = k) : ((x.toUInt32 >>> (s &&& 31).toUInt32).toInt32).toUInt32.toNat = x.toUInt32.toNat / 2 ^ k := by
  rw [UInt32.toUInt32_toInt32, UInt32.toNat_shiftRight, hs, Nat.shiftRight_eq_div_pow]
theorem own_ite0 {P : Prop} [Decidable P] : (if P then (1 : Int32) else 0) = 0 ↔ ¬ P := by by_cases h : P <;> simp [h]
theorem own_sm {l1 x l2 y : Int32} (a1 : 0 ≤ l1.toInt) (a2 : l1.toInt ≤ 3) (b1 : 0 ≤ l2.toInt) (b2 : l2.toInt ≤ 3) : own_same l1 x l2 y = 0 ↔ ¬ own_mk l1 x = own_mk l2 y := by
  have A := own_split4 a1 (by omega)
  have B := own_split4 b1 (by omega)
  have h0 := own_an (a := (x.toUInt32 >>> ((0 : Int32) &&& 31).toUInt32).toInt32) (b := (y.toUInt32 >>> ((0 : Int32) &&& 31).toUInt32).toInt32) (m := 255) (k := 8) (by decide)
  have h8 := own_an (a := (x.toUInt32 >>> ((8 : Int32) &&& 31).toUInt32).toInt32) (b := (y.toUInt32 >>> ((8 : Int32) &&& 31).toUInt32).toInt32) (m := 255) (k := 8) (by decide)
  have h16 := own_an (a := (x.toUInt32 >>> ((16 : Int32) &&& 31).toUInt32).toInt32) (b := (y.toUInt32 >>> ((16 : Int32) &&& 31).toUInt32).toInt32) (m := 255) (k := 8) (by decide)
  rw [own_shr (k := 0) (by decide), own_shr (k := 0) (by decide)] at h0
  rw [own_shr (k := 8) (by decide), own_shr (k := 8) (by decide)] at h8
  rw [own_shr (k := 16) (by decide), own_shr (k := 16) (by decide)] at h16
  have m8 := own_an (a := x) (b := y) (m := 255) (k := 8) (by decide)
  have m16 := own_an (a := x) (b := y) (m := 65535) (k := 16) (by decide)
  have m24 := own_an (a := x) (b := y) (m := 16777215) (k := 24) (by decide)
  generalize x.toUInt32.toNat = X at h0 h8 h16 m8 m16 m24
  generalize y.toUInt32.toNat = Y at h0 h8 h16 m8 m16 m24
  simp only [own_same, own_mk]
  rcases A with rfl | rfl | rfl | rfl <;> rcases B with rfl | rfl | rfl | rfl <;> first | (simp; done) | skip
  all_goals
    simp (decide := true) only [if_true, if_false, own_ite0, List.cons.injEq, and_true, h0, h8, h16, m8, m16, m24]
    omega

set_option maxRecDepth 65536 in
set_option maxHeartbeats 40000000 in
theorem rm_req_0 {l : Launch} {Z : State} {a0 : Array Value} (hw : ∀ d ∈ tables_1, d.before a0 Z = true) {a_ASC : Addr} {a_DESC : Addr} {cz : Int32} {o0 : Addr} {h0 : Heap} {n0 : Nat} (O : Old Z n0 h0) (W : Wd Z a_ASC a_DESC cz)  :
    Met1 l Z (⟨"java/util/Objects", "requireNonNull", "(Ljava/lang/Object;Ljava/lang/String;)Ljava/lang/Object;"⟩ : MethodName) jdk_31_method_11_code 2 (some (.object "java/lang/Object")) ({ frames := 0, cells := 0, slots := 0, locals := 0 } : Room) #[(.ref a_ASC), (.ref o0)] h0 n0 (fun v h => v = (.ref a_ASC) ∧ h0 = h) := by
  refine met_of (L := #[.val (.ref a_ASC), .val (.ref o0)]) (plainFor_of_name pn_147) (fun m => by first | (simp [entryFrame, mkF, argsToLocals, Value.category]; done) | rfl) ?_
  intro p e s m below meth c T C X
  change Cx p s m meth c Z "java/util/Objects" jdk_31_method_11_code 2 (some (.object "java/lang/Object")) "requireNonNull" at C
  refine g_aloadN C X d6_0 (q := 1) rfl rfl rfl ?_
  refine g_nonY C X d6_1 (by decide) (q := 13) (by decide) ?_
  refine g_aloadN C X d6_13 (q := 14) rfl rfl rfl ?_
  exact g_retA C X rfl rfl d6_14 (by decide) (by decide) ⟨_, rfl, rfl, rfl⟩
set_option maxRecDepth 65536 in
set_option maxHeartbeats 40000000 in
theorem rm_req_1 {l : Launch} {Z : State} {a0 : Array Value} (hw : ∀ d ∈ tables_1, d.before a0 Z = true) {a_ASC : Addr} {a_DESC : Addr} {cz : Int32} {o0 : Addr} {o1 : Addr} {h0 : Heap} {n0 : Nat} (O : Old Z n0 h0) (W : Wd Z a_ASC a_DESC cz)  :
    Met1 l Z (⟨"java/util/Objects", "requireNonNull", "(Ljava/lang/Object;Ljava/lang/String;)Ljava/lang/Object;"⟩ : MethodName) jdk_31_method_11_code 2 (some (.object "java/lang/Object")) ({ frames := 0, cells := 0, slots := 0, locals := 0 } : Room) #[(.ref o0), (.ref o1)] h0 n0 (fun v h => v = (.ref o0) ∧ h0 = h) := by
  refine met_of (L := #[.val (.ref o0), .val (.ref o1)]) (plainFor_of_name pn_147) (fun m => by first | (simp [entryFrame, mkF, argsToLocals, Value.category]; done) | rfl) ?_
  intro p e s m below meth c T C X
  change Cx p s m meth c Z "java/util/Objects" jdk_31_method_11_code 2 (some (.object "java/lang/Object")) "requireNonNull" at C
  refine g_aloadN C X d6_0 (q := 1) rfl rfl rfl ?_
  refine g_nonY C X d6_1 (by decide) (q := 13) (by decide) ?_
  refine g_aloadN C X d6_13 (q := 14) rfl rfl rfl ?_
  exact g_retA C X rfl rfl d6_14 (by decide) (by decide) ⟨_, rfl, rfl, rfl⟩
set_option maxRecDepth 65536 in
set_option maxHeartbeats 40000000 in
theorem rm_init_0 {l : Launch} {Z : State} {a0 : Array Value} (hw : ∀ d ∈ tables_1, d.before a0 Z = true) {a_ASC : Addr} {a_DESC : Addr} {cz : Int32} {o0 : Addr} {o1 : Addr} {cs2 : (List Int32)} {h0 : Heap} {n0 : Nat} (O : Old Z n0 h0) (W : Wd Z a_ASC a_DESC cz)  (P0 : Exa Z h0 o0 "com/example/sober_repository/soberrepository/Sort$Order") (P1 : Fld Z h0 o0 "com/example/sober_repository/soberrepository/Sort$Order" "_direction" "Lcom/example/sober_repository/soberrepository/Sort$Direction;" .null) (P2 : Fld Z h0 o0 "com/example/sober_repository/soberrepository/Sort$Order" "_property" "Ljava/lang/String;" .null) (P3 : Exa Z h0 o1 "java/lang/String") (P4 : Str Z h0 o1 cs2) (G0 : n0 ≤ o0) (G1 : n0 ≤ o1) (N0_1 : o0 ≠ o1) :
    MetW0 l Z consts_1 (⟨"com/example/sober_repository/soberrepository/Sort$Order", "<init>", "(Lcom/example/sober_repository/soberrepository/Sort$Direction;Ljava/lang/String;)V"⟩ : MethodName) prog_53_method_1_code 3 none ({ frames := 1, cells := 4, slots := 76, locals := 14 } : Room) #[(.ref o0), (.ref a_ASC), (.ref o1)] h0 n0 (fun h => Keep h0 h [o0] ∧ Exa Z h o0 "com/example/sober_repository/soberrepository/Sort$Order" ∧ Fld Z h o0 "com/example/sober_repository/soberrepository/Sort$Order" "_direction" "Lcom/example/sober_repository/soberrepository/Sort$Direction;" (.ref a_ASC) ∧ Fld Z h o0 "com/example/sober_repository/soberrepository/Sort$Order" "_property" "Ljava/lang/String;" (.ref o1)) := by
  refine metW_of (L := #[.val (.ref o0), .val (.ref a_ASC), .val (.ref o1)]) (plainFor_of_name pn_158) (fun m => by first | (simp [entryFrame, mkF, argsToLocals, Value.category]; done) | rfl) ?_
  intro p e s m below meth c T vm C X Y
  change Cx p (s.setVm vm) m meth c Z "com/example/sober_repository/soberrepository/Sort$Order" prog_53_method_1_code 3 none "<init>" at C
  refine g_aloadN C X d5_0 (q := 1) rfl rfl rfl ?_
  refine g_initO C X (w35 hw) (w19 hw) (w20 hw) rfl d5_1 (q := 4) rfl (by decide) (by decide) ?_
  intro T1 X2
  refine g_aloadN C X2 d5_4 (q := 5) rfl rfl rfl ?_
  refine g_aloadN C X2 d5_5 (q := 6) rfl rfl rfl ?_
  refine gW_ldcC C X2 Y (own_EL hw) (vs := [(.int (100 : Int32)), (.int (105 : Int32)), (.int (114 : Int32)), (.int (101 : Int32)), (.int (99 : Int32)), (.int (116 : Int32)), (.int (105 : Int32)), (.int (111 : Int32)), (.int (110 : Int32))]) (z := 9) (w36 hw) (own_SA hw) (List.mem_of_getElem? (i := 0) rfl) ⟨by decide, by decide +kernel⟩ (by decide) rfl d5_6 (q := 8) rfl (nn := 36) (by decide) (by decide) (k' := 2) rfl (n' := 40) rfl (by decide) (by decide) ?_
  intro b3 b11 kA12 T4 h5 vm6 C X7 Y8 E9 R10 f13 f14 f15 f16 sf17
  have O18 := O.ext E9
  have F19 : Str Z h5 b3 [(100 : Int32), (105 : Int32), (114 : Int32), (101 : Int32), (99 : Int32), (116 : Int32), (105 : Int32), (111 : Int32), (110 : Int32)] := ⟨b11, kA12, f13, f15, f14, f16, by decide, by decide⟩
  refine g_callS1 C X7 (y := (⟨"java/util/Objects", "requireNonNull", "(Ljava/lang/Object;Ljava/lang/String;)Ljava/lang/Object;"⟩ : MethodName)) (by decide) (w37 hw) (w38 hw) (w40 hw) (w39 hw) (rm_req_0 hw (o0 := b3) O18 W ) (W := 1) (by decide) (by decide) (k' := 2) rfl (n' := 40) rfl (by decide) (by decide) rfl pd_148 (argsL := [(.ref a_ASC), (.ref b3)]) rfl (rest := [(.ref o0)]) rfl rfl rfl d5_8 (q := 11) rfl ?_
  rintro _ T20 _ X21 ⟨rfl, rfl⟩
  refine g_castY C X21 (w41 hw) (Ins.self (W.2.1.ext O18.2)) d5_11 (q := 14) rfl ?_
  intro T22 X23
  have f24 := (P1.ext E9)
  have f25 := (P0.ext E9)
  refine g_putF C X23 (host := "") (Or.inl (w43 hw)) Via.refl f24 f25 (Or.inr ⟨(w44 hw), rfl, rfl⟩) (w30 hw) (ty := (.object "com/example/sober_repository/soberrepository/Sort$Direction")) (by decide) rfl rfl d5_14 (q := 17) rfl G0 ?_
  intro T26 h28 X27 W29
  have FW29 := Fld.same W29 f24
  have Y30 := Wx.wr Y8 W29 (Safe.exa (Cx.alike C) f25 (by decide) (by decide))
  have O31 := O18.wr W29 G0
  refine g_aloadN C X27 d5_17 (q := 18) rfl rfl rfl ?_
  refine g_aloadN C X27 d5_18 (q := 19) rfl rfl rfl ?_
  refine gW_ldcC C X27 Y30 (own_EL hw) (vs := [(.int (112 : Int32)), (.int (114 : Int32)), (.int (111 : Int32)), (.int (112 : Int32)), (.int (101 : Int32)), (.int (114 : Int32)), (.int (116 : Int32)), (.int (121 : Int32))]) (z := 8) (w45 hw) (own_SA hw) (List.mem_of_getElem? (i := 1) rfl) ⟨by decide, by decide +kernel⟩ (by decide) rfl d5_19 (q := 21) rfl (nn := 32) (by decide) (by decide) (k' := 4) rfl (n' := 76) rfl (by decide) (by decide) ?_
  intro b32 b40 kA41 T33 h34 vm35 C X36 Y37 E38 R39 f42 f43 f44 f45 sf46
  have O47 := O31.ext E38
  have F48 : Str Z h34 b32 [(112 : Int32), (114 : Int32), (111 : Int32), (112 : Int32), (101 : Int32), (114 : Int32), (116 : Int32), (121 : Int32)] := ⟨b40, kA41, f42, f44, f43, f45, by decide, by decide⟩
  refine g_callS1 C X36 (y := (⟨"java/util/Objects", "requireNonNull", "(Ljava/lang/Object;Ljava/lang/String;)Ljava/lang/Object;"⟩ : MethodName)) (by decide) (w37 hw) (w38 hw) (w40 hw) (w39 hw) (rm_req_1 hw (o0 := o1) (o1 := b32) O47 W ) (W := 1) (by decide) (by decide) (k' := 4) rfl (n' := 76) rfl (by decide) (by decide) rfl pd_148 (argsL := [(.ref o1), (.ref b32)]) rfl (rest := [(.ref o0)]) rfl rfl rfl d5_21 (q := 24) rfl ?_
  rintro _ T49 _ X50 ⟨rfl, rfl⟩
  have f51 := (((P3.ext E9).wr W29).ext E38)
  refine g_castY C X50 (w46 hw) (Ins.self f51) d5_24 (q := 27) rfl ?_
  intro T52 X53
  have f54 := (((P2.ext E9).other W29 (Or.inr (slot_ne (Or.inr (w48 hw)) (Or.inr (w44 hw)) (by decide) (t := (.object "java/lang/String")) (t' := (.object "com/example/sober_repository/soberrepository/Sort$Direction")) (by decide) (by decide)))).ext E38)
  have f55 := ((f25.wr W29).ext E38)
  refine g_putF C X53 (host := "") (Or.inl (w47 hw)) Via.refl f54 f55 (Or.inr ⟨(w48 hw), rfl, rfl⟩) (w30 hw) (ty := (.object "java/lang/String")) (by decide) rfl rfl d5_27 (q := 30) rfl G0 ?_
  intro T56 h58 X57 W59
  have FW59 := Fld.same W59 f54
  have Y60 := Wx.wr Y37 W59 (Safe.exa (Cx.alike C) f55 (by decide) (by decide))
  have O61 := O47.wr W59 G0
  exact gW_retV C X57 Y60 (own_EL hw) d5_30 (by decide) (by decide) ⟨rfl, (((((Keep.refl h0 [o0]).ext E9).wr W29 (Or.inl (List.mem_of_getElem? (i := 0) rfl))).ext E38).wr W59 (Or.inl (List.mem_of_getElem? (i := 0) rfl))), (f55.wr W59), ((FW29.ext E38).other W59 (Or.inr (slot_ne (Or.inr (w44 hw)) (Or.inr (w48 hw)) (by decide) (t := (.object "com/example/sober_repository/soberrepository/Sort$Direction")) (t' := (.object "java/lang/String")) (by decide) (by decide)))), FW59⟩
set_option maxRecDepth 65536 in
set_option maxHeartbeats 40000000 in
theorem rm_eq0_0 {l : Launch} {Z : State} {a0 : Array Value} (hw : ∀ d ∈ tables_1, d.before a0 Z = true) {a_ASC : Addr} {a_DESC : Addr} {cz : Int32} {o0 : Addr} {o1 : Addr} {h0 : Heap} {n0 : Nat} (O : Old Z n0 h0) (W : Wd Z a_ASC a_DESC cz)  (P0 : Exa Z h0 o0 "com/example/sober_repository/soberrepository/Sort$Order") (P1 : Fld Z h0 o0 "com/example/sober_repository/soberrepository/Sort$Order" "_direction" "Lcom/example/sober_repository/soberrepository/Sort$Direction;" (.ref a_ASC)) (P2 : Fld Z h0 o0 "com/example/sober_repository/soberrepository/Sort$Order" "_property" "Ljava/lang/String;" (.ref o1)) (G0 : n0 ≤ o0) :
    Met1 l Z (⟨"com/example/sober_repository/soberrepository/Sort$Order", "equals", "(Ljava/lang/Object;)Z"⟩ : MethodName) prog_53_method_6_code 2 (some .boolean) ({ frames := 0, cells := 0, slots := 0, locals := 0 } : Room) #[(.ref o0), .null] h0 n0 (fun v h => v = (.int (0 : Int32)) ∧ h0 = h) := by
  refine met_of (L := #[.val (.ref o0), .val .null]) (plainFor_of_name pn_158) (fun m => by first | (simp [entryFrame, mkF, argsToLocals, Value.category]; done) | rfl) ?_
  intro p e s m below meth c T C X
  change Cx p s m meth c Z "com/example/sober_repository/soberrepository/Sort$Order" prog_53_method_6_code 2 (some .boolean) "equals" at C
  refine g_aloadN C X d8_0 (q := 1) rfl rfl rfl ?_
  refine g_instNull C X d8_1 (q := 4) rfl ?_
  refine g_ifY C X d8_4 (by decide) (q := 42) (by decide) (by decide) ?_
  refine g_iconst C X d8_42 (q := 43) rfl (z := (0 : Int32)) rfl ?_
  exact g_retN C X (Or.inl rfl) (z' := (0 : Int32)) (by decide) d8_43 (by decide) (by decide) ⟨_, rfl, rfl, rfl⟩
set_option maxRecDepth 65536 in
set_option maxHeartbeats 40000000 in
theorem rm_eq0_1 {l : Launch} {Z : State} {a0 : Array Value} (hw : ∀ d ∈ tables_1, d.before a0 Z = true) {a_ASC : Addr} {a_DESC : Addr} {cz : Int32} {o0 : Addr} {o1 : Addr} {cs2 : (List Int32)} {h0 : Heap} {n0 : Nat} (O : Old Z n0 h0) (W : Wd Z a_ASC a_DESC cz)  (P0 : Exa Z h0 o0 "com/example/sober_repository/soberrepository/Sort$Order") (P1 : Fld Z h0 o0 "com/example/sober_repository/soberrepository/Sort$Order" "_direction" "Lcom/example/sober_repository/soberrepository/Sort$Direction;" (.ref a_ASC)) (P2 : Fld Z h0 o0 "com/example/sober_repository/soberrepository/Sort$Order" "_property" "Ljava/lang/String;" (.ref o1)) (P3 : Exa Z h0 o1 "java/lang/String") (P4 : Str Z h0 o1 cs2) (G0 : n0 ≤ o0) (G1 : n0 ≤ o1) (N0_1 : o0 ≠ o1) :
    Met1 l Z (⟨"com/example/sober_repository/soberrepository/Sort$Order", "equals", "(Ljava/lang/Object;)Z"⟩ : MethodName) prog_53_method_6_code 2 (some .boolean) ({ frames := 0, cells := 0, slots := 0, locals := 0 } : Room) #[(.ref o0), (.ref o1)] h0 n0 (fun v h => v = (.int (0 : Int32)) ∧ h0 = h) := by
  refine met_of (L := #[.val (.ref o0), .val (.ref o1)]) (plainFor_of_name pn_158) (fun m => by first | (simp [entryFrame, mkF, argsToLocals, Value.category]; done) | rfl) ?_
  intro p e s m below meth c T C X
  change Cx p s m meth c Z "com/example/sober_repository/soberrepository/Sort$Order" prog_53_method_6_code 2 (some .boolean) "equals" at C
  refine g_aloadN C X d8_0 (q := 1) rfl rfl rfl ?_
  refine g_instNo C X (w57 hw) P3 (own_noInst (w86 hw) (w85 hw) (w30 hw) (by decide) (by decide)) d8_1 (q := 4) rfl ?_
  intro T1 X2
  refine g_ifY C X2 d8_4 (by decide) (q := 42) (by decide) (by decide) ?_
  refine g_iconst C X2 d8_42 (q := 43) rfl (z := (0 : Int32)) rfl ?_
  exact g_retN C X2 (Or.inl rfl) (z' := (0 : Int32)) (by decide) d8_43 (by decide) (by decide) ⟨_, rfl, rfl, rfl⟩
set_option maxRecDepth 65536 in
set_option maxHeartbeats 40000000 in
theorem rm_eq0_2 {l : Launch} {Z : State} {a0 : Array Value} (hw : ∀ d ∈ tables_1, d.before a0 Z = true) {a_ASC : Addr} {a_DESC : Addr} {cz : Int32} {o0 : Addr} {o1 : Addr} {cs2 : (List Int32)} {h0 : Heap} {n0 : Nat} (O : Old Z n0 h0) (W : Wd Z a_ASC a_DESC cz)  (P0 : Exa Z h0 o0 "com/example/sober_repository/soberrepository/Sort$Order") (P1 : Fld Z h0 o0 "com/example/sober_repository/soberrepository/Sort$Order" "_direction" "Lcom/example/sober_repository/soberrepository/Sort$Direction;" (.ref a_ASC)) (P2 : Fld Z h0 o0 "com/example/sober_repository/soberrepository/Sort$Order" "_property" "Ljava/lang/String;" (.ref o1)) (P3 : Exa Z h0 o1 "java/lang/String") (P4 : Str Z h0 o1 cs2) (G0 : n0 ≤ o0) (G1 : n0 ≤ o1) (N0_1 : o0 ≠ o1) :
    Met1 l Z (⟨"com/example/sober_repository/soberrepository/Sort$Order", "equals", "(Ljava/lang/Object;)Z"⟩ : MethodName) prog_53_method_6_code 2 (some .boolean) ({ frames := 2, cells := 0, slots := 0, locals := 28 } : Room) #[(.ref o0), (.ref o0)] h0 n0 (fun v h => v = (.int (1 : Int32)) ∧ h0 = h) := by
  refine met_of (L := #[.val (.ref o0), .val (.ref o0)]) (plainFor_of_name pn_158) (fun m => by first | (simp [entryFrame, mkF, argsToLocals, Value.category]; done) | rfl) ?_
  intro p e s m below meth c T C X
  change Cx p s m meth c Z "com/example/sober_repository/soberrepository/Sort$Order" prog_53_method_6_code 2 (some .boolean) "equals" at C
  refine g_aloadN C X d8_0 (q := 1) rfl rfl rfl ?_
  refine g_instY C X (w57 hw) (Ins.self P0) d8_1 (q := 4) rfl ?_
  intro T1 X2
  refine g_ifN C X2 d8_4 (q := 7) rfl (by decide) ?_
  refine g_aloadN C X2 d8_7 (q := 8) rfl rfl rfl ?_
  refine g_getF C X2 (host := "") (Or.inl (w47 hw)) Via.refl P2 d8_8 (q := 11) rfl ?_
  intro T3 X4
  refine g_aloadN C X4 d8_11 (q := 12) rfl rfl rfl ?_
  refine g_castY C X4 (w57 hw) (Ins.self P0) d8_12 (q := 15) rfl ?_
  intro T5 X6
  refine g_getF C X6 (host := "") (Or.inl (w47 hw)) Via.refl P2 d8_15 (q := 18) rfl ?_
  intro T7 X8
  refine g_strEq C X8 (own_wordsEq hw) (w8 hw) (w59 hw) (w60 hw) (w62 hw) (w61 hw) P4 P4 (W.2.2.2.2.2.2.1.ext O.2) W.2.2.2.2.2.2.2 (W := 0) (by decide) (by decide) (by decide) (by decide) rfl rfl d8_18 (q := 21) rfl ?_
  intro T9 X10
  rw [if_pos rfl]
  refine g_ifN C X10 d8_21 (q := 24) rfl (by decide) ?_
  refine g_aloadN C X10 d8_24 (q := 25) rfl rfl rfl ?_
  refine g_getF C X10 (host := "") (Or.inl (w43 hw)) Via.refl P1 d8_25 (q := 28) rfl ?_
  intro T11 X12
  refine g_aloadN C X12 d8_28 (q := 29) rfl rfl rfl ?_
  refine g_castY C X12 (w57 hw) (Ins.self P0) d8_29 (q := 32) rfl ?_
  intro T13 X14
  refine g_getF C X14 (host := "") (Or.inl (w43 hw)) Via.refl P1 d8_32 (q := 35) rfl ?_
  intro T15 X16
  refine g_acmp C X16 d8_35 rfl rfl (same := true) (decide_eq_true rfl) (by decide) (q := 38) (by decide) ?_
  refine g_iconst C X16 d8_38 (q := 39) rfl (z := (1 : Int32)) rfl ?_
  refine g_goto C X16 d8_39 (by decide) (q := 43) (by decide) ?_
  exact g_retN C X16 (Or.inl rfl) (z' := (1 : Int32)) (by decide) d8_43 (by decide) (by decide) ⟨_, rfl, rfl, rfl⟩
set_option maxRecDepth 65536 in
set_option maxHeartbeats 40000000 in
theorem rm_eqS {l : Launch} {Z : State} {a0 : Array Value} (hw : ∀ d ∈ tables_1, d.before a0 Z = true) {a b sa0 sb0 ra0 : Addr} {ca0 cb0 : List Int32} {a_ASC : Addr} {a_DESC : Addr} {cz : Int32} {h0 : Heap} {n0 : Nat} (O : Old Z n0 h0) (W : Wd Z a_ASC a_DESC cz) (Ea : Exa Z h0 a "com/example/sober_repository/soberrepository/Sort$Order") (Fa0 : Fld Z h0 a "com/example/sober_repository/soberrepository/Sort$Order" "_property" "Ljava/lang/String;" (.ref sa0)) (Ga0 : Fld Z h0 a "com/example/sober_repository/soberrepository/Sort$Order" "_direction" "Lcom/example/sober_repository/soberrepository/Sort$Direction;" (.ref ra0)) (Eb : Exa Z h0 b "com/example/sober_repository/soberrepository/Sort$Order") (Fb0 : Fld Z h0 b "com/example/sober_repository/soberrepository/Sort$Order" "_property" "Ljava/lang/String;" (.ref sb0)) (Gb0 : Fld Z h0 b "com/example/sober_repository/soberrepository/Sort$Order" "_direction" "Lcom/example/sober_repository/soberrepository/Sort$Direction;" (.ref ra0)) (Ta0 : Str Z h0 sa0 ca0) (Tb0 : Str Z h0 sb0 cb0) (Nab : a ≠ b) :
    Met1 l Z (⟨"com/example/sober_repository/soberrepository/Sort$Order", "equals", "(Ljava/lang/Object;)Z"⟩ : MethodName) prog_53_method_6_code 2 (some .boolean) ({ frames := 2, cells := 0, slots := 0, locals := 28 } : Room) #[(.ref a), (.ref b)] h0 n0 (fun v h => v = .int (if ca0 = cb0 then 1 else 0) ∧ h0 = h) := by
  refine met_of (L := #[.val (.ref a), .val (.ref b)]) (plainFor_of_name pn_158) (fun m => by first | (simp [entryFrame, mkF, argsToLocals, Value.category]; done) | rfl) ?_
  intro p e s m below meth c T C X
  change Cx p s m meth c Z "com/example/sober_repository/soberrepository/Sort$Order" prog_53_method_6_code 2 (some .boolean) "equals" at C
  refine g_aloadN C X d8_0 (q := 1) rfl rfl rfl ?_
  refine g_instY C X (w57 hw) (Ins.self Eb) d8_1 (q := 4) rfl ?_
  intro T1 X2
  refine g_ifN C X2 d8_4 (q := 7) rfl (by decide) ?_
  refine g_aloadN C X2 d8_7 (q := 8) rfl rfl rfl ?_
  refine g_getF C X2 (host := "") (Or.inl (w47 hw)) Via.refl Fa0 d8_8 (q := 11) rfl ?_
  intro T3 X4
  refine g_aloadN C X4 d8_11 (q := 12) rfl rfl rfl ?_
  refine g_castY C X4 (w57 hw) (Ins.self Eb) d8_12 (q := 15) rfl ?_
  intro T5 X6
  refine g_getF C X6 (host := "") (Or.inl (w47 hw)) Via.refl Fb0 d8_15 (q := 18) rfl ?_
  intro T7 X8
  refine g_strEq C X8 (own_wordsEq hw) (w8 hw) (w59 hw) (w60 hw) (w62 hw) (w61 hw) Ta0 Tb0 (W.2.2.2.2.2.2.1.ext O.2) W.2.2.2.2.2.2.2 (W := 0) (by decide) (by decide) (by decide) (by decide) rfl rfl d8_18 (q := 21) rfl ?_
  intro T9 X10
  by_cases hx11 : ca0 = cb0
  · rw [if_pos hx11]
    refine g_ifN C X10 d8_21 (q := 24) rfl (by decide) ?_
    refine g_aloadN C X10 d8_24 (q := 25) rfl rfl rfl ?_
    refine g_getF C X10 (host := "") (Or.inl (w43 hw)) Via.refl Ga0 d8_25 (q := 28) rfl ?_
    intro T12 X13
    refine g_aloadN C X13 d8_28 (q := 29) rfl rfl rfl ?_
    refine g_castY C X13 (w57 hw) (Ins.self Eb) d8_29 (q := 32) rfl ?_
    intro T14 X15
    refine g_getF C X15 (host := "") (Or.inl (w43 hw)) Via.refl Gb0 d8_32 (q := 35) rfl ?_
    intro T16 X17
    refine g_acmp C X17 d8_35 rfl rfl (same := true) (decide_eq_true rfl) (by decide) (q := 38) (by decide) ?_
    refine g_iconst C X17 d8_38 (q := 39) rfl (z := (1 : Int32)) rfl ?_
    refine g_goto C X17 d8_39 (by decide) (q := 43) (by decide) ?_
    exact g_retN C X17 (Or.inl rfl) (z' := 1) (by decide) d8_43 (by decide) (by decide) ⟨_, rfl, by simp [*], rfl⟩
  · rw [if_neg hx11]
    refine g_ifY C X10 d8_21 (by decide) (q := 42) (by decide) (by decide) ?_
    refine g_iconst C X10 d8_42 (q := 43) rfl (z := (0 : Int32)) rfl ?_
    exact g_retN C X10 (Or.inl rfl) (z' := 0) (by decide) d8_43 (by decide) (by decide) ⟨_, rfl, by simp [*], rfl⟩
set_option maxRecDepth 65536 in
set_option maxHeartbeats 40000000 in
theorem rm_req_2 {l : Launch} {Z : State} {a0 : Array Value} (hw : ∀ d ∈ tables_1, d.before a0 Z = true) {a_ASC : Addr} {a_DESC : Addr} {cz : Int32} {o0 : Addr} {h0 : Heap} {n0 : Nat} (O : Old Z n0 h0) (W : Wd Z a_ASC a_DESC cz)  :
    Met1 l Z (⟨"java/util/Objects", "requireNonNull", "(Ljava/lang/Object;Ljava/lang/String;)Ljava/lang/Object;"⟩ : MethodName) jdk_31_method_11_code 2 (some (.object "java/lang/Object")) ({ frames := 0, cells := 0, slots := 0, locals := 0 } : Room) #[(.ref a_DESC), (.ref o0)] h0 n0 (fun v h => v = (.ref a_DESC) ∧ h0 = h) := by
  refine met_of (L := #[.val (.ref a_DESC), .val (.ref o0)]) (plainFor_of_name pn_147) (fun m => by first | (simp [entryFrame, mkF, argsToLocals, Value.category]; done) | rfl) ?_
  intro p e s m below meth c T C X
  change Cx p s m meth c Z "java/util/Objects" jdk_31_method_11_code 2 (some (.object "java/lang/Object")) "requireNonNull" at C
  refine g_aloadN C X d6_0 (q := 1) rfl rfl rfl ?_
  refine g_nonY C X d6_1 (by decide) (q := 13) (by decide) ?_
  refine g_aloadN C X d6_13 (q := 14) rfl rfl rfl ?_
  exact g_retA C X rfl rfl d6_14 (by decide) (by decide) ⟨_, rfl, rfl, rfl⟩
set_option maxRecDepth 65536 in
set_option maxHeartbeats 40000000 in
theorem rm_init_1 {l : Launch} {Z : State} {a0 : Array Value} (hw : ∀ d ∈ tables_1, d.before a0 Z = true) {a_ASC : Addr} {a_DESC : Addr} {cz : Int32} {o0 : Addr} {o1 : Addr} {cs2 : (List Int32)} {h0 : Heap} {n0 : Nat} (O : Old Z n0 h0) (W : Wd Z a_ASC a_DESC cz)  (P0 : Exa Z h0 o0 "com/example/sober_repository/soberrepository/Sort$Order") (P1 : Fld Z h0 o0 "com/example/sober_repository/soberrepository/Sort$Order" "_direction" "Lcom/example/sober_repository/soberrepository/Sort$Direction;" .null) (P2 : Fld Z h0 o0 "com/example/sober_repository/soberrepository/Sort$Order" "_property" "Ljava/lang/String;" .null) (P3 : Exa Z h0 o1 "java/lang/String") (P4 : Str Z h0 o1 cs2) (G0 : n0 ≤ o0) (G1 : n0 ≤ o1) (N0_1 : o0 ≠ o1) :
    MetW0 l Z consts_1 (⟨"com/example/sober_repository/soberrepository/Sort$Order", "<init>", "(Lcom/example/sober_repository/soberrepository/Sort$Direction;Ljava/lang/String;)V"⟩ : MethodName) prog_53_method_1_code 3 none ({ frames := 1, cells := 4, slots := 76, locals := 14 } : Room) #[(.ref o0), (.ref a_DESC), (.ref o1)] h0 n0 (fun h => Keep h0 h [o0] ∧ Exa Z h o0 "com/example/sober_repository/soberrepository/Sort$Order" ∧ Fld Z h o0 "com/example/sober_repository/soberrepository/Sort$Order" "_direction" "Lcom/example/sober_repository/soberrepository/Sort$Direction;" (.ref a_DESC) ∧ Fld Z h o0 "com/example/sober_repository/soberrepository/Sort$Order" "_property" "Ljava/lang/String;" (.ref o1)) := by
  refine metW_of (L := #[.val (.ref o0), .val (.ref a_DESC), .val (.ref o1)]) (plainFor_of_name pn_158) (fun m => by first | (simp [entryFrame, mkF, argsToLocals, Value.category]; done) | rfl) ?_
  intro p e s m below meth c T vm C X Y
  change Cx p (s.setVm vm) m meth c Z "com/example/sober_repository/soberrepository/Sort$Order" prog_53_method_1_code 3 none "<init>" at C
  refine g_aloadN C X d5_0 (q := 1) rfl rfl rfl ?_
  refine g_initO C X (w35 hw) (w19 hw) (w20 hw) rfl d5_1 (q := 4) rfl (by decide) (by decide) ?_
  intro T1 X2
  refine g_aloadN C X2 d5_4 (q := 5) rfl rfl rfl ?_
  refine g_aloadN C X2 d5_5 (q := 6) rfl rfl rfl ?_
  refine gW_ldcC C X2 Y (own_EL hw) (vs := [(.int (100 : Int32)), (.int (105 : Int32)), (.int (114 : Int32)), (.int (101 : Int32)), (.int (99 : Int32)), (.int (116 : Int32)), (.int (105 : Int32)), (.int (111 : Int32)), (.int (110 : Int32))]) (z := 9) (w36 hw) (own_SA hw) (List.mem_of_getElem? (i := 0) rfl) ⟨by decide, by decide +kernel⟩ (by decide) rfl d5_6 (q := 8) rfl (nn := 36) (by decide) (by decide) (k' := 2) rfl (n' := 40) rfl (by decide) (by decide) ?_
  intro b3 b11 kA12 T4 h5 vm6 C X7 Y8 E9 R10 f13 f14 f15 f16 sf17
  have O18 := O.ext E9
  have F19 : Str Z h5 b3 [(100 : Int32), (105 : Int32), (114 : Int32), (101 : Int32), (99 : Int32), (116 : Int32), (105 : Int32), (111 : Int32), (110 : Int32)] := ⟨b11, kA12, f13, f15, f14, f16, by decide, by decide⟩
  refine g_callS1 C X7 (y := (⟨"java/util/Objects", "requireNonNull", "(Ljava/lang/Object;Ljava/lang/String;)Ljava/lang/Object;"⟩ : MethodName)) (by decide) (w37 hw) (w38 hw) (w40 hw) (w39 hw) (rm_req_2 hw (o0 := b3) O18 W ) (W := 1) (by decide) (by decide) (k' := 2) rfl (n' := 40) rfl (by decide) (by decide) rfl pd_148 (argsL := [(.ref a_DESC), (.ref b3)]) rfl (rest := [(.ref o0)]) rfl rfl rfl d5_8 (q := 11) rfl ?_
  rintro _ T20 _ X21 ⟨rfl, rfl⟩
  refine g_castY C X21 (w41 hw) (Ins.self (W.2.2.2.1.ext O18.2)) d5_11 (q := 14) rfl ?_
  intro T22 X23
  have f24 := (P1.ext E9)
  have f25 := (P0.ext E9)
  refine g_putF C X23 (host := "") (Or.inl (w43 hw)) Via.refl f24 f25 (Or.inr ⟨(w44 hw), rfl, rfl⟩) (w30 hw) (ty := (.object "com/example/sober_repository/soberrepository/Sort$Direction")) (by decide) rfl rfl d5_14 (q := 17) rfl G0 ?_
  intro T26 h28 X27 W29
  have FW29 := Fld.same W29 f24
  have Y30 := Wx.wr Y8 W29 (Safe.exa (Cx.alike C) f25 (by decide) (by decide))
  have O31 := O18.wr W29 G0
  refine g_aloadN C X27 d5_17 (q := 18) rfl rfl rfl ?_
  refine g_aloadN C X27 d5_18 (q := 19) rfl rfl rfl ?_
  refine gW_ldcC C X27 Y30 (own_EL hw) (vs := [(.int (112 : Int32)), (.int (114 : Int32)), (.int (111 : Int32)), (.int (112 : Int32)), (.int (101 : Int32)), (.int (114 : Int32)), (.int (116 : Int32)), (.int (121 : Int32))]) (z := 8) (w45 hw) (own_SA hw) (List.mem_of_getElem? (i := 1) rfl) ⟨by decide, by decide +kernel⟩ (by decide) rfl d5_19 (q := 21) rfl (nn := 32) (by decide) (by decide) (k' := 4) rfl (n' := 76) rfl (by decide) (by decide) ?_
  intro b32 b40 kA41 T33 h34 vm35 C X36 Y37 E38 R39 f42 f43 f44 f45 sf46
  have O47 := O31.ext E38
  have F48 : Str Z h34 b32 [(112 : Int32), (114 : Int32), (111 : Int32), (112 : Int32), (101 : Int32), (114 : Int32), (116 : Int32), (121 : Int32)] := ⟨b40, kA41, f42, f44, f43, f45, by decide, by decide⟩
  refine g_callS1 C X36 (y := (⟨"java/util/Objects", "requireNonNull", "(Ljava/lang/Object;Ljava/lang/String;)Ljava/lang/Object;"⟩ : MethodName)) (by decide) (w37 hw) (w38 hw) (w40 hw) (w39 hw) (rm_req_1 hw (o0 := o1) (o1 := b32) O47 W ) (W := 1) (by decide) (by decide) (k' := 4) rfl (n' := 76) rfl (by decide) (by decide) rfl pd_148 (argsL := [(.ref o1), (.ref b32)]) rfl (rest := [(.ref o0)]) rfl rfl rfl d5_21 (q := 24) rfl ?_
  rintro _ T49 _ X50 ⟨rfl, rfl⟩
  have f51 := (((P3.ext E9).wr W29).ext E38)
  refine g_castY C X50 (w46 hw) (Ins.self f51) d5_24 (q := 27) rfl ?_
  intro T52 X53
  have f54 := (((P2.ext E9).other W29 (Or.inr (slot_ne (Or.inr (w48 hw)) (Or.inr (w44 hw)) (by decide) (t := (.object "java/lang/String")) (t' := (.object "com/example/sober_repository/soberrepository/Sort$Direction")) (by decide) (by decide)))).ext E38)
  have f55 := ((f25.wr W29).ext E38)
  refine g_putF C X53 (host := "") (Or.inl (w47 hw)) Via.refl f54 f55 (Or.inr ⟨(w48 hw), rfl, rfl⟩) (w30 hw) (ty := (.object "java/lang/String")) (by decide) rfl rfl d5_27 (q := 30) rfl G0 ?_
  intro T56 h58 X57 W59
  have FW59 := Fld.same W59 f54
  have Y60 := Wx.wr Y37 W59 (Safe.exa (Cx.alike C) f55 (by decide) (by decide))
  have O61 := O47.wr W59 G0
  exact gW_retV C X57 Y60 (own_EL hw) d5_30 (by decide) (by decide) ⟨rfl, (((((Keep.refl h0 [o0]).ext E9).wr W29 (Or.inl (List.mem_of_getElem? (i := 0) rfl))).ext E38).wr W59 (Or.inl (List.mem_of_getElem? (i := 0) rfl))), (f55.wr W59), ((FW29.ext E38).other W59 (Or.inr (slot_ne (Or.inr (w44 hw)) (Or.inr (w48 hw)) (by decide) (t := (.object "com/example/sober_repository/soberrepository/Sort$Direction")) (t' := (.object "java/lang/String")) (by decide) (by decide)))), FW59⟩
set_option maxRecDepth 65536 in
set_option maxHeartbeats 40000000 in
theorem rm_eqD {l : Launch} {Z : State} {a0 : Array Value} (hw : ∀ d ∈ tables_1, d.before a0 Z = true) {a b sa0 sb0 ra0 rb0 : Addr} {ca0 cb0 : List Int32} {a_ASC : Addr} {a_DESC : Addr} {cz : Int32} {h0 : Heap} {n0 : Nat} (O : Old Z n0 h0) (W : Wd Z a_ASC a_DESC cz) (Ea : Exa Z h0 a "com/example/sober_repository/soberrepository/Sort$Order") (Fa0 : Fld Z h0 a "com/example/sober_repository/soberrepository/Sort$Order" "_property" "Ljava/lang/String;" (.ref sa0)) (Ga0 : Fld Z h0 a "com/example/sober_repository/soberrepository/Sort$Order" "_direction" "Lcom/example/sober_repository/soberrepository/Sort$Direction;" (.ref ra0)) (Eb : Exa Z h0 b "com/example/sober_repository/soberrepository/Sort$Order") (Fb0 : Fld Z h0 b "com/example/sober_repository/soberrepository/Sort$Order" "_property" "Ljava/lang/String;" (.ref sb0)) (Gb0 : Fld Z h0 b "com/example/sober_repository/soberrepository/Sort$Order" "_direction" "Lcom/example/sober_repository/soberrepository/Sort$Direction;" (.ref rb0)) (Ta0 : Str Z h0 sa0 ca0) (Tb0 : Str Z h0 sb0 cb0) (Nab : a ≠ b) (N0 : ra0 ≠ rb0) :
    Met1 l Z (⟨"com/example/sober_repository/soberrepository/Sort$Order", "equals", "(Ljava/lang/Object;)Z"⟩ : MethodName) prog_53_method_6_code 2 (some .boolean) ({ frames := 2, cells := 0, slots := 0, locals := 28 } : Room) #[(.ref a), (.ref b)] h0 n0 (fun v h => v = .int (0) ∧ h0 = h) := by
  refine met_of (L := #[.val (.ref a), .val (.ref b)]) (plainFor_of_name pn_158) (fun m => by first | (simp [entryFrame, mkF, argsToLocals, Value.category]; done) | rfl) ?_
  intro p e s m below meth c T C X
  change Cx p s m meth c Z "com/example/sober_repository/soberrepository/Sort$Order" prog_53_method_6_code 2 (some .boolean) "equals" at C
  refine g_aloadN C X d8_0 (q := 1) rfl rfl rfl ?_
  refine g_instY C X (w57 hw) (Ins.self Eb) d8_1 (q := 4) rfl ?_
  intro T1 X2
  refine g_ifN C X2 d8_4 (q := 7) rfl (by decide) ?_
  refine g_aloadN C X2 d8_7 (q := 8) rfl rfl rfl ?_
  refine g_getF C X2 (host := "") (Or.inl (w47 hw)) Via.refl Fa0 d8_8 (q := 11) rfl ?_
  intro T3 X4
  refine g_aloadN C X4 d8_11 (q := 12) rfl rfl rfl ?_
  refine g_castY C X4 (w57 hw) (Ins.self Eb) d8_12 (q := 15) rfl ?_
  intro T5 X6
  refine g_getF C X6 (host := "") (Or.inl (w47 hw)) Via.refl Fb0 d8_15 (q := 18) rfl ?_
  intro T7 X8
  refine g_strEq C X8 (own_wordsEq hw) (w8 hw) (w59 hw) (w60 hw) (w62 hw) (w61 hw) Ta0 Tb0 (W.2.2.2.2.2.2.1.ext O.2) W.2.2.2.2.2.2.2 (W := 0) (by decide) (by decide) (by decide) (by decide) rfl rfl d8_18 (q := 21) rfl ?_
  intro T9 X10
  by_cases hx11 : ca0 = cb0
  · rw [if_pos hx11]
    refine g_ifN C X10 d8_21 (q := 24) rfl (by decide) ?_
    refine g_aloadN C X10 d8_24 (q := 25) rfl rfl rfl ?_
    refine g_getF C X10 (host := "") (Or.inl (w43 hw)) Via.refl Ga0 d8_25 (q := 28) rfl ?_
    intro T12 X13
    refine g_aloadN C X13 d8_28 (q := 29) rfl rfl rfl ?_
    refine g_castY C X13 (w57 hw) (Ins.self Eb) d8_29 (q := 32) rfl ?_
    intro T14 X15
    refine g_getF C X15 (host := "") (Or.inl (w43 hw)) Via.refl Gb0 d8_32 (q := 35) rfl ?_
    intro T16 X17
    refine g_acmp C X17 d8_35 rfl rfl (same := false) (decide_eq_false fun z => N0 (Value.ref.inj z)) (by decide) (q := 42) (by decide) ?_
    refine g_iconst C X17 d8_42 (q := 43) rfl (z := (0 : Int32)) rfl ?_
    exact g_retN C X17 (Or.inl rfl) (z' := 0) (by decide) d8_43 (by decide) (by decide) ⟨_, rfl, by simp [*], rfl⟩
  · rw [if_neg hx11]
    refine g_ifY C X10 d8_21 (by decide) (q := 42) (by decide) (by decide) ?_
    refine g_iconst C X10 d8_42 (q := 43) rfl (z := (0 : Int32)) rfl ?_
    exact g_retN C X10 (Or.inl rfl) (z' := 0) (by decide) d8_43 (by decide) (by decide) ⟨_, rfl, by simp [*], rfl⟩
set_option maxRecDepth 65536 in
set_option maxHeartbeats 40000000 in
theorem rm_eq0_3 {l : Launch} {Z : State} {a0 : Array Value} (hw : ∀ d ∈ tables_1, d.before a0 Z = true) {a_ASC : Addr} {a_DESC : Addr} {cz : Int32} {o0 : Addr} {o1 : Addr} {h0 : Heap} {n0 : Nat} (O : Old Z n0 h0) (W : Wd Z a_ASC a_DESC cz)  (P0 : Exa Z h0 o0 "com/example/sober_repository/soberrepository/Sort$Order") (P1 : Fld Z h0 o0 "com/example/sober_repository/soberrepository/Sort$Order" "_direction" "Lcom/example/sober_repository/soberrepository/Sort$Direction;" (.ref a_DESC)) (P2 : Fld Z h0 o0 "com/example/sober_repository/soberrepository/Sort$Order" "_property" "Ljava/lang/String;" (.ref o1)) (G0 : n0 ≤ o0) :
    Met1 l Z (⟨"com/example/sober_repository/soberrepository/Sort$Order", "equals", "(Ljava/lang/Object;)Z"⟩ : MethodName) prog_53_method_6_code 2 (some .boolean) ({ frames := 0, cells := 0, slots := 0, locals := 0 } : Room) #[(.ref o0), .null] h0 n0 (fun v h => v = (.int (0 : Int32)) ∧ h0 = h) := by
  refine met_of (L := #[.val (.ref o0), .val .null]) (plainFor_of_name pn_158) (fun m => by first | (simp [entryFrame, mkF, argsToLocals, Value.category]; done) | rfl) ?_
  intro p e s m below meth c T C X
  change Cx p s m meth c Z "com/example/sober_repository/soberrepository/Sort$Order" prog_53_method_6_code 2 (some .boolean) "equals" at C
  refine g_aloadN C X d8_0 (q := 1) rfl rfl rfl ?_
  refine g_instNull C X d8_1 (q := 4) rfl ?_
  refine g_ifY C X d8_4 (by decide) (q := 42) (by decide) (by decide) ?_
  refine g_iconst C X d8_42 (q := 43) rfl (z := (0 : Int32)) rfl ?_
  exact g_retN C X (Or.inl rfl) (z' := (0 : Int32)) (by decide) d8_43 (by decide) (by decide) ⟨_, rfl, rfl, rfl⟩
set_option maxRecDepth 65536 in
set_option maxHeartbeats 40000000 in
theorem rm_eq0_4 {l : Launch} {Z : State} {a0 : Array Value} (hw : ∀ d ∈ tables_1, d.before a0 Z = true) {a_ASC : Addr} {a_DESC : Addr} {cz : Int32} {o0 : Addr} {o1 : Addr} {cs2 : (List Int32)} {h0 : Heap} {n0 : Nat} (O : Old Z n0 h0) (W : Wd Z a_ASC a_DESC cz)  (P0 : Exa Z h0 o0 "com/example/sober_repository/soberrepository/Sort$Order") (P1 : Fld Z h0 o0 "com/example/sober_repository/soberrepository/Sort$Order" "_direction" "Lcom/example/sober_repository/soberrepository/Sort$Direction;" (.ref a_DESC)) (P2 : Fld Z h0 o0 "com/example/sober_repository/soberrepository/Sort$Order" "_property" "Ljava/lang/String;" (.ref o1)) (P3 : Exa Z h0 o1 "java/lang/String") (P4 : Str Z h0 o1 cs2) (G0 : n0 ≤ o0) (G1 : n0 ≤ o1) (N0_1 : o0 ≠ o1) :
    Met1 l Z (⟨"com/example/sober_repository/soberrepository/Sort$Order", "equals", "(Ljava/lang/Object;)Z"⟩ : MethodName) prog_53_method_6_code 2 (some .boolean) ({ frames := 0, cells := 0, slots := 0, locals := 0 } : Room) #[(.ref o0), (.ref o1)] h0 n0 (fun v h => v = (.int (0 : Int32)) ∧ h0 = h) := by
  refine met_of (L := #[.val (.ref o0), .val (.ref o1)]) (plainFor_of_name pn_158) (fun m => by first | (simp [entryFrame, mkF, argsToLocals, Value.category]; done) | rfl) ?_
  intro p e s m below meth c T C X
  change Cx p s m meth c Z "com/example/sober_repository/soberrepository/Sort$Order" prog_53_method_6_code 2 (some .boolean) "equals" at C
  refine g_aloadN C X d8_0 (q := 1) rfl rfl rfl ?_
  refine g_instNo C X (w57 hw) P3 (own_noInst (w86 hw) (w85 hw) (w30 hw) (by decide) (by decide)) d8_1 (q := 4) rfl ?_
  intro T1 X2
  refine g_ifY C X2 d8_4 (by decide) (q := 42) (by decide) (by decide) ?_
  refine g_iconst C X2 d8_42 (q := 43) rfl (z := (0 : Int32)) rfl ?_
  exact g_retN C X2 (Or.inl rfl) (z' := (0 : Int32)) (by decide) d8_43 (by decide) (by decide) ⟨_, rfl, rfl, rfl⟩
set_option maxRecDepth 65536 in
set_option maxHeartbeats 40000000 in
theorem rm_eq0_5 {l : Launch} {Z : State} {a0 : Array Value} (hw : ∀ d ∈ tables_1, d.before a0 Z = true) {a_ASC : Addr} {a_DESC : Addr} {cz : Int32} {o0 : Addr} {o1 : Addr} {cs2 : (List Int32)} {h0 : Heap} {n0 : Nat} (O : Old Z n0 h0) (W : Wd Z a_ASC a_DESC cz)  (P0 : Exa Z h0 o0 "com/example/sober_repository/soberrepository/Sort$Order") (P1 : Fld Z h0 o0 "com/example/sober_repository/soberrepository/Sort$Order" "_direction" "Lcom/example/sober_repository/soberrepository/Sort$Direction;" (.ref a_DESC)) (P2 : Fld Z h0 o0 "com/example/sober_repository/soberrepository/Sort$Order" "_property" "Ljava/lang/String;" (.ref o1)) (P3 : Exa Z h0 o1 "java/lang/String") (P4 : Str Z h0 o1 cs2) (G0 : n0 ≤ o0) (G1 : n0 ≤ o1) (N0_1 : o0 ≠ o1) :
    Met1 l Z (⟨"com/example/sober_repository/soberrepository/Sort$Order", "equals", "(Ljava/lang/Object;)Z"⟩ : MethodName) prog_53_method_6_code 2 (some .boolean) ({ frames := 2, cells := 0, slots := 0, locals := 28 } : Room) #[(.ref o0), (.ref o0)] h0 n0 (fun v h => v = (.int (1 : Int32)) ∧ h0 = h) := by
  refine met_of (L := #[.val (.ref o0), .val (.ref o0)]) (plainFor_of_name pn_158) (fun m => by first | (simp [entryFrame, mkF, argsToLocals, Value.category]; done) | rfl) ?_
  intro p e s m below meth c T C X
  change Cx p s m meth c Z "com/example/sober_repository/soberrepository/Sort$Order" prog_53_method_6_code 2 (some .boolean) "equals" at C
  refine g_aloadN C X d8_0 (q := 1) rfl rfl rfl ?_
  refine g_instY C X (w57 hw) (Ins.self P0) d8_1 (q := 4) rfl ?_
  intro T1 X2
  refine g_ifN C X2 d8_4 (q := 7) rfl (by decide) ?_
  refine g_aloadN C X2 d8_7 (q := 8) rfl rfl rfl ?_
  refine g_getF C X2 (host := "") (Or.inl (w47 hw)) Via.refl P2 d8_8 (q := 11) rfl ?_
  intro T3 X4
  refine g_aloadN C X4 d8_11 (q := 12) rfl rfl rfl ?_
  refine g_castY C X4 (w57 hw) (Ins.self P0) d8_12 (q := 15) rfl ?_
  intro T5 X6
  refine g_getF C X6 (host := "") (Or.inl (w47 hw)) Via.refl P2 d8_15 (q := 18) rfl ?_
  intro T7 X8
  refine g_strEq C X8 (own_wordsEq hw) (w8 hw) (w59 hw) (w60 hw) (w62 hw) (w61 hw) P4 P4 (W.2.2.2.2.2.2.1.ext O.2) W.2.2.2.2.2.2.2 (W := 0) (by decide) (by decide) (by decide) (by decide) rfl rfl d8_18 (q := 21) rfl ?_
  intro T9 X10
  rw [if_pos rfl]
  refine g_ifN C X10 d8_21 (q := 24) rfl (by decide) ?_
  refine g_aloadN C X10 d8_24 (q := 25) rfl rfl rfl ?_
  refine g_getF C X10 (host := "") (Or.inl (w43 hw)) Via.refl P1 d8_25 (q := 28) rfl ?_
  intro T11 X12
  refine g_aloadN C X12 d8_28 (q := 29) rfl rfl rfl ?_
  refine g_castY C X12 (w57 hw) (Ins.self P0) d8_29 (q := 32) rfl ?_
  intro T13 X14
  refine g_getF C X14 (host := "") (Or.inl (w43 hw)) Via.refl P1 d8_32 (q := 35) rfl ?_
  intro T15 X16
  refine g_acmp C X16 d8_35 rfl rfl (same := true) (decide_eq_true rfl) (by decide) (q := 38) (by decide) ?_
  refine g_iconst C X16 d8_38 (q := 39) rfl (z := (1 : Int32)) rfl ?_
  refine g_goto C X16 d8_39 (by decide) (q := 43) (by decide) ?_
  exact g_retN C X16 (Or.inl rfl) (z' := (1 : Int32)) (by decide) d8_43 (by decide) (by decide) ⟨_, rfl, rfl, rfl⟩
set_option maxRecDepth 65536 in
set_option maxHeartbeats 40000000 in
theorem rmLaw {l : Launch} {Z : State} {a0 : Array Value} (hw : ∀ d ∈ tables_1, d.before a0 Z = true) {p0 p1 p2 p3 : Int32} {a_ASC : Addr} {a_DESC : Addr} {cz : Int32} {h0 : Heap} {n0 : Nat} (O : Old Z n0 h0) (W : Wd Z a_ASC a_DESC cz) :
    MetW1 l Z consts_1 x code maxLocals ret room_1 #[(.int p0), (.int p1), (.int p2), (.int p3)] h0 n0 (fun v h => v = .int 1 ∧ True) := by
  refine metW_of (L := #[.val (.int p0), .val (.int p1), .val (.int p2), .val (.int p3), .unset, .unset, .unset, .unset, .unset, .unset, .unset, .unset, .unset, .unset, .unset]) (plainFor_of_name pn_33) (fun m => by first | (simp [entryFrame, mkF, argsToLocals, Value.category, maxLocals]; done) | rfl) ?_
  intro p e s m below meth c T vm C X Y
  change Cx p (s.setVm vm) m meth c Z "com/example/sober_repository/soberrepository/OrderEqualsPinLaw" code 15 (some .boolean) "law" at C
  change Goes p e below (FinW Z consts_1 _ s n0 32 3200) _
  refine g_iloadN C X at_0 (q := 1) rfl rfl ?_
  refine g_iconst C X at_1 (q := 2) rfl (z := (1 : Int32)) rfl ?_
  obtain ⟨v1, ev1⟩ : ∃ z, (p0 &&& (1 : Int32)) = z := ⟨_, rfl⟩
  have hl2 : 0 ≤ v1.toInt := by rw [← ev1]; exact (c_and p0 (1 : Int32) (by decide)).1
  have hh3 : v1.toInt ≤ 1 := by rw [← ev1]; exact (c_and p0 (1 : Int32) (by decide)).2
  refine g_iand C X at_2 (q := 3) rfl (z := v1) ev1 ?_
  by_cases hc4 : v1 = (0 : Int32)
  · refine g_ifY C X at_3 (by decide) (q := 12) (by decide) (teq hc4).1 ?_
    obtain rfl : v1 = (0 : Int32) := hc4
    refine g_getS C X (host := "") (Or.inl (w0 hw)) Via.refl (W.1.ext O.2) at_12 (q := 15) rfl ?_
    intro T6 X7
    refine g_astore C X7 at_15 (q := 17) rfl rfl (L' := #[.val (.int p0), .val (.int p1), .val (.int p2), .val (.int p3), .val (.ref a_ASC), .unset, .unset, .unset, .unset, .unset, .unset, .unset, .unset, .unset, .unset]) rfl ?_
    refine g_iloadN C X7 at_17 (q := 18) rfl rfl ?_
    refine g_iconst C X7 at_18 (q := 19) rfl (z := (2 : Int32)) rfl ?_
    obtain ⟨v8, ev8⟩ : ∃ z, (p0 &&& (2 : Int32)) = z := ⟨_, rfl⟩
    have hl9 : 0 ≤ v8.toInt := by rw [← ev8]; exact (c_and p0 (2 : Int32) (by decide)).1
    have hh10 : v8.toInt ≤ 2 := by rw [← ev8]; exact (c_and p0 (2 : Int32) (by decide)).2
    refine g_iand C X7 at_19 (q := 20) rfl (z := v8) ev8 ?_
    by_cases hc11 : v8 = (0 : Int32)
    · refine g_ifY C X7 at_20 (by decide) (q := 29) (by decide) (teq hc11).1 ?_
      obtain rfl : v8 = (0 : Int32) := hc11
      refine g_getS C X7 (host := "") (Or.inl (w0 hw)) Via.refl (W.1.ext O.2) at_29 (q := 32) rfl ?_
      intro T13 X14
      refine g_astore C X14 at_32 (q := 34) rfl rfl (L' := #[.val (.int p0), .val (.int p1), .val (.int p2), .val (.int p3), .val (.ref a_ASC), .val (.ref a_ASC), .unset, .unset, .unset, .unset, .unset, .unset, .unset, .unset, .unset]) rfl ?_
      refine g_iloadN C X14 at_34 (q := 35) rfl rfl ?_
      refine g_iconst C X14 at_35 (q := 36) rfl (z := (2 : Int32)) rfl ?_
      refine g_iushr C X14 at_36 (q := 37) rfl (z := ((p0.toUInt32 >>> ((2 : Int32) &&& 31).toUInt32).toInt32)) rfl ?_
      refine g_iconst C X14 at_37 (q := 38) rfl (z := (3 : Int32)) rfl ?_
      obtain ⟨v15, ev15⟩ : ∃ z, (((p0.toUInt32 >>> ((2 : Int32) &&& 31).toUInt32).toInt32) &&& (3 : Int32)) = z := ⟨_, rfl⟩
      have hl16 : 0 ≤ v15.toInt := by rw [← ev15]; exact (c_and ((p0.toUInt32 >>> ((2 : Int32) &&& 31).toUInt32).toInt32) (3 : Int32) (by decide)).1
      have hh17 : v15.toInt ≤ 3 := by rw [← ev15]; exact (c_and ((p0.toUInt32 >>> ((2 : Int32) &&& 31).toUInt32).toInt32) (3 : Int32) (by decide)).2
      refine g_iand C X14 at_38 (q := 39) rfl (z := v15) ev15 ?_
      refine g_istore C X14 at_39 (q := 41) rfl (L' := #[.val (.int p0), .val (.int p1), .val (.int p2), .val (.int p3), .val (.ref a_ASC), .val (.ref a_ASC), .val (.int v15), .unset, .unset, .unset, .unset, .unset, .unset, .unset, .unset]) rfl ?_
      refine g_iloadN C X14 at_41 (q := 42) rfl rfl ?_
      refine g_iconst C X14 at_42 (q := 43) rfl (z := (4 : Int32)) rfl ?_
      refine g_iushr C X14 at_43 (q := 44) rfl (z := ((p0.toUInt32 >>> ((4 : Int32) &&& 31).toUInt32).toInt32)) rfl ?_
      refine g_iconst C X14 at_44 (q := 45) rfl (z := (3 : Int32)) rfl ?_
      obtain ⟨v18, ev18⟩ : ∃ z, (((p0.toUInt32 >>> ((4 : Int32) &&& 31).toUInt32).toInt32) &&& (3 : Int32)) = z := ⟨_, rfl⟩
      have hl19 : 0 ≤ v18.toInt := by rw [← ev18]; exact (c_and ((p0.toUInt32 >>> ((4 : Int32) &&& 31).toUInt32).toInt32) (3 : Int32) (by decide)).1
      have hh20 : v18.toInt ≤ 3 := by rw [← ev18]; exact (c_and ((p0.toUInt32 >>> ((4 : Int32) &&& 31).toUInt32).toInt32) (3 : Int32) (by decide)).2
      refine g_iand C X14 at_45 (q := 46) rfl (z := v18) ev18 ?_
      refine g_istore C X14 at_46 (q := 48) rfl (L' := #[.val (.int p0), .val (.int p1), .val (.int p2), .val (.int p3), .val (.ref a_ASC), .val (.ref a_ASC), .val (.int v15), .val (.int v18), .unset, .unset, .unset, .unset, .unset, .unset, .unset]) rfl ?_
      refine g_iloadN C X14 at_48 (q := 49) rfl rfl ?_
      refine g_iconst C X14 at_49 (q := 50) rfl (z := (1 : Int32)) rfl ?_
      obtain ⟨v21, ev21⟩ : ∃ z, (p3 &&& (1 : Int32)) = z := ⟨_, rfl⟩
      have hl22 : 0 ≤ v21.toInt := by rw [← ev21]; exact (c_and p3 (1 : Int32) (by decide)).1
      have hh23 : v21.toInt ≤ 1 := by rw [← ev21]; exact (c_and p3 (1 : Int32) (by decide)).2
      refine g_iand C X14 at_50 (q := 51) rfl (z := v21) ev21 ?_
      refine g_selF C X14 at_51 at_54 at_55 at_58 (q := 59) rfl rfl rfl ?_
      intro sv24 hz25 hz26
      refine g_istore C X14 at_59 (q := 61) rfl (L' := #[.val (.int p0), .val (.int p1), .val (.int p2), .val (.int p3), .val (.ref a_ASC), .val (.ref a_ASC), .val (.int v15), .val (.int v18), .val (.int sv24), .unset, .unset, .unset, .unset, .unset, .unset]) rfl ?_
      refine g_iload C X14 at_61 (q := 63) rfl rfl ?_
      refine g_iloadN C X14 at_63 (q := 64) rfl rfl ?_
      refine gW_callS1 C X14 Y (own_EL hw) (y := (⟨"com/example/sober_repository/soberrepository/OrderEqualsPinLaw", "mk", "(II)Ljava/lang/String;"⟩ : MethodName)) (by decide) (w3 hw) (w4 hw) (w6 hw) (w5 hw) (rm_mk hw (p0 := v15) (p1 := p1) O W ) (W := 0) (by decide) (by decide) (k' := 6) rfl (n' := 12) rfl (by decide) (by decide) rfl pd_136 (argsL := [(.int v15), (.int p1)]) rfl (rest := []) rfl rfl rfl at_64 (q := 67) rfl ?_
      rintro _ T27 h28 vm29 C X30 Y31 R32 ⟨b33, rfl, K34, ge35, sz36, E37, F38⟩
      have O39 := O.keep K34 all0
      refine g_astore C X30 at_67 (q := 69) rfl rfl (L' := #[.val (.int p0), .val (.int p1), .val (.int p2), .val (.int p3), .val (.ref a_ASC), .val (.ref a_ASC), .val (.int v15), .val (.int v18), .val (.int sv24), .val (.ref b33), .unset, .unset, .unset, .unset, .unset]) rfl ?_
      refine g_iload C X30 at_69 (q := 71) rfl rfl ?_
      refine g_iload C X30 at_71 (q := 73) rfl rfl ?_
      refine gW_callS1 C X30 Y31 (own_EL hw) (y := (⟨"com/example/sober_repository/soberrepository/OrderEqualsPinLaw", "mk", "(II)Ljava/lang/String;"⟩ : MethodName)) (by decide) (w3 hw) (w4 hw) (w6 hw) (w5 hw) (rm_mk hw (p0 := v18) (p1 := sv24) O39 W ) (W := 0) (by decide) (by decide) (k' := 12) rfl (n' := 24) rfl (by decide) (by decide) rfl pd_136 (argsL := [(.int v18), (.int sv24)]) rfl (rest := []) rfl rfl rfl at_73 (q := 76) rfl ?_
      rintro _ T40 h41 vm42 C X43 Y44 R45 ⟨b46, rfl, K47, ge48, sz49, E50, F51⟩
      have O52 := O39.keep K47 all0
      refine g_astore C X43 at_76 (q := 78) rfl rfl (L' := #[.val (.int p0), .val (.int p1), .val (.int p2), .val (.int p3), .val (.ref a_ASC), .val (.ref a_ASC), .val (.int v15), .val (.int v18), .val (.int sv24), .val (.ref b33), .val (.ref b46), .unset, .unset, .unset, .unset]) rfl ?_
      refine g_new C X43 (w29 hw) (w30 hw) (w31 hw) at_78 (q := 81) rfl (k' := 13) rfl (n' := 26) rfl (by decide) (by decide) ?_
      intro T54 h55 b53 g57 X56 E58 A59 D60
      have ge61 : n0 ≤ b53 := own_ge O52 g57
      have Y62 := Wx.ext Y44 E58
      have O63 := O52.ext E58
      have f64 : Fld Z h55 b53 "com/example/sober_repository/soberrepository/Sort$Order" "_direction" "Lcom/example/sober_repository/soberrepository/Sort$Direction;" .null := D60 (Or.inr (w44 hw)) (ty := (.object "com/example/sober_repository/soberrepository/Sort$Direction")) (by decide)
      have f65 : Fld Z h55 b53 "com/example/sober_repository/soberrepository/Sort$Order" "_property" "Ljava/lang/String;" .null := D60 (Or.inr (w48 hw)) (ty := (.object "java/lang/String")) (by decide)
      refine g_dup C X56 at_81 (q := 82) rfl rfl ?_
      refine g_aload C X56 at_82 (q := 84) rfl rfl rfl ?_
      refine g_aload C X56 at_84 (q := 86) rfl rfl rfl ?_
      have f66 := ((E37.keep K47).ext E58)
      have f67 := ((F38.keep K47 all0).ext E58)
      refine gW_callI0 C X56 Y62 (own_EL hw) (y := (⟨"com/example/sober_repository/soberrepository/Sort$Order", "<init>", "(Lcom/example/sober_repository/soberrepository/Sort$Direction;Ljava/lang/String;)V"⟩ : MethodName)) (a := b53) (by decide) rfl rfl (w32 hw) (w33 hw) (w34 hw) (w31 hw) (rm_init_0 hw (o0 := b53) (o1 := b33) (cs2 := (own_mk v15 p1)) O63 W A59 f64 f65 f66 f67 ge61 ge35 (Ne.symm (own_ne (Nat.lt_of_lt_of_le E37.lt K47.1) g57))) (W := 1) (by decide) (by decide) (k' := 17) rfl (n' := 102) rfl (by decide) (by decide) rfl pd_159 (argsL := [(.ref a_ASC), (.ref b33)]) rfl (rest := [(.ref b53)]) rfl rfl rfl at_86 (q := 89) rfl ?_
      rintro T68 h70 vm75 C X69 Y76 R77 ⟨K71, f72, f73, f74⟩
      have O78 := O63.keep K71 (allS ge61 all0)
      refine g_astore C X69 at_89 (q := 91) rfl rfl (L' := #[.val (.int p0), .val (.int p1), .val (.int p2), .val (.int p3), .val (.ref a_ASC), .val (.ref a_ASC), .val (.int v15), .val (.int v18), .val (.int sv24), .val (.ref b33), .val (.ref b46), .val (.ref b53), .unset, .unset, .unset]) rfl ?_
      refine g_new C X69 (w29 hw) (w30 hw) (w31 hw) at_91 (q := 94) rfl (k' := 18) rfl (n' := 104) rfl (by decide) (by decide) ?_
      intro T80 h81 b79 g83 X82 E84 A85 D86
      have ge87 : n0 ≤ b79 := own_ge O78 g83
      have Y88 := Wx.ext Y76 E84
      have O89 := O78.ext E84
      have f90 : Fld Z h81 b79 "com/example/sober_repository/soberrepository/Sort$Order" "_direction" "Lcom/example/sober_repository/soberrepository/Sort$Direction;" .null := D86 (Or.inr (w44 hw)) (ty := (.object "com/example/sober_repository/soberrepository/Sort$Direction")) (by decide)
      have f91 : Fld Z h81 b79 "com/example/sober_repository/soberrepository/Sort$Order" "_property" "Ljava/lang/String;" .null := D86 (Or.inr (w48 hw)) (ty := (.object "java/lang/String")) (by decide)
      refine g_dup C X82 at_94 (q := 95) rfl rfl ?_
      refine g_aload C X82 at_95 (q := 97) rfl rfl rfl ?_
      refine g_aload C X82 at_97 (q := 99) rfl rfl rfl ?_
      have f92 := (((E50.ext E58).keep K71).ext E84)
      have f93 := (((F51.ext E58).keep K71 (allS (NoS.exa A59 (by decide) (w30 hw)) all0)).ext E84)
      refine gW_callI0 C X82 Y88 (own_EL hw) (y := (⟨"com/example/sober_repository/soberrepository/Sort$Order", "<init>", "(Lcom/example/sober_repository/soberrepository/Sort$Direction;Ljava/lang/String;)V"⟩ : MethodName)) (a := b79) (by decide) rfl rfl (w32 hw) (w33 hw) (w34 hw) (w31 hw) (rm_init_0 hw (o0 := b79) (o1 := b46) (cs2 := (own_mk v18 sv24)) O89 W A85 f90 f91 f92 f93 ge87 ge48 (Ne.symm (own_ne (Nat.lt_of_lt_of_le E50.lt (Nat.le_trans E58.1 K71.1)) g83))) (W := 1) (by decide) (by decide) (k' := 22) rfl (n' := 180) rfl (by decide) (by decide) rfl pd_159 (argsL := [(.ref a_ASC), (.ref b46)]) rfl (rest := [(.ref b79)]) rfl rfl rfl at_99 (q := 102) rfl ?_
      rintro T94 h96 vm101 C X95 Y102 R103 ⟨K97, f98, f99, f100⟩
      have O104 := O89.keep K97 (allS ge87 all0)
      refine g_astore C X95 at_102 (q := 104) rfl rfl (L' := #[.val (.int p0), .val (.int p1), .val (.int p2), .val (.int p3), .val (.ref a_ASC), .val (.ref a_ASC), .val (.int v15), .val (.int v18), .val (.int sv24), .val (.ref b33), .val (.ref b46), .val (.ref b53), .val (.ref b79), .unset, .unset]) rfl ?_
      refine g_iloadN C X95 at_104 (q := 105) rfl rfl ?_
      refine g_iconst C X95 at_105 (q := 106) rfl (z := (1 : Int32)) rfl ?_
      refine g_iushr C X95 at_106 (q := 107) rfl (z := ((p3.toUInt32 >>> ((1 : Int32) &&& 31).toUInt32).toInt32)) rfl ?_
      refine g_iconst C X95 at_107 (q := 108) rfl (z := (3 : Int32)) rfl ?_
      obtain ⟨v105, ev105⟩ : ∃ z, (((p3.toUInt32 >>> ((1 : Int32) &&& 31).toUInt32).toInt32) &&& (3 : Int32)) = z := ⟨_, rfl⟩
      have hl106 : 0 ≤ v105.toInt := by rw [← ev105]; exact (c_and ((p3.toUInt32 >>> ((1 : Int32) &&& 31).toUInt32).toInt32) (3 : Int32) (by decide)).1
      have hh107 : v105.toInt ≤ 3 := by rw [← ev105]; exact (c_and ((p3.toUInt32 >>> ((1 : Int32) &&& 31).toUInt32).toInt32) (3 : Int32) (by decide)).2
      refine g_iand C X95 at_108 (q := 109) rfl (z := v105) ev105 ?_
      refine g_istore C X95 at_109 (q := 111) rfl (L' := #[.val (.int p0), .val (.int p1), .val (.int p2), .val (.int p3), .val (.ref a_ASC), .val (.ref a_ASC), .val (.int v15), .val (.int v18), .val (.int sv24), .val (.ref b33), .val (.ref b46), .val (.ref b53), .val (.ref b79), .val (.int v105), .unset]) rfl ?_
      refine g_iload C X95 at_111 (q := 113) rfl rfl ?_
      refine g_iconst C X95 at_113 (q := 114) rfl (z := (1 : Int32)) rfl ?_
      by_cases hc108 : v105 = (1 : Int32)
      · refine g_icN C X95 at_114 (q := 117) rfl (teq hc108).2 ?_
        obtain rfl : v105 = (1 : Int32) := hc108
        refine g_aload C X95 at_117 (q := 119) rfl rfl rfl ?_
        refine g_aconstNull C X95 at_119 (q := 120) rfl ?_
        have f110 := ((f72.ext E84).keep K97)
        have f111 := ((f73.ext E84).keep K97 (ninS (own_ne (Nat.lt_of_lt_of_le A59.lt K71.1) g83) nin0))
        have f112 := ((f74.ext E84).keep K97 (ninS (own_ne (Nat.lt_of_lt_of_le A59.lt K71.1) g83) nin0))
        refine g_callV1 C X95 (y := (⟨"com/example/sober_repository/soberrepository/Sort$Order", "equals", "(Ljava/lang/Object;)Z"⟩ : MethodName)) (z := (⟨"com/example/sober_repository/soberrepository/Sort$Order", "equals", "(Ljava/lang/Object;)Z"⟩ : MethodName)) (a := b53) (by decide) (w52 hw) (w53 hw) (w55 hw) (w54 hw) (nf_sel (w55 hw)) f110 (w56 hw) (w31 hw) (rm_eq0_0 hw (o0 := b53) (o1 := b33) O104 W f110 f111 f112 ge61) (W := 0) (by decide) (by decide) (k' := 22) rfl (n' := 180) rfl (by decide) (by decide) rfl pd_165 (argsL := [.null]) rfl (rest := []) rfl rfl rfl at_120 (q := 123) rfl ?_
        rintro _ T113 _ X114 ⟨rfl, rfl⟩
        refine g_ifN C X114 at_123 (q := 126) rfl (by decide) ?_
        refine g_iconst C X114 at_126 (q := 127) rfl (z := (1 : Int32)) rfl ?_
        refine g_goto C X114 at_127 (by decide) (q := 131) (by decide) ?_
        exact gW_retN C X114 Y102 (own_EL hw) (Or.inl rfl) (z' := 1) (by decide) at_131 (by decide) (by decide) ⟨_, rfl, rfl, trivial⟩
      · refine g_icY C X95 at_114 (by decide) (q := 132) (by decide) (feq hc108).2 ?_
        refine g_iload C X95 at_132 (q := 134) rfl rfl ?_
        refine g_iconst C X95 at_134 (q := 135) rfl (z := (2 : Int32)) rfl ?_
        by_cases hc116 : v105 = (2 : Int32)
        · refine g_icN C X95 at_135 (q := 138) rfl (teq hc116).2 ?_
          obtain rfl : v105 = (2 : Int32) := hc116
          refine g_aload C X95 at_138 (q := 140) rfl rfl rfl ?_
          refine g_aload C X95 at_140 (q := 142) rfl rfl rfl ?_
          have f118 := ((f72.ext E84).keep K97)
          have f119 := ((f73.ext E84).keep K97 (ninS (own_ne (Nat.lt_of_lt_of_le A59.lt K71.1) g83) nin0))
          have f120 := ((f74.ext E84).keep K97 (ninS (own_ne (Nat.lt_of_lt_of_le A59.lt K71.1) g83) nin0))
          have f121 := (((f66.keep K71).ext E84).keep K97)
          have f122 := (((f67.keep K71 (allS (NoS.exa A59 (by decide) (w30 hw)) all0)).ext E84).keep K97 (allS (NoS.exa A85 (by decide) (w30 hw)) all0))
          refine g_callV1 C X95 (y := (⟨"com/example/sober_repository/soberrepository/Sort$Order", "equals", "(Ljava/lang/Object;)Z"⟩ : MethodName)) (z := (⟨"com/example/sober_repository/soberrepository/Sort$Order", "equals", "(Ljava/lang/Object;)Z"⟩ : MethodName)) (a := b53) (by decide) (w52 hw) (w53 hw) (w55 hw) (w54 hw) (nf_sel (w55 hw)) f118 (w56 hw) (w31 hw) (rm_eq0_1 hw (o0 := b53) (o1 := b33) (cs2 := (own_mk v15 p1)) O104 W f118 f119 f120 f121 f122 ge61 ge35 (Ne.symm (own_ne (Nat.lt_of_lt_of_le E37.lt K47.1) g57))) (W := 0) (by decide) (by decide) (k' := 22) rfl (n' := 180) rfl (by decide) (by decide) rfl pd_165 (argsL := [(.ref b33)]) rfl (rest := []) rfl rfl rfl at_142 (q := 145) rfl ?_
          rintro _ T123 _ X124 ⟨rfl, rfl⟩
          refine g_ifN C X124 at_145 (q := 148) rfl (by decide) ?_
          refine g_iconst C X124 at_148 (q := 149) rfl (z := (1 : Int32)) rfl ?_
          refine g_goto C X124 at_149 (by decide) (q := 153) (by decide) ?_
          exact gW_retN C X124 Y102 (own_EL hw) (Or.inl rfl) (z' := 1) (by decide) at_153 (by decide) (by decide) ⟨_, rfl, rfl, trivial⟩
        · refine g_icY C X95 at_135 (by decide) (q := 154) (by decide) (feq hc116).2 ?_
          refine g_iload C X95 at_154 (q := 156) rfl rfl ?_
          refine g_iconst C X95 at_156 (q := 157) rfl (z := (3 : Int32)) rfl ?_
          by_cases hc126 : v105 = (3 : Int32)
          · refine g_icN C X95 at_157 (q := 160) rfl (teq hc126).2 ?_
            obtain rfl : v105 = (3 : Int32) := hc126
            refine g_aload C X95 at_160 (q := 162) rfl rfl rfl ?_
            refine g_aload C X95 at_162 (q := 164) rfl rfl rfl ?_
            have f128 := ((f72.ext E84).keep K97)
            have f129 := ((f73.ext E84).keep K97 (ninS (own_ne (Nat.lt_of_lt_of_le A59.lt K71.1) g83) nin0))
            have f130 := ((f74.ext E84).keep K97 (ninS (own_ne (Nat.lt_of_lt_of_le A59.lt K71.1) g83) nin0))
            have f131 := (((f66.keep K71).ext E84).keep K97)
            have f132 := (((f67.keep K71 (allS (NoS.exa A59 (by decide) (w30 hw)) all0)).ext E84).keep K97 (allS (NoS.exa A85 (by decide) (w30 hw)) all0))
            refine g_callV1 C X95 (y := (⟨"com/example/sober_repository/soberrepository/Sort$Order", "equals", "(Ljava/lang/Object;)Z"⟩ : MethodName)) (z := (⟨"com/example/sober_repository/soberrepository/Sort$Order", "equals", "(Ljava/lang/Object;)Z"⟩ : MethodName)) (a := b53) (by decide) (w52 hw) (w53 hw) (w55 hw) (w54 hw) (nf_sel (w55 hw)) f128 (w56 hw) (w31 hw) (rm_eq0_2 hw (o0 := b53) (o1 := b33) (cs2 := (own_mk v15 p1)) O104 W f128 f129 f130 f131 f132 ge61 ge35 (Ne.symm (own_ne (Nat.lt_of_lt_of_le E37.lt K47.1) g57))) (W := 0) (by decide) (by decide) (k' := 22) rfl (n' := 180) rfl (by decide) (by decide) rfl pd_165 (argsL := [(.ref b53)]) rfl (rest := []) rfl rfl rfl at_164 (q := 167) rfl ?_
            rintro _ T133 _ X134 ⟨rfl, rfl⟩
            exact gW_retN C X134 Y102 (own_EL hw) (Or.inl rfl) (z' := 1) (by decide) at_167 (by decide) (by decide) ⟨_, rfl, rfl, trivial⟩
          · refine g_icY C X95 at_157 (by decide) (q := 168) (by decide) (feq hc126).2 ?_
            have hr135 : v105.toInt ≤ 2 := own_f6 hc126 hh107 (by decide)
            refine g_aload C X95 at_168 (q := 170) rfl rfl rfl ?_
            refine g_aload C X95 at_170 (q := 172) rfl rfl rfl ?_
            refine g_acmp C X95 at_172 rfl rfl (same := true) (decide_eq_true rfl) (by decide) (q := 175) (by decide) ?_
            refine g_iload C X95 at_175 (q := 177) rfl rfl ?_
            refine g_iloadN C X95 at_177 (q := 178) rfl rfl ?_
            refine g_iload C X95 at_178 (q := 180) rfl rfl ?_
            refine g_iload C X95 at_180 (q := 182) rfl rfl ?_
            refine g_callS1 C X95 (y := (⟨"com/example/sober_repository/soberrepository/OrderEqualsPinLaw", "sameChars", "(IIII)Z"⟩ : MethodName)) (by decide) (w49 hw) (w50 hw) (w51 hw) (w5 hw) (rm_own_same hw (p0 := v15) (p1 := p1) (p2 := v18) (p3 := sv24) O104) (W := 0) (by decide) (by decide) (k' := 22) rfl (n' := 180) rfl (by decide) (by decide) rfl pd_181 (argsL := [(.int v15), (.int p1), (.int v18), (.int sv24)]) rfl (rest := []) rfl rfl rfl at_182 (q := 185) rfl ?_
            rintro _ T136 _ X137 ⟨rfl, rfl⟩
            by_cases hc138 : (own_same v15 p1 v18 sv24) = (0 : Int32)
            · refine g_ifY C X137 at_185 (by decide) (q := 192) (by decide) (teq hc138).1 ?_
              refine g_iconst C X137 at_192 (q := 193) rfl (z := (0 : Int32)) rfl ?_
              refine g_istore C X137 at_193 (q := 195) rfl (L' := #[.val (.int p0), .val (.int p1), .val (.int p2), .val (.int p3), .val (.ref a_ASC), .val (.ref a_ASC), .val (.int v15), .val (.int v18), .val (.int sv24), .val (.ref b33), .val (.ref b46), .val (.ref b53), .val (.ref b79), .val (.int v105), .val (.int (0 : Int32))]) rfl ?_
              refine g_aload C X137 at_195 (q := 197) rfl rfl rfl ?_
              refine g_aload C X137 at_197 (q := 199) rfl rfl rfl ?_
              have f139 := ((f72.ext E84).keep K97)
              have f140 := ((f74.ext E84).keep K97 (ninS (own_ne (Nat.lt_of_lt_of_le A59.lt K71.1) g83) nin0))
              have f141 := ((f73.ext E84).keep K97 (ninS (own_ne (Nat.lt_of_lt_of_le A59.lt K71.1) g83) nin0))
              have f142 := (((f67.keep K71 (allS (NoS.exa A59 (by decide) (w30 hw)) all0)).ext E84).keep K97 (allS (NoS.exa A85 (by decide) (w30 hw)) all0))
              have f143 := (f93.keep K97 (allS (NoS.exa A85 (by decide) (w30 hw)) all0))
              refine g_callV1 C X137 (y := (⟨"com/example/sober_repository/soberrepository/Sort$Order", "equals", "(Ljava/lang/Object;)Z"⟩ : MethodName)) (z := (⟨"com/example/sober_repository/soberrepository/Sort$Order", "equals", "(Ljava/lang/Object;)Z"⟩ : MethodName)) (a := b53) (by decide) (w52 hw) (w53 hw) (w55 hw) (w54 hw) (nf_sel (w55 hw)) f139 (w56 hw) (w31 hw) (rm_eqS hw O104 W f139 f140 f141 f98 f100 f99 f142 f143 (own_ne (Nat.lt_of_lt_of_le A59.lt K71.1) g83)) (W := 0) (by decide) (by decide) (k' := 22) rfl (n' := 180) rfl (by decide) (by decide) rfl pd_165 (argsL := [(.ref b79)]) rfl (rest := []) rfl rfl rfl at_199 (q := 202) rfl ?_
              rintro _ T144 _ X145 ⟨rfl, rfl⟩
              refine g_iload C X145 at_202 (q := 204) rfl rfl ?_
              have hv146 : (if (own_mk v15 p1) = (own_mk v18 sv24) then 1 else 0) = (0 : Int32) := if_neg (fun z => (own_sm hl16 hh17 hl19 hh20).mp hc138 z)
              refine g_icN C X145 at_204 (q := 207) rfl (teq hv146).2 ?_
              refine g_aload C X145 at_207 (q := 209) rfl rfl rfl ?_
              refine g_aload C X145 at_209 (q := 211) rfl rfl rfl ?_
              refine g_callV1 C X145 (y := (⟨"com/example/sober_repository/soberrepository/Sort$Order", "equals", "(Ljava/lang/Object;)Z"⟩ : MethodName)) (z := (⟨"com/example/sober_repository/soberrepository/Sort$Order", "equals", "(Ljava/lang/Object;)Z"⟩ : MethodName)) (a := b79) (by decide) (w52 hw) (w53 hw) (w55 hw) (w54 hw) (nf_sel (w55 hw)) f98 (w56 hw) (w31 hw) (rm_eqS hw O104 W f98 f100 f99 f139 f140 f141 f143 f142 (Ne.symm (own_ne (Nat.lt_of_lt_of_le A59.lt K71.1) g83))) (W := 0) (by decide) (by decide) (k' := 22) rfl (n' := 180) rfl (by decide) (by decide) rfl pd_165 (argsL := [(.ref b53)]) rfl (rest := []) rfl rfl rfl at_211 (q := 214) rfl ?_
              rintro _ T147 _ X148 ⟨rfl, rfl⟩
              refine g_iload C X148 at_214 (q := 216) rfl rfl ?_
              have hv149 : (if (own_mk v18 sv24) = (own_mk v15 p1) then 1 else 0) = (0 : Int32) := if_neg (fun z => (own_sm hl16 hh17 hl19 hh20).mp hc138 (Eq.symm z))
              refine g_icN C X148 at_216 (q := 219) rfl (teq hv149).2 ?_
              refine g_iconst C X148 at_219 (q := 220) rfl (z := (1 : Int32)) rfl ?_
              refine g_goto C X148 at_220 (by decide) (q := 224) (by decide) ?_
              exact gW_retN C X148 Y102 (own_EL hw) (Or.inl rfl) (z' := 1) (by decide) at_224 (by decide) (by decide) ⟨_, rfl, rfl, trivial⟩
            · refine g_ifN C X137 at_185 (q := 188) rfl (feq hc138).1 ?_
              refine g_iconst C X137 at_188 (q := 189) rfl (z := (1 : Int32)) rfl ?_
              refine g_goto C X137 at_189 (by decide) (q := 193) (by decide) ?_
              refine g_istore C X137 at_193 (q := 195) rfl (L' := #[.val (.int p0), .val (.int p1), .val (.int p2), .val (.int p3), .val (.ref a_ASC), .val (.ref a_ASC), .val (.int v15), .val (.int v18), .val (.int sv24), .val (.ref b33), .val (.ref b46), .val (.ref b53), .val (.ref b79), .val (.int v105), .val (.int (1 : Int32))]) rfl ?_
              refine g_aload C X137 at_195 (q := 197) rfl rfl rfl ?_
              refine g_aload C X137 at_197 (q := 199) rfl rfl rfl ?_
              have f150 := ((f72.ext E84).keep K97)
              have f151 := ((f74.ext E84).keep K97 (ninS (own_ne (Nat.lt_of_lt_of_le A59.lt K71.1) g83) nin0))
              have f152 := ((f73.ext E84).keep K97 (ninS (own_ne (Nat.lt_of_lt_of_le A59.lt K71.1) g83) nin0))
              have f153 := (((f67.keep K71 (allS (NoS.exa A59 (by decide) (w30 hw)) all0)).ext E84).keep K97 (allS (NoS.exa A85 (by decide) (w30 hw)) all0))
              have f154 := (f93.keep K97 (allS (NoS.exa A85 (by decide) (w30 hw)) all0))
              refine g_callV1 C X137 (y := (⟨"com/example/sober_repository/soberrepository/Sort$Order", "equals", "(Ljava/lang/Object;)Z"⟩ : MethodName)) (z := (⟨"com/example/sober_repository/soberrepository/Sort$Order", "equals", "(Ljava/lang/Object;)Z"⟩ : MethodName)) (a := b53) (by decide) (w52 hw) (w53 hw) (w55 hw) (w54 hw) (nf_sel (w55 hw)) f150 (w56 hw) (w31 hw) (rm_eqS hw O104 W f150 f151 f152 f98 f100 f99 f153 f154 (own_ne (Nat.lt_of_lt_of_le A59.lt K71.1) g83)) (W := 0) (by decide) (by decide) (k' := 22) rfl (n' := 180) rfl (by decide) (by decide) rfl pd_165 (argsL := [(.ref b79)]) rfl (rest := []) rfl rfl rfl at_199 (q := 202) rfl ?_
              rintro _ T155 _ X156 ⟨rfl, rfl⟩
              refine g_iload C X156 at_202 (q := 204) rfl rfl ?_
              have hv157 : (if (own_mk v15 p1) = (own_mk v18 sv24) then 1 else 0) = (1 : Int32) := if_pos (Decidable.of_not_not (fun z => hc138 ((own_sm hl16 hh17 hl19 hh20).mpr z)))
              refine g_icN C X156 at_204 (q := 207) rfl (teq hv157).2 ?_
              refine g_aload C X156 at_207 (q := 209) rfl rfl rfl ?_
              refine g_aload C X156 at_209 (q := 211) rfl rfl rfl ?_
              refine g_callV1 C X156 (y := (⟨"com/example/sober_repository/soberrepository/Sort$Order", "equals", "(Ljava/lang/Object;)Z"⟩ : MethodName)) (z := (⟨"com/example/sober_repository/soberrepository/Sort$Order", "equals", "(Ljava/lang/Object;)Z"⟩ : MethodName)) (a := b79) (by decide) (w52 hw) (w53 hw) (w55 hw) (w54 hw) (nf_sel (w55 hw)) f98 (w56 hw) (w31 hw) (rm_eqS hw O104 W f98 f100 f99 f150 f151 f152 f154 f153 (Ne.symm (own_ne (Nat.lt_of_lt_of_le A59.lt K71.1) g83))) (W := 0) (by decide) (by decide) (k' := 22) rfl (n' := 180) rfl (by decide) (by decide) rfl pd_165 (argsL := [(.ref b53)]) rfl (rest := []) rfl rfl rfl at_211 (q := 214) rfl ?_
              rintro _ T158 _ X159 ⟨rfl, rfl⟩
              refine g_iload C X159 at_214 (q := 216) rfl rfl ?_
              have hv160 : (if (own_mk v18 sv24) = (own_mk v15 p1) then 1 else 0) = (1 : Int32) := if_pos (Eq.symm (Decidable.of_not_not (fun z => hc138 ((own_sm hl16 hh17 hl19 hh20).mpr z))))
              refine g_icN C X159 at_216 (q := 219) rfl (teq hv160).2 ?_
              refine g_iconst C X159 at_219 (q := 220) rfl (z := (1 : Int32)) rfl ?_
              refine g_goto C X159 at_220 (by decide) (q := 224) (by decide) ?_
              exact gW_retN C X159 Y102 (own_EL hw) (Or.inl rfl) (z' := 1) (by decide) at_224 (by decide) (by decide) ⟨_, rfl, rfl, trivial⟩
    · refine g_ifN C X7 at_20 (q := 23) rfl (feq hc11).1 ?_
      have hr161 : 1 ≤ v8.toInt := own_f5 hc11 hl9 (by decide)
      refine g_getS C X7 (host := "") (Or.inl (w83 hw)) Via.refl (W.2.2.1.ext O.2) at_23 (q := 26) rfl ?_
      intro T162 X163
      refine g_goto C X163 at_26 (by decide) (q := 32) (by decide) ?_
      refine g_astore C X163 at_32 (q := 34) rfl rfl (L' := #[.val (.int p0), .val (.int p1), .val (.int p2), .val (.int p3), .val (.ref a_ASC), .val (.ref a_DESC), .unset, .unset, .unset, .unset, .unset, .unset, .unset, .unset, .unset]) rfl ?_
      refine g_iloadN C X163 at_34 (q := 35) rfl rfl ?_
      refine g_iconst C X163 at_35 (q := 36) rfl (z := (2 : Int32)) rfl ?_
      refine g_iushr C X163 at_36 (q := 37) rfl (z := ((p0.toUInt32 >>> ((2 : Int32) &&& 31).toUInt32).toInt32)) rfl ?_
      refine g_iconst C X163 at_37 (q := 38) rfl (z := (3 : Int32)) rfl ?_
      obtain ⟨v164, ev164⟩ : ∃ z, (((p0.toUInt32 >>> ((2 : Int32) &&& 31).toUInt32).toInt32) &&& (3 : Int32)) = z := ⟨_, rfl⟩
      have hl165 : 0 ≤ v164.toInt := by rw [← ev164]; exact (c_and ((p0.toUInt32 >>> ((2 : Int32) &&& 31).toUInt32).toInt32) (3 : Int32) (by decide)).1
      have hh166 : v164.toInt ≤ 3 := by rw [← ev164]; exact (c_and ((p0.toUInt32 >>> ((2 : Int32) &&& 31).toUInt32).toInt32) (3 : Int32) (by decide)).2
      refine g_iand C X163 at_38 (q := 39) rfl (z := v164) ev164 ?_
      refine g_istore C X163 at_39 (q := 41) rfl (L' := #[.val (.int p0), .val (.int p1), .val (.int p2), .val (.int p3), .val (.ref a_ASC), .val (.ref a_DESC), .val (.int v164), .unset, .unset, .unset, .unset, .unset, .unset, .unset, .unset]) rfl ?_
      refine g_iloadN C X163 at_41 (q := 42) rfl rfl ?_
      refine g_iconst C X163 at_42 (q := 43) rfl (z := (4 : Int32)) rfl ?_
      refine g_iushr C X163 at_43 (q := 44) rfl (z := ((p0.toUInt32 >>> ((4 : Int32) &&& 31).toUInt32).toInt32)) rfl ?_
      refine g_iconst C X163 at_44 (q := 45) rfl (z := (3 : Int32)) rfl ?_
      obtain ⟨v167, ev167⟩ : ∃ z, (((p0.toUInt32 >>> ((4 : Int32) &&& 31).toUInt32).toInt32) &&& (3 : Int32)) = z := ⟨_, rfl⟩
      have hl168 : 0 ≤ v167.toInt := by rw [← ev167]; exact (c_and ((p0.toUInt32 >>> ((4 : Int32) &&& 31).toUInt32).toInt32) (3 : Int32) (by decide)).1
      have hh169 : v167.toInt ≤ 3 := by rw [← ev167]; exact (c_and ((p0.toUInt32 >>> ((4 : Int32) &&& 31).toUInt32).toInt32) (3 : Int32) (by decide)).2
      refine g_iand C X163 at_45 (q := 46) rfl (z := v167) ev167 ?_
      refine g_istore C X163 at_46 (q := 48) rfl (L' := #[.val (.int p0), .val (.int p1), .val (.int p2), .val (.int p3), .val (.ref a_ASC), .val (.ref a_DESC), .val (.int v164), .val (.int v167), .unset, .unset, .unset, .unset, .unset, .unset, .unset]) rfl ?_
      refine g_iloadN C X163 at_48 (q := 49) rfl rfl ?_
      refine g_iconst C X163 at_49 (q := 50) rfl (z := (1 : Int32)) rfl ?_
      obtain ⟨v170, ev170⟩ : ∃ z, (p3 &&& (1 : Int32)) = z := ⟨_, rfl⟩
      have hl171 : 0 ≤ v170.toInt := by rw [← ev170]; exact (c_and p3 (1 : Int32) (by decide)).1
      have hh172 : v170.toInt ≤ 1 := by rw [← ev170]; exact (c_and p3 (1 : Int32) (by decide)).2
      refine g_iand C X163 at_50 (q := 51) rfl (z := v170) ev170 ?_
      refine g_selF C X163 at_51 at_54 at_55 at_58 (q := 59) rfl rfl rfl ?_
      intro sv173 hz174 hz175
      refine g_istore C X163 at_59 (q := 61) rfl (L' := #[.val (.int p0), .val (.int p1), .val (.int p2), .val (.int p3), .val (.ref a_ASC), .val (.ref a_DESC), .val (.int v164), .val (.int v167), .val (.int sv173), .unset, .unset, .unset, .unset, .unset, .unset]) rfl ?_
      refine g_iload C X163 at_61 (q := 63) rfl rfl ?_
      refine g_iloadN C X163 at_63 (q := 64) rfl rfl ?_
      refine gW_callS1 C X163 Y (own_EL hw) (y := (⟨"com/example/sober_repository/soberrepository/OrderEqualsPinLaw", "mk", "(II)Ljava/lang/String;"⟩ : MethodName)) (by decide) (w3 hw) (w4 hw) (w6 hw) (w5 hw) (rm_mk hw (p0 := v164) (p1 := p1) O W ) (W := 0) (by decide) (by decide) (k' := 6) rfl (n' := 12) rfl (by decide) (by decide) rfl pd_136 (argsL := [(.int v164), (.int p1)]) rfl (rest := []) rfl rfl rfl at_64 (q := 67) rfl ?_
      rintro _ T176 h177 vm178 C X179 Y180 R181 ⟨b182, rfl, K183, ge184, sz185, E186, F187⟩
      have O188 := O.keep K183 all0
      refine g_astore C X179 at_67 (q := 69) rfl rfl (L' := #[.val (.int p0), .val (.int p1), .val (.int p2), .val (.int p3), .val (.ref a_ASC), .val (.ref a_DESC), .val (.int v164), .val (.int v167), .val (.int sv173), .val (.ref b182), .unset, .unset, .unset, .unset, .unset]) rfl ?_
      refine g_iload C X179 at_69 (q := 71) rfl rfl ?_
      refine g_iload C X179 at_71 (q := 73) rfl rfl ?_
      refine gW_callS1 C X179 Y180 (own_EL hw) (y := (⟨"com/example/sober_repository/soberrepository/OrderEqualsPinLaw", "mk", "(II)Ljava/lang/String;"⟩ : MethodName)) (by decide) (w3 hw) (w4 hw) (w6 hw) (w5 hw) (rm_mk hw (p0 := v167) (p1 := sv173) O188 W ) (W := 0) (by decide) (by decide) (k' := 12) rfl (n' := 24) rfl (by decide) (by decide) rfl pd_136 (argsL := [(.int v167), (.int sv173)]) rfl (rest := []) rfl rfl rfl at_73 (q := 76) rfl ?_
      rintro _ T189 h190 vm191 C X192 Y193 R194 ⟨b195, rfl, K196, ge197, sz198, E199, F200⟩
      have O201 := O188.keep K196 all0
      refine g_astore C X192 at_76 (q := 78) rfl rfl (L' := #[.val (.int p0), .val (.int p1), .val (.int p2), .val (.int p3), .val (.ref a_ASC), .val (.ref a_DESC), .val (.int v164), .val (.int v167), .val (.int sv173), .val (.ref b182), .val (.ref b195), .unset, .unset, .unset, .unset]) rfl ?_
      refine g_new C X192 (w29 hw) (w30 hw) (w31 hw) at_78 (q := 81) rfl (k' := 13) rfl (n' := 26) rfl (by decide) (by decide) ?_
      intro T203 h204 b202 g206 X205 E207 A208 D209
      have ge210 : n0 ≤ b202 := own_ge O201 g206
      have Y211 := Wx.ext Y193 E207
      have O212 := O201.ext E207
      have f213 : Fld Z h204 b202 "com/example/sober_repository/soberrepository/Sort$Order" "_direction" "Lcom/example/sober_repository/soberrepository/Sort$Direction;" .null := D209 (Or.inr (w44 hw)) (ty := (.object "com/example/sober_repository/soberrepository/Sort$Direction")) (by decide)
      have f214 : Fld Z h204 b202 "com/example/sober_repository/soberrepository/Sort$Order" "_property" "Ljava/lang/String;" .null := D209 (Or.inr (w48 hw)) (ty := (.object "java/lang/String")) (by decide)
      refine g_dup C X205 at_81 (q := 82) rfl rfl ?_
      refine g_aload C X205 at_82 (q := 84) rfl rfl rfl ?_
      refine g_aload C X205 at_84 (q := 86) rfl rfl rfl ?_
      have f215 := ((E186.keep K196).ext E207)
      have f216 := ((F187.keep K196 all0).ext E207)
      refine gW_callI0 C X205 Y211 (own_EL hw) (y := (⟨"com/example/sober_repository/soberrepository/Sort$Order", "<init>", "(Lcom/example/sober_repository/soberrepository/Sort$Direction;Ljava/lang/String;)V"⟩ : MethodName)) (a := b202) (by decide) rfl rfl (w32 hw) (w33 hw) (w34 hw) (w31 hw) (rm_init_0 hw (o0 := b202) (o1 := b182) (cs2 := (own_mk v164 p1)) O212 W A208 f213 f214 f215 f216 ge210 ge184 (Ne.symm (own_ne (Nat.lt_of_lt_of_le E186.lt K196.1) g206))) (W := 1) (by decide) (by decide) (k' := 17) rfl (n' := 102) rfl (by decide) (by decide) rfl pd_159 (argsL := [(.ref a_ASC), (.ref b182)]) rfl (rest := [(.ref b202)]) rfl rfl rfl at_86 (q := 89) rfl ?_
      rintro T217 h219 vm224 C X218 Y225 R226 ⟨K220, f221, f222, f223⟩
      have O227 := O212.keep K220 (allS ge210 all0)
      refine g_astore C X218 at_89 (q := 91) rfl rfl (L' := #[.val (.int p0), .val (.int p1), .val (.int p2), .val (.int p3), .val (.ref a_ASC), .val (.ref a_DESC), .val (.int v164), .val (.int v167), .val (.int sv173), .val (.ref b182), .val (.ref b195), .val (.ref b202), .unset, .unset, .unset]) rfl ?_
      refine g_new C X218 (w29 hw) (w30 hw) (w31 hw) at_91 (q := 94) rfl (k' := 18) rfl (n' := 104) rfl (by decide) (by decide) ?_
      intro T229 h230 b228 g232 X231 E233 A234 D235
      have ge236 : n0 ≤ b228 := own_ge O227 g232
      have Y237 := Wx.ext Y225 E233
      have O238 := O227.ext E233
      have f239 : Fld Z h230 b228 "com/example/sober_repository/soberrepository/Sort$Order" "_direction" "Lcom/example/sober_repository/soberrepository/Sort$Direction;" .null := D235 (Or.inr (w44 hw)) (ty := (.object "com/example/sober_repository/soberrepository/Sort$Direction")) (by decide)
      have f240 : Fld Z h230 b228 "com/example/sober_repository/soberrepository/Sort$Order" "_property" "Ljava/lang/String;" .null := D235 (Or.inr (w48 hw)) (ty := (.object "java/lang/String")) (by decide)
      refine g_dup C X231 at_94 (q := 95) rfl rfl ?_
      refine g_aload C X231 at_95 (q := 97) rfl rfl rfl ?_
      refine g_aload C X231 at_97 (q := 99) rfl rfl rfl ?_
      have f241 := (((E199.ext E207).keep K220).ext E233)
      have f242 := (((F200.ext E207).keep K220 (allS (NoS.exa A208 (by decide) (w30 hw)) all0)).ext E233)
      refine gW_callI0 C X231 Y237 (own_EL hw) (y := (⟨"com/example/sober_repository/soberrepository/Sort$Order", "<init>", "(Lcom/example/sober_repository/soberrepository/Sort$Direction;Ljava/lang/String;)V"⟩ : MethodName)) (a := b228) (by decide) rfl rfl (w32 hw) (w33 hw) (w34 hw) (w31 hw) (rm_init_1 hw (o0 := b228) (o1 := b195) (cs2 := (own_mk v167 sv173)) O238 W A234 f239 f240 f241 f242 ge236 ge197 (Ne.symm (own_ne (Nat.lt_of_lt_of_le E199.lt (Nat.le_trans E207.1 K220.1)) g232))) (W := 1) (by decide) (by decide) (k' := 22) rfl (n' := 180) rfl (by decide) (by decide) rfl pd_159 (argsL := [(.ref a_DESC), (.ref b195)]) rfl (rest := [(.ref b228)]) rfl rfl rfl at_99 (q := 102) rfl ?_
      rintro T243 h245 vm250 C X244 Y251 R252 ⟨K246, f247, f248, f249⟩
      have O253 := O238.keep K246 (allS ge236 all0)
      refine g_astore C X244 at_102 (q := 104) rfl rfl (L' := #[.val (.int p0), .val (.int p1), .val (.int p2), .val (.int p3), .val (.ref a_ASC), .val (.ref a_DESC), .val (.int v164), .val (.int v167), .val (.int sv173), .val (.ref b182), .val (.ref b195), .val (.ref b202), .val (.ref b228), .unset, .unset]) rfl ?_
      refine g_iloadN C X244 at_104 (q := 105) rfl rfl ?_
      refine g_iconst C X244 at_105 (q := 106) rfl (z := (1 : Int32)) rfl ?_
      refine g_iushr C X244 at_106 (q := 107) rfl (z := ((p3.toUInt32 >>> ((1 : Int32) &&& 31).toUInt32).toInt32)) rfl ?_
      refine g_iconst C X244 at_107 (q := 108) rfl (z := (3 : Int32)) rfl ?_
      obtain ⟨v254, ev254⟩ : ∃ z, (((p3.toUInt32 >>> ((1 : Int32) &&& 31).toUInt32).toInt32) &&& (3 : Int32)) = z := ⟨_, rfl⟩
      have hl255 : 0 ≤ v254.toInt := by rw [← ev254]; exact (c_and ((p3.toUInt32 >>> ((1 : Int32) &&& 31).toUInt32).toInt32) (3 : Int32) (by decide)).1
      have hh256 : v254.toInt ≤ 3 := by rw [← ev254]; exact (c_and ((p3.toUInt32 >>> ((1 : Int32) &&& 31).toUInt32).toInt32) (3 : Int32) (by decide)).2
      refine g_iand C X244 at_108 (q := 109) rfl (z := v254) ev254 ?_
      refine g_istore C X244 at_109 (q := 111) rfl (L' := #[.val (.int p0), .val (.int p1), .val (.int p2), .val (.int p3), .val (.ref a_ASC), .val (.ref a_DESC), .val (.int v164), .val (.int v167), .val (.int sv173), .val (.ref b182), .val (.ref b195), .val (.ref b202), .val (.ref b228), .val (.int v254), .unset]) rfl ?_
      refine g_iload C X244 at_111 (q := 113) rfl rfl ?_
      refine g_iconst C X244 at_113 (q := 114) rfl (z := (1 : Int32)) rfl ?_
      by_cases hc257 : v254 = (1 : Int32)
      · refine g_icN C X244 at_114 (q := 117) rfl (teq hc257).2 ?_
        obtain rfl : v254 = (1 : Int32) := hc257
        refine g_aload C X244 at_117 (q := 119) rfl rfl rfl ?_
        refine g_aconstNull C X244 at_119 (q := 120) rfl ?_
        have f259 := ((f221.ext E233).keep K246)
        have f260 := ((f222.ext E233).keep K246 (ninS (own_ne (Nat.lt_of_lt_of_le A208.lt K220.1) g232) nin0))
        have f261 := ((f223.ext E233).keep K246 (ninS (own_ne (Nat.lt_of_lt_of_le A208.lt K220.1) g232) nin0))
        refine g_callV1 C X244 (y := (⟨"com/example/sober_repository/soberrepository/Sort$Order", "equals", "(Ljava/lang/Object;)Z"⟩ : MethodName)) (z := (⟨"com/example/sober_repository/soberrepository/Sort$Order", "equals", "(Ljava/lang/Object;)Z"⟩ : MethodName)) (a := b202) (by decide) (w52 hw) (w53 hw) (w55 hw) (w54 hw) (nf_sel (w55 hw)) f259 (w56 hw) (w31 hw) (rm_eq0_0 hw (o0 := b202) (o1 := b182) O253 W f259 f260 f261 ge210) (W := 0) (by decide) (by decide) (k' := 22) rfl (n' := 180) rfl (by decide) (by decide) rfl pd_165 (argsL := [.null]) rfl (rest := []) rfl rfl rfl at_120 (q := 123) rfl ?_
        rintro _ T262 _ X263 ⟨rfl, rfl⟩
        refine g_ifN C X263 at_123 (q := 126) rfl (by decide) ?_
        refine g_iconst C X263 at_126 (q := 127) rfl (z := (1 : Int32)) rfl ?_
        refine g_goto C X263 at_127 (by decide) (q := 131) (by decide) ?_
        exact gW_retN C X263 Y251 (own_EL hw) (Or.inl rfl) (z' := 1) (by decide) at_131 (by decide) (by decide) ⟨_, rfl, rfl, trivial⟩
      · refine g_icY C X244 at_114 (by decide) (q := 132) (by decide) (feq hc257).2 ?_
        refine g_iload C X244 at_132 (q := 134) rfl rfl ?_
        refine g_iconst C X244 at_134 (q := 135) rfl (z := (2 : Int32)) rfl ?_
        by_cases hc265 : v254 = (2 : Int32)
        · refine g_icN C X244 at_135 (q := 138) rfl (teq hc265).2 ?_
          obtain rfl : v254 = (2 : Int32) := hc265
          refine g_aload C X244 at_138 (q := 140) rfl rfl rfl ?_
          refine g_aload C X244 at_140 (q := 142) rfl rfl rfl ?_
          have f267 := ((f221.ext E233).keep K246)
          have f268 := ((f222.ext E233).keep K246 (ninS (own_ne (Nat.lt_of_lt_of_le A208.lt K220.1) g232) nin0))
          have f269 := ((f223.ext E233).keep K246 (ninS (own_ne (Nat.lt_of_lt_of_le A208.lt K220.1) g232) nin0))
          have f270 := (((f215.keep K220).ext E233).keep K246)
          have f271 := (((f216.keep K220 (allS (NoS.exa A208 (by decide) (w30 hw)) all0)).ext E233).keep K246 (allS (NoS.exa A234 (by decide) (w30 hw)) all0))
          refine g_callV1 C X244 (y := (⟨"com/example/sober_repository/soberrepository/Sort$Order", "equals", "(Ljava/lang/Object;)Z"⟩ : MethodName)) (z := (⟨"com/example/sober_repository/soberrepository/Sort$Order", "equals", "(Ljava/lang/Object;)Z"⟩ : MethodName)) (a := b202) (by decide) (w52 hw) (w53 hw) (w55 hw) (w54 hw) (nf_sel (w55 hw)) f267 (w56 hw) (w31 hw) (rm_eq0_1 hw (o0 := b202) (o1 := b182) (cs2 := (own_mk v164 p1)) O253 W f267 f268 f269 f270 f271 ge210 ge184 (Ne.symm (own_ne (Nat.lt_of_lt_of_le E186.lt K196.1) g206))) (W := 0) (by decide) (by decide) (k' := 22) rfl (n' := 180) rfl (by decide) (by decide) rfl pd_165 (argsL := [(.ref b182)]) rfl (rest := []) rfl rfl rfl at_142 (q := 145) rfl ?_
          rintro _ T272 _ X273 ⟨rfl, rfl⟩
          refine g_ifN C X273 at_145 (q := 148) rfl (by decide) ?_
          refine g_iconst C X273 at_148 (q := 149) rfl (z := (1 : Int32)) rfl ?_
          refine g_goto C X273 at_149 (by decide) (q := 153) (by decide) ?_
          exact gW_retN C X273 Y251 (own_EL hw) (Or.inl rfl) (z' := 1) (by decide) at_153 (by decide) (by decide) ⟨_, rfl, rfl, trivial⟩
        · refine g_icY C X244 at_135 (by decide) (q := 154) (by decide) (feq hc265).2 ?_
          refine g_iload C X244 at_154 (q := 156) rfl rfl ?_
          refine g_iconst C X244 at_156 (q := 157) rfl (z := (3 : Int32)) rfl ?_
          by_cases hc275 : v254 = (3 : Int32)
          · refine g_icN C X244 at_157 (q := 160) rfl (teq hc275).2 ?_
            obtain rfl : v254 = (3 : Int32) := hc275
            refine g_aload C X244 at_160 (q := 162) rfl rfl rfl ?_
            refine g_aload C X244 at_162 (q := 164) rfl rfl rfl ?_
            have f277 := ((f221.ext E233).keep K246)
            have f278 := ((f222.ext E233).keep K246 (ninS (own_ne (Nat.lt_of_lt_of_le A208.lt K220.1) g232) nin0))
            have f279 := ((f223.ext E233).keep K246 (ninS (own_ne (Nat.lt_of_lt_of_le A208.lt K220.1) g232) nin0))
            have f280 := (((f215.keep K220).ext E233).keep K246)
            have f281 := (((f216.keep K220 (allS (NoS.exa A208 (by decide) (w30 hw)) all0)).ext E233).keep K246 (allS (NoS.exa A234 (by decide) (w30 hw)) all0))
            refine g_callV1 C X244 (y := (⟨"com/example/sober_repository/soberrepository/Sort$Order", "equals", "(Ljava/lang/Object;)Z"⟩ : MethodName)) (z := (⟨"com/example/sober_repository/soberrepository/Sort$Order", "equals", "(Ljava/lang/Object;)Z"⟩ : MethodName)) (a := b202) (by decide) (w52 hw) (w53 hw) (w55 hw) (w54 hw) (nf_sel (w55 hw)) f277 (w56 hw) (w31 hw) (rm_eq0_2 hw (o0 := b202) (o1 := b182) (cs2 := (own_mk v164 p1)) O253 W f277 f278 f279 f280 f281 ge210 ge184 (Ne.symm (own_ne (Nat.lt_of_lt_of_le E186.lt K196.1) g206))) (W := 0) (by decide) (by decide) (k' := 22) rfl (n' := 180) rfl (by decide) (by decide) rfl pd_165 (argsL := [(.ref b202)]) rfl (rest := []) rfl rfl rfl at_164 (q := 167) rfl ?_
            rintro _ T282 _ X283 ⟨rfl, rfl⟩
            exact gW_retN C X283 Y251 (own_EL hw) (Or.inl rfl) (z' := 1) (by decide) at_167 (by decide) (by decide) ⟨_, rfl, rfl, trivial⟩
          · refine g_icY C X244 at_157 (by decide) (q := 168) (by decide) (feq hc275).2 ?_
            have hr284 : v254.toInt ≤ 2 := own_f6 hc275 hh256 (by decide)
            refine g_aload C X244 at_168 (q := 170) rfl rfl rfl ?_
            refine g_aload C X244 at_170 (q := 172) rfl rfl rfl ?_
            refine g_acmp C X244 at_172 rfl rfl (same := false) (decide_eq_false fun z => (Fld.ne W.2.2.2.2.1 W.2.2.2.2.2.1 (by decide)) (Value.ref.inj z)) (by decide) (q := 192) (by decide) ?_
            refine g_iconst C X244 at_192 (q := 193) rfl (z := (0 : Int32)) rfl ?_
            refine g_istore C X244 at_193 (q := 195) rfl (L' := #[.val (.int p0), .val (.int p1), .val (.int p2), .val (.int p3), .val (.ref a_ASC), .val (.ref a_DESC), .val (.int v164), .val (.int v167), .val (.int sv173), .val (.ref b182), .val (.ref b195), .val (.ref b202), .val (.ref b228), .val (.int v254), .val (.int (0 : Int32))]) rfl ?_
            refine g_aload C X244 at_195 (q := 197) rfl rfl rfl ?_
            refine g_aload C X244 at_197 (q := 199) rfl rfl rfl ?_
            have f285 := ((f221.ext E233).keep K246)
            have f286 := ((f223.ext E233).keep K246 (ninS (own_ne (Nat.lt_of_lt_of_le A208.lt K220.1) g232) nin0))
            have f287 := ((f222.ext E233).keep K246 (ninS (own_ne (Nat.lt_of_lt_of_le A208.lt K220.1) g232) nin0))
            have f288 := (((f216.keep K220 (allS (NoS.exa A208 (by decide) (w30 hw)) all0)).ext E233).keep K246 (allS (NoS.exa A234 (by decide) (w30 hw)) all0))
            have f289 := (f242.keep K246 (allS (NoS.exa A234 (by decide) (w30 hw)) all0))
            refine g_callV1 C X244 (y := (⟨"com/example/sober_repository/soberrepository/Sort$Order", "equals", "(Ljava/lang/Object;)Z"⟩ : MethodName)) (z := (⟨"com/example/sober_repository/soberrepository/Sort$Order", "equals", "(Ljava/lang/Object;)Z"⟩ : MethodName)) (a := b202) (by decide) (w52 hw) (w53 hw) (w55 hw) (w54 hw) (nf_sel (w55 hw)) f285 (w56 hw) (w31 hw) (rm_eqD hw O253 W f285 f286 f287 f247 f249 f248 f288 f289 (own_ne (Nat.lt_of_lt_of_le A208.lt K220.1) g232) (Fld.ne W.2.2.2.2.1 W.2.2.2.2.2.1 (by decide))) (W := 0) (by decide) (by decide) (k' := 22) rfl (n' := 180) rfl (by decide) (by decide) rfl pd_165 (argsL := [(.ref b228)]) rfl (rest := []) rfl rfl rfl at_199 (q := 202) rfl ?_
            rintro _ T290 _ X291 ⟨rfl, rfl⟩
            refine g_iload C X291 at_202 (q := 204) rfl rfl ?_
            refine g_icN C X291 at_204 (q := 207) rfl (by decide) ?_
            refine g_aload C X291 at_207 (q := 209) rfl rfl rfl ?_
            refine g_aload C X291 at_209 (q := 211) rfl rfl rfl ?_
            refine g_callV1 C X291 (y := (⟨"com/example/sober_repository/soberrepository/Sort$Order", "equals", "(Ljava/lang/Object;)Z"⟩ : MethodName)) (z := (⟨"com/example/sober_repository/soberrepository/Sort$Order", "equals", "(Ljava/lang/Object;)Z"⟩ : MethodName)) (a := b228) (by decide) (w52 hw) (w53 hw) (w55 hw) (w54 hw) (nf_sel (w55 hw)) f247 (w56 hw) (w31 hw) (rm_eqD hw O253 W f247 f249 f248 f285 f286 f287 f289 f288 (Ne.symm (own_ne (Nat.lt_of_lt_of_le A208.lt K220.1) g232)) (Ne.symm (Fld.ne W.2.2.2.2.1 W.2.2.2.2.2.1 (by decide)))) (W := 0) (by decide) (by decide) (k' := 22) rfl (n' := 180) rfl (by decide) (by decide) rfl pd_165 (argsL := [(.ref b202)]) rfl (rest := []) rfl rfl rfl at_211 (q := 214) rfl ?_
            rintro _ T292 _ X293 ⟨rfl, rfl⟩
            refine g_iload C X293 at_214 (q := 216) rfl rfl ?_
            refine g_icN C X293 at_216 (q := 219) rfl (by decide) ?_
            refine g_iconst C X293 at_219 (q := 220) rfl (z := (1 : Int32)) rfl ?_
            refine g_goto C X293 at_220 (by decide) (q := 224) (by decide) ?_
            exact gW_retN C X293 Y251 (own_EL hw) (Or.inl rfl) (z' := 1) (by decide) at_224 (by decide) (by decide) ⟨_, rfl, rfl, trivial⟩
  · refine g_ifN C X at_3 (q := 6) rfl (feq hc4).1 ?_
    have hr294 : 1 ≤ v1.toInt := own_f5 hc4 hl2 (by decide)
    obtain rfl : v1 = (1 : Int32) := own_f0 hr294 hh3 (by decide)
    refine g_getS C X (host := "") (Or.inl (w83 hw)) Via.refl (W.2.2.1.ext O.2) at_6 (q := 9) rfl ?_
    intro T295 X296
    refine g_goto C X296 at_9 (by decide) (q := 15) (by decide) ?_
    refine g_astore C X296 at_15 (q := 17) rfl rfl (L' := #[.val (.int p0), .val (.int p1), .val (.int p2), .val (.int p3), .val (.ref a_DESC), .unset, .unset, .unset, .unset, .unset, .unset, .unset, .unset, .unset, .unset]) rfl ?_
    refine g_iloadN C X296 at_17 (q := 18) rfl rfl ?_
    refine g_iconst C X296 at_18 (q := 19) rfl (z := (2 : Int32)) rfl ?_
    obtain ⟨v297, ev297⟩ : ∃ z, (p0 &&& (2 : Int32)) = z := ⟨_, rfl⟩
    have hl298 : 0 ≤ v297.toInt := by rw [← ev297]; exact (c_and p0 (2 : Int32) (by decide)).1
    have hh299 : v297.toInt ≤ 2 := by rw [← ev297]; exact (c_and p0 (2 : Int32) (by decide)).2
    refine g_iand C X296 at_19 (q := 20) rfl (z := v297) ev297 ?_
    by_cases hc300 : v297 = (0 : Int32)
    · refine g_ifY C X296 at_20 (by decide) (q := 29) (by decide) (teq hc300).1 ?_
      obtain rfl : v297 = (0 : Int32) := hc300
      refine g_getS C X296 (host := "") (Or.inl (w0 hw)) Via.refl (W.1.ext O.2) at_29 (q := 32) rfl ?_
      intro T302 X303
      refine g_astore C X303 at_32 (q := 34) rfl rfl (L' := #[.val (.int p0), .val (.int p1), .val (.int p2), .val (.int p3), .val (.ref a_DESC), .val (.ref a_ASC), .unset, .unset, .unset, .unset, .unset, .unset, .unset, .unset, .unset]) rfl ?_
      refine g_iloadN C X303 at_34 (q := 35) rfl rfl ?_
      refine g_iconst C X303 at_35 (q := 36) rfl (z := (2 : Int32)) rfl ?_
      refine g_iushr C X303 at_36 (q := 37) rfl (z := ((p0.toUInt32 >>> ((2 : Int32) &&& 31).toUInt32).toInt32)) rfl ?_
      refine g_iconst C X303 at_37 (q := 38) rfl (z := (3 : Int32)) rfl ?_
      obtain ⟨v304, ev304⟩ : ∃ z, (((p0.toUInt32 >>> ((2 : Int32) &&& 31).toUInt32).toInt32) &&& (3 : Int32)) = z := ⟨_, rfl⟩
      have hl305 : 0 ≤ v304.toInt := by rw [← ev304]; exact (c_and ((p0.toUInt32 >>> ((2 : Int32) &&& 31).toUInt32).toInt32) (3 : Int32) (by decide)).1
      have hh306 : v304.toInt ≤ 3 := by rw [← ev304]; exact (c_and ((p0.toUInt32 >>> ((2 : Int32) &&& 31).toUInt32).toInt32) (3 : Int32) (by decide)).2
      refine g_iand C X303 at_38 (q := 39) rfl (z := v304) ev304 ?_
      refine g_istore C X303 at_39 (q := 41) rfl (L' := #[.val (.int p0), .val (.int p1), .val (.int p2), .val (.int p3), .val (.ref a_DESC), .val (.ref a_ASC), .val (.int v304), .unset, .unset, .unset, .unset, .unset, .unset, .unset, .unset]) rfl ?_
      refine g_iloadN C X303 at_41 (q := 42) rfl rfl ?_
      refine g_iconst C X303 at_42 (q := 43) rfl (z := (4 : Int32)) rfl ?_
      refine g_iushr C X303 at_43 (q := 44) rfl (z := ((p0.toUInt32 >>> ((4 : Int32) &&& 31).toUInt32).toInt32)) rfl ?_
      refine g_iconst C X303 at_44 (q := 45) rfl (z := (3 : Int32)) rfl ?_
      obtain ⟨v307, ev307⟩ : ∃ z, (((p0.toUInt32 >>> ((4 : Int32) &&& 31).toUInt32).toInt32) &&& (3 : Int32)) = z := ⟨_, rfl⟩
      have hl308 : 0 ≤ v307.toInt := by rw [← ev307]; exact (c_and ((p0.toUInt32 >>> ((4 : Int32) &&& 31).toUInt32).toInt32) (3 : Int32) (by decide)).1
      have hh309 : v307.toInt ≤ 3 := by rw [← ev307]; exact (c_and ((p0.toUInt32 >>> ((4 : Int32) &&& 31).toUInt32).toInt32) (3 : Int32) (by decide)).2
      refine g_iand C X303 at_45 (q := 46) rfl (z := v307) ev307 ?_
      refine g_istore C X303 at_46 (q := 48) rfl (L' := #[.val (.int p0), .val (.int p1), .val (.int p2), .val (.int p3), .val (.ref a_DESC), .val (.ref a_ASC), .val (.int v304), .val (.int v307), .unset, .unset, .unset, .unset, .unset, .unset, .unset]) rfl ?_
      refine g_iloadN C X303 at_48 (q := 49) rfl rfl ?_
      refine g_iconst C X303 at_49 (q := 50) rfl (z := (1 : Int32)) rfl ?_
      obtain ⟨v310, ev310⟩ : ∃ z, (p3 &&& (1 : Int32)) = z := ⟨_, rfl⟩
      have hl311 : 0 ≤ v310.toInt := by rw [← ev310]; exact (c_and p3 (1 : Int32) (by decide)).1
      have hh312 : v310.toInt ≤ 1 := by rw [← ev310]; exact (c_and p3 (1 : Int32) (by decide)).2
      refine g_iand C X303 at_50 (q := 51) rfl (z := v310) ev310 ?_
      refine g_selF C X303 at_51 at_54 at_55 at_58 (q := 59) rfl rfl rfl ?_
      intro sv313 hz314 hz315
      refine g_istore C X303 at_59 (q := 61) rfl (L' := #[.val (.int p0), .val (.int p1), .val (.int p2), .val (.int p3), .val (.ref a_DESC), .val (.ref a_ASC), .val (.int v304), .val (.int v307), .val (.int sv313), .unset, .unset, .unset, .unset, .unset, .unset]) rfl ?_
      refine g_iload C X303 at_61 (q := 63) rfl rfl ?_
      refine g_iloadN C X303 at_63 (q := 64) rfl rfl ?_
      refine gW_callS1 C X303 Y (own_EL hw) (y := (⟨"com/example/sober_repository/soberrepository/OrderEqualsPinLaw", "mk", "(II)Ljava/lang/String;"⟩ : MethodName)) (by decide) (w3 hw) (w4 hw) (w6 hw) (w5 hw) (rm_mk hw (p0 := v304) (p1 := p1) O W ) (W := 0) (by decide) (by decide) (k' := 6) rfl (n' := 12) rfl (by decide) (by decide) rfl pd_136 (argsL := [(.int v304), (.int p1)]) rfl (rest := []) rfl rfl rfl at_64 (q := 67) rfl ?_
      rintro _ T316 h317 vm318 C X319 Y320 R321 ⟨b322, rfl, K323, ge324, sz325, E326, F327⟩
      have O328 := O.keep K323 all0
      refine g_astore C X319 at_67 (q := 69) rfl rfl (L' := #[.val (.int p0), .val (.int p1), .val (.int p2), .val (.int p3), .val (.ref a_DESC), .val (.ref a_ASC), .val (.int v304), .val (.int v307), .val (.int sv313), .val (.ref b322), .unset, .unset, .unset, .unset, .unset]) rfl ?_
      refine g_iload C X319 at_69 (q := 71) rfl rfl ?_
      refine g_iload C X319 at_71 (q := 73) rfl rfl ?_
      refine gW_callS1 C X319 Y320 (own_EL hw) (y := (⟨"com/example/sober_repository/soberrepository/OrderEqualsPinLaw", "mk", "(II)Ljava/lang/String;"⟩ : MethodName)) (by decide) (w3 hw) (w4 hw) (w6 hw) (w5 hw) (rm_mk hw (p0 := v307) (p1 := sv313) O328 W ) (W := 0) (by decide) (by decide) (k' := 12) rfl (n' := 24) rfl (by decide) (by decide) rfl pd_136 (argsL := [(.int v307), (.int sv313)]) rfl (rest := []) rfl rfl rfl at_73 (q := 76) rfl ?_
      rintro _ T329 h330 vm331 C X332 Y333 R334 ⟨b335, rfl, K336, ge337, sz338, E339, F340⟩
      have O341 := O328.keep K336 all0
      refine g_astore C X332 at_76 (q := 78) rfl rfl (L' := #[.val (.int p0), .val (.int p1), .val (.int p2), .val (.int p3), .val (.ref a_DESC), .val (.ref a_ASC), .val (.int v304), .val (.int v307), .val (.int sv313), .val (.ref b322), .val (.ref b335), .unset, .unset, .unset, .unset]) rfl ?_
      refine g_new C X332 (w29 hw) (w30 hw) (w31 hw) at_78 (q := 81) rfl (k' := 13) rfl (n' := 26) rfl (by decide) (by decide) ?_
      intro T343 h344 b342 g346 X345 E347 A348 D349
      have ge350 : n0 ≤ b342 := own_ge O341 g346
      have Y351 := Wx.ext Y333 E347
      have O352 := O341.ext E347
      have f353 : Fld Z h344 b342 "com/example/sober_repository/soberrepository/Sort$Order" "_direction" "Lcom/example/sober_repository/soberrepository/Sort$Direction;" .null := D349 (Or.inr (w44 hw)) (ty := (.object "com/example/sober_repository/soberrepository/Sort$Direction")) (by decide)
      have f354 : Fld Z h344 b342 "com/example/sober_repository/soberrepository/Sort$Order" "_property" "Ljava/lang/String;" .null := D349 (Or.inr (w48 hw)) (ty := (.object "java/lang/String")) (by decide)
      refine g_dup C X345 at_81 (q := 82) rfl rfl ?_
      refine g_aload C X345 at_82 (q := 84) rfl rfl rfl ?_
      refine g_aload C X345 at_84 (q := 86) rfl rfl rfl ?_
      have f355 := ((E326.keep K336).ext E347)
      have f356 := ((F327.keep K336 all0).ext E347)
      refine gW_callI0 C X345 Y351 (own_EL hw) (y := (⟨"com/example/sober_repository/soberrepository/Sort$Order", "<init>", "(Lcom/example/sober_repository/soberrepository/Sort$Direction;Ljava/lang/String;)V"⟩ : MethodName)) (a := b342) (by decide) rfl rfl (w32 hw) (w33 hw) (w34 hw) (w31 hw) (rm_init_1 hw (o0 := b342) (o1 := b322) (cs2 := (own_mk v304 p1)) O352 W A348 f353 f354 f355 f356 ge350 ge324 (Ne.symm (own_ne (Nat.lt_of_lt_of_le E326.lt K336.1) g346))) (W := 1) (by decide) (by decide) (k' := 17) rfl (n' := 102) rfl (by decide) (by decide) rfl pd_159 (argsL := [(.ref a_DESC), (.ref b322)]) rfl (rest := [(.ref b342)]) rfl rfl rfl at_86 (q := 89) rfl ?_
      rintro T357 h359 vm364 C X358 Y365 R366 ⟨K360, f361, f362, f363⟩
      have O367 := O352.keep K360 (allS ge350 all0)
      refine g_astore C X358 at_89 (q := 91) rfl rfl (L' := #[.val (.int p0), .val (.int p1), .val (.int p2), .val (.int p3), .val (.ref a_DESC), .val (.ref a_ASC), .val (.int v304), .val (.int v307), .val (.int sv313), .val (.ref b322), .val (.ref b335), .val (.ref b342), .unset, .unset, .unset]) rfl ?_
      refine g_new C X358 (w29 hw) (w30 hw) (w31 hw) at_91 (q := 94) rfl (k' := 18) rfl (n' := 104) rfl (by decide) (by decide) ?_
      intro T369 h370 b368 g372 X371 E373 A374 D375
      have ge376 : n0 ≤ b368 := own_ge O367 g372
      have Y377 := Wx.ext Y365 E373
      have O378 := O367.ext E373
      have f379 : Fld Z h370 b368 "com/example/sober_repository/soberrepository/Sort$Order" "_direction" "Lcom/example/sober_repository/soberrepository/Sort$Direction;" .null := D375 (Or.inr (w44 hw)) (ty := (.object "com/example/sober_repository/soberrepository/Sort$Direction")) (by decide)
      have f380 : Fld Z h370 b368 "com/example/sober_repository/soberrepository/Sort$Order" "_property" "Ljava/lang/String;" .null := D375 (Or.inr (w48 hw)) (ty := (.object "java/lang/String")) (by decide)
      refine g_dup C X371 at_94 (q := 95) rfl rfl ?_
      refine g_aload C X371 at_95 (q := 97) rfl rfl rfl ?_
      refine g_aload C X371 at_97 (q := 99) rfl rfl rfl ?_
      have f381 := (((E339.ext E347).keep K360).ext E373)
      have f382 := (((F340.ext E347).keep K360 (allS (NoS.exa A348 (by decide) (w30 hw)) all0)).ext E373)
      refine gW_callI0 C X371 Y377 (own_EL hw) (y := (⟨"com/example/sober_repository/soberrepository/Sort$Order", "<init>", "(Lcom/example/sober_repository/soberrepository/Sort$Direction;Ljava/lang/String;)V"⟩ : MethodName)) (a := b368) (by decide) rfl rfl (w32 hw) (w33 hw) (w34 hw) (w31 hw) (rm_init_0 hw (o0 := b368) (o1 := b335) (cs2 := (own_mk v307 sv313)) O378 W A374 f379 f380 f381 f382 ge376 ge337 (Ne.symm (own_ne (Nat.lt_of_lt_of_le E339.lt (Nat.le_trans E347.1 K360.1)) g372))) (W := 1) (by decide) (by decide) (k' := 22) rfl (n' := 180) rfl (by decide) (by decide) rfl pd_159 (argsL := [(.ref a_ASC), (.ref b335)]) rfl (rest := [(.ref b368)]) rfl rfl rfl at_99 (q := 102) rfl ?_
      rintro T383 h385 vm390 C X384 Y391 R392 ⟨K386, f387, f388, f389⟩
      have O393 := O378.keep K386 (allS ge376 all0)
      refine g_astore C X384 at_102 (q := 104) rfl rfl (L' := #[.val (.int p0), .val (.int p1), .val (.int p2), .val (.int p3), .val (.ref a_DESC), .val (.ref a_ASC), .val (.int v304), .val (.int v307), .val (.int sv313), .val (.ref b322), .val (.ref b335), .val (.ref b342), .val (.ref b368), .unset, .unset]) rfl ?_
      refine g_iloadN C X384 at_104 (q := 105) rfl rfl ?_
      refine g_iconst C X384 at_105 (q := 106) rfl (z := (1 : Int32)) rfl ?_
      refine g_iushr C X384 at_106 (q := 107) rfl (z := ((p3.toUInt32 >>> ((1 : Int32) &&& 31).toUInt32).toInt32)) rfl ?_
      refine g_iconst C X384 at_107 (q := 108) rfl (z := (3 : Int32)) rfl ?_
      obtain ⟨v394, ev394⟩ : ∃ z, (((p3.toUInt32 >>> ((1 : Int32) &&& 31).toUInt32).toInt32) &&& (3 : Int32)) = z := ⟨_, rfl⟩
      have hl395 : 0 ≤ v394.toInt := by rw [← ev394]; exact (c_and ((p3.toUInt32 >>> ((1 : Int32) &&& 31).toUInt32).toInt32) (3 : Int32) (by decide)).1
      have hh396 : v394.toInt ≤ 3 := by rw [← ev394]; exact (c_and ((p3.toUInt32 >>> ((1 : Int32) &&& 31).toUInt32).toInt32) (3 : Int32) (by decide)).2
      refine g_iand C X384 at_108 (q := 109) rfl (z := v394) ev394 ?_
      refine g_istore C X384 at_109 (q := 111) rfl (L' := #[.val (.int p0), .val (.int p1), .val (.int p2), .val (.int p3), .val (.ref a_DESC), .val (.ref a_ASC), .val (.int v304), .val (.int v307), .val (.int sv313), .val (.ref b322), .val (.ref b335), .val (.ref b342), .val (.ref b368), .val (.int v394), .unset]) rfl ?_
      refine g_iload C X384 at_111 (q := 113) rfl rfl ?_
      refine g_iconst C X384 at_113 (q := 114) rfl (z := (1 : Int32)) rfl ?_
      by_cases hc397 : v394 = (1 : Int32)
      · refine g_icN C X384 at_114 (q := 117) rfl (teq hc397).2 ?_
        obtain rfl : v394 = (1 : Int32) := hc397
        refine g_aload C X384 at_117 (q := 119) rfl rfl rfl ?_
        refine g_aconstNull C X384 at_119 (q := 120) rfl ?_
        have f399 := ((f361.ext E373).keep K386)
        have f400 := ((f362.ext E373).keep K386 (ninS (own_ne (Nat.lt_of_lt_of_le A348.lt K360.1) g372) nin0))
        have f401 := ((f363.ext E373).keep K386 (ninS (own_ne (Nat.lt_of_lt_of_le A348.lt K360.1) g372) nin0))
        refine g_callV1 C X384 (y := (⟨"com/example/sober_repository/soberrepository/Sort$Order", "equals", "(Ljava/lang/Object;)Z"⟩ : MethodName)) (z := (⟨"com/example/sober_repository/soberrepository/Sort$Order", "equals", "(Ljava/lang/Object;)Z"⟩ : MethodName)) (a := b342) (by decide) (w52 hw) (w53 hw) (w55 hw) (w54 hw) (nf_sel (w55 hw)) f399 (w56 hw) (w31 hw) (rm_eq0_3 hw (o0 := b342) (o1 := b322) O393 W f399 f400 f401 ge350) (W := 0) (by decide) (by decide) (k' := 22) rfl (n' := 180) rfl (by decide) (by decide) rfl pd_165 (argsL := [.null]) rfl (rest := []) rfl rfl rfl at_120 (q := 123) rfl ?_
        rintro _ T402 _ X403 ⟨rfl, rfl⟩
        refine g_ifN C X403 at_123 (q := 126) rfl (by decide) ?_
        refine g_iconst C X403 at_126 (q := 127) rfl (z := (1 : Int32)) rfl ?_
        refine g_goto C X403 at_127 (by decide) (q := 131) (by decide) ?_
        exact gW_retN C X403 Y391 (own_EL hw) (Or.inl rfl) (z' := 1) (by decide) at_131 (by decide) (by decide) ⟨_, rfl, rfl, trivial⟩
      · refine g_icY C X384 at_114 (by decide) (q := 132) (by decide) (feq hc397).2 ?_
        refine g_iload C X384 at_132 (q := 134) rfl rfl ?_
        refine g_iconst C X384 at_134 (q := 135) rfl (z := (2 : Int32)) rfl ?_
        by_cases hc405 : v394 = (2 : Int32)
        · refine g_icN C X384 at_135 (q := 138) rfl (teq hc405).2 ?_
          obtain rfl : v394 = (2 : Int32) := hc405
          refine g_aload C X384 at_138 (q := 140) rfl rfl rfl ?_
          refine g_aload C X384 at_140 (q := 142) rfl rfl rfl ?_
          have f407 := ((f361.ext E373).keep K386)
          have f408 := ((f362.ext E373).keep K386 (ninS (own_ne (Nat.lt_of_lt_of_le A348.lt K360.1) g372) nin0))
          have f409 := ((f363.ext E373).keep K386 (ninS (own_ne (Nat.lt_of_lt_of_le A348.lt K360.1) g372) nin0))
          have f410 := (((f355.keep K360).ext E373).keep K386)
          have f411 := (((f356.keep K360 (allS (NoS.exa A348 (by decide) (w30 hw)) all0)).ext E373).keep K386 (allS (NoS.exa A374 (by decide) (w30 hw)) all0))
          refine g_callV1 C X384 (y := (⟨"com/example/sober_repository/soberrepository/Sort$Order", "equals", "(Ljava/lang/Object;)Z"⟩ : MethodName)) (z := (⟨"com/example/sober_repository/soberrepository/Sort$Order", "equals", "(Ljava/lang/Object;)Z"⟩ : MethodName)) (a := b342) (by decide) (w52 hw) (w53 hw) (w55 hw) (w54 hw) (nf_sel (w55 hw)) f407 (w56 hw) (w31 hw) (rm_eq0_4 hw (o0 := b342) (o1 := b322) (cs2 := (own_mk v304 p1)) O393 W f407 f408 f409 f410 f411 ge350 ge324 (Ne.symm (own_ne (Nat.lt_of_lt_of_le E326.lt K336.1) g346))) (W := 0) (by decide) (by decide) (k' := 22) rfl (n' := 180) rfl (by decide) (by decide) rfl pd_165 (argsL := [(.ref b322)]) rfl (rest := []) rfl rfl rfl at_142 (q := 145) rfl ?_
          rintro _ T412 _ X413 ⟨rfl, rfl⟩
          refine g_ifN C X413 at_145 (q := 148) rfl (by decide) ?_
          refine g_iconst C X413 at_148 (q := 149) rfl (z := (1 : Int32)) rfl ?_
          refine g_goto C X413 at_149 (by decide) (q := 153) (by decide) ?_
          exact gW_retN C X413 Y391 (own_EL hw) (Or.inl rfl) (z' := 1) (by decide) at_153 (by decide) (by decide) ⟨_, rfl, rfl, trivial⟩
        · refine g_icY C X384 at_135 (by decide) (q := 154) (by decide) (feq hc405).2 ?_
          refine g_iload C X384 at_154 (q := 156) rfl rfl ?_
          refine g_iconst C X384 at_156 (q := 157) rfl (z := (3 : Int32)) rfl ?_
          by_cases hc415 : v394 = (3 : Int32)
          · refine g_icN C X384 at_157 (q := 160) rfl (teq hc415).2 ?_
            obtain rfl : v394 = (3 : Int32) := hc415
            refine g_aload C X384 at_160 (q := 162) rfl rfl rfl ?_
            refine g_aload C X384 at_162 (q := 164) rfl rfl rfl ?_
            have f417 := ((f361.ext E373).keep K386)
            have f418 := ((f362.ext E373).keep K386 (ninS (own_ne (Nat.lt_of_lt_of_le A348.lt K360.1) g372) nin0))
            have f419 := ((f363.ext E373).keep K386 (ninS (own_ne (Nat.lt_of_lt_of_le A348.lt K360.1) g372) nin0))
            have f420 := (((f355.keep K360).ext E373).keep K386)
            have f421 := (((f356.keep K360 (allS (NoS.exa A348 (by decide) (w30 hw)) all0)).ext E373).keep K386 (allS (NoS.exa A374 (by decide) (w30 hw)) all0))
            refine g_callV1 C X384 (y := (⟨"com/example/sober_repository/soberrepository/Sort$Order", "equals", "(Ljava/lang/Object;)Z"⟩ : MethodName)) (z := (⟨"com/example/sober_repository/soberrepository/Sort$Order", "equals", "(Ljava/lang/Object;)Z"⟩ : MethodName)) (a := b342) (by decide) (w52 hw) (w53 hw) (w55 hw) (w54 hw) (nf_sel (w55 hw)) f417 (w56 hw) (w31 hw) (rm_eq0_5 hw (o0 := b342) (o1 := b322) (cs2 := (own_mk v304 p1)) O393 W f417 f418 f419 f420 f421 ge350 ge324 (Ne.symm (own_ne (Nat.lt_of_lt_of_le E326.lt K336.1) g346))) (W := 0) (by decide) (by decide) (k' := 22) rfl (n' := 180) rfl (by decide) (by decide) rfl pd_165 (argsL := [(.ref b342)]) rfl (rest := []) rfl rfl rfl at_164 (q := 167) rfl ?_
            rintro _ T422 _ X423 ⟨rfl, rfl⟩
            exact gW_retN C X423 Y391 (own_EL hw) (Or.inl rfl) (z' := 1) (by decide) at_167 (by decide) (by decide) ⟨_, rfl, rfl, trivial⟩
          · refine g_icY C X384 at_157 (by decide) (q := 168) (by decide) (feq hc415).2 ?_
            have hr424 : v394.toInt ≤ 2 := own_f6 hc415 hh396 (by decide)
            refine g_aload C X384 at_168 (q := 170) rfl rfl rfl ?_
            refine g_aload C X384 at_170 (q := 172) rfl rfl rfl ?_
            refine g_acmp C X384 at_172 rfl rfl (same := false) (decide_eq_false fun z => (Ne.symm (Fld.ne W.2.2.2.2.1 W.2.2.2.2.2.1 (by decide))) (Value.ref.inj z)) (by decide) (q := 192) (by decide) ?_
            refine g_iconst C X384 at_192 (q := 193) rfl (z := (0 : Int32)) rfl ?_
            refine g_istore C X384 at_193 (q := 195) rfl (L' := #[.val (.int p0), .val (.int p1), .val (.int p2), .val (.int p3), .val (.ref a_DESC), .val (.ref a_ASC), .val (.int v304), .val (.int v307), .val (.int sv313), .val (.ref b322), .val (.ref b335), .val (.ref b342), .val (.ref b368), .val (.int v394), .val (.int (0 : Int32))]) rfl ?_
            refine g_aload C X384 at_195 (q := 197) rfl rfl rfl ?_
            refine g_aload C X384 at_197 (q := 199) rfl rfl rfl ?_
            have f425 := ((f361.ext E373).keep K386)
            have f426 := ((f363.ext E373).keep K386 (ninS (own_ne (Nat.lt_of_lt_of_le A348.lt K360.1) g372) nin0))
            have f427 := ((f362.ext E373).keep K386 (ninS (own_ne (Nat.lt_of_lt_of_le A348.lt K360.1) g372) nin0))
            have f428 := (((f356.keep K360 (allS (NoS.exa A348 (by decide) (w30 hw)) all0)).ext E373).keep K386 (allS (NoS.exa A374 (by decide) (w30 hw)) all0))
            have f429 := (f382.keep K386 (allS (NoS.exa A374 (by decide) (w30 hw)) all0))
            refine g_callV1 C X384 (y := (⟨"com/example/sober_repository/soberrepository/Sort$Order", "equals", "(Ljava/lang/Object;)Z"⟩ : MethodName)) (z := (⟨"com/example/sober_repository/soberrepository/Sort$Order", "equals", "(Ljava/lang/Object;)Z"⟩ : MethodName)) (a := b342) (by decide) (w52 hw) (w53 hw) (w55 hw) (w54 hw) (nf_sel (w55 hw)) f425 (w56 hw) (w31 hw) (rm_eqD hw O393 W f425 f426 f427 f387 f389 f388 f428 f429 (own_ne (Nat.lt_of_lt_of_le A348.lt K360.1) g372) (Ne.symm (Fld.ne W.2.2.2.2.1 W.2.2.2.2.2.1 (by decide)))) (W := 0) (by decide) (by decide) (k' := 22) rfl (n' := 180) rfl (by decide) (by decide) rfl pd_165 (argsL := [(.ref b368)]) rfl (rest := []) rfl rfl rfl at_199 (q := 202) rfl ?_
            rintro _ T430 _ X431 ⟨rfl, rfl⟩
            refine g_iload C X431 at_202 (q := 204) rfl rfl ?_
            refine g_icN C X431 at_204 (q := 207) rfl (by decide) ?_
            refine g_aload C X431 at_207 (q := 209) rfl rfl rfl ?_
            refine g_aload C X431 at_209 (q := 211) rfl rfl rfl ?_
            refine g_callV1 C X431 (y := (⟨"com/example/sober_repository/soberrepository/Sort$Order", "equals", "(Ljava/lang/Object;)Z"⟩ : MethodName)) (z := (⟨"com/example/sober_repository/soberrepository/Sort$Order", "equals", "(Ljava/lang/Object;)Z"⟩ : MethodName)) (a := b368) (by decide) (w52 hw) (w53 hw) (w55 hw) (w54 hw) (nf_sel (w55 hw)) f387 (w56 hw) (w31 hw) (rm_eqD hw O393 W f387 f389 f388 f425 f426 f427 f429 f428 (Ne.symm (own_ne (Nat.lt_of_lt_of_le A348.lt K360.1) g372)) (Fld.ne W.2.2.2.2.1 W.2.2.2.2.2.1 (by decide))) (W := 0) (by decide) (by decide) (k' := 22) rfl (n' := 180) rfl (by decide) (by decide) rfl pd_165 (argsL := [(.ref b342)]) rfl (rest := []) rfl rfl rfl at_211 (q := 214) rfl ?_
            rintro _ T432 _ X433 ⟨rfl, rfl⟩
            refine g_iload C X433 at_214 (q := 216) rfl rfl ?_
            refine g_icN C X433 at_216 (q := 219) rfl (by decide) ?_
            refine g_iconst C X433 at_219 (q := 220) rfl (z := (1 : Int32)) rfl ?_
            refine g_goto C X433 at_220 (by decide) (q := 224) (by decide) ?_
            exact gW_retN C X433 Y391 (own_EL hw) (Or.inl rfl) (z' := 1) (by decide) at_224 (by decide) (by decide) ⟨_, rfl, rfl, trivial⟩
    · refine g_ifN C X296 at_20 (q := 23) rfl (feq hc300).1 ?_
      have hr434 : 1 ≤ v297.toInt := own_f5 hc300 hl298 (by decide)
      refine g_getS C X296 (host := "") (Or.inl (w83 hw)) Via.refl (W.2.2.1.ext O.2) at_23 (q := 26) rfl ?_
      intro T435 X436
      refine g_goto C X436 at_26 (by decide) (q := 32) (by decide) ?_
      refine g_astore C X436 at_32 (q := 34) rfl rfl (L' := #[.val (.int p0), .val (.int p1), .val (.int p2), .val (.int p3), .val (.ref a_DESC), .val (.ref a_DESC), .unset, .unset, .unset, .unset, .unset, .unset, .unset, .unset, .unset]) rfl ?_
      refine g_iloadN C X436 at_34 (q := 35) rfl rfl ?_
      refine g_iconst C X436 at_35 (q := 36) rfl (z := (2 : Int32)) rfl ?_
      refine g_iushr C X436 at_36 (q := 37) rfl (z := ((p0.toUInt32 >>> ((2 : Int32) &&& 31).toUInt32).toInt32)) rfl ?_
      refine g_iconst C X436 at_37 (q := 38) rfl (z := (3 : Int32)) rfl ?_
      obtain ⟨v437, ev437⟩ : ∃ z, (((p0.toUInt32 >>> ((2 : Int32) &&& 31).toUInt32).toInt32) &&& (3 : Int32)) = z := ⟨_, rfl⟩
      have hl438 : 0 ≤ v437.toInt := by rw [← ev437]; exact (c_and ((p0.toUInt32 >>> ((2 : Int32) &&& 31).toUInt32).toInt32) (3 : Int32) (by decide)).1
      have hh439 : v437.toInt ≤ 3 := by rw [← ev437]; exact (c_and ((p0.toUInt32 >>> ((2 : Int32) &&& 31).toUInt32).toInt32) (3 : Int32) (by decide)).2
      refine g_iand C X436 at_38 (q := 39) rfl (z := v437) ev437 ?_
      refine g_istore C X436 at_39 (q := 41) rfl (L' := #[.val (.int p0), .val (.int p1), .val (.int p2), .val (.int p3), .val (.ref a_DESC), .val (.ref a_DESC), .val (.int v437), .unset, .unset, .unset, .unset, .unset, .unset, .unset, .unset]) rfl ?_
      refine g_iloadN C X436 at_41 (q := 42) rfl rfl ?_
      refine g_iconst C X436 at_42 (q := 43) rfl (z := (4 : Int32)) rfl ?_
      refine g_iushr C X436 at_43 (q := 44) rfl (z := ((p0.toUInt32 >>> ((4 : Int32) &&& 31).toUInt32).toInt32)) rfl ?_
      refine g_iconst C X436 at_44 (q := 45) rfl (z := (3 : Int32)) rfl ?_
      obtain ⟨v440, ev440⟩ : ∃ z, (((p0.toUInt32 >>> ((4 : Int32) &&& 31).toUInt32).toInt32) &&& (3 : Int32)) = z := ⟨_, rfl⟩
      have hl441 : 0 ≤ v440.toInt := by rw [← ev440]; exact (c_and ((p0.toUInt32 >>> ((4 : Int32) &&& 31).toUInt32).toInt32) (3 : Int32) (by decide)).1
      have hh442 : v440.toInt ≤ 3 := by rw [← ev440]; exact (c_and ((p0.toUInt32 >>> ((4 : Int32) &&& 31).toUInt32).toInt32) (3 : Int32) (by decide)).2
      refine g_iand C X436 at_45 (q := 46) rfl (z := v440) ev440 ?_
      refine g_istore C X436 at_46 (q := 48) rfl (L' := #[.val (.int p0), .val (.int p1), .val (.int p2), .val (.int p3), .val (.ref a_DESC), .val (.ref a_DESC), .val (.int v437), .val (.int v440), .unset, .unset, .unset, .unset, .unset, .unset, .unset]) rfl ?_
      refine g_iloadN C X436 at_48 (q := 49) rfl rfl ?_
      refine g_iconst C X436 at_49 (q := 50) rfl (z := (1 : Int32)) rfl ?_
      obtain ⟨v443, ev443⟩ : ∃ z, (p3 &&& (1 : Int32)) = z := ⟨_, rfl⟩
      have hl444 : 0 ≤ v443.toInt := by rw [← ev443]; exact (c_and p3 (1 : Int32) (by decide)).1
      have hh445 : v443.toInt ≤ 1 := by rw [← ev443]; exact (c_and p3 (1 : Int32) (by decide)).2
      refine g_iand C X436 at_50 (q := 51) rfl (z := v443) ev443 ?_
      refine g_selF C X436 at_51 at_54 at_55 at_58 (q := 59) rfl rfl rfl ?_
      intro sv446 hz447 hz448
      refine g_istore C X436 at_59 (q := 61) rfl (L' := #[.val (.int p0), .val (.int p1), .val (.int p2), .val (.int p3), .val (.ref a_DESC), .val (.ref a_DESC), .val (.int v437), .val (.int v440), .val (.int sv446), .unset, .unset, .unset, .unset, .unset, .unset]) rfl ?_
      refine g_iload C X436 at_61 (q := 63) rfl rfl ?_
      refine g_iloadN C X436 at_63 (q := 64) rfl rfl ?_
      refine gW_callS1 C X436 Y (own_EL hw) (y := (⟨"com/example/sober_repository/soberrepository/OrderEqualsPinLaw", "mk", "(II)Ljava/lang/String;"⟩ : MethodName)) (by decide) (w3 hw) (w4 hw) (w6 hw) (w5 hw) (rm_mk hw (p0 := v437) (p1 := p1) O W ) (W := 0) (by decide) (by decide) (k' := 6) rfl (n' := 12) rfl (by decide) (by decide) rfl pd_136 (argsL := [(.int v437), (.int p1)]) rfl (rest := []) rfl rfl rfl at_64 (q := 67) rfl ?_
      rintro _ T449 h450 vm451 C X452 Y453 R454 ⟨b455, rfl, K456, ge457, sz458, E459, F460⟩
      have O461 := O.keep K456 all0
      refine g_astore C X452 at_67 (q := 69) rfl rfl (L' := #[.val (.int p0), .val (.int p1), .val (.int p2), .val (.int p3), .val (.ref a_DESC), .val (.ref a_DESC), .val (.int v437), .val (.int v440), .val (.int sv446), .val (.ref b455), .unset, .unset, .unset, .unset, .unset]) rfl ?_
      refine g_iload C X452 at_69 (q := 71) rfl rfl ?_
      refine g_iload C X452 at_71 (q := 73) rfl rfl ?_
      refine gW_callS1 C X452 Y453 (own_EL hw) (y := (⟨"com/example/sober_repository/soberrepository/OrderEqualsPinLaw", "mk", "(II)Ljava/lang/String;"⟩ : MethodName)) (by decide) (w3 hw) (w4 hw) (w6 hw) (w5 hw) (rm_mk hw (p0 := v440) (p1 := sv446) O461 W ) (W := 0) (by decide) (by decide) (k' := 12) rfl (n' := 24) rfl (by decide) (by decide) rfl pd_136 (argsL := [(.int v440), (.int sv446)]) rfl (rest := []) rfl rfl rfl at_73 (q := 76) rfl ?_
      rintro _ T462 h463 vm464 C X465 Y466 R467 ⟨b468, rfl, K469, ge470, sz471, E472, F473⟩
      have O474 := O461.keep K469 all0
      refine g_astore C X465 at_76 (q := 78) rfl rfl (L' := #[.val (.int p0), .val (.int p1), .val (.int p2), .val (.int p3), .val (.ref a_DESC), .val (.ref a_DESC), .val (.int v437), .val (.int v440), .val (.int sv446), .val (.ref b455), .val (.ref b468), .unset, .unset, .unset, .unset]) rfl ?_
      refine g_new C X465 (w29 hw) (w30 hw) (w31 hw) at_78 (q := 81) rfl (k' := 13) rfl (n' := 26) rfl (by decide) (by decide) ?_
      intro T476 h477 b475 g479 X478 E480 A481 D482
      have ge483 : n0 ≤ b475 := own_ge O474 g479
      have Y484 := Wx.ext Y466 E480
      have O485 := O474.ext E480
      have f486 : Fld Z h477 b475 "com/example/sober_repository/soberrepository/Sort$Order" "_direction" "Lcom/example/sober_repository/soberrepository/Sort$Direction;" .null := D482 (Or.inr (w44 hw)) (ty := (.object "com/example/sober_repository/soberrepository/Sort$Direction")) (by decide)
      have f487 : Fld Z h477 b475 "com/example/sober_repository/soberrepository/Sort$Order" "_property" "Ljava/lang/String;" .null := D482 (Or.inr (w48 hw)) (ty := (.object "java/lang/String")) (by decide)
      refine g_dup C X478 at_81 (q := 82) rfl rfl ?_
      refine g_aload C X478 at_82 (q := 84) rfl rfl rfl ?_
      refine g_aload C X478 at_84 (q := 86) rfl rfl rfl ?_
      have f488 := ((E459.keep K469).ext E480)
      have f489 := ((F460.keep K469 all0).ext E480)
      refine gW_callI0 C X478 Y484 (own_EL hw) (y := (⟨"com/example/sober_repository/soberrepository/Sort$Order", "<init>", "(Lcom/example/sober_repository/soberrepository/Sort$Direction;Ljava/lang/String;)V"⟩ : MethodName)) (a := b475) (by decide) rfl rfl (w32 hw) (w33 hw) (w34 hw) (w31 hw) (rm_init_1 hw (o0 := b475) (o1 := b455) (cs2 := (own_mk v437 p1)) O485 W A481 f486 f487 f488 f489 ge483 ge457 (Ne.symm (own_ne (Nat.lt_of_lt_of_le E459.lt K469.1) g479))) (W := 1) (by decide) (by decide) (k' := 17) rfl (n' := 102) rfl (by decide) (by decide) rfl pd_159 (argsL := [(.ref a_DESC), (.ref b455)]) rfl (rest := [(.ref b475)]) rfl rfl rfl at_86 (q := 89) rfl ?_
      rintro T490 h492 vm497 C X491 Y498 R499 ⟨K493, f494, f495, f496⟩
      have O500 := O485.keep K493 (allS ge483 all0)
      refine g_astore C X491 at_89 (q := 91) rfl rfl (L' := #[.val (.int p0), .val (.int p1), .val (.int p2), .val (.int p3), .val (.ref a_DESC), .val (.ref a_DESC), .val (.int v437), .val (.int v440), .val (.int sv446), .val (.ref b455), .val (.ref b468), .val (.ref b475), .unset, .unset, .unset]) rfl ?_
      refine g_new C X491 (w29 hw) (w30 hw) (w31 hw) at_91 (q := 94) rfl (k' := 18) rfl (n' := 104) rfl (by decide) (by decide) ?_
      intro T502 h503 b501 g505 X504 E506 A507 D508
      have ge509 : n0 ≤ b501 := own_ge O500 g505
      have Y510 := Wx.ext Y498 E506
      have O511 := O500.ext E506
      have f512 : Fld Z h503 b501 "com/example/sober_repository/soberrepository/Sort$Order" "_direction" "Lcom/example/sober_repository/soberrepository/Sort$Direction;" .null := D508 (Or.inr (w44 hw)) (ty := (.object "com/example/sober_repository/soberrepository/Sort$Direction")) (by decide)
      have f513 : Fld Z h503 b501 "com/example/sober_repository/soberrepository/Sort$Order" "_property" "Ljava/lang/String;" .null := D508 (Or.inr (w48 hw)) (ty := (.object "java/lang/String")) (by decide)
      refine g_dup C X504 at_94 (q := 95) rfl rfl ?_
      refine g_aload C X504 at_95 (q := 97) rfl rfl rfl ?_
      refine g_aload C X504 at_97 (q := 99) rfl rfl rfl ?_
      have f514 := (((E472.ext E480).keep K493).ext E506)
      have f515 := (((F473.ext E480).keep K493 (allS (NoS.exa A481 (by decide) (w30 hw)) all0)).ext E506)
      refine gW_callI0 C X504 Y510 (own_EL hw) (y := (⟨"com/example/sober_repository/soberrepository/Sort$Order", "<init>", "(Lcom/example/sober_repository/soberrepository/Sort$Direction;Ljava/lang/String;)V"⟩ : MethodName)) (a := b501) (by decide) rfl rfl (w32 hw) (w33 hw) (w34 hw) (w31 hw) (rm_init_1 hw (o0 := b501) (o1 := b468) (cs2 := (own_mk v440 sv446)) O511 W A507 f512 f513 f514 f515 ge509 ge470 (Ne.symm (own_ne (Nat.lt_of_lt_of_le E472.lt (Nat.le_trans E480.1 K493.1)) g505))) (W := 1) (by decide) (by decide) (k' := 22) rfl (n' := 180) rfl (by decide) (by decide) rfl pd_159 (argsL := [(.ref a_DESC), (.ref b468)]) rfl (rest := [(.ref b501)]) rfl rfl rfl at_99 (q := 102) rfl ?_
      rintro T516 h518 vm523 C X517 Y524 R525 ⟨K519, f520, f521, f522⟩
      have O526 := O511.keep K519 (allS ge509 all0)
      refine g_astore C X517 at_102 (q := 104) rfl rfl (L' := #[.val (.int p0), .val (.int p1), .val (.int p2), .val (.int p3), .val (.ref a_DESC), .val (.ref a_DESC), .val (.int v437), .val (.int v440), .val (.int sv446), .val (.ref b455), .val (.ref b468), .val (.ref b475), .val (.ref b501), .unset, .unset]) rfl ?_
      refine g_iloadN C X517 at_104 (q := 105) rfl rfl ?_
      refine g_iconst C X517 at_105 (q := 106) rfl (z := (1 : Int32)) rfl ?_
      refine g_iushr C X517 at_106 (q := 107) rfl (z := ((p3.toUInt32 >>> ((1 : Int32) &&& 31).toUInt32).toInt32)) rfl ?_
      refine g_iconst C X517 at_107 (q := 108) rfl (z := (3 : Int32)) rfl ?_
      obtain ⟨v527, ev527⟩ : ∃ z, (((p3.toUInt32 >>> ((1 : Int32) &&& 31).toUInt32).toInt32) &&& (3 : Int32)) = z := ⟨_, rfl⟩
      have hl528 : 0 ≤ v527.toInt := by rw [← ev527]; exact (c_and ((p3.toUInt32 >>> ((1 : Int32) &&& 31).toUInt32).toInt32) (3 : Int32) (by decide)).1
      have hh529 : v527.toInt ≤ 3 := by rw [← ev527]; exact (c_and ((p3.toUInt32 >>> ((1 : Int32) &&& 31).toUInt32).toInt32) (3 : Int32) (by decide)).2
      refine g_iand C X517 at_108 (q := 109) rfl (z := v527) ev527 ?_
      refine g_istore C X517 at_109 (q := 111) rfl (L' := #[.val (.int p0), .val (.int p1), .val (.int p2), .val (.int p3), .val (.ref a_DESC), .val (.ref a_DESC), .val (.int v437), .val (.int v440), .val (.int sv446), .val (.ref b455), .val (.ref b468), .val (.ref b475), .val (.ref b501), .val (.int v527), .unset]) rfl ?_
      refine g_iload C X517 at_111 (q := 113) rfl rfl ?_
      refine g_iconst C X517 at_113 (q := 114) rfl (z := (1 : Int32)) rfl ?_
      by_cases hc530 : v527 = (1 : Int32)
      · refine g_icN C X517 at_114 (q := 117) rfl (teq hc530).2 ?_
        obtain rfl : v527 = (1 : Int32) := hc530
        refine g_aload C X517 at_117 (q := 119) rfl rfl rfl ?_
        refine g_aconstNull C X517 at_119 (q := 120) rfl ?_
        have f532 := ((f494.ext E506).keep K519)
        have f533 := ((f495.ext E506).keep K519 (ninS (own_ne (Nat.lt_of_lt_of_le A481.lt K493.1) g505) nin0))
        have f534 := ((f496.ext E506).keep K519 (ninS (own_ne (Nat.lt_of_lt_of_le A481.lt K493.1) g505) nin0))
        refine g_callV1 C X517 (y := (⟨"com/example/sober_repository/soberrepository/Sort$Order", "equals", "(Ljava/lang/Object;)Z"⟩ : MethodName)) (z := (⟨"com/example/sober_repository/soberrepository/Sort$Order", "equals", "(Ljava/lang/Object;)Z"⟩ : MethodName)) (a := b475) (by decide) (w52 hw) (w53 hw) (w55 hw) (w54 hw) (nf_sel (w55 hw)) f532 (w56 hw) (w31 hw) (rm_eq0_3 hw (o0 := b475) (o1 := b455) O526 W f532 f533 f534 ge483) (W := 0) (by decide) (by decide) (k' := 22) rfl (n' := 180) rfl (by decide) (by decide) rfl pd_165 (argsL := [.null]) rfl (rest := []) rfl rfl rfl at_120 (q := 123) rfl ?_
        rintro _ T535 _ X536 ⟨rfl, rfl⟩
        refine g_ifN C X536 at_123 (q := 126) rfl (by decide) ?_
        refine g_iconst C X536 at_126 (q := 127) rfl (z := (1 : Int32)) rfl ?_
        refine g_goto C X536 at_127 (by decide) (q := 131) (by decide) ?_
        exact gW_retN C X536 Y524 (own_EL hw) (Or.inl rfl) (z' := 1) (by decide) at_131 (by decide) (by decide) ⟨_, rfl, rfl, trivial⟩
      · refine g_icY C X517 at_114 (by decide) (q := 132) (by decide) (feq hc530).2 ?_
        refine g_iload C X517 at_132 (q := 134) rfl rfl ?_
        refine g_iconst C X517 at_134 (q := 135) rfl (z := (2 : Int32)) rfl ?_
        by_cases hc538 : v527 = (2 : Int32)
        · refine g_icN C X517 at_135 (q := 138) rfl (teq hc538).2 ?_
          obtain rfl : v527 = (2 : Int32) := hc538
          refine g_aload C X517 at_138 (q := 140) rfl rfl rfl ?_
          refine g_aload C X517 at_140 (q := 142) rfl rfl rfl ?_
          have f540 := ((f494.ext E506).keep K519)
          have f541 := ((f495.ext E506).keep K519 (ninS (own_ne (Nat.lt_of_lt_of_le A481.lt K493.1) g505) nin0))
          have f542 := ((f496.ext E506).keep K519 (ninS (own_ne (Nat.lt_of_lt_of_le A481.lt K493.1) g505) nin0))
          have f543 := (((f488.keep K493).ext E506).keep K519)
          have f544 := (((f489.keep K493 (allS (NoS.exa A481 (by decide) (w30 hw)) all0)).ext E506).keep K519 (allS (NoS.exa A507 (by decide) (w30 hw)) all0))
          refine g_callV1 C X517 (y := (⟨"com/example/sober_repository/soberrepository/Sort$Order", "equals", "(Ljava/lang/Object;)Z"⟩ : MethodName)) (z := (⟨"com/example/sober_repository/soberrepository/Sort$Order", "equals", "(Ljava/lang/Object;)Z"⟩ : MethodName)) (a := b475) (by decide) (w52 hw) (w53 hw) (w55 hw) (w54 hw) (nf_sel (w55 hw)) f540 (w56 hw) (w31 hw) (rm_eq0_4 hw (o0 := b475) (o1 := b455) (cs2 := (own_mk v437 p1)) O526 W f540 f541 f542 f543 f544 ge483 ge457 (Ne.symm (own_ne (Nat.lt_of_lt_of_le E459.lt K469.1) g479))) (W := 0) (by decide) (by decide) (k' := 22) rfl (n' := 180) rfl (by decide) (by decide) rfl pd_165 (argsL := [(.ref b455)]) rfl (rest := []) rfl rfl rfl at_142 (q := 145) rfl ?_
          rintro _ T545 _ X546 ⟨rfl, rfl⟩
          refine g_ifN C X546 at_145 (q := 148) rfl (by decide) ?_
          refine g_iconst C X546 at_148 (q := 149) rfl (z := (1 : Int32)) rfl ?_
          refine g_goto C X546 at_149 (by decide) (q := 153) (by decide) ?_
          exact gW_retN C X546 Y524 (own_EL hw) (Or.inl rfl) (z' := 1) (by decide) at_153 (by decide) (by decide) ⟨_, rfl, rfl, trivial⟩
        · refine g_icY C X517 at_135 (by decide) (q := 154) (by decide) (feq hc538).2 ?_
          refine g_iload C X517 at_154 (q := 156) rfl rfl ?_
          refine g_iconst C X517 at_156 (q := 157) rfl (z := (3 : Int32)) rfl ?_
          by_cases hc548 : v527 = (3 : Int32)
          · refine g_icN C X517 at_157 (q := 160) rfl (teq hc548).2 ?_
            obtain rfl : v527 = (3 : Int32) := hc548
            refine g_aload C X517 at_160 (q := 162) rfl rfl rfl ?_
            refine g_aload C X517 at_162 (q := 164) rfl rfl rfl ?_
            have f550 := ((f494.ext E506).keep K519)
            have f551 := ((f495.ext E506).keep K519 (ninS (own_ne (Nat.lt_of_lt_of_le A481.lt K493.1) g505) nin0))
            have f552 := ((f496.ext E506).keep K519 (ninS (own_ne (Nat.lt_of_lt_of_le A481.lt K493.1) g505) nin0))
            have f553 := (((f488.keep K493).ext E506).keep K519)
            have f554 := (((f489.keep K493 (allS (NoS.exa A481 (by decide) (w30 hw)) all0)).ext E506).keep K519 (allS (NoS.exa A507 (by decide) (w30 hw)) all0))
            refine g_callV1 C X517 (y := (⟨"com/example/sober_repository/soberrepository/Sort$Order", "equals", "(Ljava/lang/Object;)Z"⟩ : MethodName)) (z := (⟨"com/example/sober_repository/soberrepository/Sort$Order", "equals", "(Ljava/lang/Object;)Z"⟩ : MethodName)) (a := b475) (by decide) (w52 hw) (w53 hw) (w55 hw) (w54 hw) (nf_sel (w55 hw)) f550 (w56 hw) (w31 hw) (rm_eq0_5 hw (o0 := b475) (o1 := b455) (cs2 := (own_mk v437 p1)) O526 W f550 f551 f552 f553 f554 ge483 ge457 (Ne.symm (own_ne (Nat.lt_of_lt_of_le E459.lt K469.1) g479))) (W := 0) (by decide) (by decide) (k' := 22) rfl (n' := 180) rfl (by decide) (by decide) rfl pd_165 (argsL := [(.ref b475)]) rfl (rest := []) rfl rfl rfl at_164 (q := 167) rfl ?_
            rintro _ T555 _ X556 ⟨rfl, rfl⟩
            exact gW_retN C X556 Y524 (own_EL hw) (Or.inl rfl) (z' := 1) (by decide) at_167 (by decide) (by decide) ⟨_, rfl, rfl, trivial⟩
          · refine g_icY C X517 at_157 (by decide) (q := 168) (by decide) (feq hc548).2 ?_
            have hr557 : v527.toInt ≤ 2 := own_f6 hc548 hh529 (by decide)
            refine g_aload C X517 at_168 (q := 170) rfl rfl rfl ?_
            refine g_aload C X517 at_170 (q := 172) rfl rfl rfl ?_
            refine g_acmp C X517 at_172 rfl rfl (same := true) (decide_eq_true rfl) (by decide) (q := 175) (by decide) ?_
            refine g_iload C X517 at_175 (q := 177) rfl rfl ?_
            refine g_iloadN C X517 at_177 (q := 178) rfl rfl ?_
            refine g_iload C X517 at_178 (q := 180) rfl rfl ?_
            refine g_iload C X517 at_180 (q := 182) rfl rfl ?_
            refine g_callS1 C X517 (y := (⟨"com/example/sober_repository/soberrepository/OrderEqualsPinLaw", "sameChars", "(IIII)Z"⟩ : MethodName)) (by decide) (w49 hw) (w50 hw) (w51 hw) (w5 hw) (rm_own_same hw (p0 := v437) (p1 := p1) (p2 := v440) (p3 := sv446) O526) (W := 0) (by decide) (by decide) (k' := 22) rfl (n' := 180) rfl (by decide) (by decide) rfl pd_181 (argsL := [(.int v437), (.int p1), (.int v440), (.int sv446)]) rfl (rest := []) rfl rfl rfl at_182 (q := 185) rfl ?_
            rintro _ T558 _ X559 ⟨rfl, rfl⟩
            by_cases hc560 : (own_same v437 p1 v440 sv446) = (0 : Int32)
            · refine g_ifY C X559 at_185 (by decide) (q := 192) (by decide) (teq hc560).1 ?_
              refine g_iconst C X559 at_192 (q := 193) rfl (z := (0 : Int32)) rfl ?_
              refine g_istore C X559 at_193 (q := 195) rfl (L' := #[.val (.int p0), .val (.int p1), .val (.int p2), .val (.int p3), .val (.ref a_DESC), .val (.ref a_DESC), .val (.int v437), .val (.int v440), .val (.int sv446), .val (.ref b455), .val (.ref b468), .val (.ref b475), .val (.ref b501), .val (.int v527), .val (.int (0 : Int32))]) rfl ?_
              refine g_aload C X559 at_195 (q := 197) rfl rfl rfl ?_
              refine g_aload C X559 at_197 (q := 199) rfl rfl rfl ?_
              have f561 := ((f494.ext E506).keep K519)
              have f562 := ((f496.ext E506).keep K519 (ninS (own_ne (Nat.lt_of_lt_of_le A481.lt K493.1) g505) nin0))
              have f563 := ((f495.ext E506).keep K519 (ninS (own_ne (Nat.lt_of_lt_of_le A481.lt K493.1) g505) nin0))
              have f564 := (((f489.keep K493 (allS (NoS.exa A481 (by decide) (w30 hw)) all0)).ext E506).keep K519 (allS (NoS.exa A507 (by decide) (w30 hw)) all0))
              have f565 := (f515.keep K519 (allS (NoS.exa A507 (by decide) (w30 hw)) all0))
              refine g_callV1 C X559 (y := (⟨"com/example/sober_repository/soberrepository/Sort$Order", "equals", "(Ljava/lang/Object;)Z"⟩ : MethodName)) (z := (⟨"com/example/sober_repository/soberrepository/Sort$Order", "equals", "(Ljava/lang/Object;)Z"⟩ : MethodName)) (a := b475) (by decide) (w52 hw) (w53 hw) (w55 hw) (w54 hw) (nf_sel (w55 hw)) f561 (w56 hw) (w31 hw) (rm_eqS hw O526 W f561 f562 f563 f520 f522 f521 f564 f565 (own_ne (Nat.lt_of_lt_of_le A481.lt K493.1) g505)) (W := 0) (by decide) (by decide) (k' := 22) rfl (n' := 180) rfl (by decide) (by decide) rfl pd_165 (argsL := [(.ref b501)]) rfl (rest := []) rfl rfl rfl at_199 (q := 202) rfl ?_
              rintro _ T566 _ X567 ⟨rfl, rfl⟩
              refine g_iload C X567 at_202 (q := 204) rfl rfl ?_
              have hv568 : (if (own_mk v437 p1) = (own_mk v440 sv446) then 1 else 0) = (0 : Int32) := if_neg (fun z => (own_sm hl438 hh439 hl441 hh442).mp hc560 z)
              refine g_icN C X567 at_204 (q := 207) rfl (teq hv568).2 ?_
              refine g_aload C X567 at_207 (q := 209) rfl rfl rfl ?_
              refine g_aload C X567 at_209 (q := 211) rfl rfl rfl ?_
              refine g_callV1 C X567 (y := (⟨"com/example/sober_repository/soberrepository/Sort$Order", "equals", "(Ljava/lang/Object;)Z"⟩ : MethodName)) (z := (⟨"com/example/sober_repository/soberrepository/Sort$Order", "equals", "(Ljava/lang/Object;)Z"⟩ : MethodName)) (a := b501) (by decide) (w52 hw) (w53 hw) (w55 hw) (w54 hw) (nf_sel (w55 hw)) f520 (w56 hw) (w31 hw) (rm_eqS hw O526 W f520 f522 f521 f561 f562 f563 f565 f564 (Ne.symm (own_ne (Nat.lt_of_lt_of_le A481.lt K493.1) g505))) (W := 0) (by decide) (by decide) (k' := 22) rfl (n' := 180) rfl (by decide) (by decide) rfl pd_165 (argsL := [(.ref b475)]) rfl (rest := []) rfl rfl rfl at_211 (q := 214) rfl ?_
              rintro _ T569 _ X570 ⟨rfl, rfl⟩
              refine g_iload C X570 at_214 (q := 216) rfl rfl ?_
              have hv571 : (if (own_mk v440 sv446) = (own_mk v437 p1) then 1 else 0) = (0 : Int32) := if_neg (fun z => (own_sm hl438 hh439 hl441 hh442).mp hc560 (Eq.symm z))
              refine g_icN C X570 at_216 (q := 219) rfl (teq hv571).2 ?_
              refine g_iconst C X570 at_219 (q := 220) rfl (z := (1 : Int32)) rfl ?_
              refine g_goto C X570 at_220 (by decide) (q := 224) (by decide) ?_
              exact gW_retN C X570 Y524 (own_EL hw) (Or.inl rfl) (z' := 1) (by decide) at_224 (by decide) (by decide) ⟨_, rfl, rfl, trivial⟩
            · refine g_ifN C X559 at_185 (q := 188) rfl (feq hc560).1 ?_
              refine g_iconst C X559 at_188 (q := 189) rfl (z := (1 : Int32)) rfl ?_
              refine g_goto C X559 at_189 (by decide) (q := 193) (by decide) ?_
              refine g_istore C X559 at_193 (q := 195) rfl (L' := #[.val (.int p0), .val (.int p1), .val (.int p2), .val (.int p3), .val (.ref a_DESC), .val (.ref a_DESC), .val (.int v437), .val (.int v440), .val (.int sv446), .val (.ref b455), .val (.ref b468), .val (.ref b475), .val (.ref b501), .val (.int v527), .val (.int (1 : Int32))]) rfl ?_
              refine g_aload C X559 at_195 (q := 197) rfl rfl rfl ?_
              refine g_aload C X559 at_197 (q := 199) rfl rfl rfl ?_
              have f572 := ((f494.ext E506).keep K519)
              have f573 := ((f496.ext E506).keep K519 (ninS (own_ne (Nat.lt_of_lt_of_le A481.lt K493.1) g505) nin0))
              have f574 := ((f495.ext E506).keep K519 (ninS (own_ne (Nat.lt_of_lt_of_le A481.lt K493.1) g505) nin0))
              have f575 := (((f489.keep K493 (allS (NoS.exa A481 (by decide) (w30 hw)) all0)).ext E506).keep K519 (allS (NoS.exa A507 (by decide) (w30 hw)) all0))
              have f576 := (f515.keep K519 (allS (NoS.exa A507 (by decide) (w30 hw)) all0))
              refine g_callV1 C X559 (y := (⟨"com/example/sober_repository/soberrepository/Sort$Order", "equals", "(Ljava/lang/Object;)Z"⟩ : MethodName)) (z := (⟨"com/example/sober_repository/soberrepository/Sort$Order", "equals", "(Ljava/lang/Object;)Z"⟩ : MethodName)) (a := b475) (by decide) (w52 hw) (w53 hw) (w55 hw) (w54 hw) (nf_sel (w55 hw)) f572 (w56 hw) (w31 hw) (rm_eqS hw O526 W f572 f573 f574 f520 f522 f521 f575 f576 (own_ne (Nat.lt_of_lt_of_le A481.lt K493.1) g505)) (W := 0) (by decide) (by decide) (k' := 22) rfl (n' := 180) rfl (by decide) (by decide) rfl pd_165 (argsL := [(.ref b501)]) rfl (rest := []) rfl rfl rfl at_199 (q := 202) rfl ?_
              rintro _ T577 _ X578 ⟨rfl, rfl⟩
              refine g_iload C X578 at_202 (q := 204) rfl rfl ?_
              have hv579 : (if (own_mk v437 p1) = (own_mk v440 sv446) then 1 else 0) = (1 : Int32) := if_pos (Decidable.of_not_not (fun z => hc560 ((own_sm hl438 hh439 hl441 hh442).mpr z)))
              refine g_icN C X578 at_204 (q := 207) rfl (teq hv579).2 ?_
              refine g_aload C X578 at_207 (q := 209) rfl rfl rfl ?_
              refine g_aload C X578 at_209 (q := 211) rfl rfl rfl ?_
              refine g_callV1 C X578 (y := (⟨"com/example/sober_repository/soberrepository/Sort$Order", "equals", "(Ljava/lang/Object;)Z"⟩ : MethodName)) (z := (⟨"com/example/sober_repository/soberrepository/Sort$Order", "equals", "(Ljava/lang/Object;)Z"⟩ : MethodName)) (a := b501) (by decide) (w52 hw) (w53 hw) (w55 hw) (w54 hw) (nf_sel (w55 hw)) f520 (w56 hw) (w31 hw) (rm_eqS hw O526 W f520 f522 f521 f572 f573 f574 f576 f575 (Ne.symm (own_ne (Nat.lt_of_lt_of_le A481.lt K493.1) g505))) (W := 0) (by decide) (by decide) (k' := 22) rfl (n' := 180) rfl (by decide) (by decide) rfl pd_165 (argsL := [(.ref b475)]) rfl (rest := []) rfl rfl rfl at_211 (q := 214) rfl ?_
              rintro _ T580 _ X581 ⟨rfl, rfl⟩
              refine g_iload C X581 at_214 (q := 216) rfl rfl ?_
              have hv582 : (if (own_mk v440 sv446) = (own_mk v437 p1) then 1 else 0) = (1 : Int32) := if_pos (Eq.symm (Decidable.of_not_not (fun z => hc560 ((own_sm hl438 hh439 hl441 hh442).mpr z))))
              refine g_icN C X581 at_216 (q := 219) rfl (teq hv582).2 ?_
              refine g_iconst C X581 at_219 (q := 220) rfl (z := (1 : Int32)) rfl ?_
              refine g_goto C X581 at_220 (by decide) (q := 224) (by decide) ?_
              exact gW_retN C X581 Y524 (own_EL hw) (Or.inl rfl) (z' := 1) (by decide) at_224 (by decide) (by decide) ⟨_, rfl, rfl, trivial⟩
set_option maxRecDepth 65536 in
set_option maxHeartbeats 40000000 in
theorem comes_1 {Post : Tables → Env → Array Value → State → Outcome → State → Prop} (hpost : ∀ tb e args s v u, (limb_1_1.after args s (.returned v) u = true ∧ limb_1_2.after args s (.returned v) u = true ∧ True) → ReturnedEndW s (.returned v) u (Jvm.fieldLocs frame_1_writes args s ++ Jvm.arrayLocs frame_1_arrays args s ++ Jvm.staticLocs frame_1_statics s) 32 3200 → Post tb e args s (.returned v) u) :
    ArmFor flags0 classFile x code maxLocals ret World_1 tables_1 room_1 Calls_1 rest_1 Pre_1 Post := by
  intro l hfl _ _ p e ha hc hk s m args below hf hA hF happ hP
  obtain ⟨hcalls, hrest, hpre⟩ := hP
  obtain ⟨-, -, -, hnamed, -, -, -, hat⟩ := (Spec.applies_iff hf).mp happ
  obtain ⟨hg, hn⟩ := and_e (Cond.before_iff.mp (show (Jvm.Cond.and given_1 narrow_1).before args s = true from hpre))
  obtain ⟨y1, y2⟩ := and_e hg
  obtain ⟨y3, y4⟩ := and_e y2
  obtain ⟨y5, y6⟩ := and_e y4
  obtain ⟨y7, y8⟩ := and_e y6
  obtain ⟨u0, u1, u2, u3, rfl⟩ : ∃ u0 u1 u2 u3 : Value, args = #[u0, u1, u2, u3] := by
    have hs : args.size = 4 := by simpa [Cond.value, given_1] using y1
    obtain ⟨L⟩ := args
    match L, hs with
    | [u0, u1, u2, u3], _ => exact ⟨u0, u1, u2, u3, rfl⟩
  have hw := fun d (hd : d ∈ tables_1) => atoms_spec (ws := Jvm.Cond.code x code maxLocals ret :: tables_1) hat d (List.mem_cons_of_mem _ hd)
  have hfit : Fit s := fun {y c} hc i hi => by
    obtain ⟨ha, rfl⟩ := Array.getElem?_eq_some_iff.mp hc
    have q := List.all_eq_true.mp ((Array.all_eq_true_iff_forall_mem.mp hF) _ (Array.getElem_mem ha)) i (List.mem_range.mpr hi)
    simpa [Array.getElem?_eq_getElem hi] using q
  obtain ⟨hsets, hown0⟩ := atoms_of _ (rest_1_c_eq ▸ (show rest_1_c.before _ s = true from hrest))
  have hr0 := Cond.before_iff.mp hown0
  obtain ⟨i0, ei0⟩ := is_v y3
  obtain rfl : u0 = (.int i0) := Option.some.inj ei0
  obtain ⟨i1, ei1⟩ := is_v y5
  obtain rfl : u1 = (.int i1) := Option.some.inj ei1
  obtain ⟨i2, ei2⟩ := is_v y7
  obtain rfl : u2 = (.int i2) := Option.some.inj ei2
  obtain ⟨i3, ei3⟩ := is_v y8
  obtain rfl : u3 = (.int i3) := Option.some.inj ei3
  obtain ⟨y1, y2⟩ := and_e hn
  obtain ⟨o3, ev4, S5, E6⟩ := own_sta y1 (Or.inr ⟨(w1 hw), (w2 hw)⟩)
  obtain ⟨y7, y8⟩ := and_e y2
  obtain ⟨o9, ev10, S11, E12⟩ := own_sta y7 (Or.inr ⟨(w1 hw), (w84 hw)⟩)
  obtain ⟨y13, y14⟩ := and_e y8
  have F15 := own_fldI ev4 y13
  have F16 := own_fldI ev10 y14
  obtain ⟨cz, ecz⟩ := is_v (Cond.before_iff.mp (hsets _ (List.mem_of_getElem? (i := 1) rfl)))
  have SCz : Sta s s.heap "java/lang/String" "COMPACT_STRINGS" "Z" (.int cz) := Sta.start ecz (Or.inl (hsets _ (List.mem_of_getElem? (i := 0) rfl)))
  have hcz : ¬ cz = 0 := gotF (Cond.eq_ints ecz (Term.int_eval (0))) (not_v (Cond.before_iff.mp (hsets _ (List.mem_of_getElem? (i := 2) rfl))))
  have hM := rmLaw (l := l) hw (p0 := i0) (p1 := i1) (p2 := i2) (p3 := i3) (Old.start s) (show Wd s o3 o9 cz from ⟨S5, E6, S11, E12, F15, F16, SCz, hcz⟩)
  have hCH : CHv s consts_1 s.vm s.heap := CHv.start (own_EL hw) (fun p hp => hcalls.1 p hp) (hsets _ (List.mem_of_getElem? (i := 2) rfl)) (w22 hw) (w8 hw)
  obtain ⟨n, o, h1, h2, h3, _, L, rfl, ⟨N, _, rfl, rfl, -⟩, -, hq⟩ := hM tables_1 p e ha hc hk s m _ below hf ((Spec.applies_iff_loose hf).mp happ).1 ⟨rfl, State.Warmed39.refl s, rfl, hCH⟩ trivial
  refine ⟨n, _, h1, h2, h3, hpost _ _ _ _ _ _ ⟨Cond.after_iff.mpr rfl, Cond.after_iff.mpr (eq_i res_at (Term.int_eval (1)) rfl), trivial⟩ ⟨hq.1, hq.2.1, hq.2.2.1, (hq.2.2.2.sift fun y hy => Or.inr (N y hy)).mono (by decide) (by decide)⟩⟩
theorem main_1_1 : Claimed_1_1 := comes_1 fun _ _ _ _ _ _ h hF => ⟨h.1, hF⟩
theorem main_1_2 : Claimed_1_2 := comes_1 fun _ _ _ _ _ _ h hF => ⟨h.2.1, hF⟩
end Jvm.Pilot.@@N@@
namespace Jvm.Pilot.@@N@@
open Jvm Jvm.ClassFile Sem Op Lib Jvm.Free Jvm.Stand Jvm.Pilot.@@N@@.Jvm.D
/-! MADE BY PROGRAM (witnessworld.py) out of the Statement's table words and the real class files: 23 classes; the members and pool entries that the words name. The judged class is class 1, her method 1. -/
namespace start1
open Jvm.ClassFile
def u (s : String) : CpInfo := .utf8 (stringToUtf16 s)
/-- a pool by its gaps: so many unusable entries, then the entry; so many at the end -/
def gap : Nat → List CpInfo → List CpInfo
  | 0, r => r
  | n + 1, r => .unusable :: gap n r
def poolList (es : List (Nat × CpInfo)) (last : Nat) : List CpInfo := es.foldr (fun e r => gap e.1 (e.2 :: r)) (gap last [])
def pool (es : List (Nat × CpInfo)) (last : Nat) : Array CpInfo := ⟨poolList es last⟩
def fileOf (pool : Array CpInfo) (this : Nat) (attrs : Array Attribute := #[]) (ms : Array MethodInfo := #[]) (fl : Nat := 33) (sup : Nat := 0) (ifs : Array Nat := #[]) (fds : Array FieldInfo := #[]) : ClassFile where
  minorVersion := 0
  majorVersion := 65
  constantPool := pool
  accessFlags := fl
  thisClass := this
  superClass := sup
  interfaces := ifs
  fields := fds
  methods := ms
  attributes := attrs
def plain (name : String) (sup : Option ClassId) : Class where
  name := name
  kind := .ordinary
  loader := none
  accessFlags := 33
  super := sup
  interfaces := #[]
  cf := none
  fields := #[]
  methods := #[]
  instanceTypes := #[]
  staticTypes := #[]
  resolved := #[]
  callSites := []
  init := .initialized
  statics := none
  mirror := none

def pool0 : Array CpInfo := pool [(5, u "<init>"), (0, u "()V"), (1, .class_ 10), (1, u "java/lang/Object")] 113

def k0c0 : Code := { maxStack := 0, maxLocals := 1, code := object_method_1_code, exceptionTable := #[], attributes := #[] }
def k0m0 : Method := { name := "<init>", desc := "()V", sig := { parameters := [], returnType := none }, accessFlags := 1, code := some k0c0 }
/-- java/lang/Object -/
def k0 : Class := { plain "java/lang/Object" none with
  accessFlags := 33
  interfaces := #[]
  cf := some (fileOf pool0 8 #[] #[{ accessFlags := 1, nameIndex := 5, descriptorIndex := 6, attributes := #[] }] 33 0 #[] #[])
  fields := #[]
  methods := #[k0m0]
  instanceTypes := #[]
  staticTypes := #[]
  resolved := Array.replicate 124 none
  statics := none }

def pool1 : Array CpInfo := pool [(2, .class_ 4), (1, u "java/lang/Object"), (0, u "<init>"), (0, u "()V"), (0, .fieldref 8 9), (0, .class_ 10), (0, .nameAndType 11 12), (0, u "com/example/sober_repository/soberrepository/Sort$Direction"), (0, u "DESC"), (0, u "Lcom/example/sober_repository/soberrepository/Sort$Direction;"), (0, .fieldref 8 14), (0, .nameAndType 15 12), (0, u "ASC"), (0, .methodref 17 18), (0, .class_ 19), (0, .nameAndType 20 21), (0, u "com/example/sober_repository/soberrepository/OrderEqualsPinLaw"), (0, u "mk"), (0, u "(II)Ljava/lang/String;"), (0, .class_ 23), (0, u "com/example/sober_repository/soberrepository/Sort$Order"), (0, .methodref 22 25), (0, .nameAndType 5 26), (0, u "(Lcom/example/sober_repository/soberrepository/Sort$Direction;Ljava/lang/String;)V"), (0, .methodref 22 28), (0, .nameAndType 29 30), (0, u "equals"), (0, u "(Ljava/lang/Object;)Z"), (0, .methodref 17 32), (0, .nameAndType 33 34), (0, u "sameChars"), (0, u "(IIII)Z"), (0, .class_ 36), (0, u "java/lang/String"), (0, .methodref 35 38), (0, .nameAndType 5 39), (0, u "([C)V"), (0, .methodref 17 41), (0, .nameAndType 42 43), (0, u "ch"), (0, u "(II)C"), (0, .integer 65535), (0, .integer 16777215), (2, u "law")] 8

def k1m0 : Method := { name := "<init>", desc := "()V", sig := { parameters := [], returnType := none }, accessFlags := 1, code := none }
def k1c1 : Code := { maxStack := 4, maxLocals := 15, code := code, exceptionTable := #[], attributes := #[] }
def k1m1 : Method := { name := "law", desc := "(IIII)Z", sig := { parameters := [.int, .int, .int, .int], returnType := some .boolean }, accessFlags := 9, code := some k1c1 }
def k1c2 : Code := { maxStack := 3, maxLocals := 2, code := method_3_code, exceptionTable := #[], attributes := #[] }
def k1m2 : Method := { name := "ch", desc := "(II)C", sig := { parameters := [.int, .int], returnType := some .char }, accessFlags := 10, code := some k1c2 }
def k1c3 : Code := { maxStack := 7, maxLocals := 2, code := method_4_code, exceptionTable := #[], attributes := #[] }
def k1m3 : Method := { name := "mk", desc := "(II)Ljava/lang/String;", sig := { parameters := [.int, .int], returnType := some (.object "java/lang/String") }, accessFlags := 10, code := some k1c3 }
def k1c4 : Code := { maxStack := 3, maxLocals := 5, code := method_5_code, exceptionTable := #[], attributes := #[] }
def k1m4 : Method := { name := "sameChars", desc := "(IIII)Z", sig := { parameters := [.int, .int, .int, .int], returnType := some .boolean }, accessFlags := 10, code := some k1c4 }
/-- com/example/sober_repository/soberrepository/OrderEqualsPinLaw -/
def k1 : Class := { plain "com/example/sober_repository/soberrepository/OrderEqualsPinLaw" (some 0) with
  accessFlags := 49
  interfaces := #[]
  cf := some (fileOf pool1 17 #[] #[{ accessFlags := 1, nameIndex := 5, descriptorIndex := 6, attributes := #[] }, { accessFlags := 9, nameIndex := 48, descriptorIndex := 34, attributes := #[] }, { accessFlags := 10, nameIndex := 42, descriptorIndex := 43, attributes := #[] }, { accessFlags := 10, nameIndex := 20, descriptorIndex := 21, attributes := #[] }, { accessFlags := 10, nameIndex := 33, descriptorIndex := 34, attributes := #[] }] 49 2 #[] #[])
  fields := #[]
  methods := #[k1m0, k1m1, k1m2, k1m3, k1m4]
  instanceTypes := #[]
  staticTypes := #[]
  resolved := Array.replicate 57 none
  statics := none }

def pool2 : Array CpInfo := pool [(1, .class_ 2), (0, u "java/lang/constant/Constable"), (0, .class_ 4), (0, u "java/lang/Object")] 6

/-- java/lang/constant/Constable -/
def k2 : Class := { plain "java/lang/constant/Constable" (some 0) with
  accessFlags := 1537
  interfaces := #[]
  cf := some (fileOf pool2 1 #[] #[] 1537 3 #[] #[])
  fields := #[]
  methods := #[]
  instanceTypes := #[]
  staticTypes := #[]
  resolved := Array.replicate 11 none
  statics := none }

def pool3 : Array CpInfo := pool [(1, .class_ 2), (0, u "java/lang/Comparable"), (0, .class_ 4), (0, u "java/lang/Object")] 7

/-- java/lang/Comparable -/
def k3 : Class := { plain "java/lang/Comparable" (some 0) with
  accessFlags := 1537
  interfaces := #[]
  cf := some (fileOf pool3 1 #[] #[] 1537 3 #[] #[])
  fields := #[]
  methods := #[]
  instanceTypes := #[]
  staticTypes := #[]
  resolved := Array.replicate 12 none
  statics := none }

def pool4 : Array CpInfo := pool [(1, .class_ 2), (0, u "java/io/Serializable"), (0, .class_ 4), (0, u "java/lang/Object")] 2

/-- java/io/Serializable -/
def k4 : Class := { plain "java/io/Serializable" (some 0) with
  accessFlags := 1537
  interfaces := #[]
  cf := some (fileOf pool4 1 #[] #[] 1537 3 #[] #[])
  fields := #[]
  methods := #[]
  instanceTypes := #[]
  staticTypes := #[]
  resolved := Array.replicate 7 none
  statics := none }

def pool5 : Array CpInfo := pool [(2, .class_ 4), (1, u "java/lang/Enum"), (0, u "name"), (0, u "Ljava/lang/String;"), (2, u "ordinal"), (0, u "I"), (1, .class_ 14), (1, u "java/lang/Object"), (4, u "hash"), (86, .class_ 108), (1, u "java/lang/Enum$EnumDesc"), (2, .class_ 112), (0, u "java/lang/constant/Constable"), (0, .class_ 114), (0, u "java/lang/Comparable"), (0, .class_ 116), (0, u "java/io/Serializable")] 87

/-- java/lang/Enum -/
def k5 : Class := { plain "java/lang/Enum" (some 0) with
  accessFlags := 1057
  interfaces := #[2, 3, 4]
  cf := some (fileOf pool5 2 #[.nestMembers #[106]] #[] 1057 12 #[111, 113, 115] #[{ accessFlags := 18, nameIndex := 5, descriptorIndex := 6, attributes := #[] }, { accessFlags := 18, nameIndex := 9, descriptorIndex := 10, attributes := #[] }, { accessFlags := 2, nameIndex := 19, descriptorIndex := 10, attributes := #[] }])
  fields := #[{ name := "name", type := (.object "java/lang/String"), accessFlags := 18, slot := 0, constantValue := 0 }, { name := "ordinal", type := .int, accessFlags := 18, slot := 1, constantValue := 0 }, { name := "hash", type := .int, accessFlags := 2, slot := 2, constantValue := 0 }]
  methods := #[]
  instanceTypes := #[(.object "java/lang/String"), .int, .int]
  staticTypes := #[]
  resolved := Array.replicate 204 none
  statics := none }

def pool6 : Array CpInfo := pool [(1, .class_ 2), (0, u "com/example/sober_repository/soberrepository/Sort$Direction"), (2, u "ASC"), (0, u "Lcom/example/sober_repository/soberrepository/Sort$Direction;"), (2, u "DESC"), (2, u "$VALUES"), (0, u "[Lcom/example/sober_repository/soberrepository/Sort$Direction;"), (6, .class_ 22), (1, u "java/lang/Enum"), (25, .class_ 49), (0, u "com/example/sober_repository/soberrepository/Sort")] 2

/-- com/example/sober_repository/soberrepository/Sort$Direction -/
def k6 : Class := { plain "com/example/sober_repository/soberrepository/Sort$Direction" (some 5) with
  accessFlags := 16433
  interfaces := #[]
  cf := some (fileOf pool6 1 #[.nestHost 48] #[] 16433 20 #[] #[{ accessFlags := 16409, nameIndex := 5, descriptorIndex := 6, attributes := #[] }, { accessFlags := 16409, nameIndex := 9, descriptorIndex := 6, attributes := #[] }, { accessFlags := 4122, nameIndex := 12, descriptorIndex := 13, attributes := #[] }])
  fields := #[{ name := "ASC", type := (.object "com/example/sober_repository/soberrepository/Sort$Direction"), accessFlags := 16409, slot := 0, constantValue := 0 }, { name := "DESC", type := (.object "com/example/sober_repository/soberrepository/Sort$Direction"), accessFlags := 16409, slot := 1, constantValue := 0 }, { name := "$VALUES", type := (.array (.object "com/example/sober_repository/soberrepository/Sort$Direction")), accessFlags := 4122, slot := 2, constantValue := 0 }]
  methods := #[]
  instanceTypes := #[(.object "java/lang/String"), .int, .int]
  staticTypes := #[(.object "com/example/sober_repository/soberrepository/Sort$Direction"), (.object "com/example/sober_repository/soberrepository/Sort$Direction"), (.array (.object "com/example/sober_repository/soberrepository/Sort$Direction"))]
  resolved := Array.replicate 52 none
  statics := some 0 }

def pool7 : Array CpInfo := pool [(2, .class_ 4), (1, u "java/lang/CharSequence"), (42, .class_ 48), (0, u "java/lang/CharSequence$1CodePointIterator"), (10, .class_ 60), (0, u "java/lang/CharSequence$1CharIterator"), (5, .class_ 67), (0, u "java/lang/Object")] 63

/-- java/lang/CharSequence -/
def k7 : Class := { plain "java/lang/CharSequence" (some 0) with
  accessFlags := 1537
  interfaces := #[]
  cf := some (fileOf pool7 2 #[.nestMembers #[47, 59]] #[] 1537 66 #[] #[])
  fields := #[]
  methods := #[]
  instanceTypes := #[]
  staticTypes := #[]
  resolved := Array.replicate 131 none
  statics := none }

def pool8 : Array CpInfo := pool [(1, .class_ 2), (0, u "java/lang/constant/ConstantDesc"), (0, .class_ 4), (0, u "java/lang/Object")] 32

/-- java/lang/constant/ConstantDesc -/
def k8 : Class := { plain "java/lang/constant/ConstantDesc" (some 0) with
  accessFlags := 1537
  interfaces := #[]
  cf := some (fileOf pool8 1 #[] #[] 1537 3 #[] #[])
  fields := #[]
  methods := #[]
  instanceTypes := #[]
  staticTypes := #[]
  resolved := Array.replicate 37 none
  statics := none }

def pool9 : Array CpInfo := pool [(1, .methodref 2 3), (0, .class_ 4), (0, .nameAndType 5 6), (0, u "java/lang/Object"), (0, u "<init>"), (0, u "()V"), (0, .string 8), (0, u ""), (0, .fieldref 10 11), (0, .class_ 12), (0, .nameAndType 13 14), (0, u "java/lang/String"), (0, u "value"), (0, u "[B"), (0, .fieldref 10 16), (0, .nameAndType 17 18), (0, u "coder"), (0, u "B"), (2, u "hash"), (0, u "I"), (2, u "hashIsZero"), (0, u "Z"), (0, .methodref 10 28), (0, .nameAndType 5 29), (0, u "([CIILjava/lang/Void;)V"), (8, .fieldref 10 39), (0, .nameAndType 40 26), (0, u "COMPACT_STRINGS"), (1, .class_ 44), (1, u "java/lang/StringUTF16"), (0, u "compress"), (1, .methodref 42 48), (0, .nameAndType 49 50), (0, u "coderFromArrayLen"), (0, u "([BI)B"), (56, .class_ 109), (1, u "java/lang/StringLatin1"), (67, .methodref 42 178), (0, .nameAndType 45 179), (0, u "([CII)[B"), (361, .methodref 107 542), (0, .nameAndType 543 544), (0, u "equals"), (0, u "([B[B)Z"), (28, u "(Ljava/lang/Object;)Z"), (1, .class_ 576), (0, u "java/lang/CharSequence"), (22, u "CASE_INSENSITIVE_ORDER"), (0, u "Ljava/util/Comparator;"), (409, u "([C)V"), (90, u "serialPersistentFields"), (0, u "[Ljava/io/ObjectStreamField;"), (0, .class_ 1104), (0, u "java/lang/String$CaseInsensitiveComparator"), (1, .class_ 1107), (0, u "java/io/Serializable"), (0, .class_ 1109), (0, u "java/lang/Comparable"), (0, .class_ 1111), (0, u "java/lang/constant/Constable"), (0, .class_ 1113), (0, u "java/lang/constant/ConstantDesc"), (2, u "serialVersionUID"), (0, u "J"), (3, u "REPL"), (0, u "C"), (2, u "LATIN1"), (1, u "UTF16")] 323

def k9m0 : Method := { name := "<init>", desc := "()V", sig := { parameters := [], returnType := none }, accessFlags := 1, code := none }
def k9c1 : Code := { maxStack := 5, maxLocals := 2, code := jdk_42_method_3_code, exceptionTable := #[], attributes := #[] }
def k9m1 : Method := { name := "<init>", desc := "([C)V", sig := { parameters := [(.array .char)], returnType := none }, accessFlags := 1, code := some k9c1 }
def k9c2 : Code := { maxStack := 2, maxLocals := 3, code := jdk_42_method_66_code, exceptionTable := #[], attributes := #[] }
def k9m2 : Method := { name := "equals", desc := "(Ljava/lang/Object;)Z", sig := { parameters := [(.object "java/lang/Object")], returnType := some .boolean }, accessFlags := 1, code := some k9c2 }
def k9c3 : Code := { maxStack := 4, maxLocals := 6, code := jdk_42_method_149_code, exceptionTable := #[], attributes := #[] }
def k9m3 : Method := { name := "<init>", desc := "([CIILjava/lang/Void;)V", sig := { parameters := [(.array .char), .int, .int, (.object "java/lang/Void")], returnType := none }, accessFlags := 2, code := some k9c3 }
/-- java/lang/String -/
def k9 : Class := { plain "java/lang/String" (some 0) with
  accessFlags := 49
  interfaces := #[4, 3, 7, 2, 8]
  cf := some (fileOf pool9 10 #[.nestMembers #[1103]] #[{ accessFlags := 1, nameIndex := 5, descriptorIndex := 6, attributes := #[] }, { accessFlags := 1, nameIndex := 5, descriptorIndex := 1010, attributes := #[] }, { accessFlags := 1, nameIndex := 543, descriptorIndex := 573, attributes := #[] }, { accessFlags := 2, nameIndex := 5, descriptorIndex := 29, attributes := #[] }] 49 2 #[1106, 1108, 575, 1110, 1112] #[{ accessFlags := 18, nameIndex := 13, descriptorIndex := 14, attributes := #[] }, { accessFlags := 18, nameIndex := 17, descriptorIndex := 18, attributes := #[] }, { accessFlags := 2, nameIndex := 21, descriptorIndex := 22, attributes := #[] }, { accessFlags := 2, nameIndex := 25, descriptorIndex := 26, attributes := #[] }, { accessFlags := 26, nameIndex := 1116, descriptorIndex := 1117, attributes := #[] }, { accessFlags := 24, nameIndex := 40, descriptorIndex := 26, attributes := #[] }, { accessFlags := 26, nameIndex := 1101, descriptorIndex := 1102, attributes := #[] }, { accessFlags := 26, nameIndex := 1121, descriptorIndex := 1122, attributes := #[] }, { accessFlags := 25, nameIndex := 599, descriptorIndex := 600, attributes := #[] }, { accessFlags := 24, nameIndex := 1125, descriptorIndex := 18, attributes := #[] }, { accessFlags := 24, nameIndex := 1127, descriptorIndex := 18, attributes := #[] }])
  fields := #[{ name := "value", type := (.array .byte), accessFlags := 18, slot := 0, constantValue := 0 }, { name := "coder", type := .byte, accessFlags := 18, slot := 1, constantValue := 0 }, { name := "hash", type := .int, accessFlags := 2, slot := 2, constantValue := 0 }, { name := "hashIsZero", type := .boolean, accessFlags := 2, slot := 3, constantValue := 0 }, { name := "serialVersionUID", type := .long, accessFlags := 26, slot := 0, constantValue := 0 }, { name := "COMPACT_STRINGS", type := .boolean, accessFlags := 24, slot := 1, constantValue := 0 }, { name := "serialPersistentFields", type := (.array (.object "java/io/ObjectStreamField")), accessFlags := 26, slot := 2, constantValue := 0 }, { name := "REPL", type := .char, accessFlags := 26, slot := 3, constantValue := 0 }, { name := "CASE_INSENSITIVE_ORDER", type := (.object "java/util/Comparator"), accessFlags := 25, slot := 4, constantValue := 0 }, { name := "LATIN1", type := .byte, accessFlags := 24, slot := 5, constantValue := 0 }, { name := "UTF16", type := .byte, accessFlags := 24, slot := 6, constantValue := 0 }]
  methods := #[k9m0, k9m1, k9m2, k9m3]
  instanceTypes := #[(.array .byte), .byte, .int, .boolean]
  staticTypes := #[.long, .boolean, (.array (.object "java/io/ObjectStreamField")), .char, (.object "java/util/Comparator"), .byte, .byte]
  resolved := Array.replicate 1451 none
  statics := some 1 }

def pool10 : Array CpInfo := pool [(1, .methodref 2 3), (0, .class_ 4), (0, .nameAndType 5 6), (0, u "java/lang/Object"), (0, u "<init>"), (0, u "()V"), (0, .string 8), (0, u "direction"), (0, .methodref 10 11), (0, .class_ 12), (0, .nameAndType 13 14), (0, u "java/util/Objects"), (0, u "requireNonNull"), (0, u "(Ljava/lang/Object;Ljava/lang/String;)Ljava/lang/Object;"), (0, .class_ 16), (0, u "com/example/sober_repository/soberrepository/Sort$Direction"), (0, .fieldref 18 19), (0, .class_ 20), (0, .nameAndType 21 22), (0, u "com/example/sober_repository/soberrepository/Sort$Order"), (0, u "_direction"), (0, u "Lcom/example/sober_repository/soberrepository/Sort$Direction;"), (0, .string 24), (0, u "property"), (0, .class_ 26), (0, u "java/lang/String"), (0, .fieldref 18 28), (0, .nameAndType 29 30), (0, u "_property"), (0, u "Ljava/lang/String;"), (5, u "(Lcom/example/sober_repository/soberrepository/Sort$Direction;Ljava/lang/String;)V"), (3, .methodref 25 41), (0, .nameAndType 42 43), (0, u "equals"), (0, u "(Ljava/lang/Object;)Z"), (28, .class_ 73), (0, u "com/example/sober_repository/soberrepository/Sort")] 17

def k10c0 : Code := { maxStack := 3, maxLocals := 3, code := prog_53_method_1_code, exceptionTable := #[], attributes := #[] }
def k10m0 : Method := { name := "<init>", desc := "(Lcom/example/sober_repository/soberrepository/Sort$Direction;Ljava/lang/String;)V", sig := { parameters := [(.object "com/example/sober_repository/soberrepository/Sort$Direction"), (.object "java/lang/String")], returnType := none }, accessFlags := 1, code := some k10c0 }
def k10c1 : Code := { maxStack := 2, maxLocals := 2, code := prog_53_method_6_code, exceptionTable := #[], attributes := #[] }
def k10m1 : Method := { name := "equals", desc := "(Ljava/lang/Object;)Z", sig := { parameters := [(.object "java/lang/Object")], returnType := some .boolean }, accessFlags := 1, code := some k10c1 }
/-- com/example/sober_repository/soberrepository/Sort$Order -/
def k10 : Class := { plain "com/example/sober_repository/soberrepository/Sort$Order" (some 0) with
  accessFlags := 49
  interfaces := #[]
  cf := some (fileOf pool10 18 #[.nestHost 72] #[{ accessFlags := 1, nameIndex := 5, descriptorIndex := 36, attributes := #[] }, { accessFlags := 1, nameIndex := 42, descriptorIndex := 43, attributes := #[] }] 49 2 #[] #[{ accessFlags := 18, nameIndex := 29, descriptorIndex := 30, attributes := #[] }, { accessFlags := 18, nameIndex := 21, descriptorIndex := 22, attributes := #[] }])
  fields := #[{ name := "_property", type := (.object "java/lang/String"), accessFlags := 18, slot := 0, constantValue := 0 }, { name := "_direction", type := (.object "com/example/sober_repository/soberrepository/Sort$Direction"), accessFlags := 18, slot := 1, constantValue := 0 }]
  methods := #[k10m0, k10m1]
  instanceTypes := #[(.object "java/lang/String"), (.object "com/example/sober_repository/soberrepository/Sort$Direction")]
  staticTypes := #[]
  resolved := Array.replicate 91 none
  statics := none }

def pool11 : Array CpInfo := pool [(2, .class_ 4), (1, u "java/lang/Object"), (0, u "<init>"), (0, u "()V"), (35, .class_ 44), (1, u "java/util/Objects"), (0, u "requireNonNull"), (48, u "(Ljava/lang/Object;Ljava/lang/String;)Ljava/lang/Object;")] 89

def k11m0 : Method := { name := "<init>", desc := "()V", sig := { parameters := [], returnType := none }, accessFlags := 2, code := none }
def k11c1 : Code := { maxStack := 3, maxLocals := 2, code := jdk_31_method_11_code, exceptionTable := #[], attributes := #[] }
def k11m1 : Method := { name := "requireNonNull", desc := "(Ljava/lang/Object;Ljava/lang/String;)Ljava/lang/Object;", sig := { parameters := [(.object "java/lang/Object"), (.object "java/lang/String")], returnType := some (.object "java/lang/Object") }, accessFlags := 9, code := some k11c1 }
/-- java/util/Objects -/
def k11 : Class := { plain "java/util/Objects" (some 0) with
  accessFlags := 49
  interfaces := #[]
  cf := some (fileOf pool11 42 #[] #[{ accessFlags := 2, nameIndex := 5, descriptorIndex := 6, attributes := #[] }, { accessFlags := 9, nameIndex := 45, descriptorIndex := 94, attributes := #[] }] 49 2 #[] #[])
  fields := #[]
  methods := #[k11m0, k11m1]
  instanceTypes := #[]
  staticTypes := #[]
  resolved := Array.replicate 184 none
  statics := none }

def pool12 : Array CpInfo := pool [(4, .class_ 6), (1, u "java/lang/Object"), (0, u "<init>"), (0, u "()V"), (5, .class_ 16), (1, u "java/lang/StringLatin1"), (104, u "$assertionsDisabled"), (0, u "Z"), (98, .class_ 223), (1, u "java/lang/StringLatin1$LinesSpliterator"), (57, u "equals"), (0, u "([B[B)Z"), (107, .class_ 391), (0, u "java/lang/StringLatin1$CharsSpliterator")] 3

def k12m0 : Method := { name := "<init>", desc := "()V", sig := { parameters := [], returnType := none }, accessFlags := 0, code := none }
def k12c1 : Code := { maxStack := 3, maxLocals := 3, code := jdk_43_method_13_code, exceptionTable := #[], attributes := #[] }
def k12m1 : Method := { name := "equals", desc := "([B[B)Z", sig := { parameters := [(.array .byte), (.array .byte)], returnType := some .boolean }, accessFlags := 9, code := some k12c1 }
/-- java/lang/StringLatin1 -/
def k12 : Class := { plain "java/lang/StringLatin1" (some 0) with
  accessFlags := 48
  interfaces := #[]
  cf := some (fileOf pool12 14 #[.nestMembers #[390, 221]] #[{ accessFlags := 0, nameIndex := 7, descriptorIndex := 8, attributes := #[] }, { accessFlags := 9, nameIndex := 281, descriptorIndex := 282, attributes := #[] }] 48 4 #[] #[{ accessFlags := 4120, nameIndex := 121, descriptorIndex := 122, attributes := #[] }])
  fields := #[{ name := "$assertionsDisabled", type := .boolean, accessFlags := 4120, slot := 0, constantValue := 0 }]
  methods := #[k12m0, k12m1]
  instanceTypes := #[]
  staticTypes := #[.boolean]
  resolved := Array.replicate 395 none
  statics := none }

def pool13 : Array CpInfo := pool [(6, .class_ 8), (1, u "java/lang/Object"), (0, u "<init>"), (0, u "()V"), (1, .class_ 14), (1, u "java/lang/StringUTF16"), (31, u "$assertionsDisabled"), (0, u "Z"), (13, u "HI_BYTE_SHIFT"), (0, u "I"), (2, u "LO_BYTE_SHIFT"), (49, .methodref 12 116), (0, .nameAndType 117 118), (0, u "compress"), (0, u "([CI[BII)I"), (3, u "([CII)[B"), (138, u "coderFromArrayLen"), (0, u "([BI)B"), (106, .class_ 371), (1, u "java/lang/StringUTF16$LinesSpliterator"), (58, u "MAX_LENGTH"), (196, .class_ 628), (0, u "java/lang/StringUTF16$CodePointsSpliterator"), (0, .class_ 630), (0, u "java/lang/StringUTF16$CharsSpliterator")] 4

def k13m0 : Method := { name := "<init>", desc := "()V", sig := { parameters := [], returnType := none }, accessFlags := 0, code := none }
def k13c1 : Code := { maxStack := 2, maxLocals := 2, code := jdk_52_method_15_code, exceptionTable := #[], attributes := #[] }
def k13m1 : Method := { name := "coderFromArrayLen", desc := "([BI)B", sig := { parameters := [(.array .byte), .int], returnType := some .byte }, accessFlags := 8, code := some k13c1 }
def k13c2 : Code := { maxStack := 5, maxLocals := 6, code := jdk_52_method_16_code, exceptionTable := #[], attributes := #[] }
def k13m2 : Method := { name := "compress", desc := "([CII)[B", sig := { parameters := [(.array .char), .int, .int], returnType := some (.array .byte) }, accessFlags := 9, code := some k13c2 }
def k13c3 : Code := { maxStack := 3, maxLocals := 7, code := jdk_52_method_21_code, exceptionTable := #[], attributes := #[] }
def k13m3 : Method := { name := "compress", desc := "([CI[BII)I", sig := { parameters := [(.array .char), .int, (.array .byte), .int, .int], returnType := some .int }, accessFlags := 9, code := some k13c3 }
/-- java/lang/StringUTF16 -/
def k13 : Class := { plain "java/lang/StringUTF16" (some 0) with
  accessFlags := 48
  interfaces := #[]
  cf := some (fileOf pool13 12 #[.nestMembers #[627, 629, 369]] #[{ accessFlags := 0, nameIndex := 9, descriptorIndex := 10, attributes := #[] }, { accessFlags := 8, nameIndex := 261, descriptorIndex := 262, attributes := #[] }, { accessFlags := 9, nameIndex := 117, descriptorIndex := 122, attributes := #[] }, { accessFlags := 9, nameIndex := 117, descriptorIndex := 118, attributes := #[] }] 48 6 #[] #[{ accessFlags := 26, nameIndex := 61, descriptorIndex := 62, attributes := #[] }, { accessFlags := 26, nameIndex := 65, descriptorIndex := 62, attributes := #[] }, { accessFlags := 24, nameIndex := 430, descriptorIndex := 62, attributes := #[] }, { accessFlags := 4120, nameIndex := 46, descriptorIndex := 47, attributes := #[] }])
  fields := #[{ name := "HI_BYTE_SHIFT", type := .int, accessFlags := 26, slot := 0, constantValue := 0 }, { name := "LO_BYTE_SHIFT", type := .int, accessFlags := 26, slot := 1, constantValue := 0 }, { name := "MAX_LENGTH", type := .int, accessFlags := 24, slot := 2, constantValue := 0 }, { name := "$assertionsDisabled", type := .boolean, accessFlags := 4120, slot := 3, constantValue := 0 }]
  methods := #[k13m0, k13m1, k13m2, k13m3]
  instanceTypes := #[]
  staticTypes := #[.int, .int, .int, .boolean]
  resolved := Array.replicate 635 none
  statics := none }

def pool14 : Array CpInfo := pool [(2, .class_ 4), (1, u "java/lang/Object"), (0, u "<init>"), (0, u "()V"), (17, .class_ 26), (1, u "jdk/internal/util/Preconditions"), (28, .class_ 56), (0, u "jdk/internal/util/Preconditions$4"), (57, .class_ 115), (0, u "jdk/internal/util/Preconditions$1"), (7, u "SIOOBE_FORMATTER"), (0, u "Ljava/util/function/BiFunction;"), (0, .class_ 126), (0, u "jdk/internal/util/Preconditions$2"), (3, u "AIOOBE_FORMATTER"), (0, .class_ 132), (0, u "jdk/internal/util/Preconditions$3"), (3, u "IOOBE_FORMATTER")] 57

def k14m0 : Method := { name := "<init>", desc := "()V", sig := { parameters := [], returnType := none }, accessFlags := 1, code := none }
/-- jdk/internal/util/Preconditions -/
def k14 : Class := { plain "jdk/internal/util/Preconditions" (some 0) with
  accessFlags := 33
  interfaces := #[]
  cf := some (fileOf pool14 24 #[.nestMembers #[55, 131, 125, 114]] #[{ accessFlags := 1, nameIndex := 5, descriptorIndex := 6, attributes := #[] }] 33 2 #[] #[{ accessFlags := 25, nameIndex := 123, descriptorIndex := 124, attributes := #[] }, { accessFlags := 25, nameIndex := 130, descriptorIndex := 124, attributes := #[] }, { accessFlags := 25, nameIndex := 136, descriptorIndex := 124, attributes := #[] }])
  fields := #[{ name := "SIOOBE_FORMATTER", type := (.object "java/util/function/BiFunction"), accessFlags := 25, slot := 0, constantValue := 0 }, { name := "AIOOBE_FORMATTER", type := (.object "java/util/function/BiFunction"), accessFlags := 25, slot := 1, constantValue := 0 }, { name := "IOOBE_FORMATTER", type := (.object "java/util/function/BiFunction"), accessFlags := 25, slot := 2, constantValue := 0 }]
  methods := #[k14m0]
  instanceTypes := #[]
  staticTypes := #[(.object "java/util/function/BiFunction"), (.object "java/util/function/BiFunction"), (.object "java/util/function/BiFunction")]
  resolved := Array.replicate 194 none
  statics := some 2 }

def pool15 : Array CpInfo := pool [(9, u "<init>"), (6, .class_ 18), (1, u "java/lang/Object"), (0, u "()V"), (1, .class_ 23), (1, u "jdk/internal/util/ArraysSupport"), (0, u "LOG2_ARRAY_LONG_INDEX_SCALE"), (0, u "I"), (2, u "U"), (0, u "Ljdk/internal/misc/Unsafe;"), (8, u "BIG_ENDIAN"), (0, u "Z"), (8, u "LOG2_BYTE_BIT_SIZE"), (4, u "LOG2_ARRAY_INT_INDEX_SCALE"), (54, u "JLA"), (0, u "Ljdk/internal/access/JavaLangAccess;"), (11, u "LOG2_ARRAY_BOOLEAN_INDEX_SCALE"), (9, u "LOG2_ARRAY_BYTE_INDEX_SCALE"), (5, u "LOG2_ARRAY_CHAR_INDEX_SCALE"), (5, u "LOG2_ARRAY_SHORT_INDEX_SCALE"), (18, u "LOG2_ARRAY_FLOAT_INDEX_SCALE"), (24, u "LOG2_ARRAY_DOUBLE_INDEX_SCALE"), (89, u "T_BOOLEAN"), (2, u "T_CHAR"), (1, u "T_FLOAT"), (1, u "T_DOUBLE"), (1, u "T_BYTE"), (1, u "T_SHORT"), (1, u "T_INT"), (1, u "T_LONG"), (1, u "SOFT_MAX_ARRAY_LENGTH")] 83

def k15m0 : Method := { name := "<init>", desc := "()V", sig := { parameters := [], returnType := none }, accessFlags := 2, code := none }
/-- jdk/internal/util/ArraysSupport -/
def k15 : Class := { plain "jdk/internal/util/ArraysSupport" (some 0) with
  accessFlags := 33
  interfaces := #[]
  cf := some (fileOf pool15 21 #[] #[{ accessFlags := 2, nameIndex := 9, descriptorIndex := 19, attributes := #[] }] 33 16 #[] #[{ accessFlags := 24, nameIndex := 28, descriptorIndex := 29, attributes := #[] }, { accessFlags := 26, nameIndex := 38, descriptorIndex := 39, attributes := #[] }, { accessFlags := 25, nameIndex := 121, descriptorIndex := 25, attributes := #[] }, { accessFlags := 25, nameIndex := 131, descriptorIndex := 25, attributes := #[] }, { accessFlags := 25, nameIndex := 137, descriptorIndex := 25, attributes := #[] }, { accessFlags := 25, nameIndex := 143, descriptorIndex := 25, attributes := #[] }, { accessFlags := 25, nameIndex := 53, descriptorIndex := 25, attributes := #[] }, { accessFlags := 25, nameIndex := 24, descriptorIndex := 25, attributes := #[] }, { accessFlags := 25, nameIndex := 162, descriptorIndex := 25, attributes := #[] }, { accessFlags := 25, nameIndex := 187, descriptorIndex := 25, attributes := #[] }, { accessFlags := 26, nameIndex := 48, descriptorIndex := 25, attributes := #[] }, { accessFlags := 25, nameIndex := 277, descriptorIndex := 25, attributes := #[] }, { accessFlags := 25, nameIndex := 280, descriptorIndex := 25, attributes := #[] }, { accessFlags := 25, nameIndex := 282, descriptorIndex := 25, attributes := #[] }, { accessFlags := 25, nameIndex := 284, descriptorIndex := 25, attributes := #[] }, { accessFlags := 25, nameIndex := 286, descriptorIndex := 25, attributes := #[] }, { accessFlags := 25, nameIndex := 288, descriptorIndex := 25, attributes := #[] }, { accessFlags := 25, nameIndex := 290, descriptorIndex := 25, attributes := #[] }, { accessFlags := 25, nameIndex := 292, descriptorIndex := 25, attributes := #[] }, { accessFlags := 26, nameIndex := 108, descriptorIndex := 109, attributes := #[] }, { accessFlags := 25, nameIndex := 294, descriptorIndex := 25, attributes := #[] }])
  fields := #[{ name := "U", type := (.object "jdk/internal/misc/Unsafe"), accessFlags := 24, slot := 0, constantValue := 0 }, { name := "BIG_ENDIAN", type := .boolean, accessFlags := 26, slot := 1, constantValue := 0 }, { name := "LOG2_ARRAY_BOOLEAN_INDEX_SCALE", type := .int, accessFlags := 25, slot := 2, constantValue := 0 }, { name := "LOG2_ARRAY_BYTE_INDEX_SCALE", type := .int, accessFlags := 25, slot := 3, constantValue := 0 }, { name := "LOG2_ARRAY_CHAR_INDEX_SCALE", type := .int, accessFlags := 25, slot := 4, constantValue := 0 }, { name := "LOG2_ARRAY_SHORT_INDEX_SCALE", type := .int, accessFlags := 25, slot := 5, constantValue := 0 }, { name := "LOG2_ARRAY_INT_INDEX_SCALE", type := .int, accessFlags := 25, slot := 6, constantValue := 0 }, { name := "LOG2_ARRAY_LONG_INDEX_SCALE", type := .int, accessFlags := 25, slot := 7, constantValue := 0 }, { name := "LOG2_ARRAY_FLOAT_INDEX_SCALE", type := .int, accessFlags := 25, slot := 8, constantValue := 0 }, { name := "LOG2_ARRAY_DOUBLE_INDEX_SCALE", type := .int, accessFlags := 25, slot := 9, constantValue := 0 }, { name := "LOG2_BYTE_BIT_SIZE", type := .int, accessFlags := 26, slot := 10, constantValue := 0 }, { name := "T_BOOLEAN", type := .int, accessFlags := 25, slot := 11, constantValue := 0 }, { name := "T_CHAR", type := .int, accessFlags := 25, slot := 12, constantValue := 0 }, { name := "T_FLOAT", type := .int, accessFlags := 25, slot := 13, constantValue := 0 }, { name := "T_DOUBLE", type := .int, accessFlags := 25, slot := 14, constantValue := 0 }, { name := "T_BYTE", type := .int, accessFlags := 25, slot := 15, constantValue := 0 }, { name := "T_SHORT", type := .int, accessFlags := 25, slot := 16, constantValue := 0 }, { name := "T_INT", type := .int, accessFlags := 25, slot := 17, constantValue := 0 }, { name := "T_LONG", type := .int, accessFlags := 25, slot := 18, constantValue := 0 }, { name := "JLA", type := (.object "jdk/internal/access/JavaLangAccess"), accessFlags := 26, slot := 19, constantValue := 0 }, { name := "SOFT_MAX_ARRAY_LENGTH", type := .int, accessFlags := 25, slot := 20, constantValue := 0 }]
  methods := #[k15m0]
  instanceTypes := #[]
  staticTypes := #[(.object "jdk/internal/misc/Unsafe"), .boolean, .int, .int, .int, .int, .int, .int, .int, .int, .int, .int, .int, .int, .int, .int, .int, .int, .int, (.object "jdk/internal/access/JavaLangAccess"), .int]
  resolved := Array.replicate 378 none
  statics := none }

def pool16 : Array CpInfo := pool [(1, u "java/lang/Cloneable"), (0, .class_ 1), (0, u "java/lang/Object"), (0, .class_ 3)] 3

/-- java/lang/Cloneable -/
def k16 : Class := { plain "java/lang/Cloneable" (some 0) with
  accessFlags := 1537
  interfaces := #[]
  cf := some (fileOf pool16 2 #[] #[] 1537 4 #[] #[])
  fields := #[]
  methods := #[]
  instanceTypes := #[]
  staticTypes := #[]
  resolved := Array.replicate 8 none
  statics := none }

/-- the primitive byte -/
def k17 : Class := { plain "byte" none with kind := .primitive 'B', accessFlags := 0x411 }
/-- [B -/
def k18 : Class := { plain "[B" (some 0) with kind := .array 17 .byte, interfaces := #[16, 4], accessFlags := 1041 }

/-- the primitive char -/
def k19 : Class := { plain "char" none with kind := .primitive 'C', accessFlags := 0x411 }
/-- [C -/
def k20 : Class := { plain "[C" (some 0) with kind := .array 19 .char, interfaces := #[16, 4], accessFlags := 1041 }

/-- the primitive int -/
def k21 : Class := { plain "int" none with kind := .primitive 'I', accessFlags := 0x411 }
/-- [I -/
def k22 : Class := { plain "[I" (some 0) with kind := .array 21 .int, interfaces := #[16, 4], accessFlags := 1041 }

def heap : Heap := #[{ cls := 6, slots := #[.ref 3, .ref 4, .null], vm := .statics 6 },
  { cls := 9, slots := #[.long 0, .int 1, .null, .int 0, .null, .int 0, .int 0], vm := .statics 9 },
  { cls := 14, slots := #[.null, .null, .null], vm := .statics 14 },
  { cls := 6, slots := #[.null, .int 0, .int 0], vm := .none },
  { cls := 6, slots := #[.null, .int 1, .int 0], vm := .none }]
def classes : Array Class := #[k0, k1, k2, k3, k4, k5, k6, k7, k8, k9, k10, k11, k12, k13, k14, k15, k16, k17, k18, k19, k20, k21, k22]
def interned : List (Array UInt16 × Addr) := []
def slotsUsed : Nat := 19
def theMethod : MethodId := ⟨1, 1⟩
def args0 : Array Value := #[.int 5, .int 5, .int 5, .int 5]
def aboutOver (below : List Frame) : State where
  vm := { classes := classes, interned := interned.toArray }
  heap := heap
  slotsUsed := slotsUsed
  threads := #[{ frames := .invoking theMethod args0 :: below }]
def below0 : List Frame := [.native { method := ⟨0, 0⟩, args := #[] }]
def about1 : State := aboutOver below0
def p0 : Program := .bare "" "" ""
def e0 : Env := launch0.env 0 0 0
theorem w_frames : about1.frames = Frame.invoking theMethod args0 :: below0 := rfl
set_option maxRecDepth 65536 in
theorem w_args : argsFit about1.vm theMethod args0 = true := by decide +kernel
set_option maxRecDepth 65536 in
theorem w_heap : heapFits about1 = true := by decide +kernel
set_option maxRecDepth 65536 in
theorem w_runnable : about1.curStatus? = some .runnable := by decide +kernel
set_option maxRecDepth 65536 in
theorem w_alone : about1.alone = true := by decide +kernel
set_option maxRecDepth 65536 in
theorem w_named : about1.methodNamed? x = some theMethod := by decide +kernel
set_option maxRecDepth 65536 in
theorem w_hears : about1.hears theMethod below0 = true := by decide +kernel
set_option maxRecDepth 65536 in
theorem w_ripe : about1.ripe theMethod args0 below0 = true := by decide +kernel
theorem w_running : about1.status = .running := rfl
set_option maxRecDepth 65536 in
theorem w_room : about1.hasRoom e0.platform room_1 = true :=
  launch0.hasRoom_least _ room_1 (by decide +kernel) (by decide +kernel) (by decide +kernel) (by decide +kernel) (by decide +kernel) (by decide +kernel)
theorem allAtoms_all (ts : List Jvm.Cond) (a : Array Jvm.Value) (st : Jvm.State) : (allAtoms ts).before a st = ts.all (fun c => c.before a st) := by
  induction ts with
  | nil => rfl
  | cons c t ih =>
    show (Jvm.Cond.and c (allAtoms t)).before a st = _
    rw [Jvm.Cond.before_and, ih, List.all_cons]
def words1 : List Jvm.Cond := Jvm.Cond.code x code maxLocals ret :: tables_1
/-- a 'code' word, met by the world's own term for the bytes: nothing is compared byte by byte -/
theorem code_word {y : MethodName} {bytes : ByteArray} {mx : Nat} {rt : Option FieldType} {a : Array Value} {s : State} {m : MethodId} {meth : Method} {c : Code} (h1 : s.methodNamed? y = some m) (h2 : s.vm.method? m = some meth) (h3 : meth.code = some c) (h4 : c.code = bytes)
    (h5 : (c.maxLocals == mx && c.exceptionTable.isEmpty && decide (c.maxStack ≤ mostOperands) && decide (meth.sig.returnType = rt) && !meth.locks && decide (parseMethodDescriptor y.desc = some meth.sig)) = true) : (Jvm.Cond.code y bytes mx rt).before a s = true := by
  simp only [Bool.and_eq_true, beq_iff_eq, Bool.not_eq_true', decide_eq_true_eq] at h5
  obtain ⟨⟨⟨⟨⟨g1, g2⟩, g3⟩, g4⟩, g5⟩, g6⟩ := h5
  simp [Cond.before, Cond.holds, Cond.value, h1, h2, h3, h4, g1, g2, g3, g4, g5, g6]
def isCode : Jvm.Cond → Bool
  | .code _ _ _ _ => true
  | _ => false
theorem all_split {L : List Jvm.Cond} {P : Jvm.Cond → Bool} (h1 : L.all (fun c => isCode c || P c) = true) (h2 : ∀ c ∈ L.filter isCode, P c = true) : L.all P = true := by
  refine List.all_eq_true.mpr fun c hc => ?_
  have h := List.all_eq_true.mp h1 c hc
  rcases Bool.eq_false_or_eq_true (isCode c) with hi | hi
  · exact h2 c (List.mem_filter.mpr ⟨hc, hi⟩)
  · simpa [hi] using h
set_option maxRecDepth 65536 in
theorem w_c0 : (Jvm.Cond.code x code maxLocals ret).before args0 about1 = true := code_word (m := ⟨1, 1⟩) (meth := k1m1) (c := k1c1) (by decide +kernel) rfl rfl rfl (by decide +kernel)
set_option maxRecDepth 65536 in
theorem w_c1 : (Jvm.Cond.code ({ cls := "com/example/sober_repository/soberrepository/OrderEqualsPinLaw", name := "mk", desc := "(II)Ljava/lang/String;" } : Jvm.MethodName) method_4_code (2 : Nat) (Option.some (Jvm.ClassFile.FieldType.object "java/lang/String"))).before args0 about1 = true := code_word (m := ⟨1, 3⟩) (meth := k1m3) (c := k1c3) (by decide +kernel) rfl rfl rfl (by decide +kernel)
set_option maxRecDepth 65536 in
theorem w_c2 : (Jvm.Cond.code ({ cls := "java/lang/String", name := "<init>", desc := "([C)V" } : Jvm.MethodName) jdk_42_method_3_code (2 : Nat) (Option.none : Option Jvm.ClassFile.FieldType)).before args0 about1 = true := code_word (m := ⟨9, 1⟩) (meth := k9m1) (c := k9c1) (by decide +kernel) rfl rfl rfl (by decide +kernel)
set_option maxRecDepth 65536 in
theorem w_c3 : (Jvm.Cond.code ({ cls := "java/lang/String", name := "<init>", desc := "([CIILjava/lang/Void;)V" } : Jvm.MethodName) jdk_42_method_149_code (6 : Nat) (Option.none : Option Jvm.ClassFile.FieldType)).before args0 about1 = true := code_word (m := ⟨9, 3⟩) (meth := k9m3) (c := k9c3) (by decide +kernel) rfl rfl rfl (by decide +kernel)
set_option maxRecDepth 65536 in
theorem w_c4 : (Jvm.Cond.code ({ cls := "java/lang/Object", name := "<init>", desc := "()V" } : Jvm.MethodName) object_method_1_code (1 : Nat) (Option.none : Option Jvm.ClassFile.FieldType)).before args0 about1 = true := code_word (m := ⟨0, 0⟩) (meth := k0m0) (c := k0c0) (by decide +kernel) rfl rfl rfl (by decide +kernel)
set_option maxRecDepth 65536 in
theorem w_c5 : (Jvm.Cond.code ({ cls := "com/example/sober_repository/soberrepository/Sort$Order", name := "<init>", desc := "(Lcom/example/sober_repository/soberrepository/Sort$Direction;Ljava/lang/String;)V" } : Jvm.MethodName) prog_53_method_1_code (3 : Nat) (Option.none : Option Jvm.ClassFile.FieldType)).before args0 about1 = true := code_word (m := ⟨10, 0⟩) (meth := k10m0) (c := k10c0) (by decide +kernel) rfl rfl rfl (by decide +kernel)
set_option maxRecDepth 65536 in
theorem w_c6 : (Jvm.Cond.code ({ cls := "java/util/Objects", name := "requireNonNull", desc := "(Ljava/lang/Object;Ljava/lang/String;)Ljava/lang/Object;" } : Jvm.MethodName) jdk_31_method_11_code (2 : Nat) (Option.some (Jvm.ClassFile.FieldType.object "java/lang/Object"))).before args0 about1 = true := code_word (m := ⟨11, 1⟩) (meth := k11m1) (c := k11c1) (by decide +kernel) rfl rfl rfl (by decide +kernel)
set_option maxRecDepth 65536 in
theorem w_c7 : (Jvm.Cond.code ({ cls := "com/example/sober_repository/soberrepository/OrderEqualsPinLaw", name := "sameChars", desc := "(IIII)Z" } : Jvm.MethodName) method_5_code (5 : Nat) (Option.some Jvm.ClassFile.FieldType.boolean)).before args0 about1 = true := code_word (m := ⟨1, 4⟩) (meth := k1m4) (c := k1c4) (by decide +kernel) rfl rfl rfl (by decide +kernel)
set_option maxRecDepth 65536 in
theorem w_c8 : (Jvm.Cond.code ({ cls := "com/example/sober_repository/soberrepository/Sort$Order", name := "equals", desc := "(Ljava/lang/Object;)Z" } : Jvm.MethodName) prog_53_method_6_code (2 : Nat) (Option.some Jvm.ClassFile.FieldType.boolean)).before args0 about1 = true := code_word (m := ⟨10, 1⟩) (meth := k10m1) (c := k10c1) (by decide +kernel) rfl rfl rfl (by decide +kernel)
set_option maxRecDepth 65536 in
theorem w_c9 : (Jvm.Cond.code ({ cls := "java/lang/String", name := "equals", desc := "(Ljava/lang/Object;)Z" } : Jvm.MethodName) jdk_42_method_66_code (3 : Nat) (Option.some Jvm.ClassFile.FieldType.boolean)).before args0 about1 = true := code_word (m := ⟨9, 2⟩) (meth := k9m2) (c := k9c2) (by decide +kernel) rfl rfl rfl (by decide +kernel)
set_option maxRecDepth 65536 in
theorem w_c10 : (Jvm.Cond.code ({ cls := "java/lang/StringLatin1", name := "equals", desc := "([B[B)Z" } : Jvm.MethodName) jdk_43_method_13_code (3 : Nat) (Option.some Jvm.ClassFile.FieldType.boolean)).before args0 about1 = true := code_word (m := ⟨12, 1⟩) (meth := k12m1) (c := k12c1) (by decide +kernel) rfl rfl rfl (by decide +kernel)
set_option maxRecDepth 65536 in
theorem w_c11 : (Jvm.Cond.code ({ cls := "com/example/sober_repository/soberrepository/OrderEqualsPinLaw", name := "ch", desc := "(II)C" } : Jvm.MethodName) method_3_code (2 : Nat) (Option.some Jvm.ClassFile.FieldType.char)).before args0 about1 = true := code_word (m := ⟨1, 2⟩) (meth := k1m2) (c := k1c2) (by decide +kernel) rfl rfl rfl (by decide +kernel)
set_option maxRecDepth 65536 in
theorem w_c12 : (Jvm.Cond.code ({ cls := "java/lang/StringUTF16", name := "compress", desc := "([CII)[B" } : Jvm.MethodName) jdk_52_method_16_code (6 : Nat) (Option.some (Jvm.ClassFile.FieldType.array Jvm.ClassFile.FieldType.byte))).before args0 about1 = true := code_word (m := ⟨13, 2⟩) (meth := k13m2) (c := k13c2) (by decide +kernel) rfl rfl rfl (by decide +kernel)
set_option maxRecDepth 65536 in
theorem w_c13 : (Jvm.Cond.code ({ cls := "java/lang/StringUTF16", name := "compress", desc := "([CI[BII)I" } : Jvm.MethodName) jdk_52_method_21_code (7 : Nat) (Option.some Jvm.ClassFile.FieldType.int)).before args0 about1 = true := code_word (m := ⟨13, 3⟩) (meth := k13m3) (c := k13c3) (by decide +kernel) rfl rfl rfl (by decide +kernel)
set_option maxRecDepth 65536 in
theorem w_c14 : (Jvm.Cond.code ({ cls := "java/lang/StringUTF16", name := "coderFromArrayLen", desc := "([BI)B" } : Jvm.MethodName) jdk_52_method_15_code (2 : Nat) (Option.some Jvm.ClassFile.FieldType.byte)).before args0 about1 = true := code_word (m := ⟨13, 1⟩) (meth := k13m1) (c := k13c1) (by decide +kernel) rfl rfl rfl (by decide +kernel)
def codes1 : List Jvm.Cond := [Jvm.Cond.code x code maxLocals ret, Jvm.Cond.code ({ cls := "com/example/sober_repository/soberrepository/OrderEqualsPinLaw", name := "mk", desc := "(II)Ljava/lang/String;" } : Jvm.MethodName) method_4_code (2 : Nat) (Option.some (Jvm.ClassFile.FieldType.object "java/lang/String")), Jvm.Cond.code ({ cls := "java/lang/String", name := "<init>", desc := "([C)V" } : Jvm.MethodName) jdk_42_method_3_code (2 : Nat) (Option.none : Option Jvm.ClassFile.FieldType), Jvm.Cond.code ({ cls := "java/lang/String", name := "<init>", desc := "([CIILjava/lang/Void;)V" } : Jvm.MethodName) jdk_42_method_149_code (6 : Nat) (Option.none : Option Jvm.ClassFile.FieldType), Jvm.Cond.code ({ cls := "java/lang/Object", name := "<init>", desc := "()V" } : Jvm.MethodName) object_method_1_code (1 : Nat) (Option.none : Option Jvm.ClassFile.FieldType), Jvm.Cond.code ({ cls := "com/example/sober_repository/soberrepository/Sort$Order", name := "<init>", desc := "(Lcom/example/sober_repository/soberrepository/Sort$Direction;Ljava/lang/String;)V" } : Jvm.MethodName) prog_53_method_1_code (3 : Nat) (Option.none : Option Jvm.ClassFile.FieldType), Jvm.Cond.code ({ cls := "java/util/Objects", name := "requireNonNull", desc := "(Ljava/lang/Object;Ljava/lang/String;)Ljava/lang/Object;" } : Jvm.MethodName) jdk_31_method_11_code (2 : Nat) (Option.some (Jvm.ClassFile.FieldType.object "java/lang/Object")), Jvm.Cond.code ({ cls := "com/example/sober_repository/soberrepository/OrderEqualsPinLaw", name := "sameChars", desc := "(IIII)Z" } : Jvm.MethodName) method_5_code (5 : Nat) (Option.some Jvm.ClassFile.FieldType.boolean), Jvm.Cond.code ({ cls := "com/example/sober_repository/soberrepository/Sort$Order", name := "equals", desc := "(Ljava/lang/Object;)Z" } : Jvm.MethodName) prog_53_method_6_code (2 : Nat) (Option.some Jvm.ClassFile.FieldType.boolean), Jvm.Cond.code ({ cls := "java/lang/String", name := "equals", desc := "(Ljava/lang/Object;)Z" } : Jvm.MethodName) jdk_42_method_66_code (3 : Nat) (Option.some Jvm.ClassFile.FieldType.boolean), Jvm.Cond.code ({ cls := "java/lang/StringLatin1", name := "equals", desc := "([B[B)Z" } : Jvm.MethodName) jdk_43_method_13_code (3 : Nat) (Option.some Jvm.ClassFile.FieldType.boolean), Jvm.Cond.code ({ cls := "com/example/sober_repository/soberrepository/OrderEqualsPinLaw", name := "ch", desc := "(II)C" } : Jvm.MethodName) method_3_code (2 : Nat) (Option.some Jvm.ClassFile.FieldType.char), Jvm.Cond.code ({ cls := "java/lang/StringUTF16", name := "compress", desc := "([CII)[B" } : Jvm.MethodName) jdk_52_method_16_code (6 : Nat) (Option.some (Jvm.ClassFile.FieldType.array Jvm.ClassFile.FieldType.byte)), Jvm.Cond.code ({ cls := "java/lang/StringUTF16", name := "compress", desc := "([CI[BII)I" } : Jvm.MethodName) jdk_52_method_21_code (7 : Nat) (Option.some Jvm.ClassFile.FieldType.int), Jvm.Cond.code ({ cls := "java/lang/StringUTF16", name := "coderFromArrayLen", desc := "([BI)B" } : Jvm.MethodName) jdk_52_method_15_code (2 : Nat) (Option.some Jvm.ClassFile.FieldType.byte)]
set_option maxRecDepth 65536 in
theorem codes_eq : words1.filter isCode = codes1 := rfl
theorem w_codes : ∀ c ∈ words1.filter isCode, c.before args0 about1 = true := by
  rw [codes_eq]
  intro c hc
  simp only [codes1, List.mem_cons, List.not_mem_nil, or_false] at hc
  rcases hc with rfl | rfl | rfl | rfl | rfl | rfl | rfl | rfl | rfl | rfl | rfl | rfl | rfl | rfl | rfl
  · exact w_c0
  · exact w_c1
  · exact w_c2
  · exact w_c3
  · exact w_c4
  · exact w_c5
  · exact w_c6
  · exact w_c7
  · exact w_c8
  · exact w_c9
  · exact w_c10
  · exact w_c11
  · exact w_c12
  · exact w_c13
  · exact w_c14
set_option maxRecDepth 65536 in
theorem w_t1 : (words1.take 24).all (fun c => isCode c || c.before args0 about1) = true := by decide +kernel
set_option maxRecDepth 65536 in
theorem w_t2 : ((words1.drop 24).take 24).all (fun c => isCode c || c.before args0 about1) = true := by decide +kernel
set_option maxRecDepth 65536 in
theorem w_t3 : (((words1.drop 24).drop 24).take 24).all (fun c => isCode c || c.before args0 about1) = true := by decide +kernel
set_option maxRecDepth 65536 in
theorem w_t4 : (((words1.drop 24).drop 24).drop 24).all (fun c => isCode c || c.before args0 about1) = true := by decide +kernel
theorem w_tables : (allAtoms (Jvm.Cond.code x code maxLocals ret :: tables_1)).before args0 about1 = true := by
  rw [allAtoms_all]
  show words1.all (fun c => c.before args0 about1) = true
  refine all_split ?_ w_codes
  rw [← List.take_append_drop 24 words1, List.all_append, w_t1, ← List.take_append_drop 24 (words1.drop 24), List.all_append, w_t2, ← List.take_append_drop 24 ((words1.drop 24).drop 24), List.all_append, w_t3, w_t4]
  rfl
set_option maxRecDepth 65536 in
theorem w_rest : rest_1_c.before args0 about1 = true := by decide +kernel
set_option maxRecDepth 65536 in
theorem w_case : (Jvm.Cond.and given_1 narrow_1).before args0 about1 = true := by decide +kernel
set_option maxRecDepth 65536 in
theorem w_consts : constsHeld consts_1 about1 := Jvm.Lit.constsHeldB_iff.mp (by decide +kernel)
theorem w_applies : (headSpec (Jvm.Cond.code x code maxLocals ret :: tables_1) room_1).applies x e0.platform about1 = true :=
  (Spec.applies_iff w_frames).mpr ⟨w_running, w_runnable, w_alone, w_named, w_hears, w_ripe, w_room, w_tables⟩
theorem atStart : AtStart classFile x code maxLocals ret World_1 tables_1 room_1 Calls_1 rest_1 Pre_1 launch0 p0 e0 about1 theMethod args0 below0 :=
  ⟨lists_1, trivial, launch0.admits_env _ _ _, launch0.least_env, fairChoices_fair.cas, fairChoices_fair.clock, w_frames, w_args, w_heap, w_applies, ⟨w_consts, trivial⟩, w_rest, w_case⟩
end start1
theorem witness_1 : WitnessClaimed_1 := ⟨start1.p0, start1.e0, start1.about1, start1.theMethod, start1.args0, start1.below0, start1.atStart⟩
end Jvm.Pilot.@@N@@
