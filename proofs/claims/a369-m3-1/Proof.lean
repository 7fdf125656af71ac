import JvmDerived
import JvmDerived.Pilot.@@N@@Statement
import JvmDerived.Pilot.@@N@@Code
set_option linter.unusedVariables false
set_option linter.unusedSimpArgs false
/- laws to paste: Road.backV, Road.eqW, Road.codOf (cut by pick.py; bodies as the Statement names them) -/
namespace Jvm.Pilot.@@N@@
namespace StrChars
open Jvm Sem ClassFile Op Lib Jvm.Stand Jvm.Free.XT Jvm.Free.ALB Jvm.Free.JM Jvm.Free
open Jvm.Lib.Cold (StaticIs)
/-- a char array whose places are chars -/
def Ch (a : Addr) (A : Cell) (U : State) : Prop := Arr .char a A U ∧ Typed .char A
theorem Ch.mv {a : Addr} {A : Cell} {U U' : State} (h : Ch a A U) (hal : U.vm.Alike U'.vm) (hh : U'.heap = U.heap) : Ch a A U' := ⟨h.1.mv hal hh, h.2⟩
theorem Ch.keep {a : Addr} {A : Cell} {U U' : State} (h : Ch a A U) (hal : U.vm.Alike U'.vm) (hk : U'.heap[a]? = some A) : Ch a A U' := ⟨h.1.keep hal hk, h.2⟩
/-- what place i of a char[]'s cell holds -/
def cv (A : Cell) (i : Nat) : Int32 := match A.slots[i]? with | some (.int x) => x | _ => 0
theorem Ch.get {a : Addr} {A : Cell} {U : State} (h : Ch a A U) {i : Nat} (hi : i < A.slots.size) : A.slots[i]? = some (.int (cv A i)) := by
  have e := Array.getElem?_eq_getElem hi
  have f := h.2 i _ e
  unfold cv; rw [e]
  generalize A.slots[i] = v at f
  cases v <;> simp [fits] at f ⊢
/-- the byte that i2b leaves of a char -/
def lo8 (x : Int32) : Int32 := x.toInt8.toInt32
theorem fits_lo8 (y : Int32) : fits .byte (.int (lo8 y)) = true := by
  have h1 := y.toInt8.le_toInt
  have h2 := y.toInt8.toInt_lt
  simp only [lo8, fits, Bool.and_eq_true, decide_eq_true_eq, Int32.le_iff_toInt_le, Int8.toInt_toInt32, show (-128 : Int32).toInt = -128 from by decide, show (127 : Int32).toInt = 127 from by decide]
  omega
/-- A' is A but that each place j of lo .. hi - 1 holds f j -/
def Laid (A A' : Cell) (lo hi : Nat) (f : Nat → Value) : Prop := A'.cls = A.cls ∧ A'.vm = A.vm ∧ A'.slots.size = A.slots.size ∧ ∀ i, A'.slots[i]? = if lo ≤ i ∧ i < hi then some (f i) else A.slots[i]?
theorem Laid.zero (A : Cell) (lo : Nat) (f : Nat → Value) : Laid A A lo (lo + 0) f := ⟨rfl, rfl, rfl, fun i => by rw [if_neg (by omega)]⟩
theorem Laid.step {A Ak : Cell} {lo k : Nat} {f : Nat → Value} {v : Value} (h : Laid A Ak lo k f) (hlo : lo ≤ k) (hk : k < Ak.slots.size) (hv : v = f k) : Laid A (Ak.setSlot k v) lo (k + 1) f := by
  refine ⟨h.1, h.2.1, by simpa [Cell.setSlot] using h.2.2.1, fun i => ?_⟩
  by_cases e : k = i
  · subst e; rw [Cell.slots_setSlot_self v hk, if_pos (by omega), hv]
  · rw [Cell.slots_setSlot_ne v e, h.2.2.2 i]
    by_cases q : lo ≤ i ∧ i < k
    · rw [if_pos q, if_pos (by omega)]
    · rw [if_neg q, if_neg (by omega)]
def U16 : String := "java/lang/StringUTF16"
namespace Cmp5
def yN : MethodName := ⟨"java/lang/StringUTF16", "compress", "([CI[BII)I"⟩
abbrev yB : ByteArray := jdk_52_method_21_code
theorem d0 : decode yB 0 = .ok (.iconst 0, 1) := by decide +kernel
theorem d1 : decode yB 1 = .ok (.istore 5, 2) := by decide +kernel
theorem d3 : decode yB 3 = .ok (.iload 5, 2) := by decide +kernel
theorem d5 : decode yB 5 = .ok (.iload 4, 2) := by decide +kernel
theorem d7 : decode yB 7 = .ok (.if_icmp (.ge) 37, 3) := by decide +kernel
theorem d10 : decode yB 10 = .ok (.aload_n 0, 1) := by decide +kernel
theorem d11 : decode yB 11 = .ok (.iload_n 1, 1) := by decide +kernel
theorem d12 : decode yB 12 = .ok (.caload, 1) := by decide +kernel
theorem d13 : decode yB 13 = .ok (.istore 6, 2) := by decide +kernel
theorem d15 : decode yB 15 = .ok (.iload 6, 2) := by decide +kernel
theorem d17 : decode yB 17 = .ok (.sipush 255, 3) := by decide +kernel
theorem d20 : decode yB 20 = .ok (.if_icmp (.le) 6, 3) := by decide +kernel
theorem d26 : decode yB 26 = .ok (.aload_n 2, 1) := by decide +kernel
theorem d27 : decode yB 27 = .ok (.iload_n 3, 1) := by decide +kernel
theorem d28 : decode yB 28 = .ok (.iload 6, 2) := by decide +kernel
theorem d30 : decode yB 30 = .ok (.i2b, 1) := by decide +kernel
theorem d31 : decode yB 31 = .ok (.bastore, 1) := by decide +kernel
theorem d32 : decode yB 32 = .ok (.iinc 1 1, 3) := by decide +kernel
theorem d35 : decode yB 35 = .ok (.iinc 3 1, 3) := by decide +kernel
theorem d38 : decode yB 38 = .ok (.iinc 5 1, 3) := by decide +kernel
theorem d41 : decode yB 41 = .ok (.goto (-38), 3) := by decide +kernel
theorem d44 : decode yB 44 = .ok (.iload 4, 2) := by decide +kernel
theorem d46 : decode yB 46 = .ok (.ireturn, 1) := by decide +kernel
def site : List Cond := []
def tab : Cond := tabOf yN yB 7 (some .int) site
def P (b : Addr) (A : Cell) (d : Addr) (B : Cell) (o q len : Nat) (args : Array Value) (s : State) : Prop := args = #[.ref b, .int (Int32.ofNat o), .ref d, .int (Int32.ofNat q), .int (Int32.ofNat len)] ∧ Ch b A s ∧ Arr .byte d B s ∧ b ≠ d ∧ o + len ≤ A.slots.size ∧ q + len ≤ B.slots.size ∧ ∀ i, i < len → ¬ 255 < cv A (o + i)
def E (b : Addr) (A : Cell) (d : Addr) (B : Cell) (o q len : Nat) (r : Option Value) (s u : State) : Prop := r = some (.int (Int32.ofNat len)) ∧ ∃ B', Put d B' s u ∧ Laid B B' q (q + len) (fun j => Value.int (lo8 (cv A (o + (j - q)))))
/-- no char of the range above 255: len; the places written hold each char's low byte -/
theorem law (l : Launch) (b : Addr) (A : Cell) (d : Addr) (B : Cell) (o q len : Nat) : Law l yN 5 5 0 0 yB 7 (some .int) site (P b A d B o q len) (E b A d B o q len) (copyLocs d q len) 0 0 := by
  refine Law.of_walk (plainFor_of_name (by decide +kernel)) (by decide +kernel) (by decide +kernel) (by decide) (fun _ _ h => by rw [h.1]; rfl) (fun _ U U' hal hh h => ⟨h.1, h.2.1.mv hal hh, h.2.2.1.mv hal hh, h.2.2.2⟩) (fun r U U' V V' h1 hal h2 h => ⟨h.1, h.2.elim fun B' q => ⟨B', q.1.mv h1 h2, q.2⟩⟩) ?_
  intro p e s m args below meth c s₁ X0 hexec hbytes hml hret hlk hnm hown hh0 W hP
  obtain ⟨rfl, hA, hB, hne, l1, l2, hp⟩ := hP
  have c1 : Steps p.tables e below (s₁.setTop (entryFrame m #[.ref b, .int (Int32.ofNat o), .ref d, .int (Int32.ofNat q), .int (Int32.ofNat len)] 7)) (s₁.setTop (mkF m 0 #[.val (.ref b), .val (.int (Int32.ofNat o)), .val (.ref d), .val (.int (Int32.ofNat q)), .val (.int (Int32.ofNat len)), .unset, .unset] [])) := entry rfl
  have hA0 := hA.1.mv X0.warmed.alike hh0
  have hB0 := hB.mv X0.warmed.alike hh0
  have a31 := hA.1.2.2.2
  have c2 : Steps p.tables e below (s₁.setTop (entryFrame m #[.ref b, .int (Int32.ofNat o), .ref d, .int (Int32.ofNat q), .int (Int32.ofNat len)] 7)) (s₁.setTop (mkF m 3 #[.val (.ref b), .val (.int (Int32.ofNat o)), .val (.ref d), .val (.int (Int32.ofNat q)), .val (.int (Int32.ofNat len)), .val (.int 0), .unset] [])) := c1.trans (by
    refine iconstV X0.here hexec rfl 0 (hb hbytes d0) (by decide) ?_
    refine XS.istore X0.here hexec rfl (hb hbytes d1) rfl rfl ?_
    exact Steps.refl _)
  have loop : ∀ (r i : Nat), i + r = len → ∀ (z : Slot), (z = .unset ∨ ∃ w, z = .val w ∧ w.category = 1) → ∀ (Tl : State) (Bk : Cell), Stand p l e { frames := 0, locals := 0, cells := 0, slots := 0 } s m #[.ref b, .int (Int32.ofNat o), .ref d, .int (Int32.ofNat q), .int (Int32.ofNat len)] below meth c Tl ([] ++ copyLocs d q i) 0 0 → Put d Bk s₁ Tl → Laid B Bk q (q + i) (fun j => Value.int (lo8 (cv A (o + (j - q))))) →
      Steps p.tables e below (s₁.setTop (entryFrame m #[.ref b, .int (Int32.ofNat o), .ref d, .int (Int32.ofNat q), .int (Int32.ofNat len)] 7)) (Tl.setTop (mkF m 3 #[.val (.ref b), .val (.int (Int32.ofNat (o + i))), .val (.ref d), .val (.int (Int32.ofNat (q + i))), .val (.int (Int32.ofNat len)), .val (.int (Int32.ofNat i)), z] [])) → ∃ (T' : State) (B' : Cell) (z' : Slot), Stand p l e { frames := 0, locals := 0, cells := 0, slots := 0 } s m #[.ref b, .int (Int32.ofNat o), .ref d, .int (Int32.ofNat q), .int (Int32.ofNat len)] below meth c T' ([] ++ copyLocs d q len) 0 0 ∧ Put d B' s₁ T' ∧ Laid B B' q (q + len) (fun j => Value.int (lo8 (cv A (o + (j - q))))) ∧
      Steps p.tables e below (s₁.setTop (entryFrame m #[.ref b, .int (Int32.ofNat o), .ref d, .int (Int32.ofNat q), .int (Int32.ofNat len)] 7)) (T'.setTop (mkF m 3 #[.val (.ref b), .val (.int (Int32.ofNat (o + len))), .val (.ref d), .val (.int (Int32.ofNat (q + len))), .val (.int (Int32.ofNat len)), .val (.int (Int32.ofNat len)), z'] [])) := by
    intro r
    induction r with
    | zero =>
      intro i hi z hz Tl Bk Xl pl fl cl
      have hil : i = len := by omega
      rw [hil] at Xl fl cl
      exact ⟨Tl, Bk, z, Xl, pl, fl, cl⟩
    | succ r ih =>
      intro i hi z hz Tl Bk Xl pl fl cl
      have all := X0.warmed.alike.symm.trans Xl.warmed.alike
      have hAl := hA0.keep all (pl.other hne hA0.1)
      have hBk := hB0.like all pl.1 fl.1 fl.2.1 fl.2.2.1
      have hlt : q + i < Bk.slots.size := by rw [fl.2.2.1]; omega
      have c3 : Steps p.tables e below (s₁.setTop (entryFrame m #[.ref b, .int (Int32.ofNat o), .ref d, .int (Int32.ofNat q), .int (Int32.ofNat len)] 7)) (Tl.setTop (mkF m 12 #[.val (.ref b), .val (.int (Int32.ofNat (o + i))), .val (.ref d), .val (.int (Int32.ofNat (q + i))), .val (.int (Int32.ofNat len)), .val (.int (Int32.ofNat i)), z] [.int (Int32.ofNat (o + i)), .ref b])) := cl.trans (by
        refine XS.iload Xl.here hexec rfl (hb hbytes d3) rfl ?_
        refine XS.iload Xl.here hexec rfl (hb hbytes d5) rfl ?_
        refine XS.icmpNo Xl.here hexec rfl (hb hbytes d7) rfl (ii_ge_f (lt32 (by omega) (by omega))) ?_
        refine XS.aloadN Xl.here hexec rfl (hb hbytes d10) rfl rfl ?_
        refine XS.iloadN Xl.here hexec rfl (hb hbytes d11) rfl ?_
        exact Steps.refl _)
      have c4 : Steps p.tables e below (s₁.setTop (entryFrame m #[.ref b, .int (Int32.ofNat o), .ref d, .int (Int32.ofNat q), .int (Int32.ofNat len)] 7)) (Tl.setTop (mkF m 13 #[.val (.ref b), .val (.int (Int32.ofNat (o + i))), .val (.ref d), .val (.int (Int32.ofNat (q + i))), .val (.int (Int32.ofNat len)), .val (.int (Int32.ofNat i)), z] [.int (cv A (o + i))])) := c3.trans (by
        refine Xl.aget hexec hAl rfl (hA.get (i := o + i) (by omega)) rfl rfl (hb hbytes d12) ?_
        exact Steps.refl _)
      have c5 : Steps p.tables e below (s₁.setTop (entryFrame m #[.ref b, .int (Int32.ofNat o), .ref d, .int (Int32.ofNat q), .int (Int32.ofNat len)] 7)) (Tl.setTop (mkF m 15 #[.val (.ref b), .val (.int (Int32.ofNat (o + i))), .val (.ref d), .val (.int (Int32.ofNat (q + i))), .val (.int (Int32.ofNat len)), .val (.int (Int32.ofNat i)), .val (.int (cv A (o + i)))] [])) := c4.trans (by
        refine XS.istoreS Xl.here hexec rfl (hb hbytes d13) rfl rfl hz ?_
        exact Steps.refl _)
      have c6 : Steps p.tables e below (s₁.setTop (entryFrame m #[.ref b, .int (Int32.ofNat o), .ref d, .int (Int32.ofNat q), .int (Int32.ofNat len)] 7)) (Tl.setTop (mkF m 31 #[.val (.ref b), .val (.int (Int32.ofNat (o + i))), .val (.ref d), .val (.int (Int32.ofNat (q + i))), .val (.int (Int32.ofNat len)), .val (.int (Int32.ofNat i)), .val (.int (cv A (o + i)))] [.int (lo8 (cv A (o + i))), .int (Int32.ofNat (q + i)), .ref d])) := c5.trans (by
        refine XS.iload Xl.here hexec rfl (hb hbytes d15) rfl ?_
        refine sipushV Xl.here hexec rfl 255 (hb hbytes d17) (by decide) ?_
        refine XS.icmpYes Xl.here hexec rfl (pc0 := 20) rfl (hb hbytes d20) rfl (ii_le_t (hp i (by omega))) (by decide) rfl ?_
        refine XS.aloadN Xl.here hexec rfl (hb hbytes d26) rfl rfl ?_
        refine XS.iloadN Xl.here hexec rfl (hb hbytes d27) rfl ?_
        refine XS.iload Xl.here hexec rfl (hb hbytes d28) rfl ?_
        refine i2b Xl.here hexec rfl (hb hbytes d30) rfl ?_
        exact Steps.refl _)
      obtain ⟨T7, X7, p7, st7⟩ := Xl.aput hexec hBk rfl hlt rfl (fits_lo8 (cv A (o + i))) (g := (mkF m 31 #[.val (.ref b), .val (.int (Int32.ofNat (o + i))), .val (.ref d), .val (.int (Int32.ofNat (q + i))), .val (.int (Int32.ofNat len)), .val (.int (Int32.ofNat i)), .val (.int (cv A (o + i)))] [.int (lo8 (cv A (o + i))), .int (Int32.ofNat (q + i)), .ref d])) rfl (rest := []) rfl (hb hbytes d31)
      have c8 : Steps p.tables e below (s₁.setTop (entryFrame m #[.ref b, .int (Int32.ofNat o), .ref d, .int (Int32.ofNat q), .int (Int32.ofNat len)] 7)) (T7.setTop (mkF m 32 #[.val (.ref b), .val (.int (Int32.ofNat (o + i))), .val (.ref d), .val (.int (Int32.ofNat (q + i))), .val (.int (Int32.ofNat len)), .val (.int (Int32.ofNat i)), .val (.int (cv A (o + i)))] [])) := c6.trans (st7 _ (Steps.refl _))
      have c9 : Steps p.tables e below (s₁.setTop (entryFrame m #[.ref b, .int (Int32.ofNat o), .ref d, .int (Int32.ofNat q), .int (Int32.ofNat len)] 7)) (T7.setTop (mkF m 3 #[.val (.ref b), .val (.int (Int32.ofNat (o + i) + 1)), .val (.ref d), .val (.int (Int32.ofNat (q + i) + 1)), .val (.int (Int32.ofNat len)), .val (.int (Int32.ofNat i + 1)), .val (.int (cv A (o + i)))] [])) := c8.trans (by
        refine iincV X7.here hexec rfl 1 (hb hbytes d32) (by decide) rfl rfl ?_
        refine iincV X7.here hexec rfl 1 (hb hbytes d35) (by decide) rfl rfl ?_
        refine iincV X7.here hexec rfl 1 (hb hbytes d38) (by decide) rfl rfl ?_
        refine XS.goto X7.here hexec rfl (pc0 := 41) rfl (hb hbytes d41) (by decide) rfl ?_
        exact Steps.refl _)
      have c10 : Steps p.tables e below (s₁.setTop (entryFrame m #[.ref b, .int (Int32.ofNat o), .ref d, .int (Int32.ofNat q), .int (Int32.ofNat len)] 7)) (T7.setTop (mkF m 3 #[.val (.ref b), .val (.int (Int32.ofNat (o + (i + 1)))), .val (.ref d), .val (.int (Int32.ofNat (q + (i + 1)))), .val (.int (Int32.ofNat len)), .val (.int (Int32.ofNat (i + 1))), .val (.int (cv A (o + i)))] [])) := by
        have := c9
        rw [succ32, succ32, succ32] at this
        exact this
      exact ih (i + 1) (by omega) _ (Or.inr ⟨_, rfl, rfl⟩) T7 _ (by rw [copyLocs_step, ← List.append_assoc]; exact X7) (pl.trans p7) (fl.step (by omega) hlt (by simp)) c10
  obtain ⟨T9, B9, z9, X9, p9, f9, g9⟩ := loop len 0 (by omega) .unset (Or.inl rfl) s₁ B (by simpa [copyLocs] using X0) ⟨hB0.1, fun _ _ => rfl, rfl⟩ (Laid.zero _ _ _) c2
  have c11 : Steps p.tables e below (s₁.setTop (entryFrame m #[.ref b, .int (Int32.ofNat o), .ref d, .int (Int32.ofNat q), .int (Int32.ofNat len)] 7)) (T9.setTop (mkF m 46 #[.val (.ref b), .val (.int (Int32.ofNat (o + len))), .val (.ref d), .val (.int (Int32.ofNat (q + len))), .val (.int (Int32.ofNat len)), .val (.int (Int32.ofNat len)), z9] [.int (Int32.ofNat len)])) := g9.trans (by
    refine XS.iload X9.here hexec rfl (hb hbytes d3) rfl ?_
    refine XS.iload X9.here hexec rfl (hb hbytes d5) rfl ?_
    refine XS.icmpYes X9.here hexec rfl (pc0 := 7) rfl (hb hbytes d7) rfl (ii_ge_t (nlt32 (by omega) (Nat.le_refl _))) (by decide) rfl ?_
    refine XS.iload X9.here hexec rfl (hb hbytes d44) rfl ?_
    exact Steps.refl _)
  exact ⟨T9, some (.int (Int32.ofNat len)), _, _, _, X9, by simp, rfl, rfl, (fun h => by cases h), ⟨rfl, B9, p9.from hh0, f9⟩, fun fs hl => c11.trans (X9.ireturnOut hexec hret rfl (Or.inl rfl) (hb hbytes d46) hl)⟩
end Cmp5
namespace Cmp3
def yN : MethodName := ⟨"java/lang/StringUTF16", "compress", "([CII)[B"⟩
abbrev yB : ByteArray := jdk_52_method_16_code
theorem d0 : decode yB 0 = .ok (.iload_n 2, 1) := by decide +kernel
theorem d1 : decode yB 1 = .ok (.newarray .byte, 2) := by decide +kernel
theorem d3 : decode yB 3 = .ok (.astore_n 3, 1) := by decide +kernel
theorem d4 : decode yB 4 = .ok (.aload_n 0, 1) := by decide +kernel
theorem d5 : decode yB 5 = .ok (.iload_n 1, 1) := by decide +kernel
theorem d6 : decode yB 6 = .ok (.aload_n 3, 1) := by decide +kernel
theorem d7 : decode yB 7 = .ok (.iconst 0, 1) := by decide +kernel
theorem d8 : decode yB 8 = .ok (.iload_n 2, 1) := by decide +kernel
theorem d9 : decode yB 9 = .ok (.invokestatic 115, 3) := by decide +kernel
theorem d12 : decode yB 12 = .ok (.istore 4, 2) := by decide +kernel
theorem d14 : decode yB 14 = .ok (.iload 4, 2) := by decide +kernel
theorem d16 : decode yB 16 = .ok (.iload_n 2, 1) := by decide +kernel
theorem d17 : decode yB 17 = .ok (.if_icmp (.eq) 40, 3) := by decide +kernel
theorem d57 : decode yB 57 = .ok (.aload_n 3, 1) := by decide +kernel
theorem d58 : decode yB 58 = .ok (.areturn, 1) := by decide +kernel
def site : List Cond := [.arrayClass .byte, Cmp5.tab] ++ staticW U16 115 Cmp5.yN
def tab : Cond := tabOf yN yB 6 (some (.array .byte)) site
def P (b : Addr) (A : Cell) (o len : Nat) (args : Array Value) (s : State) : Prop := args = #[.ref b, .int (Int32.ofNat o), .int (Int32.ofNat len)] ∧ Ch b A s ∧ o + len ≤ A.slots.size ∧ len ≤ 536870912 ∧ ∀ i, i < len → ¬ 255 < cv A (o + i)
def E (b : Addr) (A : Cell) (o len : Nat) (r : Option Value) (s u : State) : Prop := NewArr .byte "[B" len (fun j => .int (lo8 (cv A (o + j)))) r s u ∧ u.heap.size = s.heap.size + 1
/-- no char of the range above 255: a new byte[] of their low bytes -/
theorem law (l : Launch) (b : Addr) (A : Cell) (o len : Nat) : Law l yN 3 3 1 18 yB 6 (some (.array .byte)) site (P b A o len) (E b A o len) [] 1 len := by
  refine Law.of_walk (plainFor_of_name (by decide +kernel)) (by decide +kernel) (by decide +kernel) (by decide) (fun _ _ h => by rw [h.1]; rfl) (fun _ U U' hal hh h => ⟨h.1, h.2.1.mv hal hh, h.2.2⟩) (fun r U U' V V' h1 hal h2 h => ⟨NewArr.mv r U U' V V' h1 hal h2 h.1, by rw [h1, h2]; exact h.2⟩) ?_
  intro p e s m args below meth c s₁ X0 hexec hbytes hml hret hlk hnm hown hh0 W hP
  obtain ⟨rfl, hA, l1, l2, hp⟩ := hP
  have a31 := hA.1.2.2.2
  have c1 : Steps p.tables e below (s₁.setTop (entryFrame m #[.ref b, .int (Int32.ofNat o), .int (Int32.ofNat len)] 6)) (s₁.setTop (mkF m 0 #[.val (.ref b), .val (.int (Int32.ofNat o)), .val (.int (Int32.ofNat len)), .unset, .unset, .unset] [])) := entry rfl
  have c2 : Steps p.tables e below (s₁.setTop (entryFrame m #[.ref b, .int (Int32.ofNat o), .int (Int32.ofNat len)] 6)) (s₁.setTop (mkF m 1 #[.val (.ref b), .val (.int (Int32.ofNat o)), .val (.int (Int32.ofNat len)), .unset, .unset, .unset] [.int (Int32.ofNat len)])) := c1.trans (by
    refine XS.iloadN X0.here hexec rfl (hb hbytes d0) rfl ?_
    exact Steps.refl _)
  obtain ⟨T3, B3, X3, ba3, bs3, bv3, bh3, bf3, st3⟩ := X0.anew hexec (atype := .byte) (wk W (.arrayClass .byte)) rfl (by show len * 1 ≤ _; omega) (by omega) (g := (mkF m 1 #[.val (.ref b), .val (.int (Int32.ofNat o)), .val (.int (Int32.ofNat len)), .unset, .unset, .unset] [.int (Int32.ofNat len)])) rfl (hb hbytes d1) (rest := []) rfl (Nat.le_refl _) (by show 0 + len ≤ len; omega)
  rw [hh0] at ba3 st3
  have kp3 : XT.Kept s T3 := (XT.Kept.of_eq hh0).push bh3
  have hA3 := hA.keep X3.warmed.alike (kp3 _ _ hA.1.1)
  have hne : b ≠ s.heap.size := hA.1.ne
  have c4 : Steps p.tables e below (s₁.setTop (entryFrame m #[.ref b, .int (Int32.ofNat o), .int (Int32.ofNat len)] 6)) (T3.setTop (mkF m 3 #[.val (.ref b), .val (.int (Int32.ofNat o)), .val (.int (Int32.ofNat len)), .unset, .unset, .unset] [.ref s.heap.size])) := c2.trans (st3 _ (Steps.refl _))
  have c5 : Steps p.tables e below (s₁.setTop (entryFrame m #[.ref b, .int (Int32.ofNat o), .int (Int32.ofNat len)] 6)) (T3.setTop (mkF m 9 #[.val (.ref b), .val (.int (Int32.ofNat o)), .val (.int (Int32.ofNat len)), .val (.ref s.heap.size), .unset, .unset] [.int (Int32.ofNat len), .int 0, .ref s.heap.size, .int (Int32.ofNat o), .ref b])) := c4.trans (by
    refine XS.astoreN X3.here hexec rfl (hb hbytes d3) rfl rfl rfl ?_
    refine XS.aloadN X3.here hexec rfl (hb hbytes d4) rfl rfl ?_
    refine XS.iloadN X3.here hexec rfl (hb hbytes d5) rfl ?_
    refine XS.aloadN X3.here hexec rfl (hb hbytes d6) rfl rfl ?_
    refine iconstV X3.here hexec rfl 0 (hb hbytes d7) (by decide) ?_
    refine XS.iloadN X3.here hexec rfl (hb hbytes d8) rfl ?_
    exact Steps.refl _)
  obtain ⟨v6, T6, X6, E6, g6⟩ := X3.callS hexec (Cmp5.law l b A s.heap.size B3 o 0 len) hown (wks W (staticW U16 115 Cmp5.yN)) (wk W Cmp5.tab) (W := 0) (Nat.le_of_ble_eq_true rfl) (Nat.le_of_ble_eq_true rfl) (Nat.le_refl _) (by show 0 + len + 0 ≤ len; omega) (g := (mkF m 9 #[.val (.ref b), .val (.int (Int32.ofNat o)), .val (.int (Int32.ofNat len)), .val (.ref s.heap.size), .unset, .unset] [.int (Int32.ofNat len), .int (Int32.ofNat 0), .ref s.heap.size, .int (Int32.ofNat o), .ref b])) rfl (by rw [hml]; rfl) c5 (argsL := [.ref b, .int (Int32.ofNat o), .ref s.heap.size, .int (Int32.ofNat 0), .int (Int32.ofNat len)]) (rest := []) rfl rfl (by show 2 * 0 + 0 ≤ _; decide) (hb hbytes d9) (⟨rfl, hA3, ba3, hne, l1, by rw [bs3]; simp, hp⟩)
  obtain ⟨rfl, B6, p6, f6⟩ := E6
  have c7 : Steps p.tables e below (s₁.setTop (entryFrame m #[.ref b, .int (Int32.ofNat o), .int (Int32.ofNat len)] 6)) (T6.setTop (mkF m 12 #[.val (.ref b), .val (.int (Int32.ofNat o)), .val (.int (Int32.ofNat len)), .val (.ref s.heap.size), .unset, .unset] [.int (Int32.ofNat len)])) := g6
  have c8 : Steps p.tables e below (s₁.setTop (entryFrame m #[.ref b, .int (Int32.ofNat o), .int (Int32.ofNat len)] 6)) (T6.setTop (mkF m 58 #[.val (.ref b), .val (.int (Int32.ofNat o)), .val (.int (Int32.ofNat len)), .val (.ref s.heap.size), .val (.int (Int32.ofNat len)), .unset] [.ref s.heap.size])) := c7.trans (by
    refine XS.istore X6.here hexec rfl (hb hbytes d12) rfl rfl ?_
    refine XS.iload X6.here hexec rfl (hb hbytes d14) rfl ?_
    refine XS.iloadN X6.here hexec rfl (hb hbytes d16) rfl ?_
    refine XS.icmpYes X6.here hexec rfl (pc0 := 17) rfl (hb hbytes d17) rfl (ii_eq_t rfl) (by decide) rfl ?_
    refine XS.aloadN X6.here hexec rfl (hb hbytes d57) rfl rfl ?_
    exact Steps.refl _)
  have X8 := X6.wide (L' := []) (cells' := 1) (slots' := len) (fun x hx hlt => by
    simp only [List.nil_append, copyLocs, List.mem_map, List.mem_range] at hx
    obtain ⟨i, -, rfl⟩ := hx
    exact absurd hlt (Nat.lt_irrefl _)) (Nat.le_refl _) (by omega)
  exact ⟨T6, some (.ref s.heap.size), _, _, _, X8, rfl, rfl, rfl, (fun h => by cases h), ⟨⟨rfl, B6, ba3.like (X3.warmed.alike.symm.trans X6.warmed.alike) p6.1 f6.1 f6.2.1 f6.2.2.1, f6.2.1.trans bv3, by rw [X6.warmed.alike.findClass, f6.1]; exact bf3, by rw [f6.2.2.1, bs3]; simp, fun j hj => by rw [f6.2.2.2 j, if_pos (by omega)]; rfl, kp3.put p6 (Nat.le_refl _)⟩, by rw [p6.2.2, bh3, hh0]; simp⟩, fun fs hl => c8.trans (X8.areturnOut hexec rfl hret rfl (hb hbytes d58) hl)⟩
end Cmp3
namespace CodL
def yN : MethodName := ⟨"java/lang/StringUTF16", "coderFromArrayLen", "([BI)B"⟩
abbrev yB : ByteArray := jdk_52_method_15_code
theorem d0 : decode yB 0 = .ok (.iload_n 1, 1) := by decide +kernel
theorem d1 : decode yB 1 = .ok (.aload_n 0, 1) := by decide +kernel
theorem d2 : decode yB 2 = .ok (.arraylength, 1) := by decide +kernel
theorem d3 : decode yB 3 = .ok (.isub, 1) := by decide +kernel
theorem d4 : decode yB 4 = .ok (.bipush 31, 2) := by decide +kernel
theorem d6 : decode yB 6 = .ok (.iushr, 1) := by decide +kernel
theorem d7 : decode yB 7 = .ok (.i2b, 1) := by decide +kernel
theorem d8 : decode yB 8 = .ok (.ireturn, 1) := by decide +kernel
def site : List Cond := []
def tab : Cond := tabOf yN yB 2 (some .byte) site
def P (d : Addr) (B : Cell) (args : Array Value) (s : State) : Prop := args = #[.ref d, .int (Int32.ofNat B.slots.size)] ∧ Arr .byte d B s
def E (r : Option Value) (s u : State) : Prop := XT.PureE (some (.int 0)) r s u
/-- an array as long as the number of chars: LATIN1 -/
theorem law (l : Launch) (d : Addr) (B : Cell) : Law l yN 2 2 0 0 yB 2 (some .byte) site (P d B) E [] 0 0 := by
  refine Law.of_walk (plainFor_of_name (by decide +kernel)) (by decide +kernel) (by decide +kernel) (by decide) (fun _ _ h => by rw [h.1]; rfl) (fun _ U U' hal hh h => ⟨h.1, h.2.mv hal hh⟩) (fun r U U' V V' h1 hal h2 h => XT.PureE.mv r U U' V V' h1 hal h2 h) ?_
  intro p e s m args below meth c s₁ X0 hexec hbytes hml hret hlk hnm hown hh0 W hP
  obtain ⟨rfl, hB⟩ := hP
  have hB0 := hB.mv X0.warmed.alike hh0
  have c1 : Steps p.tables e below (s₁.setTop (entryFrame m #[.ref d, .int (Int32.ofNat B.slots.size)] 2)) (s₁.setTop (mkF m 0 #[.val (.ref d), .val (.int (Int32.ofNat B.slots.size))] [])) := entry rfl
  have c2 : Steps p.tables e below (s₁.setTop (entryFrame m #[.ref d, .int (Int32.ofNat B.slots.size)] 2)) (s₁.setTop (mkF m 2 #[.val (.ref d), .val (.int (Int32.ofNat B.slots.size))] [.ref d, .int (Int32.ofNat B.slots.size)])) := c1.trans (by
    refine XS.iloadN X0.here hexec rfl (hb hbytes d0) rfl ?_
    refine XS.aloadN X0.here hexec rfl (hb hbytes d1) rfl rfl ?_
    exact Steps.refl _)
  have c3 : Steps p.tables e below (s₁.setTop (entryFrame m #[.ref d, .int (Int32.ofNat B.slots.size)] 2)) (s₁.setTop (mkF m 8 #[.val (.ref d), .val (.int (Int32.ofNat B.slots.size))] [.int (lo8 (ushr (Int32.ofNat B.slots.size - Int32.ofNat B.slots.size) 31))])) := c2.trans (by
    refine X0.alen hexec hB0 rfl rfl (hb hbytes d2) ?_
    refine XS.isub X0.here hexec rfl (hb hbytes d3) rfl ?_
    refine bipushV X0.here hexec rfl 31 (hb hbytes d4) (by decide) ?_
    refine iushr X0.here hexec rfl (hb hbytes d6) rfl ?_
    refine i2b X0.here hexec rfl (hb hbytes d7) rfl ?_
    exact Steps.refl _)
  have e0 : lo8 (ushr (Int32.ofNat B.slots.size - Int32.ofNat B.slots.size) 31) = 0 := by rw [Int32.sub_self]; decide
  rw [e0] at c3
  exact ⟨s₁, some (.int 0), _, _, _, X0, rfl, rfl, rfl, (fun h => by cases h), ⟨rfl, hh0⟩, fun fs hl => c3.trans (X0.ireturnOut hexec hret rfl (Or.inr (Or.inr (Or.inl rfl))) (hb hbytes d8) hl)⟩
end CodL
/-- the String at a is Latin-1 over a new byte[] (the heap's one new cell): the low bytes of the len chars of A from o on; every cell but a is kept -/
def Got (a : Addr) (D : Cell) (fV fC : Field) (A : Cell) (o len : Nat) (r : Option Value) (s u : State) : Prop := r = none ∧ ∃ D' V : Cell, Blank "java/lang/String" a D' u ∧ Same D D' [fV.slot, fC.slot] ∧ D'.slots[fV.slot]? = some (.ref s.heap.size) ∧ D'.slots[fC.slot]? = some (.int 0) ∧ Arr .byte s.heap.size V u ∧ V.vm = .none ∧ u.vm.findClass "[B" = some V.cls ∧ V.slots.size = len ∧ (∀ j, j < len → V.slots[j]? = some (.int (lo8 (cv A (o + j))))) ∧ (∀ (y : Addr) (c : Cell), y ≠ a → s.heap[y]? = some c → u.heap[y]? = some c) ∧ u.heap.size = s.heap.size + 1
theorem Got.mv {a : Addr} {D A : Cell} {fV fC : Field} {o len : Nat} : ∀ r (U U' V V' : State), U'.heap = U.heap → V.vm.Alike V'.vm → V'.heap = V.heap → Got a D fV fC A o len r U V → Got a D fV fC A o len r U' V' :=
  fun r U U' V V' h1 hal h2 ⟨e0, D', X, a1, a2, a3, a4, a5, a6, a7, a8, a9, a10, a11⟩ => ⟨e0, D', X, a1.mv hal h2, a2, by rw [h1]; exact a3, a4, by rw [h1]; exact a5.mv hal h2, a6, by rw [hal.findClass]; exact a7, a8, a9, by rw [h1, h2]; exact a10, by rw [h1, h2]; exact a11⟩
namespace New4
def yN : MethodName := ⟨"java/lang/String", "<init>", "([CIILjava/lang/Void;)V"⟩
abbrev yB : ByteArray := jdk_42_method_149_code
theorem d0 : decode yB 0 = .ok (.aload_n 0, 1) := by decide +kernel
theorem d1 : decode yB 1 = .ok (.invokespecial 1, 3) := by decide +kernel
theorem d4 : decode yB 4 = .ok (.iload_n 3, 1) := by decide +kernel
theorem d5 : decode yB 5 = .ok (.ifCond (.ne) 22, 3) := by decide +kernel
theorem d27 : decode yB 27 = .ok (.getstatic 38, 3) := by decide +kernel
theorem d30 : decode yB 30 = .ok (.ifCond (.eq) 28, 3) := by decide +kernel
theorem d33 : decode yB 33 = .ok (.aload_n 1, 1) := by decide +kernel
theorem d34 : decode yB 34 = .ok (.iload_n 2, 1) := by decide +kernel
theorem d35 : decode yB 35 = .ok (.iload_n 3, 1) := by decide +kernel
theorem d36 : decode yB 36 = .ok (.invokestatic 177, 3) := by decide +kernel
theorem d39 : decode yB 39 = .ok (.astore 5, 2) := by decide +kernel
theorem d41 : decode yB 41 = .ok (.aload_n 0, 1) := by decide +kernel
theorem d42 : decode yB 42 = .ok (.aload 5, 2) := by decide +kernel
theorem d44 : decode yB 44 = .ok (.iload_n 3, 1) := by decide +kernel
theorem d45 : decode yB 45 = .ok (.invokestatic 47, 3) := by decide +kernel
theorem d48 : decode yB 48 = .ok (.putfield 15, 3) := by decide +kernel
theorem d51 : decode yB 51 = .ok (.aload_n 0, 1) := by decide +kernel
theorem d52 : decode yB 52 = .ok (.aload 5, 2) := by decide +kernel
theorem d54 : decode yB 54 = .ok (.putfield 9, 3) := by decide +kernel
theorem d57 : decode yB 57 = .ok (.return_, 1) := by decide +kernel
def site : List Cond := [.fieldLink "java/lang/String" 38 "java/lang/String" "COMPACT_STRINGS" "Z", Cmp3.tab, CodL.tab, .laysFinal "java/lang/String" "java/lang/String" "value" "[B", .fieldLink "java/lang/String" 9 "java/lang/String" "value" "[B", .laysFinal "java/lang/String" "java/lang/String" "coder" "B", .fieldLink "java/lang/String" 15 "java/lang/String" "coder" "B"] ++ objW "java/lang/String" 1 ++ staticW "java/lang/String" 177 Cmp3.yN ++ staticW "java/lang/String" 47 CodL.yN
def tab : Cond := tabOf yN yB 6 none site
def P (a : Addr) (D : Cell) (fV fC : Field) (b : Addr) (A : Cell) (z : Int32) (o len : Nat) (args : Array Value) (s : State) : Prop := args = #[.ref a, .ref b, .int (Int32.ofNat o), .int (Int32.ofNat len), .null] ∧ Blank "java/lang/String" a D s ∧ Found "java/lang/String" "value" "[B" fV s ∧ Found "java/lang/String" "coder" "B" fC s ∧ Ch b A s ∧ StaticIs s "java/lang/String" "COMPACT_STRINGS" "Z" (.int z) ∧ ¬ z = 0 ∧ 0 < len ∧ o + len ≤ A.slots.size ∧ len ≤ 536870912 ∧ ∀ i, i < len → ¬ 255 < cv A (o + i)
def E (a : Addr) (D : Cell) (fV fC : Field) (A : Cell) (o len : Nat) (r : Option Value) (s u : State) : Prop := Got a D fV fC A o len r s u
/-- len > 0, no char of the range above 255: a Latin-1 String of their low bytes -/
theorem law (l : Launch) (a : Addr) (D : Cell) (fV fC : Field) (b : Addr) (A : Cell) (z : Int32) (o len : Nat) : Law l yN 5 4 2 35 yB 6 none site (P a D fV fC b A z o len) (E a D fV fC A o len) [⟨a, fC.slot⟩, ⟨a, fV.slot⟩] 1 len := by
  refine Law.of_walk (plainFor_of_name (by decide +kernel)) (by decide +kernel) (by decide +kernel) (by decide) (fun _ _ h => by rw [h.1]; rfl) (fun _ U U' hal hh h => ⟨h.1, h.2.1.mv hal hh, h.2.2.1.al hal, h.2.2.2.1.al hal, h.2.2.2.2.1.mv hal hh, h.2.2.2.2.2.1.there hal hh, h.2.2.2.2.2.2⟩) (fun r U U' V V' h1 hal h2 h => Got.mv r U U' V V' h1 hal h2 h) ?_
  intro p e s m args below meth c s₁ X0 hexec hbytes hml hret hlk hnm hown hh0 W hP
  obtain ⟨rfl, hB, f1, f2, hA, s1, hz, l0, l1, l2, hp⟩ := hP
  have a31 := hA.1.2.2.2
  have c1 : Steps p.tables e below (s₁.setTop (entryFrame m #[.ref a, .ref b, .int (Int32.ofNat o), .int (Int32.ofNat len), .null] 6)) (s₁.setTop (mkF m 0 #[.val (.ref a), .val (.ref b), .val (.int (Int32.ofNat o)), .val (.int (Int32.ofNat len)), .val .null, .unset] [])) := entry rfl
  have c2 : Steps p.tables e below (s₁.setTop (entryFrame m #[.ref a, .ref b, .int (Int32.ofNat o), .int (Int32.ofNat len), .null] 6)) (s₁.setTop (mkF m 1 #[.val (.ref a), .val (.ref b), .val (.int (Int32.ofNat o)), .val (.int (Int32.ofNat len)), .val .null, .unset] [.ref a])) := c1.trans (by
    refine XS.aloadN X0.here hexec rfl (hb hbytes d0) rfl rfl ?_
    exact Steps.refl _)
  obtain ⟨T3, X3, q3, st3⟩ := X0.oinit hexec hown (wks W (objW "java/lang/String" 1)) (g := (mkF m 1 #[.val (.ref a), .val (.ref b), .val (.int (Int32.ofNat o)), .val (.int (Int32.ofNat len)), .val .null, .unset] [.ref a])) rfl (by rw [hml]; rfl) (rest := []) rfl (hb hbytes d1) (W := 0) (by show 2 * 0 + 0 ≤ _; decide) (Nat.le_of_ble_eq_true rfl) (Nat.le_of_ble_eq_true rfl)
  have hh3 := q3.trans hh0
  have c4 : Steps p.tables e below (s₁.setTop (entryFrame m #[.ref a, .ref b, .int (Int32.ofNat o), .int (Int32.ofNat len), .null] 6)) (T3.setTop (mkF m 27 #[.val (.ref a), .val (.ref b), .val (.int (Int32.ofNat o)), .val (.int (Int32.ofNat len)), .val .null, .unset] [])) := (c2.trans (st3 _ (Steps.refl _))).trans (by
    refine XS.iloadN X3.here hexec rfl (hb hbytes d4) rfl ?_
    refine XS.ifYes X3.here hexec rfl (pc0 := 5) rfl (hb hbytes d5) rfl (i0_ne_t (nz32 (by omega) l0)) (by decide) rfl ?_
    exact Steps.refl _)
  obtain ⟨T5, X5, q5, st5⟩ := X3.sget hexec hown (wk W (.fieldLink "java/lang/String" 38 "java/lang/String" "COMPACT_STRINGS" "Z")) s1 (fun _ _ h => by rw [hh3]; exact h) (g := (mkF m 27 #[.val (.ref a), .val (.ref b), .val (.int (Int32.ofNat o)), .val (.int (Int32.ofNat len)), .val .null, .unset] [])) rfl (hb hbytes d27)
  have hh5 := q5.trans hh3
  have c6 : Steps p.tables e below (s₁.setTop (entryFrame m #[.ref a, .ref b, .int (Int32.ofNat o), .int (Int32.ofNat len), .null] 6)) (T5.setTop (mkF m 30 #[.val (.ref a), .val (.ref b), .val (.int (Int32.ofNat o)), .val (.int (Int32.ofNat len)), .val .null, .unset] [.int z])) := c4.trans (st5 _ (Steps.refl _))
  have c7 : Steps p.tables e below (s₁.setTop (entryFrame m #[.ref a, .ref b, .int (Int32.ofNat o), .int (Int32.ofNat len), .null] 6)) (T5.setTop (mkF m 36 #[.val (.ref a), .val (.ref b), .val (.int (Int32.ofNat o)), .val (.int (Int32.ofNat len)), .val .null, .unset] [.int (Int32.ofNat len), .int (Int32.ofNat o), .ref b])) := c6.trans (by
    refine XS.ifNo X5.here hexec rfl (hb hbytes d30) rfl (i0_eq_f hz) ?_
    refine XS.aloadN X5.here hexec rfl (hb hbytes d33) rfl rfl ?_
    refine XS.iloadN X5.here hexec rfl (hb hbytes d34) rfl ?_
    refine XS.iloadN X5.here hexec rfl (hb hbytes d35) rfl ?_
    exact Steps.refl _)
  obtain ⟨v8, T8, X8, E8, g8⟩ := X5.callS hexec (Cmp3.law l b A o len) hown (wks W (staticW "java/lang/String" 177 Cmp3.yN)) (wk W Cmp3.tab) (W := 0) (Nat.le_of_ble_eq_true rfl) (Nat.le_of_ble_eq_true rfl) (Nat.le_refl _) (by show 0 + len ≤ len; omega) (g := (mkF m 36 #[.val (.ref a), .val (.ref b), .val (.int (Int32.ofNat o)), .val (.int (Int32.ofNat len)), .val .null, .unset] [.int (Int32.ofNat len), .int (Int32.ofNat o), .ref b])) rfl (by rw [hml]; rfl) c7 (argsL := [.ref b, .int (Int32.ofNat o), .int (Int32.ofNat len)]) (rest := []) rfl rfl (by show 2 * 0 + 0 ≤ _; decide) (hb hbytes d36) (⟨rfl, hA.mv X5.warmed.alike hh5, l1, l2, hp⟩)
  obtain ⟨e8, z8⟩ := E8
  obtain ⟨rfl, N, n1, n2, n3, n4, n5, n6⟩ := NewArr.mv _ T5 s _ _ hh5.symm (Vm.Alike.refl _) rfl e8
  rw [hh5] at z8
  have hB1 := hB.keep X8.warmed.alike (n6 _ _ hB.1)
  have hne : s.heap.size ≠ a := (Nat.ne_of_lt (Array.getElem?_eq_some_iff.mp hB.1).1).symm
  have c9 : Steps p.tables e below (s₁.setTop (entryFrame m #[.ref a, .ref b, .int (Int32.ofNat o), .int (Int32.ofNat len), .null] 6)) (T8.setTop (mkF m 39 #[.val (.ref a), .val (.ref b), .val (.int (Int32.ofNat o)), .val (.int (Int32.ofNat len)), .val .null, .unset] [.ref s.heap.size])) := g8
  have c10 : Steps p.tables e below (s₁.setTop (entryFrame m #[.ref a, .ref b, .int (Int32.ofNat o), .int (Int32.ofNat len), .null] 6)) (T8.setTop (mkF m 45 #[.val (.ref a), .val (.ref b), .val (.int (Int32.ofNat o)), .val (.int (Int32.ofNat len)), .val .null, .val (.ref s.heap.size)] [.int (Int32.ofNat N.slots.size), .ref s.heap.size, .ref a])) := by
    have hc : Steps p.tables e below (s₁.setTop (entryFrame m #[.ref a, .ref b, .int (Int32.ofNat o), .int (Int32.ofNat len), .null] 6)) (T8.setTop (mkF m 45 #[.val (.ref a), .val (.ref b), .val (.int (Int32.ofNat o)), .val (.int (Int32.ofNat len)), .val .null, .val (.ref s.heap.size)] [.int (Int32.ofNat len), .ref s.heap.size, .ref a])) := c9.trans (by
      refine XS.astore X8.here hexec rfl (hb hbytes d39) rfl rfl rfl ?_
      refine XS.aloadN X8.here hexec rfl (hb hbytes d41) rfl rfl ?_
      refine XS.aload X8.here hexec rfl (hb hbytes d42) rfl rfl ?_
      refine XS.iloadN X8.here hexec rfl (hb hbytes d44) rfl ?_
      exact Steps.refl _)
    rw [n4]; exact hc
  obtain ⟨v11, T11, X11, E11, g11⟩ := X8.callS hexec (CodL.law l s.heap.size N) hown (wks W (staticW "java/lang/String" 47 CodL.yN)) (wk W CodL.tab) (W := 1) (Nat.le_of_ble_eq_true rfl) (Nat.le_of_ble_eq_true rfl) (Nat.le_refl _) (by show 0 + len + 0 ≤ len; omega) (g := (mkF m 45 #[.val (.ref a), .val (.ref b), .val (.int (Int32.ofNat o)), .val (.int (Int32.ofNat len)), .val .null, .val (.ref s.heap.size)] [.int (Int32.ofNat N.slots.size), .ref s.heap.size, .ref a])) rfl (by rw [hml]; rfl) c10 (argsL := [.ref s.heap.size, .int (Int32.ofNat N.slots.size)]) (rest := [.ref a]) rfl rfl (by show 2 * 0 + (1 + 0) ≤ _; decide) (hb hbytes d45) (⟨rfl, n1⟩)
  obtain ⟨rfl, q11⟩ := E11
  have hB11 := hB1.mv (X8.warmed.alike.symm.trans X11.warmed.alike) q11
  have c12 : Steps p.tables e below (s₁.setTop (entryFrame m #[.ref a, .ref b, .int (Int32.ofNat o), .int (Int32.ofNat len), .null] 6)) (T11.setTop (mkF m 48 #[.val (.ref a), .val (.ref b), .val (.int (Int32.ofNat o)), .val (.int (Int32.ofNat len)), .val .null, .val (.ref s.heap.size)] [.int 0, .ref a])) := g11
  obtain ⟨T13, X13, p13, bl13, sl13, st13⟩ := X11.finit hexec hown (wk W (.fieldLink "java/lang/String" 15 "java/lang/String" "coder" "B")) (Or.inr ⟨_, (wk W (.laysFinal "java/lang/String" "java/lang/String" "coder" "B"))⟩) (Or.inl ⟨rfl, hnm⟩) f2 (Or.inl rfl) hB11 (t := .byte) (by decide +kernel) rfl (g := (mkF m 48 #[.val (.ref a), .val (.ref b), .val (.int (Int32.ofNat o)), .val (.int (Int32.ofNat len)), .val .null, .val (.ref s.heap.size)] [.int 0, .ref a])) rfl (rest := []) rfl (hb hbytes d48)
  have c14 : Steps p.tables e below (s₁.setTop (entryFrame m #[.ref a, .ref b, .int (Int32.ofNat o), .int (Int32.ofNat len), .null] 6)) (T13.setTop (mkF m 54 #[.val (.ref a), .val (.ref b), .val (.int (Int32.ofNat o)), .val (.int (Int32.ofNat len)), .val .null, .val (.ref s.heap.size)] [.ref s.heap.size, .ref a])) := (c12.trans (st13 _ (Steps.refl _))).trans (by
    refine XS.aloadN X13.here hexec rfl (hb hbytes d51) rfl rfl ?_
    refine XS.aload X13.here hexec rfl (hb hbytes d52) rfl rfl ?_
    exact Steps.refl _)
  obtain ⟨T15, X15, p15, bl15, sl15, st15⟩ := X13.finit hexec hown (wk W (.fieldLink "java/lang/String" 9 "java/lang/String" "value" "[B")) (Or.inr ⟨_, (wk W (.laysFinal "java/lang/String" "java/lang/String" "value" "[B"))⟩) (Or.inl ⟨rfl, hnm⟩) f1 (Or.inl rfl) bl13 (t := (.array .byte)) (by decide +kernel) rfl (g := (mkF m 54 #[.val (.ref a), .val (.ref b), .val (.int (Int32.ofNat o)), .val (.int (Int32.ofNat len)), .val .null, .val (.ref s.heap.size)] [.ref s.heap.size, .ref a])) rfl (rest := []) rfl (hb hbytes d54)
  have c16 : Steps p.tables e below (s₁.setTop (entryFrame m #[.ref a, .ref b, .int (Int32.ofNat o), .int (Int32.ofNat len), .null] 6)) (T15.setTop (mkF m 57 #[.val (.ref a), .val (.ref b), .val (.int (Int32.ofNat o)), .val (.int (Int32.ofNat len)), .val .null, .val (.ref s.heap.size)] [])) := c14.trans (st15 _ (Steps.refl _))
  have ap := apart (Or.inr ⟨_, (wk W (.laysFinal "java/lang/String" "java/lang/String" "value" "[B"))⟩) (Or.inr ⟨_, (wk W (.laysFinal "java/lang/String" "java/lang/String" "coder" "B"))⟩) f1 f2 (t₁ := .array .byte) (t₂ := .byte) (by decide +kernel) (by decide +kernel) (by decide)
  have al := X8.warmed.alike.symm.trans X15.warmed.alike
  have n7 : T11.heap[s.heap.size]? = some N := by rw [q11]; exact n1.1
  exact ⟨T15, none, _, _, _, X15, by simp, rfl, by omega, (fun _ => rfl), ⟨rfl, _, N, bl15, ((Same.refl D _).set _ (by simp)).set _ (by simp), sl15, (Cell.slots_setSlot_ne _ ap).trans sl13, n1.keep al (p15.other hne (p13.other hne n7)), n2, by rw [al.findClass]; exact n3, n4, n5, fun y c h1 h2 => p15.other h1 (p13.other h1 (by rw [q11]; exact n6 y c h2)), by rw [p15.2.2, p13.2.2, q11]; exact z8⟩, fun fs hl => c16.trans (X15.returnOut hexec hret (hb hbytes d57) hl)⟩
end New4
namespace New1
def yN : MethodName := ⟨"java/lang/String", "<init>", "([C)V"⟩
abbrev yB : ByteArray := jdk_42_method_3_code
theorem d0 : decode yB 0 = .ok (.aload_n 0, 1) := by decide +kernel
theorem d1 : decode yB 1 = .ok (.aload_n 1, 1) := by decide +kernel
theorem d2 : decode yB 2 = .ok (.iconst 0, 1) := by decide +kernel
theorem d3 : decode yB 3 = .ok (.aload_n 1, 1) := by decide +kernel
theorem d4 : decode yB 4 = .ok (.arraylength, 1) := by decide +kernel
theorem d5 : decode yB 5 = .ok (.aconst_null, 1) := by decide +kernel
theorem d6 : decode yB 6 = .ok (.invokespecial 27, 3) := by decide +kernel
theorem d9 : decode yB 9 = .ok (.return_, 1) := by decide +kernel
def site : List Cond := [New4.tab] ++ initW "java/lang/String" 27 New4.yN
def tab : Cond := tabOf yN yB 2 none site
def P (a : Addr) (D : Cell) (fV fC : Field) (b : Addr) (A : Cell) (z : Int32) (args : Array Value) (s : State) : Prop := args = #[.ref a, .ref b] ∧ Blank "java/lang/String" a D s ∧ Found "java/lang/String" "value" "[B" fV s ∧ Found "java/lang/String" "coder" "B" fC s ∧ Ch b A s ∧ StaticIs s "java/lang/String" "COMPACT_STRINGS" "Z" (.int z) ∧ ¬ z = 0 ∧ 0 < A.slots.size ∧ A.slots.size ≤ 536870912 ∧ ∀ i, i < A.slots.size → ¬ 255 < cv A i
def E (a : Addr) (D : Cell) (fV fC : Field) (A : Cell) (r : Option Value) (s u : State) : Prop := Got a D fV fC A 0 A.slots.size r s u
/-- new String(chars), not empty, no char above 255: a Latin-1 String of their low bytes -/
theorem law (l : Launch) (a : Addr) (D : Cell) (fV fC : Field) (b : Addr) (A : Cell) (z : Int32) : Law l yN 2 1 3 52 yB 2 none site (P a D fV fC b A z) (E a D fV fC A) [⟨a, fC.slot⟩, ⟨a, fV.slot⟩] 1 A.slots.size := by
  refine Law.of_walk (plainFor_of_name (by decide +kernel)) (by decide +kernel) (by decide +kernel) (by decide) (fun _ _ h => by rw [h.1]; rfl) (fun _ U U' hal hh h => ⟨h.1, h.2.1.mv hal hh, h.2.2.1.al hal, h.2.2.2.1.al hal, h.2.2.2.2.1.mv hal hh, h.2.2.2.2.2.1.there hal hh, h.2.2.2.2.2.2⟩) (fun r U U' V V' h1 hal h2 h => Got.mv r U U' V V' h1 hal h2 h) ?_
  intro p e s m args below meth c s₁ X0 hexec hbytes hml hret hlk hnm hown hh0 W hP
  obtain ⟨rfl, hB, f1, f2, hA, s1, hz, l0, l2, hp⟩ := hP
  have c1 : Steps p.tables e below (s₁.setTop (entryFrame m #[.ref a, .ref b] 2)) (s₁.setTop (mkF m 0 #[.val (.ref a), .val (.ref b)] [])) := entry rfl
  have c2 : Steps p.tables e below (s₁.setTop (entryFrame m #[.ref a, .ref b] 2)) (s₁.setTop (mkF m 6 #[.val (.ref a), .val (.ref b)] [.null, .int (Int32.ofNat A.slots.size), .int 0, .ref b, .ref a])) := c1.trans (by
    refine XS.aloadN X0.here hexec rfl (hb hbytes d0) rfl rfl ?_
    refine XS.aloadN X0.here hexec rfl (hb hbytes d1) rfl rfl ?_
    refine iconstV X0.here hexec rfl 0 (hb hbytes d2) (by decide) ?_
    refine XS.aloadN X0.here hexec rfl (hb hbytes d3) rfl rfl ?_
    refine X0.alen hexec (hA.1.mv X0.warmed.alike hh0) rfl rfl (hb hbytes d4) ?_
    refine XS.aconstNull X0.here hexec rfl (hb hbytes d5) ?_
    exact Steps.refl _)
  obtain ⟨v3, T3, X3, E3, g3⟩ := X0.callN hexec (New4.law l a D fV fC b A z 0 A.slots.size) rfl hown (wks W (initW "java/lang/String" 27 New4.yN)) (W New4.tab (by simp only [site, List.mem_cons, List.mem_append, true_or, or_true])) (W := 0) (Nat.le_of_ble_eq_true rfl) (Nat.le_of_ble_eq_true rfl) (Nat.le_refl _) (by show 0 + A.slots.size ≤ A.slots.size; omega) (g := (mkF m 6 #[.val (.ref a), .val (.ref b)] [.null, .int (Int32.ofNat A.slots.size), .int (Int32.ofNat 0), .ref b, .ref a])) rfl (by rw [hml]; rfl) c2 (argsL := [.ref b, .int (Int32.ofNat 0), .int (Int32.ofNat A.slots.size), .null]) (rest := []) rfl rfl (by show 2 * 0 + 0 ≤ _; decide) (hb hbytes d6) (⟨rfl, hB.mv X0.warmed.alike hh0, f1.al X0.warmed.alike, f2.al X0.warmed.alike, hA.mv X0.warmed.alike hh0, s1.there X0.warmed.alike hh0, hz, l0, by omega, l2, fun i hi => by rw [Nat.zero_add]; exact hp i hi⟩)
  have e0 := Got.mv _ s₁ s _ _ hh0.symm (Vm.Alike.refl _) rfl E3
  obtain rfl := e0.1
  have c4 : Steps p.tables e below (s₁.setTop (entryFrame m #[.ref a, .ref b] 2)) (T3.setTop (mkF m 9 #[.val (.ref a), .val (.ref b)] [])) := g3
  exact ⟨T3, none, _, _, _, X3, by simp, rfl, by omega, (fun _ => rfl), e0, fun fs hl => c4.trans (X3.returnOut hexec hret (hb hbytes d9) hl)⟩
theorem pays {l : Launch} {R : Room} {p : Program} {e : Env} {below : List Frame} {s : State} {sargs : Array Value} {len W : Nat} (a : Addr) (D : Cell) (fV fC : Field) (b : Addr) (A : Cell) (z : Int32) (htab : tab.before sargs s = true) (hfr : 4 ≤ R.frames) (hlo : W + 65 ≤ R.locals) :
    Back l R p e below s sargs yN len W (fun A₁ a₁ => A₁.cells + 1 ≤ R.cells ∧ A₁.slots + A.slots.size ≤ R.slots ∧ P a D fV fC b A z a₁ A₁.U) (fun A₁ _ v₁ B₁ => E a D fV fC A v₁ A₁.U B₁.U ∧ B₁.locs = A₁.locs ++ [⟨a, fC.slot⟩, ⟨a, fV.slot⟩] ∧ B₁.cells = A₁.cells + 1 ∧ B₁.slots = A₁.slots + A.slots.size) :=
  (law l a D fV fC b A z).pays htab hfr (by omega)
end New1
/-- the byte, read back as charAt reads it, is the char -/
theorem lo8_mask {x : Int32} (h0 : ¬ x < 0) (h1 : ¬ 255 < x) : lo8 x &&& 255 = x := by
  have t : ∀ k : Fin 256, lo8 (Int32.ofNat k.val) &&& 255 = Int32.ofNat k.val := by decide +kernel
  rw [Int32.lt_iff_toInt_lt] at h0 h1
  have e0 : (0 : Int32).toInt = 0 := rfl
  have e1 : (255 : Int32).toInt = 255 := rfl
  obtain ⟨k, hk⟩ : ∃ k : Nat, x.toInt = k := ⟨x.toInt.toNat, by omega⟩
  have hx : x = Int32.ofNat k := Int32.toInt_inj.mp (by rw [hk, Int32.toInt_ofNat_small (by omega)])
  rw [hx]
  exact t ⟨k, by omega⟩
end StrChars
namespace StrChars.Road
open Jvm Sem ClassFile Op Lib Jvm.Stand Jvm.Free Jvm.Free.XT
open Jvm.Lib.Cold (StaticIs)
abbrev ST : String := "java/lang/String"
/-- every table word that New1's law asks, flat -/
abbrev words : List Jvm.Cond := [.code New1.yN New1.yB 2 none, .initialized ST, .methodLink ST 27 New4.yN, .instanceMethod New4.yN,
  .code New4.yN New4.yB 6 none, .fieldLink ST 38 ST "COMPACT_STRINGS" "Z", .laysFinal ST ST "value" "[B", .fieldLink ST 9 ST "value" "[B", .laysFinal ST ST "coder" "B", .fieldLink ST 15 ST "coder" "B",
  .methodLink ST 1 Lib.objectInit, .instanceMethod Lib.objectInit, .code Lib.objectInit ⟨#[0xb1]⟩ 1 none, .methodLink ST 177 Cmp3.yN, .static Cmp3.yN, .methodLink ST 47 CodL.yN, .static CodL.yN,
  .code Cmp3.yN Cmp3.yB 6 (some (.array .byte)), .initialized U16, .arrayClass .byte, .methodLink U16 115 Cmp5.yN, .static Cmp5.yN, .code Cmp5.yN Cmp5.yB 7 (some .int), .code CodL.yN CodL.yB 2 (some .byte)]
theorem tab_of {a : Array Value} {s : State} (h : ∀ w ∈ words, w.before a s = true) : New1.tab.before a s = true := by
  have h5 : Cmp5.tab.before a s = true := unparts (wk h (.code Cmp5.yN Cmp5.yB 7 (some .int))) (wks h (.initialized Cmp5.yN.cls :: Cmp5.site))
  have hc : CodL.tab.before a s = true := unparts (wk h (.code CodL.yN CodL.yB 2 (some .byte))) (wks h (.initialized CodL.yN.cls :: CodL.site))
  have q5 : ∀ w ∈ Cmp5.tab :: words, w.before a s = true := fun w hw => (List.mem_cons.mp hw).elim (fun e => e ▸ h5) (h w)
  have h3 : Cmp3.tab.before a s = true := unparts (wk q5 (.code Cmp3.yN Cmp3.yB 6 (some (.array .byte)))) (wks q5 (.initialized Cmp3.yN.cls :: Cmp3.site))
  have q3 : ∀ w ∈ Cmp3.tab :: CodL.tab :: words, w.before a s = true := fun w hw => (List.mem_cons.mp hw).elim (fun e => e ▸ h3) fun hw => (List.mem_cons.mp hw).elim (fun e => e ▸ hc) (h w)
  have h4 : New4.tab.before a s = true := unparts (wk q3 (.code New4.yN New4.yB 6 none)) (wks q3 (.initialized New4.yN.cls :: New4.site))
  have q4 : ∀ w ∈ New4.tab :: words, w.before a s = true := fun w hw => (List.mem_cons.mp hw).elim (fun e => e ▸ h4) (h w)
  exact unparts (wk q4 (.code New1.yN New1.yB 2 none)) (wks q4 (.initialized New1.yN.cls :: New1.site))
/-- the words ride from the start Z to the walk's own state -/
theorem moved {Z s : State} {a0 args : Array Value} (hZ : Z.Warmed39 s.vm) (hw : ∀ d ∈ words, d.before a0 Z = true) : ∀ d ∈ words, d.before args s = true := fun d hd => by
  have q := hw d hd
  have t : ∀ d ∈ words, d = .arrayClass .byte ∨ (d.onTables && d.keepsFace) = true := by decide +kernel
  rcases t d hd with rfl | t
  · exact RoadKit.mvA hZ q
  · exact RoadKit.mv hZ q t
/-- WHAT COMES BACK, over the tables of the start Z: h the heap at the call, h' behind it -/
def Q (Z : State) (x : Addr) (A : Cell) (h : Heap) (v : Option Value) (h' : Heap) (L : List Loc) : Prop := v = none ∧ (∀ y ∈ L, y.base = x) ∧ RoadKit.Keep h h' [x] ∧ h'.size = h.size + 1 ∧ RoadKit.Exa Z h' x ST ∧ RoadKit.Fld Z h' x ST "value" "[B" (.ref h.size) ∧ RoadKit.Fld Z h' x ST "coder" "B" (.int 0) ∧
  (∃ V : Cell, RoadKit.Arr Z h' h.size V .byte ∧ V.vm = .none ∧ Z.vm.findClass "[B" = some V.cls ∧ V.slots.size = A.slots.size ∧ ∀ j, j < A.slots.size → V.slots[j]? = some (.int (lo8 (cv A j)))) ∧
  ∀ (O n d : String) (w : Value), RoadKit.Fld Z h x O n d w → RoadKit.slotOf Z O n d ≠ RoadKit.slotOf Z ST "value" "[B" → RoadKit.slotOf Z O n d ≠ RoadKit.slotOf Z ST "coder" "B" → RoadKit.Fld Z h' x O n d w
/-- **new String(chars) AT A CALL, IN THE ROAD'S FORM**: for specialBack behind newO: x the fresh String, b the char[] with the cell A -/
theorem back {p : Program} {l : Launch} {e : Env} {R : Room} {s : State} {args : Array Value} {below : List Frame} {len W : Nat} {Z : State} {a0 : Array Value} {h : Heap} (hZ : Z.Warmed39 s.vm) (hw : ∀ d ∈ words, d.before a0 Z = true) {kI : Nat} (wi : (Jvm.Cond.instantiable ST kI).before a0 Z = true)
    {x b : Addr} {A : Cell} {z : Int32} {v0 c0 : Value} (E : RoadKit.Exa Z h x ST) (V : RoadKit.Fld Z h x ST "value" "[B" v0) (C : RoadKit.Fld Z h x ST "coder" "B" c0) (K : RoadKit.Arr Z h b A .char) (hty : Typed .char A) (S : RoadKit.Sta Z h ST "COMPACT_STRINGS" "Z" (.int z)) (hz : ¬ z = 0)
    (l0 : 0 < A.slots.size) (l2 : A.slots.size ≤ 536870912) (hp : ∀ i, i < A.slots.size → ¬ 255 < cv A i) (hfr : 4 ≤ R.frames) (hlo : W + 65 ≤ R.locals) :
    Back l R p e below s args New1.yN len W (fun P a => a = #[.ref x, .ref b] ∧ P.U.heap = h ∧ P.cells + 1 ≤ R.cells ∧ P.slots + A.slots.size ≤ R.slots)
      (fun P _ v B => ∃ L, Q Z x A h v B.U.heap L ∧ B.locs = P.locs ++ L ∧ B.cells = P.cells + 1 ∧ B.slots = P.slots + A.slots.size) := by
  intro m meth c P g ig mk a X hg hsize hdg hW hn hp'
  obtain ⟨rfl, rfl, r1, r2⟩ := hp'
  have al : Z.vm.Alike P.U.vm := hZ.alike.trans X.warmed.alike
  obtain ⟨D, cfV, kV, iV, fV, hD, gV, stV, knV, obV, asV, slV⟩ := id V
  obtain ⟨D', cfC, kC, iC, fC, hD', gC, stC, -, -, asC, slC⟩ := id C
  cases hD.symm.trans hD'
  obtain ⟨D2, kD, e1, e2, e3, e4, e5⟩ := id E
  cases hD.symm.trans e1
  obtain ⟨c2, k2, i1, i2, i3, -⟩ := Cond.instantiable_spec wi
  cases e2.symm.trans i1
  cases e3.symm.trans i2
  obtain ⟨kU, u1, u2⟩ := al.2.2 _ _ e3
  have hB : Blank ST x D P.U := ⟨hD, ⟨knV, fun q hq => by rw [hq] at obV; cases obV⟩, by rw [al.findClass]; exact e2, kU, u1, by rw [u2]; exact i3, by rw [u2]; exact e5 i3⟩
  have F1 : Found ST "value" "[B" fV P.U := ⟨SBG.found_only al ⟨cfV, kV, iV, gV⟩, stV⟩
  have F2 : Found ST "coder" "B" fC P.U := ⟨SBG.found_only al ⟨cfC, kC, iC, gC⟩, stC⟩
  have hA : Ch b A P.U := ⟨⟨K.1, State.isArrayOf_alike al K.2.1, K.2.2, by omega⟩, hty⟩
  have hS : StaticIs P.U ST "COMPACT_STRINGS" "Z" (.int z) := by
    obtain ⟨cfS, iS, kS, fS, st, cS, t1, t2, t3, t4, t5, t6, t7⟩ := S
    exact StaticIs.there (s := { Z with heap := P.U.heap }) ⟨cfS, iS, kS, fS, st, cS, t1, t2, t3, t4, t5, (fun q => by rw [q] at t6; cases t6), t7⟩ al rfl
  obtain ⟨v, B, X', ⟨⟨hv, E', V', q1, q2, q3, q4, q5, q6, q7, q8, q9, q10, q11⟩, hl, hc, hs⟩, st⟩ := New1.pays x D fV fC b A z (tab_of (moved hZ hw)) hfr hlo m meth c P g ig mk _ X hg hsize hdg hW hn ⟨r1, r2, rfl, hB, F1, F2, hA, hS, hz, l0, l2, hp⟩
  have al' : Z.vm.Alike B.U.vm := hZ.alike.trans X'.warmed.alike
  have hsz : E'.slots.size = D.slots.size := by
    obtain ⟨-, -, -, kB, w1, w2, w3⟩ := q1
    obtain ⟨kB', y1, y2⟩ := al'.2.2 _ _ e3
    rw [q2.2.1] at w1
    cases w1.symm.trans y1
    rw [w3, e5 i3, y2]
  refine ⟨v, B, X', ⟨_, ⟨hv, ?_, ⟨by omega, fun y cy hy hn' => q10 y cy (by simpa using hn') hy, fun y cy hy => ?_⟩, q11, ⟨E', _, q1.1, by rw [q2.2.1]; exact e2, by rw [q2.2.1]; exact e3, by rw [q2.1]; exact obV, fun _ => by rw [hsz]; exact e5 i3⟩,
    ⟨E', cfV, kV, iV, fV, q1.1, gV, stV, by rw [q2.1]; exact knV, by rw [q2.1]; exact obV, by rw [q2.2.1]; exact asV, q3⟩, ⟨E', cfC, kC, iC, fC, q1.1, gC, stC, by rw [q2.1]; exact knV, by rw [q2.1]; exact obV, by rw [q2.2.1]; exact asC, q4⟩,
    ⟨V', ⟨q5.1, State.isArrayOf_alike al'.symm q5.2.1, q5.2.2.1⟩, q6, by rw [← al'.findClass]; exact q7, q8, fun j hj => by have := q9 j hj; rwa [Nat.zero_add] at this⟩, fun O n d w F n1 n2 => ?_⟩, hl, hc, hs⟩, st⟩
  · intro y hy
    simp only [List.mem_cons, List.not_mem_nil, or_false] at hy
    rcases hy with rfl | rfl <;> rfl
  · by_cases q : y = x
    · subst q
      cases hD.symm.trans hy
      exact ⟨E', q1.1, q2.2.1, q2.1, hsz⟩
    · exact ⟨cy, q10 y cy q hy, rfl, rfl, rfl⟩
  · obtain ⟨D3, cf, k, i, f, g1, g2, g3, g4, g5, g6, g7⟩ := F
    cases hD.symm.trans g1
    simp only [RoadKit.slotOf, g2, gV, gC, Option.map_some, Option.getD_some] at n1 n2
    exact ⟨E', cf, k, i, f, q1.1, g2, g3, by rw [q2.1]; exact g4, by rw [q2.1]; exact g5, by rw [q2.2.1]; exact g6, by rw [q2.2.2 f.slot (by simp [n1, n2])]; exact g7⟩
end StrChars.Road
namespace StrChars.Road
open Jvm Sem ClassFile Op Lib Jvm.Stand Jvm.Free Jvm.Free.XT
/-- WHAT COMES BACK, the byte[] as a list of values -/
def QA (Z : State) (x : Addr) (zn : Int32) (cs : List Int32) (h : Heap) (v : Option Value) (h' : Heap) (L : List Loc) : Prop := v = none ∧ (∀ y ∈ L, y.base = x) ∧ RoadKit.Keep h h' [x] ∧ h'.size = h.size + 1 ∧ RoadKit.Exa Z h' x ST ∧ RoadKit.Fld Z h' x ST "value" "[B" (.ref h.size) ∧ RoadKit.Fld Z h' x ST "coder" "B" (.int 0) ∧
  (∃ kb, Z.vm.findClass "[B" = some kb ∧ RoadKit.Arv Z h' h.size kb .byte zn (cs.map fun c => .int (lo8 c)) (.int 0)) ∧
  ∀ (O n d : String) (w : Value), RoadKit.Fld Z h x O n d w → RoadKit.slotOf Z O n d ≠ RoadKit.slotOf Z ST "value" "[B" → RoadKit.slotOf Z O n d ≠ RoadKit.slotOf Z ST "coder" "B" → RoadKit.Fld Z h' x O n d w
/-- **new String(chars) AT A CALL, THE ARRAYS AS LISTS**: the char[] at b holds cs, not empty, no char above 255 -/
theorem backArv {p : Program} {l : Launch} {e : Env} {R : Room} {s : State} {args : Array Value} {below : List Frame} {len W : Nat} {Z : State} {a0 : Array Value} {h : Heap} (hZ : Z.Warmed39 s.vm) (hw : ∀ d ∈ words, d.before a0 Z = true) {kI : Nat} (wi : (Jvm.Cond.instantiable ST kI).before a0 Z = true)
    {x b : Addr} {k : ClassId} {zn z : Int32} {cs : List Int32} {dv v0 c0 : Value} (E : RoadKit.Exa Z h x ST) (V : RoadKit.Fld Z h x ST "value" "[B" v0) (C : RoadKit.Fld Z h x ST "coder" "B" c0) (K : RoadKit.Arv Z h b k .char zn (cs.map Value.int) dv) (S : RoadKit.Sta Z h ST "COMPACT_STRINGS" "Z" (.int z)) (hz : ¬ z = 0)
    (hlen : zn.toNatClampNeg = cs.length) (h0 : 0 < cs.length) (hbig : cs.length ≤ 536870912) (hall : ∀ c ∈ cs, ¬ 255 < c) (hfr : 4 ≤ R.frames) (hlo : W + 65 ≤ R.locals) :
    Back l R p e below s args New1.yN len W (fun P a => a = #[.ref x, .ref b] ∧ P.U.heap = h ∧ P.cells + 1 ≤ R.cells ∧ P.slots + cs.length ≤ R.slots)
      (fun P _ v B => ∃ L, QA Z x zn cs h v B.U.heap L ∧ B.locs = P.locs ++ L ∧ B.cells = P.cells + 1 ∧ B.slots = P.slots + cs.length) := by
  obtain ⟨A, K1, K2, K3, K4, K5, K6⟩ := K
  have e : A.slots.size = cs.length := K3.trans hlen
  have hat : ∀ (i : Nat) (hi : i < cs.length), A.slots[i]? = some (.int cs[i]) := fun i hi => by rw [K5 i (by omega)]; simp [List.getD_eq_getElem?_getD, hi]
  have hcv : ∀ (i : Nat) (hi : i < cs.length), cv A i = cs[i] := fun i hi => by unfold cv; rw [hat i hi]
  have hty : Typed .char A := fun i v hv => by
    have hi : i < A.slots.size := (Array.getElem?_eq_some_iff.mp hv).1
    have q := K5 i hi
    rw [hv] at q
    rw [Option.some.inj q]
    exact K6 i hi
  refine Back.mono (back hZ hw wi E V C K1 hty S hz (by omega) (by omega) (fun i hi => by rw [hcv i (by omega)]; exact hall _ (List.getElem_mem _)) hfr hlo) (fun P a hp => ⟨hp.1, hp.2.1, hp.2.2.1, by rw [e]; exact hp.2.2.2⟩) (fun P a v B hp hq => ?_)
  obtain ⟨L, ⟨q1, q2, q3, q4, q5, q6, q7, ⟨V', v1, v2, v3, v4, v5⟩, q9⟩, hl, hc, hs⟩ := hq
  refine ⟨L, ⟨q1, q2, q3, q4, q5, q6, q7, ⟨V'.cls, v3, V', v1, rfl, by rw [v4, e, hlen], K4, fun i hi => ?_, fun i hi => ?_⟩, q9⟩, hl, hc, by rw [hs, e]⟩
  · have hi' : i < cs.length := by omega
    rw [v5 i (by omega), hcv i hi']; simp [List.getD_eq_getElem?_getD, hi']
  · have hi' : i < cs.length := by omega
    simp only [List.getD_eq_getElem?_getD, List.getElem?_map, List.getElem?_eq_getElem hi', Option.map_some, Option.getD_some]
    exact fits_lo8 _
end StrChars.Road
namespace StrChars.Road
open Jvm Sem ClassFile Op Lib Jvm.Stand Jvm.Free Jvm.Free.XT
/-- WHAT COMES BACK, in the writer's own shape -/
def QV (Z : State) (x : Addr) (N : Int32) (bs : List Int32) (h : Heap) (n0 : Nat) (v : Option Value) (h' : Heap) (L : List Loc) : Prop := v = none ∧ RoadKit.Fr n0 L ∧ RoadKit.Keep h h' [x] ∧ RoadKit.Exa Z h' x ST ∧ RoadKit.Fld Z h' x ST "coder" "B" (.int 0) ∧
  ∃ (t : Addr) (kb : ClassId), n0 ≤ t ∧ h.size ≤ t ∧ ¬ t = x ∧ RoadKit.Fld Z h' x ST "value" "[B" (.ref t) ∧ RoadKit.Arv Z h' t kb .byte N (bs.map Value.int) (.int 0)
/-- **new String(chars) AT A CALL, FOR THE WRITER**: a char[] of n known ints, each 0 to 255 -/
theorem backV {p : Program} {l : Launch} {e : Env} {R : Room} {s : State} {args : Array Value} {below : List Frame} {len W : Nat} {Z : State} {a0 : Array Value} {h : Heap} (hZ : Z.Warmed39 s.vm) (hw : ∀ d ∈ words, d.before a0 Z = true) {kI : Nat} (wi : (Jvm.Cond.instantiable ST kI).before a0 Z = true)
    {x b : Addr} {kC : ClassId} {cs bs : List Int32} {d v0 c0 : Value} {z N : Int32} {n n0 : Nat} (hx0 : n0 ≤ x) (hh0 : n0 ≤ h.size) (E : RoadKit.Exa Z h x ST) (V : RoadKit.Fld Z h x ST "value" "[B" v0) (C : RoadKit.Fld Z h x ST "coder" "B" c0) (K : RoadKit.Arv Z h b kC .char N (cs.map Value.int) d) (S : RoadKit.Sta Z h ST "COMPACT_STRINGS" "Z" (.int z)) (hz : ¬ z = 0)
    (hn : cs.length = n) (hN : N = Int32.ofNat n) (l0 : 0 < n) (l2 : n ≤ 4000) (hp : ∀ c ∈ cs, ¬ c < 0 ∧ ¬ (255 : Int32) < c) (hb : bs = cs.map (fun c => c.toInt8.toInt32)) (hfr : 4 ≤ R.frames) (hlo : W + 65 ≤ R.locals) :
    Back l R p e below s args (⟨"java/lang/String", "<init>", "([C)V"⟩ : MethodName) len W (fun P a => a = #[.ref x, .ref b] ∧ P.U.heap = h ∧ P.cells + 1 ≤ R.cells ∧ P.slots + n ≤ R.slots)
      (fun P _ v B => ∃ L, QV Z x N bs h n0 v B.U.heap L ∧ B.locs = P.locs ++ L ∧ B.cells = P.cells + 1 ∧ B.slots = P.slots + n) := by
  subst hn hN hb
  refine Back.mono (backArv hZ hw wi E V C K S hz (n32 (by omega)) l0 (by omega) (fun c hc => (hp c hc).2) hfr hlo) (fun P a hp => hp) (fun P a v B hp hq => ?_)
  obtain ⟨L, ⟨q1, q2, q3, q4, q5, q6, q7, ⟨kb, v1, v2⟩, q9⟩, hl, hc, hs⟩ := hq
  exact ⟨L, ⟨q1, fun y hy => by rw [q2 y hy]; exact hx0, q3, q5, q7, h.size, kb, hh0, Nat.le_refl _, Nat.ne_of_gt E.lt, q6, by rw [List.map_map]; exact v2⟩, hl, hc, hs⟩
end StrChars.Road
namespace StrChars
open Jvm Sem ClassFile Op Lib Jvm.Stand Jvm.Free.XT Jvm.Free.ALB Jvm.Free.JM Jvm.Free
open Jvm.Lib.Cold (StaticIs)
def hi8 (x : Int32) : Int32 := lo8 (x >>> ((8 : Int32) &&& 31))
/-- what StringUTF16.getChar makes of two bytes -/
def pairCh (u v : Int32) : Int32 := (((u &&& 255) <<< ((0 : Int32) &&& 31)) ||| ((v &&& 255) <<< ((8 : Int32) &&& 31))).toUInt32.toUInt16.toUInt32.toInt32
theorem lo8_and (x : Int32) : (lo8 x &&& 255).toBitVec.toNat = x.toBitVec.toNat % 256 := by
  have h : (lo8 x).toBitVec = (x.toBitVec.signExtend 8).signExtend 32 := by rw [lo8, Int8.toBitVec_toInt32, Int32.toBitVec_toInt8]
  rw [Int32.toBitVec_and, BitVec.toNat_and, h]
  have e : ((x.toBitVec.signExtend 8).signExtend 32).toNat % 256 = x.toBitVec.toNat % 256 := by
    rw [BitVec.toNat_signExtend]
    have hlt := x.toBitVec.isLt
    simp only [BitVec.toNat_setWidth, BitVec.toNat_signExtend]
    split <;> split <;> omega
  rw [← e]
  exact Nat.and_two_pow_sub_one_eq_mod _ 8
theorem pair_says {c : Int32} (h0 : ¬ c < 0) (h1 : ¬ 65535 < c) : pairCh (lo8 c) (hi8 c) = c := by
  rw [Int32.lt_iff_toInt_lt] at h0 h1
  have e0 : (0 : Int32).toInt = 0 := rfl
  have e1 : (65535 : Int32).toInt = 65535 := rfl
  have hc : c.toInt = c.toBitVec.toNat := by
    have := c.toBitVec.isLt
    have e : c.toInt = c.toBitVec.toInt := rfl
    rw [e] at h0 h1
    rw [e]
    rw [BitVec.toInt_eq_toNat_cond] at h0 h1 ⊢
    split at h0 <;> split <;> omega
  have hn : c.toBitVec.toNat < 65536 := by omega
  have a1 := lo8_and c
  have a2 : (hi8 c &&& 255).toBitVec.toNat = c.toBitVec.toNat / 256 := by
    rw [hi8, lo8_and]
    have e : ((8 : Int32) &&& 31) = 8 := by decide
    rw [e, Int32.toBitVec_shiftRight]
    have e2 : ((8 : Int32).toBitVec.smod 32) = 8#32 := by decide
    rw [e2, BitVec.sshiftRight_eq', BitVec.toNat_sshiftRight_of_msb_false (by rw [BitVec.msb_eq_false_iff_two_mul_lt]; omega)]
    show c.toBitVec.toNat >>> 8 % 256 = _
    rw [Nat.shiftRight_eq_div_pow]
    omega
  unfold pairCh
  apply Int32.toBitVec_inj.mp
  apply BitVec.eq_of_toNat_eq
  have f0 : ((0 : Int32) &&& 31) = 0 := by decide
  have f8 : ((8 : Int32) &&& 31) = 8 := by decide
  rw [f0, f8]
  have g : (((lo8 c &&& 255) <<< (0 : Int32)) ||| ((hi8 c &&& 255) <<< (8 : Int32))).toBitVec.toNat = c.toBitVec.toNat := by
    rw [Int32.toBitVec_or, Int32.toBitVec_shiftLeft, Int32.toBitVec_shiftLeft]
    have s0 : ((0 : Int32).toBitVec.smod 32) = 0#32 := by decide
    have s8 : ((8 : Int32).toBitVec.smod 32) = 8#32 := by decide
    rw [s0, s8, BitVec.toNat_or]
    simp only [BitVec.shiftLeft_eq', BitVec.toNat_shiftLeft, a1, a2]
    show (c.toBitVec.toNat % 256) <<< 0 % 2 ^ 32 ||| (c.toBitVec.toNat / 256) <<< 8 % 2 ^ 32 = _
    rw [Nat.shiftLeft_zero, Nat.mod_eq_of_lt (show c.toBitVec.toNat % 256 < 2 ^ 32 by omega), Nat.mod_eq_of_lt (show (c.toBitVec.toNat / 256) <<< 8 < 2 ^ 32 by rw [Nat.shiftLeft_eq]; omega), Nat.or_comm, ← Nat.shiftLeft_add_eq_or_of_lt (by omega), Nat.shiftLeft_eq]
    omega
  show BitVec.toNat (((((lo8 c &&& 255) <<< (0 : Int32)) ||| ((hi8 c &&& 255) <<< (8 : Int32))).toBitVec.setWidth 16).setWidth 32) = _
  rw [BitVec.toNat_setWidth, BitVec.toNat_setWidth, g]
  omega
end StrChars
namespace StrChars
open Jvm Sem ClassFile Op Lib Jvm.Stand Jvm.Free.XT Jvm.Free.ALB Jvm.Free.JM Jvm.Free
open Jvm.Lib.Cold (StaticIs)
/-- the array's cell V codes the n chars f 0 .. f (n - 1) by the coder cd, as the JDK does: coder 1 just where some char is above 255 -/
def Cod (cd : Int32) (n : Nat) (f : Nat → Int32) (V : Cell) : Prop := (cd = 0 ∧ V.slots.size = n ∧ ∀ j, j < n → V.slots[j]? = some (.int (lo8 (f j))) ∧ ¬ 255 < f j) ∨ (cd = 1 ∧ V.slots.size = 2 * n ∧ (∀ j, j < n → V.slots[2 * j]? = some (.int (lo8 (f j))) ∧ V.slots[2 * j + 1]? = some (.int (hi8 (f j)))) ∧ ∃ j, j < n ∧ 255 < f j)
/-- **x is a String of the n chars f 0 .. f (n - 1)**, Latin-1 or UTF-16; its array at t has the cell V -/
def Txt (x t : Addr) (V : Cell) (cd : Int32) (n : Nat) (f : Nat → Int32) (U : State) : Prop := Exact "java/lang/String" x U ∧ Has x "java/lang/String" "value" "[B" (.ref t) U ∧ Has x "java/lang/String" "coder" "B" (.int cd) U ∧ XT.Arr .byte t V U ∧ Cod cd n f V ∧ ∀ j, j < n → ¬ f j < 0 ∧ ¬ 65535 < f j
theorem Txt.mv {x t : Addr} {V : Cell} {cd : Int32} {n : Nat} {f : Nat → Int32} {U U' : State} (h : Txt x t V cd n f U) (hal : U.vm.Alike U'.vm) (hh : U'.heap = U.heap) : Txt x t V cd n f U' := ⟨h.1.mv hal hh, h.2.1.mv hal hh, h.2.2.1.mv hal hh, h.2.2.2.1.mv hal hh, h.2.2.2.2⟩
end StrChars
namespace StrChars.Road
open Jvm Sem ClassFile Op Lib Jvm.Stand Jvm.Free Jvm.Free.XT
open Jvm.Lib.Cold (StaticIs)
theorem consq {a : Array Value} {s : State} {c : Jvm.Cond} {L : List Jvm.Cond} (h0 : c.before a s = true) (h : ∀ w ∈ L, w.before a s = true) : ∀ w ∈ c :: L, w.before a s = true := fun w hw => (List.mem_cons.mp hw).elim (fun e => e ▸ h0) (h w)
/-- the bytes of the chars cs, low before high -/
def wideBytes : List Int32 → List Value
  | [] => []
  | c :: cs => .int (lo8 c) :: .int (hi8 c) :: wideBytes cs
theorem wide_lo (d : Value) : ∀ (cs : List Int32) (j : Nat), j < cs.length → (wideBytes cs).getD (2 * j) d = .int (lo8 (cs.getD j 0))
  | [], j, h => absurd h (Nat.not_lt_zero j)
  | c :: cs, 0, _ => rfl
  | c :: cs, j + 1, h => by
    have q := wide_lo d cs j (by simpa using h)
    rw [show 2 * (j + 1) = 2 * j + 1 + 1 from by omega]
    simpa [wideBytes] using q
theorem wide_hi (d : Value) : ∀ (cs : List Int32) (j : Nat), j < cs.length → (wideBytes cs).getD (2 * j + 1) d = .int (hi8 (cs.getD j 0))
  | [], j, h => absurd h (Nat.not_lt_zero j)
  | c :: cs, 0, _ => rfl
  | c :: cs, j + 1, h => by
    have q := wide_hi d cs j (by simpa using h)
    rw [show 2 * (j + 1) + 1 = 2 * j + 1 + 1 + 1 from by omega]
    simpa [wideBytes] using q
theorem low_at (d : Value) (cs : List Int32) (j : Nat) (h : j < cs.length) : (cs.map fun c => Value.int (lo8 c)).getD j d = .int (lo8 (cs.getD j 0)) := by
  simp [List.getD_eq_getElem?_getD, h]
/-- an array of N2 bytes vs codes the chars cs by the coder cd -/
def CodA (cs : List Int32) (cd N2 : Int32) (vs : List Value) : Prop := (cd = 0 ∧ N2 = Int32.ofNat cs.length ∧ vs = (cs.map fun c => Value.int (lo8 c)) ∧ ∀ c ∈ cs, ¬ 255 < c) ∨ (cd = 1 ∧ N2 = Int32.ofNat (2 * cs.length) ∧ vs = wideBytes cs ∧ ∃ c ∈ cs, 255 < c)
theorem CodA.cod {cs : List Int32} {cd N2 : Int32} {vs : List Value} {V : Cell} (h : CodA cs cd N2 vs) (hn : 2 * cs.length < 2 ^ 31) (hs : V.slots.size = N2.toNatClampNeg) (hv : RoadKit.Has V vs (.int 0)) : Cod cd cs.length (fun j => cs.getD j 0) V := by
  rcases h with ⟨rfl, rfl, rfl, h⟩ | ⟨rfl, rfl, rfl, c, hc, hw⟩
  · rw [n32 (by omega)] at hs
    exact Or.inl ⟨rfl, hs, fun j hj => ⟨by rw [hv j (by omega), low_at _ _ _ hj], by
      have e : cs.getD j 0 = cs[j] := by simp [List.getD_eq_getElem?_getD, hj]
      show ¬ 255 < cs.getD j 0
      rw [e]; exact h _ (List.getElem_mem _)⟩⟩
  · rw [n32 (by omega)] at hs
    obtain ⟨j, hj, rfl⟩ := List.getElem_of_mem hc
    exact Or.inr ⟨rfl, hs, fun j hj => ⟨by rw [hv _ (by omega), wide_lo _ _ _ hj], by rw [hv _ (by omega), wide_hi _ _ _ hj]⟩, j, hj, by
      have e : cs.getD j 0 = cs[j] := by simp [List.getD_eq_getElem?_getD, hj]
      show 255 < cs.getD j 0
      rw [e]; exact hw⟩
/-- an object of exactly java/lang/String, its two fields found: as the laws ask it -/
theorem strObj {Z U : State} {a0 : Array Value} {kI : Nat} (wi : (Jvm.Cond.instantiable ST kI).before a0 Z = true) (al : Z.vm.Alike U.vm) {x : Addr} {v0 c0 : Value} (E : RoadKit.Exa Z U.heap x ST) (V : RoadKit.Fld Z U.heap x ST "value" "[B" v0) (C : RoadKit.Fld Z U.heap x ST "coder" "B" c0) :
    ∃ (D : Cell) (fV fC : Field), Blank ST x D U ∧ Found ST "value" "[B" fV U ∧ Found ST "coder" "B" fC U ∧ D.slots[fV.slot]? = some v0 ∧ D.slots[fC.slot]? = some c0 ∧ RoadKit.slotOf Z ST "value" "[B" = fV.slot ∧ RoadKit.slotOf Z ST "coder" "B" = fC.slot := by
  obtain ⟨D, cfV, kV, iV, fV, hD, gV, stV, knV, obV, asV, slV⟩ := V
  obtain ⟨D', cfC, kC, iC, fC, hD', gC, stC, -, -, asC, slC⟩ := C
  cases hD.symm.trans hD'
  obtain ⟨D2, kD, e1, e2, e3, e4, e5⟩ := E
  cases hD.symm.trans e1
  obtain ⟨c2, k2, i1, i2, i3, -⟩ := Cond.instantiable_spec wi
  cases e2.symm.trans i1
  cases e3.symm.trans i2
  obtain ⟨kU, u1, u2⟩ := al.2.2 _ _ e3
  exact ⟨D, fV, fC, ⟨hD, ⟨knV, fun q hq => by rw [hq] at obV; cases obV⟩, by rw [al.findClass]; exact e2, kU, u1, by rw [u2]; exact i3, by rw [u2]; exact e5 i3⟩, ⟨SBG.found_only al ⟨cfV, kV, iV, gV⟩, stV⟩, ⟨SBG.found_only al ⟨cfC, kC, iC, gC⟩, stC⟩, slV, slC, by simp [RoadKit.slotOf, gV], by simp [RoadKit.slotOf, gC]⟩
theorem sta_is {Z U : State} (al : Z.vm.Alike U.vm) {C n d : String} {v : Value} (S : RoadKit.Sta Z U.heap C n d v) : StaticIs U C n d v := by
  obtain ⟨cfS, iS, kS, fS, st, cS, t1, t2, t3, t4, t5, t6, t7⟩ := S
  exact StaticIs.there (s := { Z with heap := U.heap }) ⟨cfS, iS, kS, fS, st, cS, t1, t2, t3, t4, t5, (fun q => by rw [q] at t6; cases t6), t7⟩ al rfl
end StrChars.Road
namespace StrChars
open Jvm Sem ClassFile Op Lib Jvm.Stand Jvm.Free.XT Jvm.Free.ALB Jvm.Free.JM Jvm.Free
open Jvm.Lib.Cold (StaticIs)
/-- what place i of a byte[]'s cell holds -/
def yv (A : Cell) (i : Nat) : Int32 := match A.slots[i]? with | some (.int x) => x | _ => 0
theorem yv_get {a : Addr} {A : Cell} {U : State} (h : XT.Arr .byte a A U) (ht : Typed .byte A) {i : Nat} (hi : i < A.slots.size) : A.slots[i]? = some (.int (yv A i)) := by
  have e := Array.getElem?_eq_getElem hi
  have f := ht i _ e
  unfold yv; rw [e]
  generalize A.slots[i] = v at f
  cases v <;> simp [fits] at f ⊢
/-- the two arrays are equal, place for place -/
def EqC (A B : Cell) : Prop := A.slots.size = B.slots.size ∧ ∀ i, i < A.slots.size → yv A i = yv B i
/-- a boolean that says whether p -/
def Says01 (q : Prop) (r : Option Value) (s u : State) : Prop := ∃ v : Int32, r = some (.int v) ∧ u.heap = s.heap ∧ ((v = 1 ∧ q) ∨ (v = 0 ∧ ¬ q))
theorem Says01.mv {q : Prop} : ∀ r (U U' V V' : State), U'.heap = U.heap → V.vm.Alike V'.vm → V'.heap = V.heap → Says01 q r U V → Says01 q r U' V' :=
  fun r U U' V V' h1 _ h2 ⟨v, a, b, c⟩ => ⟨v, a, by rw [h1, h2]; exact b, c⟩
namespace LEq
def yN : MethodName := ⟨"java/lang/StringLatin1", "equals", "([B[B)Z"⟩
abbrev yB : ByteArray := jdk_43_method_13_code
theorem d0 : decode yB 0 = .ok (.aload_n 0, 1) := by decide +kernel
theorem d1 : decode yB 1 = .ok (.arraylength, 1) := by decide +kernel
theorem d2 : decode yB 2 = .ok (.aload_n 1, 1) := by decide +kernel
theorem d3 : decode yB 3 = .ok (.arraylength, 1) := by decide +kernel
theorem d4 : decode yB 4 = .ok (.if_icmp (.ne) 30, 3) := by decide +kernel
theorem d7 : decode yB 7 = .ok (.iconst 0, 1) := by decide +kernel
theorem d8 : decode yB 8 = .ok (.istore_n 2, 1) := by decide +kernel
theorem d9 : decode yB 9 = .ok (.iload_n 2, 1) := by decide +kernel
theorem d10 : decode yB 10 = .ok (.aload_n 0, 1) := by decide +kernel
theorem d11 : decode yB 11 = .ok (.arraylength, 1) := by decide +kernel
theorem d12 : decode yB 12 = .ok (.if_icmp (.ge) 20, 3) := by decide +kernel
theorem d15 : decode yB 15 = .ok (.aload_n 0, 1) := by decide +kernel
theorem d16 : decode yB 16 = .ok (.iload_n 2, 1) := by decide +kernel
theorem d17 : decode yB 17 = .ok (.baload, 1) := by decide +kernel
theorem d18 : decode yB 18 = .ok (.aload_n 1, 1) := by decide +kernel
theorem d19 : decode yB 19 = .ok (.iload_n 2, 1) := by decide +kernel
theorem d20 : decode yB 20 = .ok (.baload, 1) := by decide +kernel
theorem d21 : decode yB 21 = .ok (.if_icmp (.eq) 5, 3) := by decide +kernel
theorem d24 : decode yB 24 = .ok (.iconst 0, 1) := by decide +kernel
theorem d25 : decode yB 25 = .ok (.ireturn, 1) := by decide +kernel
theorem d26 : decode yB 26 = .ok (.iinc 2 1, 3) := by decide +kernel
theorem d29 : decode yB 29 = .ok (.goto (-20), 3) := by decide +kernel
theorem d32 : decode yB 32 = .ok (.iconst 1, 1) := by decide +kernel
theorem d33 : decode yB 33 = .ok (.ireturn, 1) := by decide +kernel
theorem d34 : decode yB 34 = .ok (.iconst 0, 1) := by decide +kernel
theorem d35 : decode yB 35 = .ok (.ireturn, 1) := by decide +kernel
def site : List Cond := []
def tab : Cond := tabOf yN yB 3 (some .boolean) site
def P (a : Addr) (A : Cell) (b : Addr) (B : Cell) (args : Array Value) (s : State) : Prop := args = #[.ref a, .ref b] ∧ XT.Arr .byte a A s ∧ Typed .byte A ∧ XT.Arr .byte b B s ∧ Typed .byte B
/-- whether two byte[] are equal, place for place -/
theorem law (l : Launch) (a : Addr) (A : Cell) (b : Addr) (B : Cell) : Law l yN 2 2 0 0 yB 3 (some .boolean) site (P a A b B) (Says01 (EqC A B)) [] 0 0 := by
  refine Law.of_walk (plainFor_of_name (by decide +kernel)) (by decide +kernel) (by decide +kernel) (by decide) (fun _ _ h => by rw [h.1]; rfl) (fun _ U U' hal hh h => ⟨h.1, h.2.1.mv hal hh, h.2.2.1, h.2.2.2.1.mv hal hh, h.2.2.2.2⟩) (fun r U U' V V' h1 hal h2 h => Says01.mv r U U' V V' h1 hal h2 h) ?_
  intro p e s m args below meth c s₁ X0 hexec hbytes hml hret hlk hnm hown hh0 W hP
  obtain ⟨rfl, hA, tA, hB, tB⟩ := hP
  have a31 := hA.2.2.2
  have b31 := hB.2.2.2
  have hA0 := hA.mv X0.warmed.alike hh0
  have hB0 := hB.mv X0.warmed.alike hh0
  have c1 : Steps p.tables e below (s₁.setTop (entryFrame m #[.ref a, .ref b] 3)) (s₁.setTop (mkF m 0 #[.val (.ref a), .val (.ref b), .unset] [])) := entry rfl
  have c2 : Steps p.tables e below (s₁.setTop (entryFrame m #[.ref a, .ref b] 3)) (s₁.setTop (mkF m 4 #[.val (.ref a), .val (.ref b), .unset] [.int (Int32.ofNat B.slots.size), .int (Int32.ofNat A.slots.size)])) := c1.trans (by
    refine XS.aloadN X0.here hexec rfl (hb hbytes d0) rfl rfl ?_
    refine X0.alen hexec hA0 rfl rfl (hb hbytes d1) ?_
    refine XS.aloadN X0.here hexec rfl (hb hbytes d2) rfl rfl ?_
    refine X0.alen hexec hB0 rfl rfl (hb hbytes d3) ?_
    exact Steps.refl _)
  by_cases hs : A.slots.size = B.slots.size
  · have c3 : Steps p.tables e below (s₁.setTop (entryFrame m #[.ref a, .ref b] 3)) (s₁.setTop (mkF m 9 #[.val (.ref a), .val (.ref b), .val (.int 0)] [])) := c2.trans (by
      refine XS.icmpNo X0.here hexec rfl (hb hbytes d4) rfl (ii_ne_f (by rw [hs])) ?_
      refine iconstV X0.here hexec rfl 0 (hb hbytes d7) (by decide) ?_
      refine XS.istoreN X0.here hexec rfl (hb hbytes d8) rfl rfl ?_
      exact Steps.refl _)
    have loop : ∀ (r i : Nat), i + r = A.slots.size → (∀ j, j < i → yv A j = yv B j) → Steps p.tables e below (s₁.setTop (entryFrame m #[.ref a, .ref b] 3)) (s₁.setTop (mkF m 9 #[.val (.ref a), .val (.ref b), .val (.int (Int32.ofNat i))] [])) → ∃ (pc : Nat) (Ls : Array Slot) (v : Int32), (pc = 25 ∨ pc = 33) ∧ ((v = 1 ∧ EqC A B) ∨ (v = 0 ∧ ¬ EqC A B)) ∧ Steps p.tables e below (s₁.setTop (entryFrame m #[.ref a, .ref b] 3)) (s₁.setTop (mkF m pc Ls [.int v])) := by
      intro r
      induction r with
      | zero =>
        intro i hi he cl
        exact ⟨33, _, 1, Or.inr rfl, Or.inl ⟨rfl, hs, fun j hj => he j (by omega)⟩, cl.trans (by
          refine XS.iloadN X0.here hexec rfl (hb hbytes d9) rfl ?_
          refine XS.aloadN X0.here hexec rfl (hb hbytes d10) rfl rfl ?_
          refine X0.alen hexec hA0 rfl rfl (hb hbytes d11) ?_
          refine XS.icmpYes X0.here hexec rfl (pc0 := 12) rfl (hb hbytes d12) rfl (ii_ge_t (nlt32 (by omega) (by omega))) (by decide) rfl ?_
          refine iconstV X0.here hexec rfl 1 (hb hbytes d32) (by decide) ?_
          exact Steps.refl _)⟩
      | succ r ih =>
        intro i hi he cl
        have c4 : Steps p.tables e below (s₁.setTop (entryFrame m #[.ref a, .ref b] 3)) (s₁.setTop (mkF m 21 #[.val (.ref a), .val (.ref b), .val (.int (Int32.ofNat i))] [.int (yv B i), .int (yv A i)])) := cl.trans (by
          refine XS.iloadN X0.here hexec rfl (hb hbytes d9) rfl ?_
          refine XS.aloadN X0.here hexec rfl (hb hbytes d10) rfl rfl ?_
          refine X0.alen hexec hA0 rfl rfl (hb hbytes d11) ?_
          refine XS.icmpNo X0.here hexec rfl (hb hbytes d12) rfl (ii_ge_f (lt32 (by omega) (by omega))) ?_
          refine XS.aloadN X0.here hexec rfl (hb hbytes d15) rfl rfl ?_
          refine XS.iloadN X0.here hexec rfl (hb hbytes d16) rfl ?_
          refine X0.aget hexec hA0 rfl (yv_get hA tA (i := i) (by omega)) rfl rfl (hb hbytes d17) ?_
          refine XS.aloadN X0.here hexec rfl (hb hbytes d18) rfl rfl ?_
          refine XS.iloadN X0.here hexec rfl (hb hbytes d19) rfl ?_
          refine X0.aget hexec hB0 rfl (yv_get hB tB (i := i) (by omega)) rfl rfl (hb hbytes d20) ?_
          exact Steps.refl _)
        by_cases hv : yv A i = yv B i
        · have c5 : Steps p.tables e below (s₁.setTop (entryFrame m #[.ref a, .ref b] 3)) (s₁.setTop (mkF m 9 #[.val (.ref a), .val (.ref b), .val (.int (Int32.ofNat i + 1))] [])) := c4.trans (by
            refine XS.icmpYes X0.here hexec rfl (pc0 := 21) rfl (hb hbytes d21) rfl (ii_eq_t hv) (by decide) rfl ?_
            refine iincV X0.here hexec rfl 1 (hb hbytes d26) (by decide) rfl rfl ?_
            refine XS.goto X0.here hexec rfl (pc0 := 29) rfl (hb hbytes d29) (by decide) rfl ?_
            exact Steps.refl _)
          rw [succ32] at c5
          exact ih (i + 1) (by omega) (fun j hj => by
            by_cases e : j = i
            · rw [e]; exact hv
            · exact he j (by omega)) c5
        · exact ⟨25, _, 0, Or.inl rfl, Or.inr ⟨rfl, fun q => hv (q.2 i (by omega))⟩, c4.trans (by
            refine XS.icmpNo X0.here hexec rfl (hb hbytes d21) rfl (ii_eq_f hv) ?_
            refine iconstV X0.here hexec rfl 0 (hb hbytes d24) (by decide) ?_
            exact Steps.refl _)⟩
    obtain ⟨pc, Ls, v, hpc, hv, cz⟩ := loop A.slots.size 0 (by omega) (fun j hj => absurd hj (Nat.not_lt_zero j)) c3
    have nv : narrow .boolean (.int v) = .int v := by rcases hv with ⟨rfl, -⟩ | ⟨rfl, -⟩ <;> rfl
    rcases hpc with rfl | rfl
    · exact ⟨s₁, some (.int v), _, _, _, X0, rfl, rfl, rfl, (fun h => by cases h), ⟨v, rfl, hh0, hv⟩, fun fs hl => cz.trans (X0.ireturnOut hexec hret nv (Or.inr (Or.inl rfl)) (hb hbytes d25) hl)⟩
    · exact ⟨s₁, some (.int v), _, _, _, X0, rfl, rfl, rfl, (fun h => by cases h), ⟨v, rfl, hh0, hv⟩, fun fs hl => cz.trans (X0.ireturnOut hexec hret nv (Or.inr (Or.inl rfl)) (hb hbytes d33) hl)⟩
  · have c3 : Steps p.tables e below (s₁.setTop (entryFrame m #[.ref a, .ref b] 3)) (s₁.setTop (mkF m 35 #[.val (.ref a), .val (.ref b), .unset] [.int 0])) := c2.trans (by
      refine XS.icmpYes X0.here hexec rfl (pc0 := 4) rfl (hb hbytes d4) rfl (ii_ne_t (ne32 a31 b31 hs)) (by decide) rfl ?_
      refine iconstV X0.here hexec rfl 0 (hb hbytes d34) (by decide) ?_
      exact Steps.refl _)
    exact ⟨s₁, some (.int 0), _, _, _, X0, rfl, rfl, rfl, (fun h => by cases h), ⟨0, rfl, hh0, Or.inr ⟨rfl, fun q => hs q.1⟩⟩, fun fs hl => c3.trans (X0.ireturnOut hexec hret rfl (Or.inr (Or.inl rfl)) (hb hbytes d35) hl)⟩
end LEq
theorem Cod.ty {cd : Int32} {n : Nat} {f : Nat → Int32} {V : Cell} (h : Cod cd n f V) : Typed .byte V := fun i v hv => by
  have hi : i < V.slots.size := (Array.getElem?_eq_some_iff.mp hv).1
  rcases h with ⟨-, k1, k2⟩ | ⟨-, k1, k2, -⟩
  · rw [(k2 i (by omega)).1] at hv; cases hv; exact fits_lo8 _
  · rcases Nat.mod_two_eq_zero_or_one i with e | e
    · obtain ⟨j, rfl⟩ : ∃ j, i = 2 * j := ⟨i / 2, by omega⟩
      rw [(k2 j (by omega)).1] at hv; cases hv; exact fits_lo8 _
    · obtain ⟨j, rfl⟩ : ∃ j, i = 2 * j + 1 := ⟨i / 2, by omega⟩
      rw [(k2 j (by omega)).2] at hv; cases hv; exact fits_lo8 _
/-- the same text -/
def SameT (n : Nat) (f : Nat → Int32) (k : Nat) (g : Nat → Int32) : Prop := n = k ∧ ∀ j, j < n → f j = g j
theorem lo8_inj {x y : Int32} (h0 : ¬ x < 0) (h1 : ¬ 255 < x) (k0 : ¬ y < 0) (k1 : ¬ 255 < y) (h : lo8 x = lo8 y) : x = y := by
  rw [← lo8_mask h0 h1, ← lo8_mask k0 k1, h]
/-- arrays coded by one coder are equal just where the texts are -/
theorem Cod.eqv {cd : Int32} {n k : Nat} {f g : Nat → Int32} {V V' : Cell} (h : Cod cd n f V) (h' : Cod cd k g V') (hf : ∀ j, j < n → ¬ f j < 0 ∧ ¬ 65535 < f j) (hg : ∀ j, j < k → ¬ g j < 0 ∧ ¬ 65535 < g j) : EqC V V' ↔ SameT n f k g := by
  have yvv : ∀ {W : Cell} {i : Nat} {x : Int32}, W.slots[i]? = some (.int x) → yv W i = x := fun q => by unfold yv; rw [q]
  rcases h with ⟨rfl, k1, k2⟩ | ⟨rfl, k1, k2, -⟩
  · rcases h' with ⟨-, m1, m2⟩ | ⟨e, -⟩
    · constructor
      · rintro ⟨e1, e2⟩
        refine ⟨by omega, fun j hj => ?_⟩
        have q := e2 j (by omega)
        rw [yvv (k2 j hj).1, yvv (m2 j (by omega)).1] at q
        exact lo8_inj (hf j hj).1 (k2 j hj).2 (hg j (by omega)).1 (m2 j (by omega)).2 q
      · rintro ⟨rfl, e2⟩
        refine ⟨by omega, fun j hj => ?_⟩
        rw [yvv (k2 j (by omega)).1, yvv (m2 j (by omega)).1, e2 j (by omega)]
    · exact absurd e (by decide)
  · rcases h' with ⟨e, -⟩ | ⟨-, m1, m2, -⟩
    · exact absurd e (by decide)
    · constructor
      · rintro ⟨e1, e2⟩
        refine ⟨by omega, fun j hj => ?_⟩
        have q1 := e2 (2 * j) (by omega)
        have q2 := e2 (2 * j + 1) (by omega)
        rw [yvv (k2 j hj).1, yvv (m2 j (by omega)).1] at q1
        rw [yvv (k2 j hj).2, yvv (m2 j (by omega)).2] at q2
        rw [← pair_says (hf j hj).1 (hf j hj).2, ← pair_says (hg j (by omega)).1 (hg j (by omega)).2, q1, q2]
      · rintro ⟨rfl, e2⟩
        refine ⟨by omega, fun i hi => ?_⟩
        rcases Nat.mod_two_eq_zero_or_one i with e | e
        · obtain ⟨j, rfl⟩ : ∃ j, i = 2 * j := ⟨i / 2, by omega⟩
          rw [yvv (k2 j (by omega)).1, yvv (m2 j (by omega)).1, e2 j (by omega)]
        · obtain ⟨j, rfl⟩ : ∃ j, i = 2 * j + 1 := ⟨i / 2, by omega⟩
          rw [yvv (k2 j (by omega)).2, yvv (m2 j (by omega)).2, e2 j (by omega)]
/-- two codings differ: so do the texts -/
theorem Cod.dif {cd cd' : Int32} {n k : Nat} {f g : Nat → Int32} {V V' : Cell} (h : Cod cd n f V) (h' : Cod cd' k g V') (hne : ¬ cd = cd') : ¬ SameT n f k g := by
  rintro ⟨rfl, e⟩
  rcases h with ⟨rfl, -, k2⟩ | ⟨rfl, -, -, j, hj, hw⟩
  · rcases h' with ⟨rfl, -⟩ | ⟨-, -, -, j, hj, hw⟩
    · exact hne rfl
    · exact (k2 j hj).2 (by rw [e j hj]; exact hw)
  · rcases h' with ⟨-, -, m2⟩ | ⟨rfl, -⟩
    · exact (m2 j hj).2 (by rw [← e j hj]; exact hw)
    · exact hne rfl
/-- an object of exactly C is an instance of C -/
theorem cinst {p : Program} {l : Launch} {e : Env} {R : Room} {s : State} {m : MethodId} {args : Array Value} {below : List Frame} {meth : Method} {c : Code} {T : State} {locs : List Loc} {cells slots : Nat} (X : Stand p l e R s m args below meth c T locs cells slots) (hexec : p.tables.exec = Jvm.exec) {own C : String} {index : Nat} (hown : s.vm.findClass own = some m.cls) (hlink : (Cond.classLink own index C).before args s = true) {a : Addr} (hE : Exact C a T)
    {g : JFrame} (hg : g.method = m) {rest : List Value} (hstack : g.stack = .ref a :: rest) (hdg : decode c.code g.pc = .ok (.instanceof index, 3)) :
    ∃ T', Stand p l e R s m args below meth c T' locs cells slots ∧ T'.heap = T.heap ∧ ∀ target, Steps p.tables e below (T'.setTop { g with pc := g.pc + 3, stack := .int 1 :: rest }) target → Steps p.tables e below (T.setTop g) target := by
  obtain ⟨cB, h1, D, h2, h3, h4⟩ := hE
  have h1' : s.vm.findClass C = some cB := by rw [← X.warmed.alike.findClass]; exact h1
  obtain ⟨vm', X', st⟩ := X.instanceofYes hexec hown hlink h2 h4 h1' (by rw [h3]; exact Jvm.Free.SB.assignable_self _ _) hg hstack hdg
  exact ⟨_, X', rfl, st⟩
theorem cself {p : Program} {l : Launch} {e : Env} {R : Room} {s : State} {m : MethodId} {args : Array Value} {below : List Frame} {meth : Method} {c : Code} {T : State} {locs : List Loc} {cells slots : Nat} (X : Stand p l e R s m args below meth c T locs cells slots) (hexec : p.tables.exec = Jvm.exec) {own C : String} {index : Nat} (hown : s.vm.findClass own = some m.cls) (hlink : (Cond.classLink own index C).before args s = true) {a : Addr} (hE : Exact C a T)
    {g : JFrame} (hg : g.method = m) {rest : List Value} (hstack : g.stack = .ref a :: rest) (hdg : decode c.code g.pc = .ok (.checkcast index, 3)) :
    ∃ T', Stand p l e R s m args below meth c T' locs cells slots ∧ T'.heap = T.heap ∧ ∀ target, Steps p.tables e below (T'.setTop { g with pc := g.pc + 3, stack := .ref a :: rest }) target → Steps p.tables e below (T.setTop g) target := by
  obtain ⟨cB, h1, D, h2, h3, h4⟩ := hE
  have h1' : s.vm.findClass C = some cB := by rw [← X.warmed.alike.findClass]; exact h1
  obtain ⟨vm', X', st⟩ := X.checkcastYes hexec hown hlink h2 h4 h1' (by rw [h3]; exact Jvm.Free.SB.assignable_self _ _) hg hstack hdg
  exact ⟨_, X', rfl, fun t h => st t (by rw [← hstack] at h; exact h)⟩
namespace SEq
def yN : MethodName := ⟨"java/lang/String", "equals", "(Ljava/lang/Object;)Z"⟩
abbrev yB : ByteArray := jdk_42_method_66_code
theorem d0 : decode yB 0 = .ok (.aload_n 0, 1) := by decide +kernel
theorem d1 : decode yB 1 = .ok (.aload_n 1, 1) := by decide +kernel
theorem d2 : decode yB 2 = .ok (.if_acmp (.ne) 5, 3) := by decide +kernel
theorem d5 : decode yB 5 = .ok (.iconst 1, 1) := by decide +kernel
theorem d6 : decode yB 6 = .ok (.ireturn, 1) := by decide +kernel
theorem d7 : decode yB 7 = .ok (.aload_n 1, 1) := by decide +kernel
theorem d8 : decode yB 8 = .ok (.instanceof 10, 3) := by decide +kernel
theorem d11 : decode yB 11 = .ok (.ifCond (.eq) 43, 3) := by decide +kernel
theorem d14 : decode yB 14 = .ok (.aload_n 1, 1) := by decide +kernel
theorem d15 : decode yB 15 = .ok (.checkcast 10, 3) := by decide +kernel
theorem d18 : decode yB 18 = .ok (.astore_n 2, 1) := by decide +kernel
theorem d19 : decode yB 19 = .ok (.getstatic 38, 3) := by decide +kernel
theorem d22 : decode yB 22 = .ok (.ifCond (.eq) 14, 3) := by decide +kernel
theorem d25 : decode yB 25 = .ok (.aload_n 0, 1) := by decide +kernel
theorem d26 : decode yB 26 = .ok (.getfield 15, 3) := by decide +kernel
theorem d29 : decode yB 29 = .ok (.aload_n 2, 1) := by decide +kernel
theorem d30 : decode yB 30 = .ok (.getfield 15, 3) := by decide +kernel
theorem d33 : decode yB 33 = .ok (.if_icmp (.ne) 21, 3) := by decide +kernel
theorem d36 : decode yB 36 = .ok (.aload_n 0, 1) := by decide +kernel
theorem d37 : decode yB 37 = .ok (.getfield 9, 3) := by decide +kernel
theorem d40 : decode yB 40 = .ok (.aload_n 2, 1) := by decide +kernel
theorem d41 : decode yB 41 = .ok (.getfield 9, 3) := by decide +kernel
theorem d44 : decode yB 44 = .ok (.invokestatic 541, 3) := by decide +kernel
theorem d47 : decode yB 47 = .ok (.ifCond (.eq) 7, 3) := by decide +kernel
theorem d50 : decode yB 50 = .ok (.iconst 1, 1) := by decide +kernel
theorem d51 : decode yB 51 = .ok (.goto 4, 3) := by decide +kernel
theorem d54 : decode yB 54 = .ok (.iconst 0, 1) := by decide +kernel
theorem d55 : decode yB 55 = .ok (.ireturn, 1) := by decide +kernel
def site : List Cond := [.classLink "java/lang/String" 10 "java/lang/String", .fieldLink "java/lang/String" 38 "java/lang/String" "COMPACT_STRINGS" "Z", .fieldLink "java/lang/String" 15 "java/lang/String" "coder" "B", .fieldLink "java/lang/String" 9 "java/lang/String" "value" "[B", LEq.tab] ++ staticW "java/lang/String" 541 LEq.yN
def tab : Cond := tabOf yN yB 3 (some .boolean) site
def P (x t : Addr) (V : Cell) (cd : Int32) (n : Nat) (f : Nat → Int32) (y t' : Addr) (V' : Cell) (cd' : Int32) (k : Nat) (g : Nat → Int32) (z : Int32) (args : Array Value) (s : State) : Prop := args = #[.ref x, .ref y] ∧ Txt x t V cd n f s ∧ Txt y t' V' cd' k g s ∧ StaticIs s "java/lang/String" "COMPACT_STRINGS" "Z" (.int z) ∧ ¬ z = 0
/-- equals(Object) of two Strings: whether the texts are the same -/
theorem law (l : Launch) (x t : Addr) (V : Cell) (cd : Int32) (n : Nat) (f : Nat → Int32) (y t' : Addr) (V' : Cell) (cd' : Int32) (k : Nat) (g : Nat → Int32) (z : Int32) : Law l yN 2 1 1 14 yB 3 (some .boolean) site (P x t V cd n f y t' V' cd' k g z) (Says01 (SameT n f k g)) [] 0 0 := by
  refine Law.of_walk (plainFor_of_name (by decide +kernel)) (by decide +kernel) (by decide +kernel) (by decide) (fun _ _ h => by rw [h.1]; rfl) (fun _ U U' hal hh h => ⟨h.1, h.2.1.mv hal hh, h.2.2.1.mv hal hh, h.2.2.2.1.there hal hh, h.2.2.2.2⟩) (fun r U U' V V' h1 hal h2 h => Says01.mv r U U' V V' h1 hal h2 h) ?_
  intro p e s m args below meth c s₁ X0 hexec hbytes hml hret hlk hnm hown hh0 W hP
  obtain ⟨rfl, hx, hy, s1, hz⟩ := hP
  have c1 : Steps p.tables e below (s₁.setTop (entryFrame m #[.ref x, .ref y] 3)) (s₁.setTop (mkF m 2 #[.val (.ref x), .val (.ref y), .unset] [.ref y, .ref x])) := Steps.trans (entry rfl) (by
    show Steps p.tables e below (s₁.setTop (mkF m 0 #[.val (.ref x), .val (.ref y), .unset] [])) _
    refine XS.aloadN X0.here hexec rfl (hb hbytes d0) rfl rfl ?_
    refine XS.aloadN X0.here hexec rfl (hb hbytes d1) rfl rfl ?_
    exact Steps.refl _)
  by_cases hxy : x = y
  · have c2 : Steps p.tables e below (s₁.setTop (entryFrame m #[.ref x, .ref y] 3)) (s₁.setTop (mkF m 6 #[.val (.ref x), .val (.ref y), .unset] [.int 1])) := c1.trans (by
      refine acmpNo X0.here hexec rfl (hb hbytes d2) rfl rfl rfl (by simp [acmp, hxy]) ?_
      refine iconstV X0.here hexec rfl 1 (hb hbytes d5) (by decide) ?_
      exact Steps.refl _)
    subst hxy
    have ec : cd = cd' := by
      obtain ⟨D, fd, a1, a2, a3⟩ := hx.2.2.1
      obtain ⟨D', fd', b1, b2, b3⟩ := hy.2.2.1
      cases a1.symm.trans b1
      obtain ⟨q1, q2, q3, q4⟩ := a2.1
      obtain ⟨r1, r2, r3, r4⟩ := b2.1
      cases q4.symm.trans r4
      cases a3.symm.trans b3; rfl
    have et : t = t' := by
      obtain ⟨D, fd, a1, a2, a3⟩ := hx.2.1
      obtain ⟨D', fd', b1, b2, b3⟩ := hy.2.1
      cases a1.symm.trans b1
      obtain ⟨q1, q2, q3, q4⟩ := a2.1
      obtain ⟨r1, r2, r3, r4⟩ := b2.1
      cases q4.symm.trans r4
      cases a3.symm.trans b3; rfl
    subst ec et
    have ev : V = V' := by cases hx.2.2.2.1.1.symm.trans hy.2.2.2.1.1; rfl
    subst ev
    have hs : SameT n f k g := (Cod.eqv hx.2.2.2.2.1 hy.2.2.2.2.1 hx.2.2.2.2.2 hy.2.2.2.2.2).mp ⟨rfl, fun _ _ => rfl⟩
    exact ⟨s₁, some (.int 1), _, _, _, X0, rfl, rfl, rfl, (fun h => by cases h), ⟨1, rfl, hh0, Or.inl ⟨rfl, hs⟩⟩, fun fs hl => c2.trans (X0.ireturnOut hexec hret rfl (Or.inr (Or.inl rfl)) (hb hbytes d6) hl)⟩
  · have c2 : Steps p.tables e below (s₁.setTop (entryFrame m #[.ref x, .ref y] 3)) (s₁.setTop (mkF m 8 #[.val (.ref x), .val (.ref y), .unset] [.ref y])) := c1.trans (by
      refine acmpYes X0.here hexec rfl (pc0 := 2) rfl (hb hbytes d2) rfl rfl rfl (by simp [acmp, hxy]) (by decide) rfl ?_
      refine XS.aloadN X0.here hexec rfl (hb hbytes d7) rfl rfl ?_
      exact Steps.refl _)
    obtain ⟨T3, X3, q3, st3⟩ := cinst X0 hexec hown (wk W (.classLink "java/lang/String" 10 "java/lang/String")) (hy.mv X0.warmed.alike hh0).1 (g := (mkF m 8 #[.val (.ref x), .val (.ref y), .unset] [.ref y])) rfl (rest := []) rfl (hb hbytes d8)
    have hh3 := q3.trans hh0
    have c4 : Steps p.tables e below (s₁.setTop (entryFrame m #[.ref x, .ref y] 3)) (T3.setTop (mkF m 15 #[.val (.ref x), .val (.ref y), .unset] [.ref y])) := (c2.trans (st3 _ (Steps.refl _))).trans (by
      refine XS.ifNo X3.here hexec rfl (hb hbytes d11) rfl (i0_eq_f (by decide)) ?_
      refine XS.aloadN X3.here hexec rfl (hb hbytes d14) rfl rfl ?_
      exact Steps.refl _)
    obtain ⟨T5, X5, q5, st5⟩ := cself X3 hexec hown (wk W (.classLink "java/lang/String" 10 "java/lang/String")) (hy.mv X3.warmed.alike hh3).1 (g := (mkF m 15 #[.val (.ref x), .val (.ref y), .unset] [.ref y])) rfl (rest := []) rfl (hb hbytes d15)
    have hh5 := q5.trans hh3
    have c6 : Steps p.tables e below (s₁.setTop (entryFrame m #[.ref x, .ref y] 3)) (T5.setTop (mkF m 19 #[.val (.ref x), .val (.ref y), .val (.ref y)] [])) := (c4.trans (st5 _ (Steps.refl _))).trans (by
      refine XS.astoreN X5.here hexec rfl (hb hbytes d18) rfl rfl rfl ?_
      exact Steps.refl _)
    obtain ⟨T7, X7, q7, st7⟩ := X5.sget hexec hown (wk W (.fieldLink "java/lang/String" 38 "java/lang/String" "COMPACT_STRINGS" "Z")) s1 (fun _ _ h => by rw [hh5]; exact h) (g := (mkF m 19 #[.val (.ref x), .val (.ref y), .val (.ref y)] [])) rfl (hb hbytes d19)
    have hh7 := q7.trans hh5
    have c8 : Steps p.tables e below (s₁.setTop (entryFrame m #[.ref x, .ref y] 3)) (T7.setTop (mkF m 26 #[.val (.ref x), .val (.ref y), .val (.ref y)] [.ref x])) := (c6.trans (st7 _ (Steps.refl _))).trans (by
      refine XS.ifNo X7.here hexec rfl (hb hbytes d22) rfl (i0_eq_f hz) ?_
      refine XS.aloadN X7.here hexec rfl (hb hbytes d25) rfl rfl ?_
      exact Steps.refl _)
    obtain ⟨T9, X9, q9, st9⟩ := X7.hget hexec hown (wk W (.fieldLink "java/lang/String" 15 "java/lang/String" "coder" "B")) (hx.mv X7.warmed.alike hh7).2.2.1 (g := (mkF m 26 #[.val (.ref x), .val (.ref y), .val (.ref y)] [.ref x])) rfl (rest := []) rfl (hb hbytes d26)
    have hh9 := q9.trans hh7
    have c10 : Steps p.tables e below (s₁.setTop (entryFrame m #[.ref x, .ref y] 3)) (T9.setTop (mkF m 30 #[.val (.ref x), .val (.ref y), .val (.ref y)] [.ref y, .int cd])) := (c8.trans (st9 _ (Steps.refl _))).trans (by
      refine XS.aloadN X9.here hexec rfl (hb hbytes d29) rfl rfl ?_
      exact Steps.refl _)
    obtain ⟨T11, X11, q11, st11⟩ := X9.hget hexec hown (wk W (.fieldLink "java/lang/String" 15 "java/lang/String" "coder" "B")) (hy.mv X9.warmed.alike hh9).2.2.1 (g := (mkF m 30 #[.val (.ref x), .val (.ref y), .val (.ref y)] [.ref y, .int cd])) rfl (rest := [.int cd]) rfl (hb hbytes d30)
    have hh11 := q11.trans hh9
    have c12 : Steps p.tables e below (s₁.setTop (entryFrame m #[.ref x, .ref y] 3)) (T11.setTop (mkF m 33 #[.val (.ref x), .val (.ref y), .val (.ref y)] [.int cd', .int cd])) := c10.trans (st11 _ (Steps.refl _))
    by_cases hcd : cd = cd'
    · subst hcd
      have c13 : Steps p.tables e below (s₁.setTop (entryFrame m #[.ref x, .ref y] 3)) (T11.setTop (mkF m 37 #[.val (.ref x), .val (.ref y), .val (.ref y)] [.ref x])) := c12.trans (by
        refine XS.icmpNo X11.here hexec rfl (hb hbytes d33) rfl (ii_ne_f rfl) ?_
        refine XS.aloadN X11.here hexec rfl (hb hbytes d36) rfl rfl ?_
        exact Steps.refl _)
      obtain ⟨T14, X14, q14, st14⟩ := X11.hget hexec hown (wk W (.fieldLink "java/lang/String" 9 "java/lang/String" "value" "[B")) (hx.mv X11.warmed.alike hh11).2.1 (g := (mkF m 37 #[.val (.ref x), .val (.ref y), .val (.ref y)] [.ref x])) rfl (rest := []) rfl (hb hbytes d37)
      have hh14 := q14.trans hh11
      have c15 : Steps p.tables e below (s₁.setTop (entryFrame m #[.ref x, .ref y] 3)) (T14.setTop (mkF m 41 #[.val (.ref x), .val (.ref y), .val (.ref y)] [.ref y, .ref t])) := (c13.trans (st14 _ (Steps.refl _))).trans (by
        refine XS.aloadN X14.here hexec rfl (hb hbytes d40) rfl rfl ?_
        exact Steps.refl _)
      obtain ⟨T16, X16, q16, st16⟩ := X14.hget hexec hown (wk W (.fieldLink "java/lang/String" 9 "java/lang/String" "value" "[B")) (hy.mv X14.warmed.alike hh14).2.1 (g := (mkF m 41 #[.val (.ref x), .val (.ref y), .val (.ref y)] [.ref y, .ref t])) rfl (rest := [.ref t]) rfl (hb hbytes d41)
      have hh16 := q16.trans hh14
      have c17 : Steps p.tables e below (s₁.setTop (entryFrame m #[.ref x, .ref y] 3)) (T16.setTop (mkF m 44 #[.val (.ref x), .val (.ref y), .val (.ref y)] [.ref t', .ref t])) := c15.trans (st16 _ (Steps.refl _))
      obtain ⟨v18, T18, X18, E18, g18⟩ := X16.callS hexec (LEq.law l t V t' V') hown (wks W (staticW "java/lang/String" 541 LEq.yN)) (wk W LEq.tab) (W := 0) (Nat.le_of_ble_eq_true rfl) (Nat.le_of_ble_eq_true rfl) (Nat.le_refl _) (Nat.le_refl _) (g := (mkF m 44 #[.val (.ref x), .val (.ref y), .val (.ref y)] [.ref t', .ref t])) rfl (by rw [hml]; rfl) c17 (argsL := [.ref t, .ref t']) (rest := []) rfl rfl (by show 2 * 0 + 0 ≤ _; decide) (hb hbytes d44) (⟨rfl, hx.2.2.2.1.mv X16.warmed.alike hh16, hx.2.2.2.2.1.ty, hy.2.2.2.1.mv X16.warmed.alike hh16, hy.2.2.2.2.1.ty⟩)
      obtain ⟨v, rfl, q18, hv⟩ := E18
      have iff := Cod.eqv hx.2.2.2.2.1 hy.2.2.2.2.1 hx.2.2.2.2.2 hy.2.2.2.2.2
      rcases hv with ⟨rfl, he⟩ | ⟨rfl, he⟩
      · have c19 : Steps p.tables e below (s₁.setTop (entryFrame m #[.ref x, .ref y] 3)) (T18.setTop (mkF m 55 #[.val (.ref x), .val (.ref y), .val (.ref y)] [.int 1])) := Steps.trans g18 (by
          refine XS.ifNo X18.here hexec rfl (hb hbytes d47) rfl (i0_eq_f (by decide)) ?_
          refine iconstV X18.here hexec rfl 1 (hb hbytes d50) (by decide) ?_
          refine XS.goto X18.here hexec rfl (pc0 := 51) rfl (hb hbytes d51) (by decide) rfl ?_
          exact Steps.refl _)
        exact ⟨T18, some (.int 1), _, _, _, X18, rfl, rfl, rfl, (fun h => by cases h), ⟨1, rfl, q18.trans hh16, Or.inl ⟨rfl, iff.mp he⟩⟩, fun fs hl => c19.trans (X18.ireturnOut hexec hret rfl (Or.inr (Or.inl rfl)) (hb hbytes d55) hl)⟩
      · have c19 : Steps p.tables e below (s₁.setTop (entryFrame m #[.ref x, .ref y] 3)) (T18.setTop (mkF m 55 #[.val (.ref x), .val (.ref y), .val (.ref y)] [.int 0])) := Steps.trans g18 (by
          refine XS.ifYes X18.here hexec rfl (pc0 := 47) rfl (hb hbytes d47) rfl (i0_eq_t rfl) (by decide) rfl ?_
          refine iconstV X18.here hexec rfl 0 (hb hbytes d54) (by decide) ?_
          exact Steps.refl _)
        exact ⟨T18, some (.int 0), _, _, _, X18, rfl, rfl, rfl, (fun h => by cases h), ⟨0, rfl, q18.trans hh16, Or.inr ⟨rfl, fun q => he (iff.mpr q)⟩⟩, fun fs hl => c19.trans (X18.ireturnOut hexec hret rfl (Or.inr (Or.inl rfl)) (hb hbytes d55) hl)⟩
    · have c13 : Steps p.tables e below (s₁.setTop (entryFrame m #[.ref x, .ref y] 3)) (T11.setTop (mkF m 55 #[.val (.ref x), .val (.ref y), .val (.ref y)] [.int 0])) := c12.trans (by
        refine XS.icmpYes X11.here hexec rfl (pc0 := 33) rfl (hb hbytes d33) rfl (ii_ne_t hcd) (by decide) rfl ?_
        refine iconstV X11.here hexec rfl 0 (hb hbytes d54) (by decide) ?_
        exact Steps.refl _)
      exact ⟨T11, some (.int 0), _, _, _, X11, rfl, rfl, rfl, (fun h => by cases h), ⟨0, rfl, hh11, Or.inr ⟨rfl, Cod.dif hx.2.2.2.2.1 hy.2.2.2.2.1 hcd⟩⟩, fun fs hl => c13.trans (X11.ireturnOut hexec hret rfl (Or.inr (Or.inl rfl)) (hb hbytes d55) hl)⟩
theorem pays {l : Launch} {R : Room} {p : Program} {e : Env} {below : List Frame} {s : State} {sargs : Array Value} {len W : Nat} (x t : Addr) (V : Cell) (cd : Int32) (n : Nat) (f : Nat → Int32) (y t' : Addr) (V' : Cell) (cd' : Int32) (k : Nat) (g : Nat → Int32) (z : Int32) (htab : tab.before sargs s = true) (hfr : 2 ≤ R.frames) (hlo : W + 28 ≤ R.locals) :
    Back l R p e below s sargs yN len W (fun A₁ a₁ => A₁.cells + 0 ≤ R.cells ∧ A₁.slots + 0 ≤ R.slots ∧ P x t V cd n f y t' V' cd' k g z a₁ A₁.U) (fun A₁ _ v₁ B₁ => Says01 (SameT n f k g) v₁ A₁.U B₁.U ∧ B₁.locs = A₁.locs ++ [] ∧ B₁.cells = A₁.cells + 0 ∧ B₁.slots = A₁.slots + 0) :=
  (law l x t V cd n f y t' V' cd' k g z).pays htab hfr (by omega)
end SEq
end StrChars
namespace StrChars.Road
open Jvm Sem ClassFile Op Lib Jvm.Stand Jvm.Free Jvm.Free.XT
open Jvm.Lib.Cold (StaticIs)
/-- the words of String.equals(Object) -/
abbrev wordsEq : List Jvm.Cond := [.code SEq.yN SEq.yB 3 (some .boolean), .initialized ST, .classLink ST 10 ST, .fieldLink ST 38 ST "COMPACT_STRINGS" "Z", .fieldLink ST 15 ST "coder" "B", .fieldLink ST 9 ST "value" "[B", .methodLink ST 541 LEq.yN, .static LEq.yN, .code LEq.yN LEq.yB 3 (some .boolean), .initialized "java/lang/StringLatin1"]
theorem tabEq_of {a : Array Value} {s : State} (h : ∀ w ∈ wordsEq, w.before a s = true) : SEq.tab.before a s = true := by
  have hl : LEq.tab.before a s = true := unparts (wk h (.code LEq.yN LEq.yB 3 (some .boolean))) (wks h (.initialized LEq.yN.cls :: LEq.site))
  have q := consq hl h
  exact unparts (wk q (.code SEq.yN SEq.yB 3 (some .boolean))) (wks q (.initialized SEq.yN.cls :: SEq.site))
theorem movedEq {Z s : State} {a0 args : Array Value} (hZ : Z.Warmed39 s.vm) (hw : ∀ d ∈ wordsEq, d.before a0 Z = true) : ∀ d ∈ wordsEq, d.before args s = true := fun d hd => by
  have t : ∀ d ∈ wordsEq, (d.onTables && d.keepsFace) = true := by decide +kernel
  exact RoadKit.mv hZ (hw d hd) (t d hd)
/-- the road's facts of a String, as the laws ask it -/
theorem txt_of {Z U : State} {a0 : Array Value} {kI : Nat} (wi : (Jvm.Cond.instantiable ST kI).before a0 Z = true) (al : Z.vm.Alike U.vm) {x t : Addr} {kb : ClassId} {cs : List Int32} {cd N2 : Int32} {vs : List Value} (E : RoadKit.Exa Z U.heap x ST) (V : RoadKit.Fld Z U.heap x ST "value" "[B" (.ref t)) (C : RoadKit.Fld Z U.heap x ST "coder" "B" (.int cd)) (K : RoadKit.Arv Z U.heap t kb .byte N2 vs (.int 0)) (hc : CodA cs cd N2 vs) (hb : ∀ c ∈ cs, ¬ c < 0 ∧ ¬ (65535 : Int32) < c) (l2 : cs.length ≤ 4000) :
    ∃ A, Txt x t A cd cs.length (fun j => cs.getD j 0) U := by
  obtain ⟨A, K1, K2, K3, K4, K5, K6⟩ := K
  have hcod := hc.cod (by omega) K3 K5
  obtain ⟨D, fV, fC, hB, F1, F2, g1, g2, -, -⟩ := strObj wi al E V C
  exact ⟨A, ⟨_, hB.2.2.1, D, hB.1, rfl, by cases q : D.vm <;> first | rfl | exact absurd q (hB.2.1.2 _)⟩, Has.of hB F1 g1, Has.of hB F2 g2, ⟨K1.1, State.isArrayOf_alike al K1.2.1, K1.2.2, by rcases hcod with ⟨-, q, -⟩ | ⟨-, q, -⟩ <;> omega⟩, hcod, fun j hj => by
    have e : cs.getD j 0 = cs[j] := by simp [List.getD_eq_getElem?_getD, hj]
    show ¬ cs.getD j 0 < 0 ∧ ¬ 65535 < cs.getD j 0
    rw [e]; exact hb _ (List.getElem_mem _)⟩
theorem same_list (cs ds : List Int32) : SameT cs.length (fun j => cs.getD j 0) ds.length (fun j => ds.getD j 0) ↔ cs = ds := by
  constructor
  · rintro ⟨e, q⟩
    refine List.ext_getElem e fun j h1 h2 => ?_
    have := q j h1
    simpa [List.getD_eq_getElem?_getD, h1, h2] using this
  · rintro rfl
    exact ⟨rfl, fun _ _ => rfl⟩
/-- **equals(Object) OF TWO SUCH STRINGS**: 1 just where the chars are the same -/
theorem eqW {p : Program} {l : Launch} {e : Env} {R : Room} {s : State} {args : Array Value} {below : List Frame} {len W : Nat} {Z : State} {a0 : Array Value} {h : Heap} (hZ : Z.Warmed39 s.vm) (hw : ∀ d ∈ wordsEq, d.before a0 Z = true) {kI : Nat} (wi : (Jvm.Cond.instantiable ST kI).before a0 Z = true)
    {x t : Addr} {kb : ClassId} {cs : List Int32} {cd N2 : Int32} {vs : List Value} (E : RoadKit.Exa Z h x ST) (V : RoadKit.Fld Z h x ST "value" "[B" (.ref t)) (C : RoadKit.Fld Z h x ST "coder" "B" (.int cd)) (K : RoadKit.Arv Z h t kb .byte N2 vs (.int 0)) (hc : CodA cs cd N2 vs) (hb : ∀ c ∈ cs, ¬ c < 0 ∧ ¬ (65535 : Int32) < c) (l2 : cs.length ≤ 4000)
    {y t' : Addr} {kb' : ClassId} {ds : List Int32} {cd' N2' : Int32} {vs' : List Value} (E' : RoadKit.Exa Z h y ST) (V' : RoadKit.Fld Z h y ST "value" "[B" (.ref t')) (C' : RoadKit.Fld Z h y ST "coder" "B" (.int cd')) (K' : RoadKit.Arv Z h t' kb' .byte N2' vs' (.int 0)) (hc' : CodA ds cd' N2' vs') (hb' : ∀ c ∈ ds, ¬ c < 0 ∧ ¬ (65535 : Int32) < c) (l2' : ds.length ≤ 4000)
    {z : Int32} (S : RoadKit.Sta Z h ST "COMPACT_STRINGS" "Z" (.int z)) (hz : ¬ z = 0) (hfr : 2 ≤ R.frames) (hlo : W + 28 ≤ R.locals) :
    Back l R p e below s args (⟨"java/lang/String", "equals", "(Ljava/lang/Object;)Z"⟩ : MethodName) len W (fun P a => a = #[.ref x, .ref y] ∧ P.U.heap = h ∧ P.cells + 0 ≤ R.cells ∧ P.slots + 0 ≤ R.slots)
      (fun P _ v B => ∃ L, (((v = some (.int 1) ∧ cs = ds) ∨ (v = some (.int 0) ∧ ¬ cs = ds)) ∧ L = [] ∧ B.U.heap = h) ∧ B.locs = P.locs ++ L ∧ B.cells = P.cells + 0 ∧ B.slots = P.slots + 0) := by
  intro m meth c P g ig mk a X hg hsize hdg hW hn hp'
  obtain ⟨rfl, rfl, r1, r2⟩ := hp'
  have al : Z.vm.Alike P.U.vm := hZ.alike.trans X.warmed.alike
  obtain ⟨A, hx⟩ := txt_of wi al E V C K hc hb l2
  obtain ⟨A', hy⟩ := txt_of wi al E' V' C' K' hc' hb' l2'
  obtain ⟨v, B, X', ⟨⟨w, hv, hh, hq⟩, hl, hk, hs⟩, st⟩ := SEq.pays x t A cd cs.length (fun j => cs.getD j 0) y t' A' cd' ds.length (fun j => ds.getD j 0) z (tabEq_of (movedEq hZ hw)) hfr hlo m meth c P g ig mk _ X hg hsize hdg hW hn ⟨r1, r2, rfl, hx, hy, sta_is al S, hz⟩
  refine ⟨v, B, X', ⟨[], ⟨?_, rfl, hh⟩, hl, hk, hs⟩, st⟩
  rcases hq with ⟨rfl, q⟩ | ⟨rfl, q⟩
  · exact Or.inl ⟨hv, (same_list cs ds).mp q⟩
  · exact Or.inr ⟨hv, fun e => q ((same_list cs ds).mpr e)⟩
end StrChars.Road
namespace StrChars.Road
open Jvm Sem ClassFile Op Lib Jvm.Stand Jvm.Free Jvm.Free.XT
open Jvm.Lib.Cold (StaticIs)
/-- what backV says of its String, as the contracts of this text ask it: cs's low bytes, coder 0 -/
theorem codOf {cs : List Int32} {n : Nat} (hn : cs.length = n) (hb : ∀ c ∈ cs, ¬ 255 < c) : CodA cs 0 (Int32.ofNat n) ((cs.map lo8).map Value.int) := Or.inl ⟨rfl, by rw [hn], by simp [List.map_map, Function.comp_def], hb⟩
end StrChars.Road
end Jvm.Pilot.@@N@@
namespace Jvm.Pilot.@@N@@
open Jvm Jvm.ClassFile Sem Op Lib Jvm.Free Jvm.Stand Jvm.LawKit Jvm.RoadKit Bundle Jvm.Pilot.@@N@@.Jvm.D
section OwnKit
variable {p : Program} {l : Launch} {e : Env} {R : Room} {s : State} {m : MethodId} {args : Array Value} {below : List Frame} {meth : Method} {c : Code} {T : State} {Z : State} {own mn : String} {bytes : ByteArray} {ml n0 k n : Nat} {rt : Option FieldType} {h : Heap} {G : Outcome → State → Prop} {pc q : Nat} {L : Array Slot} {st rest : List Value} {a0 : Array Value}
/-- the run from S comes to an end of which G speaks -/
def Goes (p : Program) (e : Env) (below : List Frame) (G : Outcome → State → Prop) (S : State) : Prop := ∃ s₂ o, Steps p.tables e below S s₂ ∧ s₂.status = .running ∧ Ended s₂ below o ∧ G o s₂
theorem go_st {S S' : State} (f : ∀ t, Steps p.tables e below S' t → Steps p.tables e below S t) (r : Goes p e below G S') : Goes p e below G S := by
  obtain ⟨s₂, o, a, b⟩ := r; exact ⟨s₂, o, f _ a, b⟩
theorem go_tr {S S' : State} (f : Steps p.tables e below S S') (r : Goes p e below G S') : Goes p e below G S := by
  obtain ⟨s₂, o, a, b⟩ := r; exact ⟨s₂, o, f.trans a, b⟩
/-- what a body's walk knows from its start on -/
def Cx (p : Program) (s : State) (m : MethodId) (meth : Method) (c : Code) (Z : State) (own : String) (bytes : ByteArray) (ml : Nat) (rt : Option FieldType) (mn : String) : Prop :=
  p.tables.exec = Jvm.exec ∧ Z.Warmed39 s.vm ∧ s.vm.findClass own = some m.cls ∧ c.code = bytes ∧ c.maxLocals = ml ∧ meth.sig.returnType = rt ∧ meth.locks = false ∧ meth.name = mn
/-- where it stands: the heap is h; all that was written lies at n0 or above; at most k cells and n slots are new -/
def St (p : Program) (l : Launch) (e : Env) (R : Room) (s : State) (m : MethodId) (args : Array Value) (below : List Frame) (meth : Method) (c : Code) (n0 : Nat) (T : State) (h : Heap) (k n : Nat) : Prop :=
  ∃ locs cells slots, Stand p l e R s m args below meth c T locs cells slots ∧ Fr n0 locs ∧ T.heap = h ∧ cells ≤ k ∧ slots ≤ n
def FinN (Q : Option Value → Heap → Prop) (s : State) (n0 k n : Nat) (o : Outcome) (U : State) : Prop := ∃ v L, o = .returned v ∧ (Fr n0 L ∧ Q v U.heap) ∧ FrameEnd s o U L k n
def Met (l : Launch) (Z : State) (y : MethodName) (bytes : ByteArray) (ml : Nat) (rt : Option FieldType) (rm : Room) (as' : Array Value) (h0 : Heap) (n0 : Nat) (Q : Option Value → Heap → Prop) : Prop :=
  ∀ ws : List Jvm.Cond, MetFree l y (head1 (Jvm.Cond.code y bytes ml rt :: ws) rm) (fun a U => a = as' ∧ Z.Warmed39 U.vm ∧ U.heap = h0) (fun _ _ _ _ _ => True) (fun _ U o U' => ∃ v L, o = .returned v ∧ (Fr n0 L ∧ Q v U'.heap) ∧ FrameEnd U o U' L rm.cells rm.slots)
abbrev Met1 (l : Launch) (Z : State) (y : MethodName) (bytes : ByteArray) (ml : Nat) (rt : Option FieldType) (rm : Room) (as' : Array Value) (h0 : Heap) (n0 : Nat) (Q : Value → Heap → Prop) : Prop := Met l Z y bytes ml rt rm as' h0 n0 (fun v h => ∃ w, v = some w ∧ Q w h)
abbrev Met0 (l : Launch) (Z : State) (y : MethodName) (bytes : ByteArray) (ml : Nat) (rt : Option FieldType) (rm : Room) (as' : Array Value) (h0 : Heap) (n0 : Nat) (Q : Heap → Prop) : Prop := Met l Z y bytes ml rt rm as' h0 n0 (fun v h => v = none ∧ Q h)
theorem met_of {y : MethodName} {rm : Room} {as' : Array Value} {Q : Option Value → Heap → Prop} (hp : plainFor y = true) (hef : ∀ m, entryFrame m as' ml = mkF m 0 L [])
    (body : ∀ (p : Program) (e : Env) (s : State) (m : MethodId) (below : List Frame) (meth : Method) (c : Code) (T : State), Cx p s m meth c Z y.cls bytes ml rt y.name → St p l e rm s m as' below meth c n0 T h 0 0 → Goes p e below (FinN Q s n0 rm.cells rm.slots) (T.setTop (mkF m 0 L []))) :
    Met l Z y bytes ml rt rm as' h n0 Q := by
  intro ws
  refine MetFree.of_bodySF hp hisR ?_
  intro p e s m args below meth c s₁ Bd hml hP hK
  obtain ⟨rfl, hZ, hh⟩ := hP
  have e0 : s₁.heap = h := by rw [← hh, Bd.state]; rfl
  have b := body p e s m below meth c s₁ ⟨Bd.exec, hZ, findClass_of_methodNamed Bd.named, Bd.bytes, hml, Bd.returns, BodyLoose.notSynchronized Bd, (name_of_methodNamed Bd.named Bd.method).1⟩ ⟨[], 0, 0, Stand.of_body Bd, Fr.nil _, e0, Nat.le_refl _, Nat.le_refl _⟩
  rw [hef m]
  exact b
theorem St.mono {k' n' : Nat} (X : St p l e R s m args below meth c n0 T h k n) (hk : k ≤ k') (hn : n ≤ n') : St p l e R s m args below meth c n0 T h k' n' := by
  obtain ⟨a, b, d, x, y, z, u, v⟩ := X; exact ⟨a, b, d, x, y, z, Nat.le_trans u hk, Nat.le_trans v hn⟩
theorem g_aloadN (C : Cx p s m meth c Z own bytes ml rt mn) (X : St p l e R s m args below meth c n0 T h k n) {j : Fin 4} {v : Value} (hd : decode bytes pc = .ok (.aload_n j, 1)) (hq : pc + 1 = q) (hl : L[j.val]? = some (.val v)) (hv : v.isRef = true) (r : Goes p e below G (T.setTop (mkF m q L (v :: st)))) : Goes p e below G (T.setTop (mkF m pc L (st))) := by
  obtain ⟨hx, -, -, hby, -⟩ := C
  obtain ⟨_, _, _, X, -⟩ := X
  subst hq 
  exact go_st (fun t k => XS.aloadN X.here hx rfl (hb hby hd) hl hv k) r
theorem g_aload (C : Cx p s m meth c Z own bytes ml rt mn) (X : St p l e R s m args below meth c n0 T h k n) {j : Nat} {v : Value} (hd : decode bytes pc = .ok (.aload j, 2)) (hq : pc + 2 = q) (hl : L[j]? = some (.val v)) (hv : v.isRef = true) (r : Goes p e below G (T.setTop (mkF m q L (v :: st)))) : Goes p e below G (T.setTop (mkF m pc L (st))) := by
  obtain ⟨hx, -, -, hby, -⟩ := C
  obtain ⟨_, _, _, X, -⟩ := X
  subst hq 
  exact go_st (fun t k => XS.aload X.here hx rfl (hb hby hd) hl hv k) r
theorem g_iloadN (C : Cx p s m meth c Z own bytes ml rt mn) (X : St p l e R s m args below meth c n0 T h k n) {j : Fin 4} {v : Int32} (hd : decode bytes pc = .ok (.iload_n j, 1)) (hq : pc + 1 = q) (hl : L[j.val]? = some (.val (.int v))) (r : Goes p e below G (T.setTop (mkF m q L (.int v :: st)))) : Goes p e below G (T.setTop (mkF m pc L (st))) := by
  obtain ⟨hx, -, -, hby, -⟩ := C
  obtain ⟨_, _, _, X, -⟩ := X
  subst hq 
  exact go_st (fun t k => XS.iloadN X.here hx rfl (hb hby hd) hl k) r
theorem g_iload (C : Cx p s m meth c Z own bytes ml rt mn) (X : St p l e R s m args below meth c n0 T h k n) {j : Nat} {v : Int32} (hd : decode bytes pc = .ok (.iload j, 2)) (hq : pc + 2 = q) (hl : L[j]? = some (.val (.int v))) (r : Goes p e below G (T.setTop (mkF m q L (.int v :: st)))) : Goes p e below G (T.setTop (mkF m pc L (st))) := by
  obtain ⟨hx, -, -, hby, -⟩ := C
  obtain ⟨_, _, _, X, -⟩ := X
  subst hq 
  exact go_st (fun t k => XS.iload X.here hx rfl (hb hby hd) hl k) r
theorem g_lloadN (C : Cx p s m meth c Z own bytes ml rt mn) (X : St p l e R s m args below meth c n0 T h k n) {j : Fin 4} {v : Int64} (hd : decode bytes pc = .ok (.lload_n j, 1)) (hq : pc + 1 = q) (hl : L[j.val]? = some (.val (.long v))) (r : Goes p e below G (T.setTop (mkF m q L (.long v :: st)))) : Goes p e below G (T.setTop (mkF m pc L (st))) := by
  obtain ⟨hx, -, -, hby, -⟩ := C
  obtain ⟨_, _, _, X, -⟩ := X
  subst hq 
  exact go_st (fun t k => XS.lloadN X.here hx rfl (hb hby hd) hl k) r
theorem g_lload (C : Cx p s m meth c Z own bytes ml rt mn) (X : St p l e R s m args below meth c n0 T h k n) {j : Nat} {v : Int64} (hd : decode bytes pc = .ok (.lload j, 2)) (hq : pc + 2 = q) (hl : L[j]? = some (.val (.long v))) (r : Goes p e below G (T.setTop (mkF m q L (.long v :: st)))) : Goes p e below G (T.setTop (mkF m pc L (st))) := by
  obtain ⟨hx, -, -, hby, -⟩ := C
  obtain ⟨_, _, _, X, -⟩ := X
  subst hq 
  exact go_st (fun t k => XS.lload X.here hx rfl (hb hby hd) hl k) r
theorem g_iconst (C : Cx p s m meth c Z own bytes ml rt mn) (X : St p l e R s m args below meth c n0 T h k n) {i : Int} {z : Int32} (hd : decode bytes pc = .ok (.iconst i, 1)) (hq : pc + 1 = q) (hz : Int32.ofInt i = z) (r : Goes p e below G (T.setTop (mkF m q L (.int z :: st)))) : Goes p e below G (T.setTop (mkF m pc L (st))) := by
  obtain ⟨hx, -, -, hby, -⟩ := C
  obtain ⟨_, _, _, X, -⟩ := X
  subst hq hz
  exact go_st (fun t k => XS.iconst X.here hx rfl (hb hby hd)  k) r
theorem g_bipush (C : Cx p s m meth c Z own bytes ml rt mn) (X : St p l e R s m args below meth c n0 T h k n) {i : Int} {z : Int32} (hd : decode bytes pc = .ok (.bipush i, 2)) (hq : pc + 2 = q) (hz : (Int8.ofInt i).toInt32 = z) (r : Goes p e below G (T.setTop (mkF m q L (.int z :: st)))) : Goes p e below G (T.setTop (mkF m pc L (st))) := by
  obtain ⟨hx, -, -, hby, -⟩ := C
  obtain ⟨_, _, _, X, -⟩ := X
  subst hq hz
  exact go_st (fun t k => XS.bipush X.here hx rfl (hb hby hd)  k) r
theorem g_sipush (C : Cx p s m meth c Z own bytes ml rt mn) (X : St p l e R s m args below meth c n0 T h k n) {i : Int} {z : Int32} (hd : decode bytes pc = .ok (.sipush i, 3)) (hq : pc + 3 = q) (hz : (Int16.ofInt i).toInt32 = z) (r : Goes p e below G (T.setTop (mkF m q L (.int z :: st)))) : Goes p e below G (T.setTop (mkF m pc L (st))) := by
  obtain ⟨hx, -, -, hby, -⟩ := C
  obtain ⟨_, _, _, X, -⟩ := X
  subst hq hz
  exact go_st (fun t k => XS.sipush X.here hx rfl (hb hby hd)  k) r
theorem g_aconstNull (C : Cx p s m meth c Z own bytes ml rt mn) (X : St p l e R s m args below meth c n0 T h k n)  (hd : decode bytes pc = .ok (.aconst_null, 1)) (hq : pc + 1 = q)  (r : Goes p e below G (T.setTop (mkF m q L (.null :: st)))) : Goes p e below G (T.setTop (mkF m pc L (st))) := by
  obtain ⟨hx, -, -, hby, -⟩ := C
  obtain ⟨_, _, _, X, -⟩ := X
  subst hq 
  exact go_st (fun t k => XS.aconstNull X.here hx rfl (hb hby hd)  k) r
theorem g_iadd (C : Cx p s m meth c Z own bytes ml rt mn) (X : St p l e R s m args below meth c n0 T h k n) {x y z : Int32} (hd : decode bytes pc = .ok (.iadd, 1)) (hq : pc + 1 = q) (hz : x + y = z) (r : Goes p e below G (T.setTop (mkF m q L (.int z :: st)))) : Goes p e below G (T.setTop (mkF m pc L (.int y :: .int x :: st))) := by
  obtain ⟨hx, -, -, hby, -⟩ := C
  obtain ⟨_, _, _, X, -⟩ := X
  subst hq hz
  exact go_st (fun t k => XS.iadd X.here hx rfl (hb hby hd) rfl k) r
theorem g_isub (C : Cx p s m meth c Z own bytes ml rt mn) (X : St p l e R s m args below meth c n0 T h k n) {x y z : Int32} (hd : decode bytes pc = .ok (.isub, 1)) (hq : pc + 1 = q) (hz : x - y = z) (r : Goes p e below G (T.setTop (mkF m q L (.int z :: st)))) : Goes p e below G (T.setTop (mkF m pc L (.int y :: .int x :: st))) := by
  obtain ⟨hx, -, -, hby, -⟩ := C
  obtain ⟨_, _, _, X, -⟩ := X
  subst hq hz
  exact go_st (fun t k => XS.isub X.here hx rfl (hb hby hd) rfl k) r
theorem g_imul (C : Cx p s m meth c Z own bytes ml rt mn) (X : St p l e R s m args below meth c n0 T h k n) {x y z : Int32} (hd : decode bytes pc = .ok (.imul, 1)) (hq : pc + 1 = q) (hz : x * y = z) (r : Goes p e below G (T.setTop (mkF m q L (.int z :: st)))) : Goes p e below G (T.setTop (mkF m pc L (.int y :: .int x :: st))) := by
  obtain ⟨hx, -, -, hby, -⟩ := C
  obtain ⟨_, _, _, X, -⟩ := X
  subst hq hz
  exact go_st (fun t k => XS.imul X.here hx rfl (hb hby hd) rfl k) r
theorem g_iand (C : Cx p s m meth c Z own bytes ml rt mn) (X : St p l e R s m args below meth c n0 T h k n) {x y z : Int32} (hd : decode bytes pc = .ok (.iand, 1)) (hq : pc + 1 = q) (hz : x &&& y = z) (r : Goes p e below G (T.setTop (mkF m q L (.int z :: st)))) : Goes p e below G (T.setTop (mkF m pc L (.int y :: .int x :: st))) := by
  obtain ⟨hx, -, -, hby, -⟩ := C
  obtain ⟨_, _, _, X, -⟩ := X
  subst hq hz
  exact go_st (fun t k => XS.iand X.here hx rfl (hb hby hd) rfl k) r
theorem g_ior (C : Cx p s m meth c Z own bytes ml rt mn) (X : St p l e R s m args below meth c n0 T h k n) {x y z : Int32} (hd : decode bytes pc = .ok (.ior, 1)) (hq : pc + 1 = q) (hz : x ||| y = z) (r : Goes p e below G (T.setTop (mkF m q L (.int z :: st)))) : Goes p e below G (T.setTop (mkF m pc L (.int y :: .int x :: st))) := by
  obtain ⟨hx, -, -, hby, -⟩ := C
  obtain ⟨_, _, _, X, -⟩ := X
  subst hq hz
  exact go_st (fun t k => XS.ior X.here hx rfl (hb hby hd) rfl k) r
theorem g_ixor (C : Cx p s m meth c Z own bytes ml rt mn) (X : St p l e R s m args below meth c n0 T h k n) {x y z : Int32} (hd : decode bytes pc = .ok (.ixor, 1)) (hq : pc + 1 = q) (hz : x ^^^ y = z) (r : Goes p e below G (T.setTop (mkF m q L (.int z :: st)))) : Goes p e below G (T.setTop (mkF m pc L (.int y :: .int x :: st))) := by
  obtain ⟨hx, -, -, hby, -⟩ := C
  obtain ⟨_, _, _, X, -⟩ := X
  subst hq hz
  exact go_st (fun t k => XS.ixor X.here hx rfl (hb hby hd) rfl k) r
theorem g_ishl (C : Cx p s m meth c Z own bytes ml rt mn) (X : St p l e R s m args below meth c n0 T h k n) {x y z : Int32} (hd : decode bytes pc = .ok (.ishl, 1)) (hq : pc + 1 = q) (hz : x <<< (y &&& 31) = z) (r : Goes p e below G (T.setTop (mkF m q L (.int z :: st)))) : Goes p e below G (T.setTop (mkF m pc L (.int y :: .int x :: st))) := by
  obtain ⟨hx, -, -, hby, -⟩ := C
  obtain ⟨_, _, _, X, -⟩ := X
  subst hq hz
  exact go_st (fun t k => XS.ishl X.here hx rfl (hb hby hd) rfl k) r
theorem g_ishr (C : Cx p s m meth c Z own bytes ml rt mn) (X : St p l e R s m args below meth c n0 T h k n) {x y z : Int32} (hd : decode bytes pc = .ok (.ishr, 1)) (hq : pc + 1 = q) (hz : x >>> (y &&& 31) = z) (r : Goes p e below G (T.setTop (mkF m q L (.int z :: st)))) : Goes p e below G (T.setTop (mkF m pc L (.int y :: .int x :: st))) := by
  obtain ⟨hx, -, -, hby, -⟩ := C
  obtain ⟨_, _, _, X, -⟩ := X
  subst hq hz
  exact go_st (fun t k => XS.ishr X.here hx rfl (hb hby hd) rfl k) r
theorem g_iushr (C : Cx p s m meth c Z own bytes ml rt mn) (X : St p l e R s m args below meth c n0 T h k n) {x y z : Int32} (hd : decode bytes pc = .ok (.iushr, 1)) (hq : pc + 1 = q) (hz : (x.toUInt32 >>> (y &&& 31).toUInt32).toInt32 = z) (r : Goes p e below G (T.setTop (mkF m q L (.int z :: st)))) : Goes p e below G (T.setTop (mkF m pc L (.int y :: .int x :: st))) := by
  obtain ⟨hx, -, -, hby, -⟩ := C
  obtain ⟨_, _, _, X, -⟩ := X
  subst hq hz
  exact go_st (fun t k => XS.iushr X.here hx rfl (hb hby hd) rfl k) r
theorem g_idiv (C : Cx p s m meth c Z own bytes ml rt mn) (X : St p l e R s m args below meth c n0 T h k n) {x y z : Int32} (hd : decode bytes pc = .ok (.idiv, 1)) (hq : pc + 1 = q) (hy : y ≠ 0) (hz : x / y = z) (r : Goes p e below G (T.setTop (mkF m q L (.int z :: st)))) : Goes p e below G (T.setTop (mkF m pc L (.int y :: .int x :: st))) := by
  obtain ⟨hx, -, -, hby, -⟩ := C
  obtain ⟨_, _, _, X, -⟩ := X
  subst hq hz
  exact go_st (fun t k => XS.idiv X.here hx rfl (hb hby hd) rfl hy k) r
theorem g_irem (C : Cx p s m meth c Z own bytes ml rt mn) (X : St p l e R s m args below meth c n0 T h k n) {x y z : Int32} (hd : decode bytes pc = .ok (.irem, 1)) (hq : pc + 1 = q) (hy : y ≠ 0) (hz : x % y = z) (r : Goes p e below G (T.setTop (mkF m q L (.int z :: st)))) : Goes p e below G (T.setTop (mkF m pc L (.int y :: .int x :: st))) := by
  obtain ⟨hx, -, -, hby, -⟩ := C
  obtain ⟨_, _, _, X, -⟩ := X
  subst hq hz
  exact go_st (fun t k => iremM X hx rfl (hb hby hd) rfl hy k) r
theorem g_ineg (C : Cx p s m meth c Z own bytes ml rt mn) (X : St p l e R s m args below meth c n0 T h k n) {x z : Int32} (hd : decode bytes pc = .ok (.ineg, 1)) (hq : pc + 1 = q) (hz : -x = z) (r : Goes p e below G (T.setTop (mkF m q L (.int z :: st)))) : Goes p e below G (T.setTop (mkF m pc L (.int x :: st))) := by
  obtain ⟨hx, -, -, hby, -⟩ := C
  obtain ⟨_, _, _, X, -⟩ := X
  subst hq hz
  exact go_st (fun t k => XS.ineg X.here hx rfl (hb hby hd) rfl k) r
theorem g_ladd (C : Cx p s m meth c Z own bytes ml rt mn) (X : St p l e R s m args below meth c n0 T h k n) {x y z : Int64} (hd : decode bytes pc = .ok (.ladd, 1)) (hq : pc + 1 = q) (hz : x + y = z) (r : Goes p e below G (T.setTop (mkF m q L (.long z :: st)))) : Goes p e below G (T.setTop (mkF m pc L (.long y :: .long x :: st))) := by
  obtain ⟨hx, -, -, hby, -⟩ := C
  obtain ⟨_, _, _, X, -⟩ := X
  subst hq hz
  exact go_st (fun t k => XS.ladd X.here hx rfl (hb hby hd) rfl k) r
theorem g_lsub (C : Cx p s m meth c Z own bytes ml rt mn) (X : St p l e R s m args below meth c n0 T h k n) {x y z : Int64} (hd : decode bytes pc = .ok (.lsub, 1)) (hq : pc + 1 = q) (hz : x - y = z) (r : Goes p e below G (T.setTop (mkF m q L (.long z :: st)))) : Goes p e below G (T.setTop (mkF m pc L (.long y :: .long x :: st))) := by
  obtain ⟨hx, -, -, hby, -⟩ := C
  obtain ⟨_, _, _, X, -⟩ := X
  subst hq hz
  exact go_st (fun t k => XS.lsub X.here hx rfl (hb hby hd) rfl k) r
theorem g_lmul (C : Cx p s m meth c Z own bytes ml rt mn) (X : St p l e R s m args below meth c n0 T h k n) {x y z : Int64} (hd : decode bytes pc = .ok (.lmul, 1)) (hq : pc + 1 = q) (hz : x * y = z) (r : Goes p e below G (T.setTop (mkF m q L (.long z :: st)))) : Goes p e below G (T.setTop (mkF m pc L (.long y :: .long x :: st))) := by
  obtain ⟨hx, -, -, hby, -⟩ := C
  obtain ⟨_, _, _, X, -⟩ := X
  subst hq hz
  exact go_st (fun t k => XS.lmul X.here hx rfl (hb hby hd) rfl k) r
theorem g_land (C : Cx p s m meth c Z own bytes ml rt mn) (X : St p l e R s m args below meth c n0 T h k n) {x y z : Int64} (hd : decode bytes pc = .ok (.land, 1)) (hq : pc + 1 = q) (hz : x &&& y = z) (r : Goes p e below G (T.setTop (mkF m q L (.long z :: st)))) : Goes p e below G (T.setTop (mkF m pc L (.long y :: .long x :: st))) := by
  obtain ⟨hx, -, -, hby, -⟩ := C
  obtain ⟨_, _, _, X, -⟩ := X
  subst hq hz
  exact go_st (fun t k => XS.land X.here hx rfl (hb hby hd) rfl k) r
theorem g_lor (C : Cx p s m meth c Z own bytes ml rt mn) (X : St p l e R s m args below meth c n0 T h k n) {x y z : Int64} (hd : decode bytes pc = .ok (.lor, 1)) (hq : pc + 1 = q) (hz : x ||| y = z) (r : Goes p e below G (T.setTop (mkF m q L (.long z :: st)))) : Goes p e below G (T.setTop (mkF m pc L (.long y :: .long x :: st))) := by
  obtain ⟨hx, -, -, hby, -⟩ := C
  obtain ⟨_, _, _, X, -⟩ := X
  subst hq hz
  exact go_st (fun t k => XS.lor X.here hx rfl (hb hby hd) rfl k) r
theorem g_lxor (C : Cx p s m meth c Z own bytes ml rt mn) (X : St p l e R s m args below meth c n0 T h k n) {x y z : Int64} (hd : decode bytes pc = .ok (.lxor, 1)) (hq : pc + 1 = q) (hz : x ^^^ y = z) (r : Goes p e below G (T.setTop (mkF m q L (.long z :: st)))) : Goes p e below G (T.setTop (mkF m pc L (.long y :: .long x :: st))) := by
  obtain ⟨hx, -, -, hby, -⟩ := C
  obtain ⟨_, _, _, X, -⟩ := X
  subst hq hz
  exact go_st (fun t k => XS.lxor X.here hx rfl (hb hby hd) rfl k) r
theorem g_lshl (C : Cx p s m meth c Z own bytes ml rt mn) (X : St p l e R s m args below meth c n0 T h k n) {x z : Int64} {y : Int32} (hd : decode bytes pc = .ok (.lshl, 1)) (hq : pc + 1 = q) (hz : x <<< (y &&& 0x3f).toInt64 = z) (r : Goes p e below G (T.setTop (mkF m q L (.long z :: st)))) : Goes p e below G (T.setTop (mkF m pc L (.int y :: .long x :: st))) := by
  obtain ⟨hx, -, -, hby, -⟩ := C
  obtain ⟨_, _, _, X, -⟩ := X
  subst hq hz
  exact go_st (fun t k => XS.lshl X.here hx rfl (hb hby hd) rfl k) r
theorem g_lshr (C : Cx p s m meth c Z own bytes ml rt mn) (X : St p l e R s m args below meth c n0 T h k n) {x z : Int64} {y : Int32} (hd : decode bytes pc = .ok (.lshr, 1)) (hq : pc + 1 = q) (hz : x >>> (y &&& 0x3f).toInt64 = z) (r : Goes p e below G (T.setTop (mkF m q L (.long z :: st)))) : Goes p e below G (T.setTop (mkF m pc L (.int y :: .long x :: st))) := by
  obtain ⟨hx, -, -, hby, -⟩ := C
  obtain ⟨_, _, _, X, -⟩ := X
  subst hq hz
  exact go_st (fun t k => XS.lshr X.here hx rfl (hb hby hd) rfl k) r
theorem g_lushr (C : Cx p s m meth c Z own bytes ml rt mn) (X : St p l e R s m args below meth c n0 T h k n) {x z : Int64} {y : Int32} (hd : decode bytes pc = .ok (.lushr, 1)) (hq : pc + 1 = q) (hz : (x.toUInt64 >>> (y &&& 0x3f).toInt64.toUInt64).toInt64 = z) (r : Goes p e below G (T.setTop (mkF m q L (.long z :: st)))) : Goes p e below G (T.setTop (mkF m pc L (.int y :: .long x :: st))) := by
  obtain ⟨hx, -, -, hby, -⟩ := C
  obtain ⟨_, _, _, X, -⟩ := X
  subst hq hz
  exact go_st (fun t k => XS.lushr X.here hx rfl (hb hby hd) rfl k) r
theorem g_ldiv (C : Cx p s m meth c Z own bytes ml rt mn) (X : St p l e R s m args below meth c n0 T h k n) {x y z : Int64} (hd : decode bytes pc = .ok (.ldiv, 1)) (hq : pc + 1 = q) (hy : y ≠ 0) (hz : x / y = z) (r : Goes p e below G (T.setTop (mkF m q L (.long z :: st)))) : Goes p e below G (T.setTop (mkF m pc L (.long y :: .long x :: st))) := by
  obtain ⟨hx, -, -, hby, -⟩ := C
  obtain ⟨_, _, _, X, -⟩ := X
  subst hq hz
  exact go_st (fun t k => XS.ldiv X.here hx rfl (hb hby hd) rfl hy k) r
theorem g_lrem (C : Cx p s m meth c Z own bytes ml rt mn) (X : St p l e R s m args below meth c n0 T h k n) {x y z : Int64} (hd : decode bytes pc = .ok (.lrem, 1)) (hq : pc + 1 = q) (hy : y ≠ 0) (hz : x % y = z) (r : Goes p e below G (T.setTop (mkF m q L (.long z :: st)))) : Goes p e below G (T.setTop (mkF m pc L (.long y :: .long x :: st))) := by
  obtain ⟨hx, -, -, hby, -⟩ := C
  obtain ⟨_, _, _, X, -⟩ := X
  subst hq hz
  have w := lrem_mod x y
  exact go_st (fun t k => XS.lrem X.here hx rfl (hb hby hd) rfl hy (by rw [w]; exact k)) r
theorem g_lneg (C : Cx p s m meth c Z own bytes ml rt mn) (X : St p l e R s m args below meth c n0 T h k n) {x z : Int64} (hd : decode bytes pc = .ok (.lneg, 1)) (hq : pc + 1 = q) (hz : -x = z) (r : Goes p e below G (T.setTop (mkF m q L (.long z :: st)))) : Goes p e below G (T.setTop (mkF m pc L (.long x :: st))) := by
  obtain ⟨hx, -, -, hby, -⟩ := C
  obtain ⟨_, _, _, X, -⟩ := X
  subst hq hz
  exact go_st (fun t k => XS.lneg X.here hx rfl (hb hby hd) rfl k) r
theorem g_i2l (C : Cx p s m meth c Z own bytes ml rt mn) (X : St p l e R s m args below meth c n0 T h k n) {x : Int32} {z : Int64} (hd : decode bytes pc = .ok (.i2l, 1)) (hq : pc + 1 = q) (hz : x.toInt64 = z) (r : Goes p e below G (T.setTop (mkF m q L (.long z :: st)))) : Goes p e below G (T.setTop (mkF m pc L (.int x :: st))) := by
  obtain ⟨hx, -, -, hby, -⟩ := C
  obtain ⟨_, _, _, X, -⟩ := X
  subst hq hz
  exact go_st (fun t k => XS.i2l X.here hx rfl (hb hby hd) rfl k) r
theorem g_l2i (C : Cx p s m meth c Z own bytes ml rt mn) (X : St p l e R s m args below meth c n0 T h k n) {x : Int64} {z : Int32} (hd : decode bytes pc = .ok (.l2i, 1)) (hq : pc + 1 = q) (hz : x.toInt32 = z) (r : Goes p e below G (T.setTop (mkF m q L (.int z :: st)))) : Goes p e below G (T.setTop (mkF m pc L (.long x :: st))) := by
  obtain ⟨hx, -, -, hby, -⟩ := C
  obtain ⟨_, _, _, X, -⟩ := X
  subst hq hz
  exact go_st (fun t k => XS.l2i X.here hx rfl (hb hby hd) rfl k) r
theorem g_i2b (C : Cx p s m meth c Z own bytes ml rt mn) (X : St p l e R s m args below meth c n0 T h k n) {x z : Int32} (hd : decode bytes pc = .ok (.i2b, 1)) (hq : pc + 1 = q) (hz : x.toInt8.toInt32 = z) (r : Goes p e below G (T.setTop (mkF m q L (.int z :: st)))) : Goes p e below G (T.setTop (mkF m pc L (.int x :: st))) := by
  obtain ⟨hx, -, -, hby, -⟩ := C
  obtain ⟨_, _, _, X, -⟩ := X
  subst hq hz
  exact go_st (fun t k => XS.i2b X.here hx rfl (hb hby hd) rfl k) r
theorem g_i2s (C : Cx p s m meth c Z own bytes ml rt mn) (X : St p l e R s m args below meth c n0 T h k n) {x z : Int32} (hd : decode bytes pc = .ok (.i2s, 1)) (hq : pc + 1 = q) (hz : x.toInt16.toInt32 = z) (r : Goes p e below G (T.setTop (mkF m q L (.int z :: st)))) : Goes p e below G (T.setTop (mkF m pc L (.int x :: st))) := by
  obtain ⟨hx, -, -, hby, -⟩ := C
  obtain ⟨_, _, _, X, -⟩ := X
  subst hq hz
  exact go_st (fun t k => XS.i2s X.here hx rfl (hb hby hd) rfl k) r
theorem g_i2c (C : Cx p s m meth c Z own bytes ml rt mn) (X : St p l e R s m args below meth c n0 T h k n) {x z : Int32} (hd : decode bytes pc = .ok (.i2c, 1)) (hq : pc + 1 = q) (hz : x.toUInt32.toUInt16.toUInt32.toInt32 = z) (r : Goes p e below G (T.setTop (mkF m q L (.int z :: st)))) : Goes p e below G (T.setTop (mkF m pc L (.int x :: st))) := by
  obtain ⟨hx, -, -, hby, -⟩ := C
  obtain ⟨_, _, _, X, -⟩ := X
  subst hq hz
  exact go_st (fun t k => XS.i2c X.here hx rfl (hb hby hd) rfl k) r
theorem g_lconst (C : Cx p s m meth c Z own bytes ml rt mn) (X : St p l e R s m args below meth c n0 T h k n) {i : Fin 2} {z : Int64} (hd : decode bytes pc = .ok (.lconst i, 1)) (hq : pc + 1 = q) (hz : (i.val.toInt64) = z) (r : Goes p e below G (T.setTop (mkF m q L (.long z :: st)))) : Goes p e below G (T.setTop (mkF m pc L (st))) := by
  obtain ⟨hx, -, -, hby, -⟩ := C
  obtain ⟨_, _, _, X, -⟩ := X
  subst hq hz
  exact go_st (fun t k => XS.lconst X.here hx rfl (hb hby hd) k) r
theorem own_lcW (x y : Int64) : (if x > y then (1 : Int32) else if x = y then 0 else -1) = lcmpW x y := rfl
theorem g_lcmp (C : Cx p s m meth c Z own bytes ml rt mn) (X : St p l e R s m args below meth c n0 T h k n) {x y : Int64} {z : Int32} (hd : decode bytes pc = .ok (.lcmp, 1)) (hq : pc + 1 = q) (hz : lcmpW x y = z) (r : Goes p e below G (T.setTop (mkF m q L (.int z :: st)))) : Goes p e below G (T.setTop (mkF m pc L (.long y :: .long x :: st))) := by
  obtain ⟨hx, -, -, hby, -⟩ := C
  obtain ⟨_, _, _, X, -⟩ := X
  subst hq hz
  exact go_st (fun t k => XS.lcmp X.here hx rfl (hb hby hd) rfl k) r
theorem g_dup (C : Cx p s m meth c Z own bytes ml rt mn) (X : St p l e R s m args below meth c n0 T h k n) {x : Value} (hd : decode bytes pc = .ok (.dup, 1)) (hq : pc + 1 = q) (hc : x.category = 1) (r : Goes p e below G (T.setTop (mkF m q L (x :: x :: st)))) : Goes p e below G (T.setTop (mkF m pc L (x :: st))) := by
  obtain ⟨hx, -, -, hby, -⟩ := C
  obtain ⟨_, _, _, X, -⟩ := X
  subst hq 
  exact go_st (fun t k => XS.dup X.here hx rfl (hb hby hd) rfl hc k) r
theorem g_pop (C : Cx p s m meth c Z own bytes ml rt mn) (X : St p l e R s m args below meth c n0 T h k n) {x : Value} (hd : decode bytes pc = .ok (.pop, 1)) (hq : pc + 1 = q) (hc : x.category = 1) (r : Goes p e below G (T.setTop (mkF m q L (st)))) : Goes p e below G (T.setTop (mkF m pc L (x :: st))) := by
  obtain ⟨hx, -, -, hby, -⟩ := C
  obtain ⟨_, _, _, X, -⟩ := X
  subst hq 
  exact go_st (fun t k => XS.pop X.here hx rfl (hb hby hd) rfl hc k) r
theorem g_dupX1 (C : Cx p s m meth c Z own bytes ml rt mn) (X : St p l e R s m args below meth c n0 T h k n) {x y : Value} (hd : decode bytes pc = .ok (.dup_x1, 1)) (hq : pc + 1 = q) (hc : x.category = 1) (hc' : y.category = 1) (r : Goes p e below G (T.setTop (mkF m q L (x :: y :: x :: st)))) : Goes p e below G (T.setTop (mkF m pc L (x :: y :: st))) := by
  obtain ⟨hx, -, -, hby, -⟩ := C
  obtain ⟨_, _, _, X, -⟩ := X
  subst hq 
  exact go_st (fun t k => XS.dupX1 X.here hx rfl (hb hby hd) rfl hc hc' k) r
theorem g_dup2 (C : Cx p s m meth c Z own bytes ml rt mn) (X : St p l e R s m args below meth c n0 T h k n) {x y : Value} (hd : decode bytes pc = .ok (.dup2, 1)) (hq : pc + 1 = q) (hc : x.category = 1) (hc' : y.category = 1) (r : Goes p e below G (T.setTop (mkF m q L (x :: y :: x :: y :: st)))) : Goes p e below G (T.setTop (mkF m pc L (x :: y :: st))) := by
  obtain ⟨hx, -, -, hby, -⟩ := C
  obtain ⟨_, _, _, X, -⟩ := X
  subst hq 
  exact go_st (fun t k => Jvm.Free.XT.dup2 X.here hx rfl (hb hby hd) rfl hc hc' k) r
theorem g_istoreN (C : Cx p s m meth c Z own bytes ml rt mn) (X : St p l e R s m args below meth c n0 T h k n) {j : Fin 4} {x : Int32} {L' : Array Slot} (hd : decode bytes pc = .ok (.istore_n j, 1)) (hq : pc + 1 = q) (hl : storeLocals L j.val (.int x) = some L') (r : Goes p e below G (T.setTop (mkF m q L' (st)))) : Goes p e below G (T.setTop (mkF m pc L (.int x :: st))) := by
  obtain ⟨hx, -, -, hby, -⟩ := C
  obtain ⟨_, _, _, X, -⟩ := X
  subst hq 
  exact go_st (fun t k => XS.istoreN X.here hx rfl (hb hby hd) rfl hl k) r
theorem g_istore (C : Cx p s m meth c Z own bytes ml rt mn) (X : St p l e R s m args below meth c n0 T h k n) {j : Nat} {x : Int32} {L' : Array Slot} (hd : decode bytes pc = .ok (.istore j, 2)) (hq : pc + 2 = q) (hl : storeLocals L j (.int x) = some L') (r : Goes p e below G (T.setTop (mkF m q L' (st)))) : Goes p e below G (T.setTop (mkF m pc L (.int x :: st))) := by
  obtain ⟨hx, -, -, hby, -⟩ := C
  obtain ⟨_, _, _, X, -⟩ := X
  subst hq 
  exact go_st (fun t k => XS.istore X.here hx rfl (hb hby hd) rfl hl k) r
theorem g_lstoreN (C : Cx p s m meth c Z own bytes ml rt mn) (X : St p l e R s m args below meth c n0 T h k n) {j : Fin 4} {x : Int64} {L' : Array Slot} (hd : decode bytes pc = .ok (.lstore_n j, 1)) (hq : pc + 1 = q) (hl : storeLocals L j.val (.long x) = some L') (r : Goes p e below G (T.setTop (mkF m q L' (st)))) : Goes p e below G (T.setTop (mkF m pc L (.long x :: st))) := by
  obtain ⟨hx, -, -, hby, -⟩ := C
  obtain ⟨_, _, _, X, -⟩ := X
  subst hq 
  exact go_st (fun t k => XS.lstoreN X.here hx rfl (hb hby hd) rfl hl k) r
theorem g_lstore (C : Cx p s m meth c Z own bytes ml rt mn) (X : St p l e R s m args below meth c n0 T h k n) {j : Nat} {x : Int64} {L' : Array Slot} (hd : decode bytes pc = .ok (.lstore j, 2)) (hq : pc + 2 = q) (hl : storeLocals L j (.long x) = some L') (r : Goes p e below G (T.setTop (mkF m q L' (st)))) : Goes p e below G (T.setTop (mkF m pc L (.long x :: st))) := by
  obtain ⟨hx, -, -, hby, -⟩ := C
  obtain ⟨_, _, _, X, -⟩ := X
  subst hq 
  exact go_st (fun t k => XS.lstore X.here hx rfl (hb hby hd) rfl hl k) r
theorem g_astoreN (C : Cx p s m meth c Z own bytes ml rt mn) (X : St p l e R s m args below meth c n0 T h k n) {j : Fin 4} {x : Value} {L' : Array Slot} (hd : decode bytes pc = .ok (.astore_n j, 1)) (hq : pc + 1 = q) (hv : x.isRef = true) (hl : storeLocals L j.val x = some L') (r : Goes p e below G (T.setTop (mkF m q L' (st)))) : Goes p e below G (T.setTop (mkF m pc L (x :: st))) := by
  obtain ⟨hx, -, -, hby, -⟩ := C
  obtain ⟨_, _, _, X, -⟩ := X
  subst hq 
  exact go_st (fun t k => XS.astoreN X.here hx rfl (hb hby hd) rfl hv hl k) r
theorem g_astore (C : Cx p s m meth c Z own bytes ml rt mn) (X : St p l e R s m args below meth c n0 T h k n) {j : Nat} {x : Value} {L' : Array Slot} (hd : decode bytes pc = .ok (.astore j, 2)) (hq : pc + 2 = q) (hv : x.isRef = true) (hl : storeLocals L j x = some L') (r : Goes p e below G (T.setTop (mkF m q L' (st)))) : Goes p e below G (T.setTop (mkF m pc L (x :: st))) := by
  obtain ⟨hx, -, -, hby, -⟩ := C
  obtain ⟨_, _, _, X, -⟩ := X
  subst hq 
  exact go_st (fun t k => XS.astore X.here hx rfl (hb hby hd) rfl hv hl k) r
theorem g_iinc (C : Cx p s m meth c Z own bytes ml rt mn) (X : St p l e R s m args below meth c n0 T h k n) {j : Nat} {i : Int} {x z : Int32} {L' : Array Slot} (hd : decode bytes pc = .ok (.iinc j i, 3)) (hq : pc + 3 = q) (hl : L[j]? = some (.val (.int x))) (hz : x + Int32.ofInt i = z) (hl' : storeLocals L j (.int z) = some L') (r : Goes p e below G (T.setTop (mkF m q L' (st)))) : Goes p e below G (T.setTop (mkF m pc L (st))) := by
  obtain ⟨hx, -, -, hby, -⟩ := C
  obtain ⟨_, _, _, X, -⟩ := X
  subst hq hz
  exact go_st (fun t k => XS.iinc X.here hx rfl (hb hby hd) hl hl' k) r
theorem g_goto (C : Cx p s m meth c Z own bytes ml rt mn) (X : St p l e R s m args below meth c n0 T h k n)  {o : Int} (hd : decode bytes pc = .ok (.goto o, 3)) (ho : 0 ≤ (pc : Int) + o) (hq : ((pc : Int) + o).toNat = q)  (r : Goes p e below G (T.setTop (mkF m q L st))) : Goes p e below G (T.setTop (mkF m pc L (st))) := by
  obtain ⟨hx, -, -, hby, -⟩ := C
  obtain ⟨_, _, _, X, -⟩ := X
  exact go_st (fun t k => XS.goto X.here hx rfl rfl (hb hby hd) ho hq k) r
theorem g_ifY (C : Cx p s m meth c Z own bytes ml rt mn) (X : St p l e R s m args below meth c n0 T h k n) {cd : ClassFile.Cond} {x : Int32} {o : Int} (hd : decode bytes pc = .ok (.ifCond cd o, 3)) (ho : 0 ≤ (pc : Int) + o) (hq : ((pc : Int) + o).toNat = q) (hc : if_icmp.holds cd x 0 = true) (r : Goes p e below G (T.setTop (mkF m q L st))) : Goes p e below G (T.setTop (mkF m pc L (.int x :: st))) := by
  obtain ⟨hx, -, -, hby, -⟩ := C
  obtain ⟨_, _, _, X, -⟩ := X
  exact go_st (fun t k => XS.ifYes X.here hx rfl rfl (hb hby hd) rfl ((if0 _ _).trans hc) ho hq k) r
theorem g_ifN (C : Cx p s m meth c Z own bytes ml rt mn) (X : St p l e R s m args below meth c n0 T h k n) {cd : ClassFile.Cond} {x : Int32} {o : Int} (hd : decode bytes pc = .ok (.ifCond cd o, 3)) (hq : pc + 3 = q) (hc : if_icmp.holds cd x 0 = false) (r : Goes p e below G (T.setTop (mkF m q L st))) : Goes p e below G (T.setTop (mkF m pc L (.int x :: st))) := by
  obtain ⟨hx, -, -, hby, -⟩ := C
  obtain ⟨_, _, _, X, -⟩ := X
  subst hq
  exact go_st (fun t k => XS.ifNo X.here hx rfl (hb hby hd) rfl ((if0 _ _).trans hc) k) r
theorem g_icY (C : Cx p s m meth c Z own bytes ml rt mn) (X : St p l e R s m args below meth c n0 T h k n) {cd : ClassFile.Cond} {x y : Int32} {o : Int} (hd : decode bytes pc = .ok (.if_icmp cd o, 3)) (ho : 0 ≤ (pc : Int) + o) (hq : ((pc : Int) + o).toNat = q) (hc : if_icmp.holds cd x y = true) (r : Goes p e below G (T.setTop (mkF m q L st))) : Goes p e below G (T.setTop (mkF m pc L (.int y :: .int x :: st))) := by
  obtain ⟨hx, -, -, hby, -⟩ := C
  obtain ⟨_, _, _, X, -⟩ := X
  exact go_st (fun t k => XS.icmpYes X.here hx rfl rfl (hb hby hd) rfl hc ho hq k) r
theorem g_icN (C : Cx p s m meth c Z own bytes ml rt mn) (X : St p l e R s m args below meth c n0 T h k n) {cd : ClassFile.Cond} {x y : Int32} {o : Int} (hd : decode bytes pc = .ok (.if_icmp cd o, 3)) (hq : pc + 3 = q) (hc : if_icmp.holds cd x y = false) (r : Goes p e below G (T.setTop (mkF m q L st))) : Goes p e below G (T.setTop (mkF m pc L (.int y :: .int x :: st))) := by
  obtain ⟨hx, -, -, hby, -⟩ := C
  obtain ⟨_, _, _, X, -⟩ := X
  subst hq
  exact go_st (fun t k => XS.icmpNo X.here hx rfl (hb hby hd) rfl hc k) r
theorem g_nulY (C : Cx p s m meth c Z own bytes ml rt mn) (X : St p l e R s m args below meth c n0 T h k n)  {o : Int} (hd : decode bytes pc = .ok (.ifnull o, 3)) (ho : 0 ≤ (pc : Int) + o) (hq : ((pc : Int) + o).toNat = q)  (r : Goes p e below G (T.setTop (mkF m q L st))) : Goes p e below G (T.setTop (mkF m pc L (.null :: st))) := by
  obtain ⟨hx, -, -, hby, -⟩ := C
  obtain ⟨_, _, _, X, -⟩ := X
  exact go_st (fun t k => XS.ifnullYes X.here hx rfl rfl (hb hby hd) rfl ho hq k) r
theorem g_nulN (C : Cx p s m meth c Z own bytes ml rt mn) (X : St p l e R s m args below meth c n0 T h k n) {b : Addr} {o : Int} (hd : decode bytes pc = .ok (.ifnull o, 3)) (hq : pc + 3 = q)  (r : Goes p e below G (T.setTop (mkF m q L st))) : Goes p e below G (T.setTop (mkF m pc L (.ref b :: st))) := by
  obtain ⟨hx, -, -, hby, -⟩ := C
  obtain ⟨_, _, _, X, -⟩ := X
  subst hq
  exact go_st (fun t k => XS.ifnullNo X.here hx rfl (hb hby hd) rfl k) r
theorem g_nonY (C : Cx p s m meth c Z own bytes ml rt mn) (X : St p l e R s m args below meth c n0 T h k n) {b : Addr} {o : Int} (hd : decode bytes pc = .ok (.ifnonnull o, 3)) (ho : 0 ≤ (pc : Int) + o) (hq : ((pc : Int) + o).toNat = q)  (r : Goes p e below G (T.setTop (mkF m q L st))) : Goes p e below G (T.setTop (mkF m pc L (.ref b :: st))) := by
  obtain ⟨hx, -, -, hby, -⟩ := C
  obtain ⟨_, _, _, X, -⟩ := X
  exact go_st (fun t k => XS.ifnonnullYes X.here hx rfl rfl (hb hby hd) rfl ho hq k) r
theorem g_nonN (C : Cx p s m meth c Z own bytes ml rt mn) (X : St p l e R s m args below meth c n0 T h k n)  {o : Int} (hd : decode bytes pc = .ok (.ifnonnull o, 3)) (hq : pc + 3 = q)  (r : Goes p e below G (T.setTop (mkF m q L st))) : Goes p e below G (T.setTop (mkF m pc L (.null :: st))) := by
  obtain ⟨hx, -, -, hby, -⟩ := C
  obtain ⟨_, _, _, X, -⟩ := X
  subst hq
  exact go_st (fun t k => XS.ifnonnullNo X.here hx rfl (hb hby hd) rfl k) r
theorem g_boolF (C : Cx p s m meth c Z own bytes ml rt mn) (X : St p l e R s m args below meth c n0 T h k n) {cd : ClassFile.Cond} {x : Int32} (hd : decode bytes pc = .ok (.ifCond cd 7, 3)) (hd1 : decode bytes (pc + 3) = .ok (.iconst 1, 1)) (hd2 : decode bytes (pc + 4) = .ok (.goto 4, 3)) (hd3 : decode bytes (pc + 7) = .ok (.iconst 0, 1)) (hq : pc + 8 = q) (r : ∀ b : Int32, (if_icmp.holds cd x 0 = true → b = 0) → (if_icmp.holds cd x 0 = false → b = 1) → Goes p e below G (T.setTop (mkF m q L (.int b :: st)))) : Goes p e below G (T.setTop (mkF m pc L (.int x :: st))) := by
  subst hq
  cases hc : if_icmp.holds cd x 0
  · refine g_ifN C X hd (q := pc + 3) rfl hc ?_
    refine g_iconst C X hd1 (q := pc + 4) rfl (z := 1) rfl ?_
    refine g_goto C X hd2 (by omega) (q := pc + 8) (by omega) ?_
    exact r 1 (fun z => by rw [hc] at z; cases z) (fun _ => rfl)
  · refine g_ifY C X hd (by omega) (q := pc + 7) (by omega) hc ?_
    refine g_iconst C X hd3 (q := pc + 8) rfl (z := 0) rfl ?_
    exact r 0 (fun _ => rfl) (fun z => by rw [hc] at z; cases z)
theorem g_selF (C : Cx p s m meth c Z own bytes ml rt mn) (X : St p l e R s m args below meth c n0 T h k n) {cd : ClassFile.Cond} {x v1 v2 : Int32} {j1 j2 : Fin 4} (hd : decode bytes pc = .ok (.ifCond cd 7, 3)) (hd1 : decode bytes (pc + 3) = .ok (.iload_n j1, 1)) (hd2 : decode bytes (pc + 4) = .ok (.goto 4, 3)) (hd3 : decode bytes (pc + 7) = .ok (.iload_n j2, 1)) (hq : pc + 8 = q) (l1 : L[j1.val]? = some (.val (.int v1))) (l2 : L[j2.val]? = some (.val (.int v2))) (r : ∀ b : Int32, (if_icmp.holds cd x 0 = true → b = v2) → (if_icmp.holds cd x 0 = false → b = v1) → Goes p e below G (T.setTop (mkF m q L (.int b :: st)))) : Goes p e below G (T.setTop (mkF m pc L (.int x :: st))) := by
  subst hq
  cases hc : if_icmp.holds cd x 0
  · refine g_ifN C X hd (q := pc + 3) rfl hc ?_
    refine g_iloadN C X hd1 (q := pc + 4) rfl l1 ?_
    refine g_goto C X hd2 (by omega) (q := pc + 8) (by omega) ?_
    exact r v1 (fun z => by rw [hc] at z; cases z) (fun _ => rfl)
  · refine g_ifY C X hd (by omega) (q := pc + 7) (by omega) hc ?_
    refine g_iloadN C X hd3 (q := pc + 8) rfl l2 ?_
    exact r v2 (fun _ => rfl) (fun z => by rw [hc] at z; cases z)
theorem g_boolC (C : Cx p s m meth c Z own bytes ml rt mn) (X : St p l e R s m args below meth c n0 T h k n) {cd : ClassFile.Cond} {x y : Int32} (hd : decode bytes pc = .ok (.if_icmp cd 7, 3)) (hd1 : decode bytes (pc + 3) = .ok (.iconst 1, 1)) (hd2 : decode bytes (pc + 4) = .ok (.goto 4, 3)) (hd3 : decode bytes (pc + 7) = .ok (.iconst 0, 1)) (hq : pc + 8 = q) (r : ∀ b : Int32, (if_icmp.holds cd x y = true → b = 0) → (if_icmp.holds cd x y = false → b = 1) → Goes p e below G (T.setTop (mkF m q L (.int b :: st)))) : Goes p e below G (T.setTop (mkF m pc L (.int y :: .int x :: st))) := by
  subst hq
  cases hc : if_icmp.holds cd x y
  · refine g_icN C X hd (q := pc + 3) rfl hc ?_
    refine g_iconst C X hd1 (q := pc + 4) rfl (z := 1) rfl ?_
    refine g_goto C X hd2 (by omega) (q := pc + 8) (by omega) ?_
    exact r 1 (fun z => by rw [hc] at z; cases z) (fun _ => rfl)
  · refine g_icY C X hd (by omega) (q := pc + 7) (by omega) hc ?_
    refine g_iconst C X hd3 (q := pc + 8) rfl (z := 0) rfl ?_
    exact r 0 (fun _ => rfl) (fun z => by rw [hc] at z; cases z)
theorem g_acmp (C : Cx p s m meth c Z own bytes ml rt mn) (X : St p l e R s m args below meth c n0 T h k n) {cd : ACond} {x y : Value} {o : Int} {same : Bool} (hd : decode bytes pc = .ok (.if_acmp cd o, 3)) (h1 : x.isRef = true) (h2 : y.isRef = true) (hs : decide (x = y) = same) (ho : 0 ≤ (pc : Int) + o) (hq : q = if acV cd same = true then ((pc : Int) + o).toNat else pc + 3) (r : Goes p e below G (T.setTop (mkF m q L st))) : Goes p e below G (T.setTop (mkF m pc L (y :: x :: st))) := by
  obtain ⟨hx, -, -, hby, -⟩ := C
  obtain ⟨_, _, _, X, -⟩ := X
  exact go_st (fun t k => Jvm.RoadKit.acmp (g := mkF m pc L (y :: x :: st)) X hx rfl h1 h2 rfl (hb hby hd) rfl hs ho hq k) r
theorem g_lsw (C : Cx p s m meth c Z own bytes ml rt mn) (X : St p l e R s m args below meth c n0 T h k n) {d o : Int} {ps : Array (Int × Int)} {i : Int32} {len : Nat} (hd : decode bytes pc = .ok (.lookupswitch d ps, len)) (hinc : (ps.toList.zip (ps.toList.drop 1)).all (fun (a, next) => a.1 < next.1) = true) (hoff : lookupswitch.offset ps.toList d i.toInt = o) (ho : 0 ≤ (pc : Int) + o) (hq : ((pc : Int) + o).toNat = q) (r : Goes p e below G (T.setTop (mkF m q L st))) : Goes p e below G (T.setTop (mkF m pc L (.int i :: st))) := by
  obtain ⟨hx, -, -, hby, -⟩ := C
  obtain ⟨_, _, _, X, -⟩ := X
  subst hq
  refine go_st (fun t k => ?_) r
  have hd' := hb hby hd
  show Steps p.tables e below (T.setTop { method := m, pc := pc, locals := L, stack := .int i :: st, locked := none }) _
  jvm_step X.here [X.here.top, hx, hd', lookupswitch.wp_chain, hoff, ho]
  refine ⟨?_, k⟩
  intro a b a1 b1 hm
  simpa using List.all_eq_true.mp hinc ((a, b), a1, b1) (by simpa using hm)
theorem g_tswI (C : Cx p s m meth c Z own bytes ml rt mn) (X : St p l e R s m args below meth c n0 T h k n) {d lo hi o : Int} {offs : Array Int} {i : Int32} {len : Nat} (hd : decode bytes pc = .ok (.tableswitch d lo hi offs, len)) (hin : ¬ (i.toInt < lo ∨ i.toInt > hi)) (hoff : offs[(i.toInt - lo).toNat]? = some o) (ho : 0 ≤ (pc : Int) + o) (hq : ((pc : Int) + o).toNat = q) (r : Goes p e below G (T.setTop (mkF m q L st))) : Goes p e below G (T.setTop (mkF m pc L (.int i :: st))) := by
  obtain ⟨hx, -, -, hby, -⟩ := C
  obtain ⟨_, _, _, X, -⟩ := X
  exact go_st (fun t k => XS.tswIn X.here hx rfl rfl (hb hby hd) rfl hin hoff ho hq k) r
theorem g_tswO (C : Cx p s m meth c Z own bytes ml rt mn) (X : St p l e R s m args below meth c n0 T h k n) {d lo hi : Int} {offs : Array Int} {i : Int32} {len : Nat} (hd : decode bytes pc = .ok (.tableswitch d lo hi offs, len)) (hin : i.toInt < lo ∨ i.toInt > hi) (ho : 0 ≤ (pc : Int) + d) (hq : ((pc : Int) + d).toNat = q) (r : Goes p e below G (T.setTop (mkF m q L st))) : Goes p e below G (T.setTop (mkF m pc L (.int i :: st))) := by
  obtain ⟨hx, -, -, hby, -⟩ := C
  obtain ⟨_, _, _, X, -⟩ := X
  exact go_st (fun t k => XS.tswOut X.here hx rfl rfl (hb hby hd) rfl hin ho hq k) r
theorem g_ldcI (C : Cx p s m meth c Z own bytes ml rt mn) (X : St p l e R s m args below meth c n0 T h k n) {i : Nat} {v : Int32} (w : (Cond.constant own i v).before a0 Z = true) (hd : decode bytes pc = .ok (.ldc i, 2)) (hq : pc + 2 = q) (r : Goes p e below G (T.setTop (mkF m q L (.int v :: st)))) : Goes p e below G (T.setTop (mkF m pc L st)) := by
  obtain ⟨hx, hZ, hown, hby, -⟩ := C
  obtain ⟨_, _, _, X, -⟩ := X
  subst hq
  exact go_st (fun t k => X.ldcInt hx hown (mvT hZ w) (g := mkF m pc L st) rfl (hb hby hd) t k) r
theorem g_ldcJ (C : Cx p s m meth c Z own bytes ml rt mn) (X : St p l e R s m args below meth c n0 T h k n) {i : Nat} {v : Int64} (w : (Cond.constantLong own i v).before a0 Z = true) (hd : decode bytes pc = .ok (.ldc2_w i, 3)) (hq : pc + 3 = q) (r : Goes p e below G (T.setTop (mkF m q L (.long v :: st)))) : Goes p e below G (T.setTop (mkF m pc L st)) := by
  obtain ⟨hx, hZ, hown, hby, -⟩ := C
  obtain ⟨_, _, _, X, -⟩ := X
  subst hq
  exact go_st (fun t k => X.ldc2Long hx hown (mvT hZ w) (g := mkF m pc L st) rfl (hb hby hd) t k) r
theorem own_end (C : Cx p s m meth c Z own bytes ml rt mn) (X : St p l e R s m args below meth c n0 T h k n) {Q : Option Value → Heap → Prop} {K N : Nat} {S : State} {v : Option Value} (hv : rt = none → v = none) (hk : k ≤ K) (hn : n ≤ N) (hQ : Q v h)
    (f : ∀ locs cells slots fs, Stand p l e R s m args below meth c T locs cells slots → (∀ (f : JFrame) (acts : List Action), f.method = m → f.locked = none → f.entered = [] → (doReturn e (T.setTop f) acts v).1 = T.setFrames fs) → Steps p.tables e below S (T.setFrames fs)) : Goes p e below (FinN Q s n0 K N) S := by
  obtain ⟨hx, -, -, hby, -, hret, hlk, -⟩ := C
  obtain ⟨locs, cells, slots, X, hF, rfl, h1, h2⟩ := X
  obtain ⟨fs, hr, hrun, hended, hW, hsame⟩ := X.leave (v := v) (fun h => hv (hret.symm.trans h)) hlk
  exact ⟨_, _, f _ _ _ fs X hr, hrun, hended, _, _, rfl, ⟨hF, hQ⟩, ⟨_, rfl⟩, hW, hsame.mono (Nat.le_trans h1 hk) (Nat.le_trans h2 hn)⟩
theorem g_retI (C : Cx p s m meth c Z own bytes ml (some .int) mn) (X : St p l e R s m args below meth c n0 T h k n) {Q : Option Value → Heap → Prop} {K N : Nat} {z : Int32} (hd : decode bytes pc = .ok (.ireturn, 1)) (hk : k ≤ K) (hn : n ≤ N) (hQ : Q (some (.int z)) h) : Goes p e below (FinN Q s n0 K N) (T.setTop (mkF m pc L (.int z :: st))) := by
  refine own_end C X (by simp) hk hn hQ fun locs cells slots fs X hr => ?_
  obtain ⟨hx, -, -, hby, -, hret, hlk, -⟩ := C
  exact retOut X hx hret rfl (Or.inl ⟨rfl, Or.inl rfl, _, rfl⟩) (hb hby hd) hr
theorem g_retN {t : FieldType} (C : Cx p s m meth c Z own bytes ml (some t) mn) (X : St p l e R s m args below meth c n0 T h k n) {Q : Option Value → Heap → Prop} {K N : Nat} {z z' : Int32} (ht : t = .boolean ∨ t = .byte ∨ t = .char ∨ t = .short) (hz : nar t z = z') (hd : decode bytes pc = .ok (.ireturn, 1)) (hk : k ≤ K) (hn : n ≤ N) (hQ : Q (some (.int z')) h) : Goes p e below (FinN Q s n0 K N) (T.setTop (mkF m pc L (.int z :: st))) := by
  subst hz
  refine own_end C X (by simp) hk hn hQ fun locs cells slots fs X hr => ?_
  obtain ⟨hx, -, -, hby, -, hret, hlk, -⟩ := C
  exact retN X hx hret ht (hb hby hd) hr
theorem g_retA {t : FieldType} (C : Cx p s m meth c Z own bytes ml (some t) mn) (X : St p l e R s m args below meth c n0 T h k n) {Q : Option Value → Heap → Prop} {K N : Nat} {v : Value} (ht : t.isReference = true) (hv : v.isRef = true) (hd : decode bytes pc = .ok (.areturn, 1)) (hk : k ≤ K) (hn : n ≤ N) (hQ : Q (some v) h) : Goes p e below (FinN Q s n0 K N) (T.setTop (mkF m pc L (v :: st))) := by
  refine own_end C X (by simp) hk hn hQ fun locs cells slots fs X hr => ?_
  obtain ⟨hx, -, -, hby, -, hret, hlk, -⟩ := C
  have hn' : narrow t v = v := by rcases ref_cases hv with rfl | ⟨b, rfl⟩ <;> cases t <;> first | rfl | (cases ht)
  exact retOut X hx hret hn' (Or.inr (Or.inr (Or.inr (Or.inr ⟨rfl, ht, hv⟩)))) (hb hby hd) hr
theorem g_retJ (C : Cx p s m meth c Z own bytes ml (some .long) mn) (X : St p l e R s m args below meth c n0 T h k n) {Q : Option Value → Heap → Prop} {K N : Nat} {z : Int64} (hd : decode bytes pc = .ok (.lreturn, 1)) (hk : k ≤ K) (hn : n ≤ N) (hQ : Q (some (.long z)) h) : Goes p e below (FinN Q s n0 K N) (T.setTop (mkF m pc L (.long z :: st))) := by
  refine own_end C X (by simp) hk hn hQ fun locs cells slots fs X hr => ?_
  obtain ⟨hx, -, -, hby, -, hret, hlk, -⟩ := C
  exact retOut X hx hret rfl (Or.inr (Or.inl ⟨rfl, rfl, _, rfl⟩)) (hb hby hd) hr
theorem g_retV (C : Cx p s m meth c Z own bytes ml none mn) (X : St p l e R s m args below meth c n0 T h k n) {Q : Option Value → Heap → Prop} {K N : Nat} (hd : decode bytes pc = .ok (.return_, 1)) (hk : k ≤ K) (hn : n ≤ N) (hQ : Q none h) : Goes p e below (FinN Q s n0 K N) (T.setTop (mkF m pc L [])) := by
  refine own_end C X (fun _ => rfl) hk hn hQ fun locs cells slots fs X hr => ?_
  obtain ⟨hx, -, -, hby, -, hret, hlk, -⟩ := C
  exact X.returnOut hx hret (hb hby hd) hr
theorem g_dloadN (C : Cx p s m meth c Z own bytes ml rt mn) (X : St p l e R s m args below meth c n0 T h k n) {j : Fin 4} {v : UInt64} (hd : decode bytes pc = .ok (.dload_n j, 1)) (hq : pc + 1 = q) (hl : L[j.val]? = some (.val (.double v))) (r : Goes p e below G (T.setTop (mkF m q L (.double v :: st)))) : Goes p e below G (T.setTop (mkF m pc L (st))) := by
  obtain ⟨hx, -, -, hby, -⟩ := C
  obtain ⟨_, _, _, X, -⟩ := X
  subst hq 
  exact go_st (fun t k => XS.dloadN X.here hx rfl (hb hby hd) hl k) r
theorem g_dload (C : Cx p s m meth c Z own bytes ml rt mn) (X : St p l e R s m args below meth c n0 T h k n) {j : Nat} {v : UInt64} (hd : decode bytes pc = .ok (.dload j, 2)) (hq : pc + 2 = q) (hl : L[j]? = some (.val (.double v))) (r : Goes p e below G (T.setTop (mkF m q L (.double v :: st)))) : Goes p e below G (T.setTop (mkF m pc L (st))) := by
  obtain ⟨hx, -, -, hby, -⟩ := C
  obtain ⟨_, _, _, X, -⟩ := X
  subst hq 
  exact go_st (fun t k => XS.dload X.here hx rfl (hb hby hd) hl k) r
theorem g_dstoreN (C : Cx p s m meth c Z own bytes ml rt mn) (X : St p l e R s m args below meth c n0 T h k n) {j : Fin 4} {x : UInt64} {L' : Array Slot} (hd : decode bytes pc = .ok (.dstore_n j, 1)) (hq : pc + 1 = q) (hl : storeLocals L j.val (.double x) = some L') (r : Goes p e below G (T.setTop (mkF m q L' (st)))) : Goes p e below G (T.setTop (mkF m pc L (.double x :: st))) := by
  obtain ⟨hx, -, -, hby, -⟩ := C
  obtain ⟨_, _, _, X, -⟩ := X
  subst hq 
  exact go_st (fun t k => XS.dstoreN X.here hx rfl (hb hby hd) rfl hl k) r
theorem g_dstore (C : Cx p s m meth c Z own bytes ml rt mn) (X : St p l e R s m args below meth c n0 T h k n) {j : Nat} {x : UInt64} {L' : Array Slot} (hd : decode bytes pc = .ok (.dstore j, 2)) (hq : pc + 2 = q) (hl : storeLocals L j (.double x) = some L') (r : Goes p e below G (T.setTop (mkF m q L' (st)))) : Goes p e below G (T.setTop (mkF m pc L (.double x :: st))) := by
  obtain ⟨hx, -, -, hby, -⟩ := C
  obtain ⟨_, _, _, X, -⟩ := X
  subst hq 
  exact go_st (fun t k => XS.dstore X.here hx rfl (hb hby hd) rfl hl k) r
theorem g_i2d (C : Cx p s m meth c Z own bytes ml rt mn) (X : St p l e R s m args below meth c n0 T h k n) {x : Int32} {z : UInt64} (hd : decode bytes pc = .ok (.i2d, 1)) (hq : pc + 1 = q) (hz : FP.i2d x = z) (r : Goes p e below G (T.setTop (mkF m q L (.double z :: st)))) : Goes p e below G (T.setTop (mkF m pc L (.int x :: st))) := by
  obtain ⟨hx, -, -, hby, -⟩ := C
  obtain ⟨_, _, _, X, -⟩ := X
  subst hq 
  exact go_st (fun t k => XS.i2dS X.here hx rfl (hb hby hd) rfl hz k) r
theorem g_dcmp (C : Cx p s m meth c Z own bytes ml rt mn) (X : St p l e R s m args below meth c n0 T h k n) {o : CmpOp} {x y : UInt64} {z : Int32} (hd : decode bytes pc = .ok (.dcmp o, 1)) (hq : pc + 1 = q) (hz : cmpValue (FP.dcmp x y) o = z) (r : Goes p e below G (T.setTop (mkF m q L (.int z :: st)))) : Goes p e below G (T.setTop (mkF m pc L (.double y :: .double x :: st))) := by
  obtain ⟨hx, -, -, hby, -⟩ := C
  obtain ⟨_, _, _, X, -⟩ := X
  subst hq 
  exact go_st (fun t k => XS.dcmpS X.here hx rfl (hb hby hd) rfl hz k) r
theorem g_pop2 (C : Cx p s m meth c Z own bytes ml rt mn) (X : St p l e R s m args below meth c n0 T h k n) {x : Value} (hd : decode bytes pc = .ok (.pop2, 1)) (hq : pc + 1 = q) (hc : x.category = 2) (r : Goes p e below G (T.setTop (mkF m q L st))) : Goes p e below G (T.setTop (mkF m pc L (x :: st))) := by
  obtain ⟨hx, -, -, hby, -⟩ := C
  obtain ⟨_, _, _, X, -⟩ := X
  subst hq
  refine go_st (fun t k => ?_) r
  have hd' := hb hby hd
  show Steps p.tables e below (T.setTop { method := m, pc := pc, locals := L, stack := x :: st, locked := none }) _
  jvm_step X.here [X.here.top, hx, hd', hc]
  exact k
theorem g_dmul (C : Cx p s m meth c Z own bytes ml rt mn) (X : St p l e R s m args below meth c n0 T h k n) {x y z : UInt64} (hd : decode bytes pc = .ok (.dmul, 1)) (hq : pc + 1 = q) (hn : Jvm.Free.Fl.NoNaN64 (FP.dmul x y)) (hz : FP.dmul x y = z) (r : Goes p e below G (T.setTop (mkF m q L (.double z :: st)))) : Goes p e below G (T.setTop (mkF m pc L (.double y :: .double x :: st))) := by
  obtain ⟨hx, -, -, hby, -⟩ := C
  obtain ⟨_, _, _, X, -⟩ := X
  subst hq 
  exact go_st (fun t k => XS.dmulS X.here hx rfl (hb hby hd) rfl hn hz k) r
theorem g_ddiv (C : Cx p s m meth c Z own bytes ml rt mn) (X : St p l e R s m args below meth c n0 T h k n) {x y z : UInt64} (hd : decode bytes pc = .ok (.ddiv, 1)) (hq : pc + 1 = q) (hn : Jvm.Free.Fl.NoNaN64 (FP.ddiv x y)) (hz : FP.ddiv x y = z) (r : Goes p e below G (T.setTop (mkF m q L (.double z :: st)))) : Goes p e below G (T.setTop (mkF m pc L (.double y :: .double x :: st))) := by
  obtain ⟨hx, -, -, hby, -⟩ := C
  obtain ⟨_, _, _, X, -⟩ := X
  subst hq 
  exact go_st (fun t k => XS.ddivS X.here hx rfl (hb hby hd) rfl hn hz k) r
theorem g_ldcD (C : Cx p s m meth c Z own bytes ml rt mn) (X : St p l e R s m args below meth c n0 T h k n) {i : Nat} {v : UInt64} (w : (Cond.constantDouble own i v).before a0 Z = true) (hd : decode bytes pc = .ok (.ldc2_w i, 3)) (hq : pc + 3 = q) (r : Goes p e below G (T.setTop (mkF m q L (.double v :: st)))) : Goes p e below G (T.setTop (mkF m pc L st)) := by
  obtain ⟨hx, hZ, hown, hby, -⟩ := C
  obtain ⟨_, _, _, X, -⟩ := X
  subst hq
  exact go_st (fun t k => X.ldc2DoubleC hx hown (mvT hZ w) (g := mkF m pc L st) rfl (hb hby hd) t k) r
theorem g_dconst0 (C : Cx p s m meth c Z own bytes ml rt mn) (X : St p l e R s m args below meth c n0 T h k n) {z : UInt64} (hd : decode bytes pc = .ok (.dconst 0, 1)) (hq : pc + 1 = q) (hz : FP.dconst0 = z) (r : Goes p e below G (T.setTop (mkF m q L (.double z :: st)))) : Goes p e below G (T.setTop (mkF m pc L (st))) := by
  obtain ⟨hx, -, -, hby, -⟩ := C
  obtain ⟨_, _, _, X, -⟩ := X
  subst hq 
  exact go_st (fun t k => XS.dconst0 X.here hx rfl (hb hby hd) hz k) r
theorem g_dconst1 (C : Cx p s m meth c Z own bytes ml rt mn) (X : St p l e R s m args below meth c n0 T h k n) {z : UInt64} (hd : decode bytes pc = .ok (.dconst 1, 1)) (hq : pc + 1 = q) (hz : FP.dconst1 = z) (r : Goes p e below G (T.setTop (mkF m q L (.double z :: st)))) : Goes p e below G (T.setTop (mkF m pc L (st))) := by
  obtain ⟨hx, -, -, hby, -⟩ := C
  obtain ⟨_, _, _, X, -⟩ := X
  subst hq 
  exact go_st (fun t k => XS.dconst1 X.here hx rfl (hb hby hd) hz k) r
theorem g_retD (C : Cx p s m meth c Z own bytes ml (some .double) mn) (X : St p l e R s m args below meth c n0 T h k n) {Q : Option Value → Heap → Prop} {K N : Nat} {z : UInt64} (hd : decode bytes pc = .ok (.dreturn, 1)) (hk : k ≤ K) (hn : n ≤ N) (hQ : Q (some (.double z)) h) : Goes p e below (FinN Q s n0 K N) (T.setTop (mkF m pc L (.double z :: st))) := by
  refine own_end C X (by simp) hk hn hQ fun locs cells slots fs X hr => ?_
  obtain ⟨hx, -, -, hby, -, hret, hlk, -⟩ := C
  exact retOut X hx hret rfl (Or.inr (Or.inr (Or.inl ⟨rfl, rfl, _, rfl⟩))) (hb hby hd) hr
theorem g_getS (C : Cx p s m meth c Z own bytes ml rt mn) (X : St p l e R s m args below meth c n0 T h k n) {R0 O f d host : String} {i : Nat} {v : Value} (w : (Cond.fieldLink own i R0 f d).before a0 Z = true ∨ (Cond.fieldLinkNest own i R0 f d host).before a0 Z = true) (via : Via Z R0 O f d) (F : Sta Z h O f d v) (hd : decode bytes pc = .ok (.getstatic i, 3)) (hq : pc + 3 = q) (r : ∀ T', St p l e R s m args below meth c n0 T' h k n → Goes p e below G (T'.setTop (mkF m q L (v :: st)))) : Goes p e below G (T.setTop (mkF m pc L st)) := by
  obtain ⟨hx, hZ, hown, hby, -⟩ := C
  obtain ⟨_, _, _, X, hF, eT, h1, h2⟩ := X
  subst hq
  obtain ⟨T', X', e', st'⟩ := getS2 X hx hZ hown w via eT F (g := mkF m pc L st) rfl (hb hby hd)
  exact go_st st' (r T' ⟨_, _, _, X', hF, e', h1, h2⟩)
theorem g_getF (C : Cx p s m meth c Z own bytes ml rt mn) (X : St p l e R s m args below meth c n0 T h k n) {R0 O f d host : String} {i : Nat} {a : Addr} {v : Value} (w : (Cond.fieldLink own i R0 f d).before a0 Z = true ∨ (Cond.fieldLinkNest own i R0 f d host).before a0 Z = true) (via : Via Z R0 O f d) (F : Fld Z h a O f d v) (hd : decode bytes pc = .ok (.getfield i, 3)) (hq : pc + 3 = q) (r : ∀ T', St p l e R s m args below meth c n0 T' h k n → Goes p e below G (T'.setTop (mkF m q L (v :: st)))) : Goes p e below G (T.setTop (mkF m pc L (.ref a :: st))) := by
  obtain ⟨hx, hZ, hown, hby, -⟩ := C
  obtain ⟨_, _, _, X, hF, eT, h1, h2⟩ := X
  subst hq
  obtain ⟨T', X', e', st'⟩ := getF X hx hZ hown w via eT F (g := mkF m pc L (.ref a :: st)) rfl rfl (hb hby hd)
  exact go_st st' (r T' ⟨_, _, _, X', hF, e', h1, h2⟩)
theorem g_putF (C : Cx p s m meth c Z own bytes ml rt mn) (X : St p l e R s m args below meth c n0 T h k n) {R0 O f d host K : String} {i kk : Nat} {ty : FieldType} {a : Addr} {v old : Value} (w : (Cond.fieldLink own i R0 f d).before a0 Z = true ∨ (Cond.fieldLinkNest own i R0 f d host).before a0 Z = true) (via : Via Z R0 O f d) (F : Fld Z h a O f d old) (E : Exa Z h a K) (Ly : (Cond.lays K O f d).before a0 Z = true ∨ ((Cond.laysFinal K O f d).before a0 Z = true ∧ own = O ∧ mn = "<init>")) (wi : (Cond.instantiable K kk).before a0 Z = true)
    (hty : parseFieldDescriptor d = some ty) (hnn : narrow ty v = v) (hff : fits ty v = true) (hd : decode bytes pc = .ok (.putfield i, 3)) (hq : pc + 3 = q) (ha : n0 ≤ a) (r : ∀ T' h', St p l e R s m args below meth c n0 T' h' k n → Wr h h' a (Jvm.RoadKit.slotOf Z O f d) v → Goes p e below G (T'.setTop (mkF m q L st))) : Goes p e below G (T.setTop (mkF m pc L (v :: .ref a :: st))) := by
  obtain ⟨hx, hZ, hown, hby, -, -, -, hnm⟩ := C
  obtain ⟨_, _, _, X, hF, eT, h1, h2⟩ := X
  subst hq
  obtain ⟨T', h', X', e', W', st'⟩ := putF X hx hZ hown w via eT F E (Ly.imp id fun z => ⟨z.1, z.2.1, hnm.trans z.2.2⟩) wi hty hnn hff (g := mkF m pc L (v :: .ref a :: st)) rfl rfl (hb hby hd)
  exact go_st st' (r T' h' ⟨_, _, _, X', Fr.snoc X' hF ha, e', h1, h2⟩ W')
theorem g_putFN (C : Cx p s m meth c Z own bytes ml rt mn) (X : St p l e R s m args below meth c n0 T h k n) {R0 O f d K : String} {i kk : Nat} {ty : FieldType} {a : Addr} {v v' old : Value} (w : (Cond.fieldLink own i R0 f d).before a0 Z = true) (via : Via Z R0 O f d) (F : Fld Z h a O f d old) (E : Exa Z h a K) (Ly : (Cond.lays K O f d).before a0 Z = true ∨ ((Cond.laysFinal K O f d).before a0 Z = true ∧ own = O ∧ mn = "<init>")) (wi : (Cond.instantiable K kk).before a0 Z = true)
    (hty : parseFieldDescriptor d = some ty) (hnn : narrow ty v = v') (hff : fits ty v' = true) (hd : decode bytes pc = .ok (.putfield i, 3)) (hq : pc + 3 = q) (ha : n0 ≤ a) (r : ∀ T' h', St p l e R s m args below meth c n0 T' h' k n → Wr h h' a (Jvm.RoadKit.slotOf Z O f d) v' → Goes p e below G (T'.setTop (mkF m q L st))) : Goes p e below G (T.setTop (mkF m pc L (v :: .ref a :: st))) := by
  obtain ⟨hx, hZ, hown, hby, -, -, -, hnm⟩ := C
  obtain ⟨_, _, _, X, hF, eT, h1, h2⟩ := X
  subst hq
  obtain ⟨T', h', X', e', W', st'⟩ := putFN X hx hZ hown w via eT F E (Ly.imp id fun z => ⟨z.1, z.2.1, hnm.trans z.2.2⟩) wi hty hnn hff (g := mkF m pc L (v :: .ref a :: st)) rfl rfl (hb hby hd)
  exact go_st st' (r T' h' ⟨_, _, _, X', Fr.snoc X' hF ha, e', h1, h2⟩ W')
theorem g_new (C : Cx p s m meth c Z own bytes ml rt mn) (X : St p l e R s m args below meth c n0 T h k n) {K : String} {i z k' n' : Nat} (w : (Cond.classLink own i K).before a0 Z = true) (wi : (Cond.instantiable K z).before a0 Z = true) (wz : (Cond.initialized K).before a0 Z = true) (hd : decode bytes pc = .ok (.new i, 3)) (hq : pc + 3 = q) (hk : k + 1 = k') (hn : n + z = n') (hkR : k' ≤ R.cells) (hnR : n' ≤ R.slots)
    (r : ∀ T' h' a, a = h.size → St p l e R s m args below meth c n0 T' h' k' n' → Ext h h' → Exa Z h' a K → (∀ {O nm d : String} {ty : FieldType}, Laid Z a0 K O nm d → parseFieldDescriptor d = some ty → Fld Z h' a O nm d (defaultValue ty)) → Goes p e below G (T'.setTop (mkF m q L (.ref a :: st)))) : Goes p e below G (T.setTop (mkF m pc L st)) := by
  obtain ⟨hx, hZ, hown, hby, -⟩ := C
  obtain ⟨_, _, _, X, hF, eT, h1, h2⟩ := X
  subst hq hk hn
  obtain ⟨T', h', X', e', E', A', D', -, st'⟩ := newO X hx hZ hown w wi wz eT (g := mkF m pc L st) rfl (hb hby hd) (Nat.le_trans (Nat.add_le_add_right h1 1) hkR) (Nat.le_trans (Nat.add_le_add_right h2 z) hnR)
  exact go_st st' (r T' h' _ rfl ⟨_, _, _, X', hF, e', Nat.add_le_add_right h1 1, Nat.add_le_add_right h2 z⟩ E' A' D')
theorem g_newP (C : Cx p s m meth c Z own bytes ml rt mn) (X : St p l e R s m args below meth c n0 T h k n) {aty : ArrayType} {ty : FieldType} {z : Int32} {cap k' n' : Nat} (w : (Cond.arrayClass ty).before a0 Z = true) (hty : newarray.typeOf aty = ty) (hd : decode bytes pc = .ok (.newarray aty, 2)) (hq : pc + 2 = q) (hz : ¬ z < 0) (hcap : z.toNatClampNeg ≤ cap) (hcb : cap * 8 ≤ 536870912) (hk : k + 1 = k') (hn : n + cap = n') (hkR : k' ≤ R.cells) (hnR : n' ≤ R.slots)
    (r : ∀ T' h' cA a, a = h.size → St p l e R s m args below meth c n0 T' h' k' n' → Ext h h' → Arv Z h' a cA ty z [] (defaultValue ty) → Goes p e below G (T'.setTop (mkF m q L (.ref a :: st)))) : Goes p e below G (T.setTop (mkF m pc L (.int z :: st))) := by
  obtain ⟨hx, hZ, hown, hby, -⟩ := C
  obtain ⟨_, _, _, X, hF, eT, h1, h2⟩ := X
  subst hq hk hn hty
  obtain ⟨T', h', cA, X', e', E', A', st'⟩ := newP X hx hZ w eT (g := mkF m pc L (.int z :: st)) rfl (hb hby hd) rfl hz (cap := cap) hcap hcb (Nat.le_trans (Nat.add_le_add_right h1 1) hkR) (Nat.le_trans (Nat.add_le_add_right h2 cap) hnR)
  exact go_st st' (r T' h' cA _ rfl ⟨_, _, _, X', hF, e', Nat.add_le_add_right h1 1, Nat.add_le_add_right h2 cap⟩ E' (Arv.new A' hz))
theorem g_initO (C : Cx p s m meth c Z own bytes ml rt mn) (X : St p l e R s m args below meth c n0 T h k n) {i : Nat} {a : Addr} (w1 : (Cond.methodLink own i Lib.objectInit).before a0 Z = true) (w2 : (Cond.instanceMethod Lib.objectInit).before a0 Z = true) (w3 : (Cond.code Lib.objectInit ⟨#[0xb1]⟩ 1 none).before a0 Z = true) (hsz : L.size = ml) (hd : decode bytes pc = .ok (.invokespecial i, 3)) (hq : pc + 3 = q) (hf : 1 ≤ R.frames) (hW : (st.map fun v => v.category).sum + 12 ≤ R.locals)
    (r : ∀ T', St p l e R s m args below meth c n0 T' h k n → Goes p e below G (T'.setTop (mkF m q L st))) : Goes p e below G (T.setTop (mkF m pc L (.ref a :: st))) := by
  obtain ⟨hx, hZ, hown, hby, hml, -⟩ := C
  obtain ⟨_, _, _, X, hF, eT, h1, h2⟩ := X
  subst hq
  obtain ⟨T', X', e', st'⟩ := initO X hx hZ hown w1 w2 w3 eT (g := mkF m pc L (.ref a :: st)) rfl (hsz.trans hml.symm) rfl (hb hby hd) hf (W := (st.map fun v => v.category).sum) (by show 2 * 0 + _ ≤ _; omega) hW
  exact go_st st' (r T' ⟨_, _, _, X', hF, e', h1, h2⟩)
theorem g_iastore (C : Cx p s m meth c Z own bytes ml rt mn) (X : St p l e R s m args below meth c n0 T h k n) {a : Addr} {cA : ClassId} {z j : Int32} {vs vs' : List Value} {dv : Value} {i : Nat} {v : Int32} (V : Arv Z h a cA .int z vs dv) (hj : ¬ j < 0 ∧ j < z) (hi : j.toNatClampNeg = i) (hlt : i < vs.length) (hvs : vs.set i (.int v) = vs') (ha : n0 ≤ a) (hd : decode bytes pc = .ok (.iastore, 1)) (hq : pc + 1 = q)
    (r : ∀ T' h', St p l e R s m args below meth c n0 T' h' k n → Wr h h' a i (.int v) → Arv Z h' a cA .int z vs' dv → Goes p e below G (T'.setTop (mkF m q L st))) : Goes p e below G (T.setTop (mkF m pc L (.int v :: .int j :: .ref a :: st))) := by
  obtain ⟨hx, hZ, hown, hby, -⟩ := C
  obtain ⟨_, _, _, X, hF, eT, h1, h2⟩ := X
  subst hq hi hvs
  obtain ⟨cl, A, q1, Sz, q3, H, Gf⟩ := V
  obtain ⟨T', h', X', e', W', st'⟩ := stI X hx hZ eT A (j := j) (inb_of Sz hj) (g := mkF m pc L (.int v :: .int j :: .ref a :: st)) rfl rfl (hb hby hd)
  exact go_st st' (r T' h' ⟨_, _, _, X', Fr.snoc X' hF ha, e', h1, h2⟩ W' (Arv.set A q1 Sz q3 H Gf rfl W' _ rfl hlt))
theorem g_castore (C : Cx p s m meth c Z own bytes ml rt mn) (X : St p l e R s m args below meth c n0 T h k n) {a : Addr} {cA : ClassId} {z j : Int32} {vs vs' : List Value} {dv : Value} {i : Nat} {v : Int32} (V : Arv Z h a cA .char z vs dv) (hj : ¬ j < 0 ∧ j < z) (hi : j.toNatClampNeg = i) (hlt : i < vs.length) (hvs : vs.set i (.int (nar .char v)) = vs') (ha : n0 ≤ a) (hd : decode bytes pc = .ok (.castore, 1)) (hq : pc + 1 = q)
    (r : ∀ T' h', St p l e R s m args below meth c n0 T' h' k n → Wr h h' a i (.int (nar .char v)) → Arv Z h' a cA .char z vs' dv → Goes p e below G (T'.setTop (mkF m q L st))) : Goes p e below G (T.setTop (mkF m pc L (.int v :: .int j :: .ref a :: st))) := by
  obtain ⟨hx, hZ, hown, hby, -⟩ := C
  obtain ⟨_, _, _, X, hF, eT, h1, h2⟩ := X
  subst hq hi hvs
  obtain ⟨cl, A, q1, Sz, q3, H, Gf⟩ := V
  obtain ⟨T', h', X', e', W', st'⟩ := stC X hx hZ eT A (j := j) (inb_of Sz hj) (g := mkF m pc L (.int v :: .int j :: .ref a :: st)) rfl rfl (hb hby hd)
  exact go_st st' (r T' h' ⟨_, _, _, X', Fr.snoc X' hF ha, e', h1, h2⟩ W' (Arv.set A q1 Sz q3 H Gf (fits_nar_char _) W' _ rfl hlt))
theorem g_bastore (C : Cx p s m meth c Z own bytes ml rt mn) (X : St p l e R s m args below meth c n0 T h k n) {a : Addr} {cA : ClassId} {z j : Int32} {vs vs' : List Value} {dv : Value} {i : Nat} {v : Int32} (V : Arv Z h a cA .byte z vs dv) (hj : ¬ j < 0 ∧ j < z) (hi : j.toNatClampNeg = i) (hlt : i < vs.length) (hvs : vs.set i (.int (nar .byte v)) = vs') (ha : n0 ≤ a) (hd : decode bytes pc = .ok (.bastore, 1)) (hq : pc + 1 = q)
    (r : ∀ T' h', St p l e R s m args below meth c n0 T' h' k n → Wr h h' a i (.int (nar .byte v)) → Arv Z h' a cA .byte z vs' dv → Goes p e below G (T'.setTop (mkF m q L st))) : Goes p e below G (T.setTop (mkF m pc L (.int v :: .int j :: .ref a :: st))) := by
  obtain ⟨hx, hZ, hown, hby, -⟩ := C
  obtain ⟨_, _, _, X, hF, eT, h1, h2⟩ := X
  subst hq hi hvs
  obtain ⟨cl, A, q1, Sz, q3, H, Gf⟩ := V
  obtain ⟨T', h', X', e', W', st'⟩ := stB X hx hZ eT A (j := j) (inb_of Sz hj) (g := mkF m pc L (.int v :: .int j :: .ref a :: st)) rfl rfl (hb hby hd)
  exact go_st st' (r T' h' ⟨_, _, _, X', Fr.snoc X' hF ha, e', h1, h2⟩ W' (Arv.set A q1 Sz q3 H Gf (fits_nar_byte _) W' _ rfl hlt))
theorem g_zastore (C : Cx p s m meth c Z own bytes ml rt mn) (X : St p l e R s m args below meth c n0 T h k n) {a : Addr} {cA : ClassId} {z j : Int32} {vs vs' : List Value} {dv : Value} {i : Nat} {v : Int32} (V : Arv Z h a cA .boolean z vs dv) (hj : ¬ j < 0 ∧ j < z) (hi : j.toNatClampNeg = i) (hlt : i < vs.length) (hvs : vs.set i (.int (nar .boolean v)) = vs') (ha : n0 ≤ a) (hd : decode bytes pc = .ok (.bastore, 1)) (hq : pc + 1 = q)
    (r : ∀ T' h', St p l e R s m args below meth c n0 T' h' k n → Wr h h' a i (.int (nar .boolean v)) → Arv Z h' a cA .boolean z vs' dv → Goes p e below G (T'.setTop (mkF m q L st))) : Goes p e below G (T.setTop (mkF m pc L (.int v :: .int j :: .ref a :: st))) := by
  obtain ⟨hx, hZ, hown, hby, -⟩ := C
  obtain ⟨_, _, _, X, hF, eT, h1, h2⟩ := X
  subst hq hi hvs
  obtain ⟨cl, A, q1, Sz, q3, H, Gf⟩ := V
  obtain ⟨T', h', X', e', W', st'⟩ := stZ X hx hZ eT A (j := j) (inb_of Sz hj) (g := mkF m pc L (.int v :: .int j :: .ref a :: st)) rfl rfl (hb hby hd)
  exact go_st st' (r T' h' ⟨_, _, _, X', Fr.snoc X' hF ha, e', h1, h2⟩ W' (Arv.set A q1 Sz q3 H Gf (fits_nar_bool _) W' _ rfl hlt))
theorem g_lastore (C : Cx p s m meth c Z own bytes ml rt mn) (X : St p l e R s m args below meth c n0 T h k n) {a : Addr} {cA : ClassId} {z j : Int32} {vs vs' : List Value} {dv : Value} {i : Nat} {v : Int64} (V : Arv Z h a cA .long z vs dv) (hj : ¬ j < 0 ∧ j < z) (hi : j.toNatClampNeg = i) (hlt : i < vs.length) (hvs : vs.set i (.long v) = vs') (ha : n0 ≤ a) (hd : decode bytes pc = .ok (.lastore, 1)) (hq : pc + 1 = q)
    (r : ∀ T' h', St p l e R s m args below meth c n0 T' h' k n → Wr h h' a i (.long v) → Arv Z h' a cA .long z vs' dv → Goes p e below G (T'.setTop (mkF m q L st))) : Goes p e below G (T.setTop (mkF m pc L (.long v :: .int j :: .ref a :: st))) := by
  obtain ⟨hx, hZ, hown, hby, -⟩ := C
  obtain ⟨_, _, _, X, hF, eT, h1, h2⟩ := X
  subst hq hi hvs
  obtain ⟨cl, A, q1, Sz, q3, H, Gf⟩ := V
  obtain ⟨T', h', X', e', W', st'⟩ := stJ X hx hZ eT A (j := j) (inb_of Sz hj) (g := mkF m pc L (.long v :: .int j :: .ref a :: st)) rfl rfl (hb hby hd)
  exact go_st st' (r T' h' ⟨_, _, _, X', Fr.snoc X' hF ha, e', h1, h2⟩ W' (Arv.set A q1 Sz q3 H Gf rfl W' _ rfl hlt))
theorem g_dastore (C : Cx p s m meth c Z own bytes ml rt mn) (X : St p l e R s m args below meth c n0 T h k n) {a : Addr} {cA : ClassId} {z j : Int32} {vs vs' : List Value} {dv : Value} {i : Nat} {v : UInt64} (V : Arv Z h a cA .double z vs dv) (hj : ¬ j < 0 ∧ j < z) (hi : j.toNatClampNeg = i) (hlt : i < vs.length) (hvs : vs.set i (.double v) = vs') (ha : n0 ≤ a) (hd : decode bytes pc = .ok (.dastore, 1)) (hq : pc + 1 = q)
    (r : ∀ T' h', St p l e R s m args below meth c n0 T' h' k n → Wr h h' a i (.double v) → Arv Z h' a cA .double z vs' dv → Goes p e below G (T'.setTop (mkF m q L st))) : Goes p e below G (T.setTop (mkF m pc L (.double v :: .int j :: .ref a :: st))) := by
  obtain ⟨hx, hZ, hown, hby, -⟩ := C
  obtain ⟨_, _, _, X, hF, eT, h1, h2⟩ := X
  subst hq hi hvs
  obtain ⟨cl, A, q1, Sz, q3, H, Gf⟩ := V
  obtain ⟨T', h', X', e', W', st'⟩ := stD X hx hZ eT A (j := j) (inb_of Sz hj) (g := mkF m pc L (.double v :: .int j :: .ref a :: st)) rfl rfl (hb hby hd)
  exact go_st st' (r T' h' ⟨_, _, _, X', Fr.snoc X' hF ha, e', h1, h2⟩ W' (Arv.set A q1 Sz q3 H Gf rfl W' _ rfl hlt))
theorem g_aastore (C : Cx p s m meth c Z own bytes ml rt mn) (X : St p l e R s m args below meth c n0 T h k n) {a : Addr} {cA : ClassId} {z j : Int32} {vs vs' : List Value} {dv v : Value} {ty : FieldType} {i : Nat} (V : Arv Z h a cA ty z vs dv) (hty : ty.isReference = true) (F : Sto Z h a v) (hfv : fits ty v = true) (hj : ¬ j < 0 ∧ j < z) (hi : j.toNatClampNeg = i) (hlt : i < vs.length) (hvs : vs.set i v = vs') (ha : n0 ≤ a) (hd : decode bytes pc = .ok (.aastore, 1)) (hq : pc + 1 = q)
    (r : ∀ T' h', St p l e R s m args below meth c n0 T' h' k n → Wr h h' a i v → Arv Z h' a cA ty z vs' dv → Goes p e below G (T'.setTop (mkF m q L st))) : Goes p e below G (T.setTop (mkF m pc L (v :: .int j :: .ref a :: st))) := by
  obtain ⟨hx, hZ, hown, hby, -⟩ := C
  obtain ⟨_, _, _, X, hF, eT, h1, h2⟩ := X
  subst hq hi hvs
  obtain ⟨cl, A, q1, Sz, q3, H, Gf⟩ := V
  obtain ⟨T', h', X', e', W', st'⟩ := stR X hx hZ eT A (j := j) (inb_of Sz hj) hty F (g := mkF m pc L (v :: .int j :: .ref a :: st)) rfl rfl (hb hby hd)
  exact go_st st' (r T' h' ⟨_, _, _, X', Fr.snoc X' hF ha, e', h1, h2⟩ W' (Arv.set A q1 Sz q3 H Gf hfv W' _ rfl hlt))
theorem g_iaload (C : Cx p s m meth c Z own bytes ml rt mn) (X : St p l e R s m args below meth c n0 T h k n) {a : Addr} {cA : ClassId} {z j : Int32} {vs : List Value} {dv w : Value}  (V : Arv Z h a cA .int z vs dv) (hj : ¬ j < 0 ∧ j < z) (hv : vs.getD j.toNatClampNeg dv = w) (hd : decode bytes pc = .ok (.iaload, 1)) (hq : pc + 1 = q) (r : Goes p e below G (T.setTop (mkF m q L (w :: st)))) : Goes p e below G (T.setTop (mkF m pc L (.int j :: .ref a :: st))) := by
  obtain ⟨hx, hZ, hown, hby, -⟩ := C
  obtain ⟨_, _, _, X, hF, eT, h1, h2⟩ := X
  subst hq
  obtain ⟨cl, A, q1, Sz, q3, H, Gf⟩ := V
  exact go_st (fun t k => X.iaload hx (j := j) (v := w) (by rw [eT]; exact A.1) (State.isArrayOf_alike hZ.alike A.2.1) A.2.2 (inb_of Sz hj) (H.at (inb_of Sz hj) hv) (g := mkF m pc L (.int j :: .ref a :: st)) rfl rfl (hb hby hd) t k) r
theorem g_caload (C : Cx p s m meth c Z own bytes ml rt mn) (X : St p l e R s m args below meth c n0 T h k n) {a : Addr} {cA : ClassId} {z j : Int32} {vs : List Value} {dv w : Value}  (V : Arv Z h a cA .char z vs dv) (hj : ¬ j < 0 ∧ j < z) (hv : vs.getD j.toNatClampNeg dv = w) (hd : decode bytes pc = .ok (.caload, 1)) (hq : pc + 1 = q) (r : Goes p e below G (T.setTop (mkF m q L (w :: st)))) : Goes p e below G (T.setTop (mkF m pc L (.int j :: .ref a :: st))) := by
  obtain ⟨hx, hZ, hown, hby, -⟩ := C
  obtain ⟨_, _, _, X, hF, eT, h1, h2⟩ := X
  subst hq
  obtain ⟨cl, A, q1, Sz, q3, H, Gf⟩ := V
  exact go_st (fun t k => X.caload hx (j := j) (v := w) (by rw [eT]; exact A.1) (State.isArrayOf_alike hZ.alike A.2.1) A.2.2 (inb_of Sz hj) (H.at (inb_of Sz hj) hv) (g := mkF m pc L (.int j :: .ref a :: st)) rfl rfl (hb hby hd) t k) r
theorem g_baload (C : Cx p s m meth c Z own bytes ml rt mn) (X : St p l e R s m args below meth c n0 T h k n) {a : Addr} {cA : ClassId} {z j : Int32} {vs : List Value} {dv w : Value}  (V : Arv Z h a cA .byte z vs dv) (hj : ¬ j < 0 ∧ j < z) (hv : vs.getD j.toNatClampNeg dv = w) (hd : decode bytes pc = .ok (.baload, 1)) (hq : pc + 1 = q) (r : Goes p e below G (T.setTop (mkF m q L (w :: st)))) : Goes p e below G (T.setTop (mkF m pc L (.int j :: .ref a :: st))) := by
  obtain ⟨hx, hZ, hown, hby, -⟩ := C
  obtain ⟨_, _, _, X, hF, eT, h1, h2⟩ := X
  subst hq
  obtain ⟨cl, A, q1, Sz, q3, H, Gf⟩ := V
  exact go_st (fun t k => X.baloadBytes hx (j := j) (v := w) (by rw [eT]; exact A.1) (State.isArrayOf_alike hZ.alike A.2.1) A.2.2 (inb_of Sz hj) (H.at (inb_of Sz hj) hv) (g := mkF m pc L (.int j :: .ref a :: st)) rfl rfl (hb hby hd) t k) r
theorem g_zaload (C : Cx p s m meth c Z own bytes ml rt mn) (X : St p l e R s m args below meth c n0 T h k n) {a : Addr} {cA : ClassId} {z j : Int32} {vs : List Value} {dv w : Value}  (V : Arv Z h a cA .boolean z vs dv) (hj : ¬ j < 0 ∧ j < z) (hv : vs.getD j.toNatClampNeg dv = w) (hd : decode bytes pc = .ok (.baload, 1)) (hq : pc + 1 = q) (r : Goes p e below G (T.setTop (mkF m q L (w :: st)))) : Goes p e below G (T.setTop (mkF m pc L (.int j :: .ref a :: st))) := by
  obtain ⟨hx, hZ, hown, hby, -⟩ := C
  obtain ⟨_, _, _, X, hF, eT, h1, h2⟩ := X
  subst hq
  obtain ⟨cl, A, q1, Sz, q3, H, Gf⟩ := V
  exact go_st (fun t k => X.baloadBooleans hx (j := j) (v := w) (by rw [eT]; exact A.1) (State.isArrayOf_alike hZ.alike A.2.1) A.2.2 (inb_of Sz hj) (H.at (inb_of Sz hj) hv) (g := mkF m pc L (.int j :: .ref a :: st)) rfl rfl (hb hby hd) t k) r
theorem g_laload (C : Cx p s m meth c Z own bytes ml rt mn) (X : St p l e R s m args below meth c n0 T h k n) {a : Addr} {cA : ClassId} {z j : Int32} {vs : List Value} {dv w : Value}  (V : Arv Z h a cA .long z vs dv) (hj : ¬ j < 0 ∧ j < z) (hv : vs.getD j.toNatClampNeg dv = w) (hd : decode bytes pc = .ok (.laload, 1)) (hq : pc + 1 = q) (r : Goes p e below G (T.setTop (mkF m q L (w :: st)))) : Goes p e below G (T.setTop (mkF m pc L (.int j :: .ref a :: st))) := by
  obtain ⟨hx, hZ, hown, hby, -⟩ := C
  obtain ⟨_, _, _, X, hF, eT, h1, h2⟩ := X
  subst hq
  obtain ⟨cl, A, q1, Sz, q3, H, Gf⟩ := V
  exact go_st (fun t k => X.laload hx (j := j) (v := w) (by rw [eT]; exact A.1) (State.isArrayOf_alike hZ.alike A.2.1) A.2.2 (inb_of Sz hj) (H.at (inb_of Sz hj) hv) (g := mkF m pc L (.int j :: .ref a :: st)) rfl rfl (hb hby hd) t k) r
theorem g_daload (C : Cx p s m meth c Z own bytes ml rt mn) (X : St p l e R s m args below meth c n0 T h k n) {a : Addr} {cA : ClassId} {z j : Int32} {vs : List Value} {dv w : Value}  (V : Arv Z h a cA .double z vs dv) (hj : ¬ j < 0 ∧ j < z) (hv : vs.getD j.toNatClampNeg dv = w) (hd : decode bytes pc = .ok (.daload, 1)) (hq : pc + 1 = q) (r : Goes p e below G (T.setTop (mkF m q L (w :: st)))) : Goes p e below G (T.setTop (mkF m pc L (.int j :: .ref a :: st))) := by
  obtain ⟨hx, hZ, hown, hby, -⟩ := C
  obtain ⟨_, _, _, X, hF, eT, h1, h2⟩ := X
  subst hq
  obtain ⟨cl, A, q1, Sz, q3, H, Gf⟩ := V
  exact go_st (fun t k => X.daload hx (j := j) (v := w) (by rw [eT]; exact A.1) (State.isArrayOf_alike hZ.alike A.2.1) A.2.2 (inb_of Sz hj) (H.at (inb_of Sz hj) hv) (g := mkF m pc L (.int j :: .ref a :: st)) rfl rfl (hb hby hd) t k) r
theorem g_aaload (C : Cx p s m meth c Z own bytes ml rt mn) (X : St p l e R s m args below meth c n0 T h k n) {a : Addr} {cA : ClassId} {z j : Int32} {vs : List Value} {dv w : Value} {ty : FieldType} (hty : ty.isReference = true) (V : Arv Z h a cA ty z vs dv) (hj : ¬ j < 0 ∧ j < z) (hv : vs.getD j.toNatClampNeg dv = w) (hd : decode bytes pc = .ok (.aaload, 1)) (hq : pc + 1 = q) (r : Goes p e below G (T.setTop (mkF m q L (w :: st)))) : Goes p e below G (T.setTop (mkF m pc L (.int j :: .ref a :: st))) := by
  obtain ⟨hx, hZ, hown, hby, -⟩ := C
  obtain ⟨_, _, _, X, hF, eT, h1, h2⟩ := X
  subst hq
  obtain ⟨cl, A, q1, Sz, q3, H, Gf⟩ := V
  exact go_st (fun t k => X.aaload hx (j := j) (v := w) (by rw [eT]; exact A.1) (State.isArrayOf_alike hZ.alike A.2.1) hty A.2.2 (inb_of Sz hj) (H.at (inb_of Sz hj) hv) (g := mkF m pc L (.int j :: .ref a :: st)) rfl rfl (hb hby hd) t k) r
theorem g_alen (C : Cx p s m meth c Z own bytes ml rt mn) (X : St p l e R s m args below meth c n0 T h k n) {a : Addr} {cA : ClassId} {z : Int32} {vs : List Value} {dv : Value} {ty : FieldType} (V : Arv Z h a cA ty z vs dv) (hd : decode bytes pc = .ok (.arraylength, 1)) (hq : pc + 1 = q) (r : Goes p e below G (T.setTop (mkF m q L (.int z :: st)))) : Goes p e below G (T.setTop (mkF m pc L (.ref a :: st))) := by
  obtain ⟨hx, hZ, hown, hby, -⟩ := C
  obtain ⟨_, _, _, X, hF, eT, h1, h2⟩ := X
  subst hq
  obtain ⟨cl, A, q1, Sz, q3, H, Gf⟩ := V
  exact go_st (fun t k => X.arraylength hx (by rw [eT]; exact A.1) (State.isArrayOf_alike hZ.alike A.2.1) (g := mkF m pc L (.ref a :: st)) rfl rfl (hb hby hd) t (by rw [len_of Sz q3]; exact k)) r
theorem g_newR (C : Cx p s m meth c Z own bytes ml rt mn) (X : St p l e R s m args below meth c n0 T h k n) {K : String} {i cap k' n' : Nat} {z : Int32} (w1 : (Cond.classLink own i K).before a0 Z = true) (w2 : (Cond.arrayOver (.object K)).before a0 Z = true) (hd : decode bytes pc = .ok (.anewarray i, 3)) (hq : pc + 3 = q) (hz : ¬ z < 0) (hcap : z.toNatClampNeg ≤ cap) (hcb : cap * 8 ≤ 536870912) (hk : k + 1 = k') (hn : n + cap = n') (hkR : k' ≤ R.cells) (hnR : n' ≤ R.slots)
    (r : ∀ T' h' cA a, a = h.size → St p l e R s m args below meth c n0 T' h' k' n' → Ext h h' → Arv Z h' a cA (.object K) z [] .null → Ovr Z cA K → Goes p e below G (T'.setTop (mkF m q L (.ref a :: st)))) : Goes p e below G (T.setTop (mkF m pc L (.int z :: st))) := by
  obtain ⟨hx, hZ, hown, hby, -⟩ := C
  obtain ⟨_, _, _, X, hF, eT, h1, h2⟩ := X
  subst hq hk hn
  obtain ⟨T', h', cA, X', e', E', A', O', st'⟩ := newR X hx hZ hown w1 w2 eT (g := mkF m pc L (.int z :: st)) rfl (hb hby hd) rfl hz (cap := cap) hcap hcb (Nat.le_trans (Nat.add_le_add_right h1 1) hkR) (Nat.le_trans (Nat.add_le_add_right h2 cap) hnR)
  exact go_st st' (r T' h' cA _ rfl ⟨_, _, _, X', hF, e', Nat.add_le_add_right h1 1, Nat.add_le_add_right h2 cap⟩ E' (Arv.new A' hz) O')
theorem g_castY (C : Cx p s m meth c Z own bytes ml rt mn) (X : St p l e R s m args below meth c n0 T h k n) {K : String} {i : Nat} {a : Addr} (w : (Cond.classLink own i K).before a0 Z = true) (I : Ins Z h a K true) (hd : decode bytes pc = .ok (.checkcast i, 3)) (hq : pc + 3 = q) (r : ∀ T', St p l e R s m args below meth c n0 T' h k n → Goes p e below G (T'.setTop (mkF m q L (.ref a :: st)))) : Goes p e below G (T.setTop (mkF m pc L (.ref a :: st))) := by
  obtain ⟨hx, hZ, hown, hby, -⟩ := C
  obtain ⟨_, _, _, X, hF, eT, h1, h2⟩ := X
  subst hq
  obtain ⟨T', X', e', st'⟩ := castY X hx hZ hown w eT I (g := mkF m pc L (.ref a :: st)) rfl rfl (hb hby hd)
  exact go_st st' (r T' ⟨_, _, _, X', hF, e', h1, h2⟩)
theorem g_instY (C : Cx p s m meth c Z own bytes ml rt mn) (X : St p l e R s m args below meth c n0 T h k n) {K : String} {i : Nat} {a : Addr} (w : (Cond.classLink own i K).before a0 Z = true) (I : Ins Z h a K true) (hd : decode bytes pc = .ok (.instanceof i, 3)) (hq : pc + 3 = q) (r : ∀ T', St p l e R s m args below meth c n0 T' h k n → Goes p e below G (T'.setTop (mkF m q L (.int 1 :: st)))) : Goes p e below G (T.setTop (mkF m pc L (.ref a :: st))) := by
  obtain ⟨hx, hZ, hown, hby, -⟩ := C
  obtain ⟨_, _, _, X, hF, eT, h1, h2⟩ := X
  subst hq
  obtain ⟨T', X', e', st'⟩ := instY X hx hZ hown w eT I (g := mkF m pc L (.ref a :: st)) rfl rfl (hb hby hd)
  exact go_st st' (r T' ⟨_, _, _, X', hF, e', h1, h2⟩)
theorem g_instNo (C : Cx p s m meth c Z own bytes ml rt mn) (X : St p l e R s m args below meth c n0 T h k n) {K K' : String} {i : Nat} {a : Addr} (w : (Cond.classLink own i K).before a0 Z = true) (E : Exa Z h a K') (F : ∃ c t, Z.vm.findClass K' = some c ∧ Z.vm.findClass K = some t ∧ Z.vm.assignable c t = false) (hd : decode bytes pc = .ok (.instanceof i, 3)) (hq : pc + 3 = q) (r : ∀ T', St p l e R s m args below meth c n0 T' h k n → Goes p e below G (T'.setTop (mkF m q L (.int 0 :: st)))) : Goes p e below G (T.setTop (mkF m pc L (.ref a :: st))) := by
  obtain ⟨hx, hZ, hown, hby, -⟩ := C
  obtain ⟨_, _, _, X, hF, eT, h1, h2⟩ := X
  subst hq
  obtain ⟨T', X', e', st'⟩ := instNo X hx hZ hown w eT E F (g := mkF m pc L (.ref a :: st)) rfl rfl (hb hby hd)
  exact go_st st' (r T' ⟨_, _, _, X', hF, e', h1, h2⟩)
theorem g_instNull (C : Cx p s m meth c Z own bytes ml rt mn) (X : St p l e R s m args below meth c n0 T h k n) {i : Nat} (hd : decode bytes pc = .ok (.instanceof i, 3)) (hq : pc + 3 = q) (r : Goes p e below G (T.setTop (mkF m q L (.int 0 :: st)))) : Goes p e below G (T.setTop (mkF m pc L (.null :: st))) := by
  obtain ⟨hx, hZ, hown, hby, -⟩ := C
  obtain ⟨_, _, _, X, hF, eT, h1, h2⟩ := X
  subst hq
  exact go_st (fun t k => X.instanceofNull hx (g := mkF m pc L (.null :: st)) rfl rfl (hb hby hd) t k) r
theorem g_castNull (C : Cx p s m meth c Z own bytes ml rt mn) (X : St p l e R s m args below meth c n0 T h k n) {i : Nat} (hd : decode bytes pc = .ok (.checkcast i, 3)) (hq : pc + 3 = q) (r : Goes p e below G (T.setTop (mkF m q L (.null :: st)))) : Goes p e below G (T.setTop (mkF m pc L (.null :: st))) := by
  obtain ⟨hx, hZ, hown, hby, -⟩ := C
  obtain ⟨_, _, _, X, hF, eT, h1, h2⟩ := X
  subst hq
  exact go_st (fun t k => X.checkcastNull hx (g := mkF m pc L (.null :: st)) rfl rfl (hb hby hd) t k) r
theorem g_getClass (C : Cx p s m meth c Z own bytes ml rt mn) (X : St p l e R s m args below meth c n0 T h k n) {K : String} {i : Nat} {a mr : Addr} (w1 : (Cond.methodLink own i ⟨"java/lang/Object", "getClass", "()Ljava/lang/Class;"⟩).before a0 Z = true) (w2 : (Cond.declares ⟨"java/lang/Object", "getClass", "()Ljava/lang/Class;"⟩).before a0 Z = true) (w4 : (Cond.selects K ⟨"java/lang/Object", "getClass", "()Ljava/lang/Class;"⟩ ⟨"java/lang/Object", "getClass", "()Ljava/lang/Class;"⟩).before a0 Z = true)
    (w5 : (Cond.instanceMethod ⟨"java/lang/Object", "getClass", "()Ljava/lang/Class;"⟩).before a0 Z = true) (w6 : (Cond.native ⟨"java/lang/Object", "getClass", "()Ljava/lang/Class;"⟩).before a0 Z = true) (E : Exa Z h a K) (M : ∃ c k, Z.vm.findClass K = some c ∧ Z.vm.classes[c]? = some k ∧ k.mirror = some mr) (hsz : L.size = ml) (hd : decode bytes pc = .ok (.invokevirtual i, 3)) (hq : pc + 3 = q) (hf : 1 ≤ R.frames) (hl : (st.map fun v => v.category).sum + (nativeFrameWords "java/lang/Object" "getClass" 1 + 11) ≤ R.locals)
    (r : ∀ T', St p l e R s m args below meth c n0 T' h k n → Goes p e below G (T'.setTop (mkF m q L (.ref mr :: st)))) : Goes p e below G (T.setTop (mkF m pc L (.ref a :: st))) := by
  obtain ⟨hx, hZ, hown, hby, hml, -⟩ := C
  obtain ⟨_, _, _, X, hF, eT, h1, h2⟩ := X
  subst hq
  obtain ⟨cB, kB, i1, i2, i3⟩ := isOf hZ eT E
  obtain ⟨cc, kc, m1, m2, m3⟩ := M
  rw [hZ.alike.findClass] at i1
  cases i1.symm.trans m1
  obtain ⟨k', q, ek⟩ := hZ.alike.2.2 _ _ m2
  obtain ⟨vm', X', st'⟩ := X.getClassOf hx hown (mvT hZ w1) (mvT hZ w2) (notFace_of_selects (args := #[]) (mvT hZ w4)) (mvT hZ w4) (mvT hZ w5) (mvT hZ w6) (by rw [hZ.alike.findClass]; exact m1) i3 q (by rw [ek]; exact m3) (g := mkF m pc L (.ref a :: st)) rfl (hsz.trans hml.symm) rfl (hb hby hd) hf (by show 2 * 0 + _ + _ ≤ _; omega)
  exact go_st st' (r _ ⟨_, _, _, X', hF, eT, h1, h2⟩)
theorem g_callSb (C : Cx p s m meth c Z own bytes ml rt mn) (X : St p l e R s m args below meth c n0 T h k n) {as' : Array Value} {argsL : List Value} {ps : List FieldType} {rt' : Option FieldType} {k' n' W kc ks : Nat} {QL : Option Value → Heap → List Loc → Prop} {y : MethodName} {i : Nat} (hy : y.cls ≠ "java/lang/invoke/MethodHandle" ∧ y.cls ≠ "java/lang/invoke/VarHandle") (w1 : (Cond.methodLink own i y).before a0 Z = true) (w2 : (Cond.static y).before a0 Z = true) {bts : ByteArray} {mxl : Nat} {rty : Option FieldType} (w8 : (Cond.code y bts mxl rty).before a0 Z = true) (w9 : (Cond.initialized y.cls).before a0 Z = true) (bk : Back l R p e below s args y 3 W (fun A a => a = as' ∧ A.U.heap = h ∧ A.cells + kc ≤ R.cells ∧ A.slots + ks ≤ R.slots) (fun A _ v B => ∃ L, QL v B.U.heap L ∧ B.locs = A.locs ++ L ∧ B.cells = A.cells + kc ∧ B.slots = A.slots + ks)) (hk : k + kc = k') (hn : n + ks = n') (hkR : k' ≤ R.cells) (hnR : n' ≤ R.slots) (hsz : L.size = ml) (hdd : parseMethodDescriptor y.desc = some ⟨ps, rt'⟩) (hlen : argsL.length = ps.length) (hst : st = argsL.reverse ++ rest) (has : argsL.toArray = as') (hW : (rest.map fun v => v.category).sum = W) (hd : decode bytes pc = .ok (.invokestatic i, 3)) (hq : pc + 3 = q)
    (r : ∀ v T' h' L', St p l e R s m args below meth c n0 T' h' k' n' ∨ ¬ Fr n0 L' → QL v h' L' → Goes p e below G (T'.setTop (mkF m q L (v.toList ++ rest)))) : Goes p e below G (T.setTop (mkF m pc L st)) := by
  obtain ⟨hx, hZ, hown, hby, hml, -⟩ := C
  obtain ⟨_, cells, slots, X, hF, eT, h1, h2⟩ := X
  subst hq hk hn has hst hW
  obtain ⟨_, _, ⟨T', Lo, kk, nn⟩, -, X', ⟨Lc, hQ, q1, q2, q3⟩, st'⟩ := Jvm.LawKit.callS X hx hown (mvT hZ w1) (mvT hZ w2) (mvT hZ w9) (mvT hZ w8) hy bk (g := mkF m pc L (argsL.reverse ++ rest)) rfl (hsz.trans hml.symm) (argsL := argsL) (rest := rest) (lenOf hdd hlen) rfl (by show 2 * 0 + _ ≤ _; omega) (hb hby hd) (fun _ _ => ⟨rfl, eT, Nat.le_trans (Nat.add_le_add_right h1 _) hkR, Nat.le_trans (Nat.add_le_add_right h2 _) hnR⟩)
  dsimp only [Pt.U, Pt.locs, Pt.cells, Pt.slots] at X' q1 q2 q3 st' hQ
  subst q1 q2 q3
  refine go_st st' (r _ T' _ Lc ?_ hQ)
  by_cases hFr : Fr n0 Lc
  · exact Or.inl ⟨_, _, _, X', Fr.app hF hFr, rfl, Nat.add_le_add_right h1 _, Nat.add_le_add_right h2 _⟩
  · exact Or.inr hFr
theorem g_callS1 (C : Cx p s m meth c Z own bytes ml rt mn) (X : St p l e R s m args below meth c n0 T h k n) {rm : Room} {as' : Array Value} {bts : ByteArray} {mxl : Nat} {rty : Option FieldType} {argsL : List Value} {ps : List FieldType} {rt' : Option FieldType} {k' n' W : Nat} {Q : Value → Heap → Prop} {y : MethodName} {i : Nat} (hy : y.cls ≠ "java/lang/invoke/MethodHandle" ∧ y.cls ≠ "java/lang/invoke/VarHandle") (w1 : (Cond.methodLink own i y).before a0 Z = true) (w2 : (Cond.static y).before a0 Z = true) (w8 : (Cond.code y bts mxl rty).before a0 Z = true) (w9 : (Cond.initialized y.cls).before a0 Z = true) (hM : Met1 l Z y bts mxl rty rm as' h n0 Q) (hf : rm.frames + 1 ≤ R.frames) (hl : W + (mxl + 11) + rm.locals ≤ R.locals) (hk : k + rm.cells = k') (hn : n + rm.slots = n') (hkR : k' ≤ R.cells) (hnR : n' ≤ R.slots) (hsz : L.size = ml) (hdd : parseMethodDescriptor y.desc = some ⟨ps, rt'⟩) (hlen : argsL.length = ps.length) (hst : st = argsL.reverse ++ rest) (has : argsL.toArray = as') (hW : (rest.map fun v => v.category).sum = W) (hd : decode bytes pc = .ok (.invokestatic i, 3)) (hq : pc + 3 = q)
    (r : ∀ w T' h', St p l e R s m args below meth c n0 T' h' k' n' → Q w h' → Goes p e below G (T'.setTop (mkF m q L (w :: rest)))) : Goes p e below G (T.setTop (mkF m pc L st)) := by
  have bk := backOf (Q := fun v h L => Fr n0 L ∧ (∃ w, v = some w ∧ Q w h)) (R := R) (p := p) (e := e) (below := below) (s := s) (args := args) (len := 3) (W := W) (hM []) C.2.1 w8 w9 hf hl
  refine g_callSb C X (QL := fun v h L => Fr n0 L ∧ (∃ w, v = some w ∧ Q w h)) hy w1 w2 w8 w9 bk hk hn hkR hnR hsz hdd hlen hst has hW hd hq ?_
  rintro v T' h' L' hX ⟨hFr, hQ⟩
  obtain ⟨w, rfl, hQ⟩ := hQ
  exact r w T' h' (hX.resolve_right fun z => z hFr) hQ
theorem g_callS0 (C : Cx p s m meth c Z own bytes ml rt mn) (X : St p l e R s m args below meth c n0 T h k n) {rm : Room} {as' : Array Value} {bts : ByteArray} {mxl : Nat} {rty : Option FieldType} {argsL : List Value} {ps : List FieldType} {rt' : Option FieldType} {k' n' W : Nat} {Q : Heap → Prop} {y : MethodName} {i : Nat} (hy : y.cls ≠ "java/lang/invoke/MethodHandle" ∧ y.cls ≠ "java/lang/invoke/VarHandle") (w1 : (Cond.methodLink own i y).before a0 Z = true) (w2 : (Cond.static y).before a0 Z = true) (w8 : (Cond.code y bts mxl rty).before a0 Z = true) (w9 : (Cond.initialized y.cls).before a0 Z = true) (hM : Met0 l Z y bts mxl rty rm as' h n0 Q) (hf : rm.frames + 1 ≤ R.frames) (hl : W + (mxl + 11) + rm.locals ≤ R.locals) (hk : k + rm.cells = k') (hn : n + rm.slots = n') (hkR : k' ≤ R.cells) (hnR : n' ≤ R.slots) (hsz : L.size = ml) (hdd : parseMethodDescriptor y.desc = some ⟨ps, rt'⟩) (hlen : argsL.length = ps.length) (hst : st = argsL.reverse ++ rest) (has : argsL.toArray = as') (hW : (rest.map fun v => v.category).sum = W) (hd : decode bytes pc = .ok (.invokestatic i, 3)) (hq : pc + 3 = q)
    (r : ∀ T' h', St p l e R s m args below meth c n0 T' h' k' n' → Q h' → Goes p e below G (T'.setTop (mkF m q L rest))) : Goes p e below G (T.setTop (mkF m pc L st)) := by
  have bk := backOf (Q := fun v h L => Fr n0 L ∧ (v = none ∧ Q h)) (R := R) (p := p) (e := e) (below := below) (s := s) (args := args) (len := 3) (W := W) (hM []) C.2.1 w8 w9 hf hl
  refine g_callSb C X (QL := fun v h L => Fr n0 L ∧ (v = none ∧ Q h)) hy w1 w2 w8 w9 bk hk hn hkR hnR hsz hdd hlen hst has hW hd hq ?_
  rintro v T' h' L' hX ⟨hFr, hQ⟩
  obtain ⟨rfl, hQ⟩ := hQ
  exact r T' h' (hX.resolve_right fun z => z hFr) hQ
theorem g_callIb (C : Cx p s m meth c Z own bytes ml rt mn) (X : St p l e R s m args below meth c n0 T h k n) {as' : Array Value} {argsL : List Value} {ps : List FieldType} {rt' : Option FieldType} {k' n' W kc ks : Nat} {QL : Option Value → Heap → List Loc → Prop} {y : MethodName} {i : Nat} {a : Addr} (hy : y.cls ≠ "java/lang/invoke/MethodHandle" ∧ y.cls ≠ "java/lang/invoke/VarHandle") (hy1 : y.name = "<init>") (w1 : (Cond.methodLink own i y).before a0 Z = true) (w2 : (Cond.instanceMethod y).before a0 Z = true) {bts : ByteArray} {mxl : Nat} (w8 : (Cond.code y bts mxl none).before a0 Z = true) (bk : Back l R p e below s args y 3 W (fun A a => a = as' ∧ A.U.heap = h ∧ A.cells + kc ≤ R.cells ∧ A.slots + ks ≤ R.slots) (fun A _ v B => ∃ L, QL v B.U.heap L ∧ B.locs = A.locs ++ L ∧ B.cells = A.cells + kc ∧ B.slots = A.slots + ks)) (hk : k + kc = k') (hn : n + ks = n') (hkR : k' ≤ R.cells) (hnR : n' ≤ R.slots) (hsz : L.size = ml) (hdd : parseMethodDescriptor y.desc = some ⟨ps, rt'⟩) (hlen : argsL.length = ps.length) (hst : st = argsL.reverse ++ .ref a :: rest) (has : (.ref a :: argsL).toArray = as') (hW : (rest.map fun v => v.category).sum = W) (hd : decode bytes pc = .ok (.invokespecial i, 3)) (hq : pc + 3 = q)
    (r : ∀ v T' h' L', St p l e R s m args below meth c n0 T' h' k' n' ∨ ¬ Fr n0 L' → QL v h' L' → Goes p e below G (T'.setTop (mkF m q L (v.toList ++ rest)))) : Goes p e below G (T.setTop (mkF m pc L st)) := by
  obtain ⟨hx, hZ, hown, hby, hml, -⟩ := C
  obtain ⟨_, cells, slots, X, hF, eT, h1, h2⟩ := X
  subst hq hk hn has hst hW
  obtain ⟨_, _, ⟨T', Lo, kk, nn⟩, -, X', ⟨Lc, hQ, q1, q2, q3⟩, st'⟩ := X.specialBack hx hy1 hown (mvT hZ w1) (mvT hZ w2) (mvT hZ w8) hy bk (g := mkF m pc L (argsL.reverse ++ .ref a :: rest)) rfl (hsz.trans hml.symm) (Steps.refl _) (a := a) (argsL := argsL) (rest := rest) (lenOf hdd hlen) rfl (by show 2 * 0 + _ ≤ _; omega) (hb hby hd) (fun _ _ => ⟨rfl, eT, Nat.le_trans (Nat.add_le_add_right h1 _) hkR, Nat.le_trans (Nat.add_le_add_right h2 _) hnR⟩)
  dsimp only [Pt.U, Pt.locs, Pt.cells, Pt.slots] at X' q1 q2 q3 st' hQ
  subst q1 q2 q3
  refine go_tr st' (r _ T' _ Lc ?_ hQ)
  by_cases hFr : Fr n0 Lc
  · exact Or.inl ⟨_, _, _, X', Fr.app hF hFr, rfl, Nat.add_le_add_right h1 _, Nat.add_le_add_right h2 _⟩
  · exact Or.inr hFr
theorem g_callI0 (C : Cx p s m meth c Z own bytes ml rt mn) (X : St p l e R s m args below meth c n0 T h k n) {rm : Room} {as' : Array Value} {bts : ByteArray} {mxl : Nat} {argsL : List Value} {ps : List FieldType} {rt' : Option FieldType} {k' n' W : Nat} {Q : Heap → Prop} {y : MethodName} {i : Nat} {a : Addr} (hy : y.cls ≠ "java/lang/invoke/MethodHandle" ∧ y.cls ≠ "java/lang/invoke/VarHandle") (hy1 : y.name = "<init>") (w1 : (Cond.methodLink own i y).before a0 Z = true) (w2 : (Cond.instanceMethod y).before a0 Z = true) (w8 : (Cond.code y bts mxl none).before a0 Z = true) (w9 : (Cond.initialized y.cls).before a0 Z = true) (hM : Met0 l Z y bts mxl none rm as' h n0 Q) (hf : rm.frames + 1 ≤ R.frames) (hl : W + (mxl + 11) + rm.locals ≤ R.locals) (hk : k + rm.cells = k') (hn : n + rm.slots = n') (hkR : k' ≤ R.cells) (hnR : n' ≤ R.slots) (hsz : L.size = ml) (hdd : parseMethodDescriptor y.desc = some ⟨ps, rt'⟩) (hlen : argsL.length = ps.length) (hst : st = argsL.reverse ++ .ref a :: rest) (has : (.ref a :: argsL).toArray = as') (hW : (rest.map fun v => v.category).sum = W) (hd : decode bytes pc = .ok (.invokespecial i, 3)) (hq : pc + 3 = q)
    (r : ∀ T' h', St p l e R s m args below meth c n0 T' h' k' n' → Q h' → Goes p e below G (T'.setTop (mkF m q L rest))) : Goes p e below G (T.setTop (mkF m pc L st)) := by
  have bk := backOf (Q := fun v h L => Fr n0 L ∧ (v = none ∧ Q h)) (R := R) (p := p) (e := e) (below := below) (s := s) (args := args) (len := 3) (W := W) (hM []) C.2.1 w8 w9 hf hl
  refine g_callIb C X (QL := fun v h L => Fr n0 L ∧ (v = none ∧ Q h)) hy hy1 w1 w2 w8 bk hk hn hkR hnR hsz hdd hlen hst has hW hd hq ?_
  rintro v T' h' L' hX ⟨hFr, hQ⟩
  obtain ⟨rfl, hQ⟩ := hQ
  exact r T' h' (hX.resolve_right fun z => z hFr) hQ
theorem g_callVb (C : Cx p s m meth c Z own bytes ml rt mn) (X : St p l e R s m args below meth c n0 T h k n) {as' : Array Value} {argsL : List Value} {ps : List FieldType} {rt' : Option FieldType} {k' n' W kc ks : Nat} {QL : Option Value → Heap → List Loc → Prop} {y z : MethodName} {i : Nat} {a : Addr} {K : String} (hy : y.cls ≠ "java/lang/invoke/MethodHandle" ∧ y.cls ≠ "java/lang/invoke/VarHandle") (w1 : (Cond.methodLink own i y).before a0 Z = true) (w2 : (Cond.declares y).before a0 Z = true) (w3 : (Cond.selects K y z).before a0 Z = true) (w4 : (Cond.instanceMethod z).before a0 Z = true) (hnf : ∀ s' : State, Z.Warmed39 s'.vm → NotFace s' y) (E : Exa Z h a K) (bk : Back l R p e below s args z 3 W (fun A a => a = as' ∧ A.U.heap = h ∧ A.cells + kc ≤ R.cells ∧ A.slots + ks ≤ R.slots) (fun A _ v B => ∃ L, QL v B.U.heap L ∧ B.locs = A.locs ++ L ∧ B.cells = A.cells + kc ∧ B.slots = A.slots + ks)) (hk : k + kc = k') (hn : n + ks = n') (hkR : k' ≤ R.cells) (hnR : n' ≤ R.slots) (hsz : L.size = ml) (hdd : parseMethodDescriptor y.desc = some ⟨ps, rt'⟩) (hlen : argsL.length = ps.length) (hst : st = argsL.reverse ++ .ref a :: rest) (has : (.ref a :: argsL).toArray = as') (hW : (rest.map fun v => v.category).sum = W) (hd : decode bytes pc = .ok (.invokevirtual i, 3)) (hq : pc + 3 = q)
    (r : ∀ v T' h' L', St p l e R s m args below meth c n0 T' h' k' n' ∨ ¬ Fr n0 L' → QL v h' L' → Goes p e below G (T'.setTop (mkF m q L (v.toList ++ rest)))) : Goes p e below G (T.setTop (mkF m pc L st)) := by
  obtain ⟨hx, hZ, hown, hby, hml, -⟩ := C
  obtain ⟨_, cells, slots, X, hF, eT, h1, h2⟩ := X
  subst hq hk hn has hst hW
  obtain ⟨cB, kB, qa, qb, qc⟩ := isOf hZ eT E
  obtain ⟨_, _, ⟨T', Lo, kk, nn⟩, -, X', ⟨Lc, hQ, q1, q2, q3⟩, st'⟩ := X.virtualBack hx hown (mvT hZ w1) (mvT hZ w2) (hnf s hZ) (mvT hZ w3) (mvT hZ w4) hy bk qa qc (g := mkF m pc L (argsL.reverse ++ .ref a :: rest)) rfl (hsz.trans hml.symm) (Steps.refl _) (argsL := argsL) (rest := rest) (lenOf hdd hlen) rfl (by show 2 * 0 + _ ≤ _; omega) (hb hby hd) (fun _ _ => ⟨rfl, eT, Nat.le_trans (Nat.add_le_add_right h1 _) hkR, Nat.le_trans (Nat.add_le_add_right h2 _) hnR⟩)
  dsimp only [Pt.U, Pt.locs, Pt.cells, Pt.slots] at X' q1 q2 q3 st' hQ
  subst q1 q2 q3
  refine go_tr st' (r _ T' _ Lc ?_ hQ)
  by_cases hFr : Fr n0 Lc
  · exact Or.inl ⟨_, _, _, X', Fr.app hF hFr, rfl, Nat.add_le_add_right h1 _, Nat.add_le_add_right h2 _⟩
  · exact Or.inr hFr
theorem g_callV1 (C : Cx p s m meth c Z own bytes ml rt mn) (X : St p l e R s m args below meth c n0 T h k n) {rm : Room} {as' : Array Value} {bts : ByteArray} {mxl : Nat} {rty : Option FieldType} {argsL : List Value} {ps : List FieldType} {rt' : Option FieldType} {k' n' W : Nat} {Q : Value → Heap → Prop} {y z : MethodName} {i : Nat} {a : Addr} {K : String} (hy : y.cls ≠ "java/lang/invoke/MethodHandle" ∧ y.cls ≠ "java/lang/invoke/VarHandle") (w1 : (Cond.methodLink own i y).before a0 Z = true) (w2 : (Cond.declares y).before a0 Z = true) (w3 : (Cond.selects K y z).before a0 Z = true) (w4 : (Cond.instanceMethod z).before a0 Z = true) (hnf : ∀ s' : State, Z.Warmed39 s'.vm → NotFace s' y) (E : Exa Z h a K) (w8 : (Cond.code z bts mxl rty).before a0 Z = true) (w9 : (Cond.initialized z.cls).before a0 Z = true) (hM : Met1 l Z z bts mxl rty rm as' h n0 Q) (hf : rm.frames + 1 ≤ R.frames) (hl : W + (mxl + 11) + rm.locals ≤ R.locals) (hk : k + rm.cells = k') (hn : n + rm.slots = n') (hkR : k' ≤ R.cells) (hnR : n' ≤ R.slots) (hsz : L.size = ml) (hdd : parseMethodDescriptor y.desc = some ⟨ps, rt'⟩) (hlen : argsL.length = ps.length) (hst : st = argsL.reverse ++ .ref a :: rest) (has : (.ref a :: argsL).toArray = as') (hW : (rest.map fun v => v.category).sum = W) (hd : decode bytes pc = .ok (.invokevirtual i, 3)) (hq : pc + 3 = q)
    (r : ∀ w T' h', St p l e R s m args below meth c n0 T' h' k' n' → Q w h' → Goes p e below G (T'.setTop (mkF m q L (w :: rest)))) : Goes p e below G (T.setTop (mkF m pc L st)) := by
  have bk := backOf (Q := fun v h L => Fr n0 L ∧ (∃ w, v = some w ∧ Q w h)) (R := R) (p := p) (e := e) (below := below) (s := s) (args := args) (len := 3) (W := W) (hM []) C.2.1 w8 w9 hf hl
  refine g_callVb C X (QL := fun v h L => Fr n0 L ∧ (∃ w, v = some w ∧ Q w h)) hy w1 w2 w3 w4 hnf E bk hk hn hkR hnR hsz hdd hlen hst has hW hd hq ?_
  rintro v T' h' L' hX ⟨hFr, hQ⟩
  obtain ⟨w, rfl, hQ⟩ := hQ
  exact r w T' h' (hX.resolve_right fun z => z hFr) hQ
theorem g_callV0 (C : Cx p s m meth c Z own bytes ml rt mn) (X : St p l e R s m args below meth c n0 T h k n) {rm : Room} {as' : Array Value} {bts : ByteArray} {mxl : Nat} {rty : Option FieldType} {argsL : List Value} {ps : List FieldType} {rt' : Option FieldType} {k' n' W : Nat} {Q : Heap → Prop} {y z : MethodName} {i : Nat} {a : Addr} {K : String} (hy : y.cls ≠ "java/lang/invoke/MethodHandle" ∧ y.cls ≠ "java/lang/invoke/VarHandle") (w1 : (Cond.methodLink own i y).before a0 Z = true) (w2 : (Cond.declares y).before a0 Z = true) (w3 : (Cond.selects K y z).before a0 Z = true) (w4 : (Cond.instanceMethod z).before a0 Z = true) (hnf : ∀ s' : State, Z.Warmed39 s'.vm → NotFace s' y) (E : Exa Z h a K) (w8 : (Cond.code z bts mxl rty).before a0 Z = true) (w9 : (Cond.initialized z.cls).before a0 Z = true) (hM : Met0 l Z z bts mxl rty rm as' h n0 Q) (hf : rm.frames + 1 ≤ R.frames) (hl : W + (mxl + 11) + rm.locals ≤ R.locals) (hk : k + rm.cells = k') (hn : n + rm.slots = n') (hkR : k' ≤ R.cells) (hnR : n' ≤ R.slots) (hsz : L.size = ml) (hdd : parseMethodDescriptor y.desc = some ⟨ps, rt'⟩) (hlen : argsL.length = ps.length) (hst : st = argsL.reverse ++ .ref a :: rest) (has : (.ref a :: argsL).toArray = as') (hW : (rest.map fun v => v.category).sum = W) (hd : decode bytes pc = .ok (.invokevirtual i, 3)) (hq : pc + 3 = q)
    (r : ∀ T' h', St p l e R s m args below meth c n0 T' h' k' n' → Q h' → Goes p e below G (T'.setTop (mkF m q L rest))) : Goes p e below G (T.setTop (mkF m pc L st)) := by
  have bk := backOf (Q := fun v h L => Fr n0 L ∧ (v = none ∧ Q h)) (R := R) (p := p) (e := e) (below := below) (s := s) (args := args) (len := 3) (W := W) (hM []) C.2.1 w8 w9 hf hl
  refine g_callVb C X (QL := fun v h L => Fr n0 L ∧ (v = none ∧ Q h)) hy w1 w2 w3 w4 hnf E bk hk hn hkR hnR hsz hdd hlen hst has hW hd hq ?_
  rintro v T' h' L' hX ⟨hFr, hQ⟩
  obtain ⟨rfl, hQ⟩ := hQ
  exact r T' h' (hX.resolve_right fun z => z hFr) hQ
theorem g_callUb (C : Cx p s m meth c Z own bytes ml rt mn) (X : St p l e R s m args below meth c n0 T h k n) {as' : Array Value} {argsL : List Value} {ps : List FieldType} {rt' : Option FieldType} {k' n' W kc ks : Nat} {QL : Option Value → Heap → List Loc → Prop} {y z : MethodName} {i : Nat} {a : Addr} {K owner : String} (hy : owner ≠ "java/lang/invoke/MethodHandle" ∧ owner ≠ "java/lang/invoke/VarHandle") (w1 : (Cond.methodLink own i y).before a0 Z = true) (w2 : (Cond.sameMethod y.cls owner y.name y.desc).before a0 Z = true) (w2' : (Cond.declares ⟨owner, y.name, y.desc⟩).before a0 Z = true) (w3 : (Cond.selects K y z).before a0 Z = true) (w4 : (Cond.instanceMethod z).before a0 Z = true) (E : Exa Z h a K) (bk : Back l R p e below s args z 3 W (fun A a => a = as' ∧ A.U.heap = h ∧ A.cells + kc ≤ R.cells ∧ A.slots + ks ≤ R.slots) (fun A _ v B => ∃ L, QL v B.U.heap L ∧ B.locs = A.locs ++ L ∧ B.cells = A.cells + kc ∧ B.slots = A.slots + ks)) (hk : k + kc = k') (hn : n + ks = n') (hkR : k' ≤ R.cells) (hnR : n' ≤ R.slots) (hsz : L.size = ml) (hdd : parseMethodDescriptor y.desc = some ⟨ps, rt'⟩) (hlen : argsL.length = ps.length) (hst : st = argsL.reverse ++ .ref a :: rest) (has : (.ref a :: argsL).toArray = as') (hW : (rest.map fun v => v.category).sum = W) (hd : decode bytes pc = .ok (.invokevirtual i, 3)) (hq : pc + 3 = q)
    (r : ∀ v T' h' L', St p l e R s m args below meth c n0 T' h' k' n' ∨ ¬ Fr n0 L' → QL v h' L' → Goes p e below G (T'.setTop (mkF m q L (v.toList ++ rest)))) : Goes p e below G (T.setTop (mkF m pc L st)) := by
  obtain ⟨hx, hZ, hown, hby, hml, -⟩ := C
  obtain ⟨_, cells, slots, X, hF, eT, h1, h2⟩ := X
  subst hq hk hn has hst hW
  obtain ⟨cB, kB, qa, qb, qc⟩ := isOf hZ eT E
  obtain ⟨_, _, ⟨T', Lo, kk, nn⟩, -, X', ⟨Lc, hQ, q1, q2, q3⟩, st'⟩ := X.virtualBackUp hx hown (mvT hZ w1) (mvT hZ w2) (mvT hZ w2') hy (mvT hZ w3) (mvT hZ w4) bk qa qc (g := mkF m pc L (argsL.reverse ++ .ref a :: rest)) rfl (hsz.trans hml.symm) (Steps.refl _) (argsL := argsL) (rest := rest) (lenOf hdd hlen) rfl (by show 2 * 0 + _ ≤ _; omega) (hb hby hd) (fun _ _ => ⟨rfl, eT, Nat.le_trans (Nat.add_le_add_right h1 _) hkR, Nat.le_trans (Nat.add_le_add_right h2 _) hnR⟩)
  dsimp only [Pt.U, Pt.locs, Pt.cells, Pt.slots] at X' q1 q2 q3 st' hQ
  subst q1 q2 q3
  refine go_tr st' (r _ T' _ Lc ?_ hQ)
  by_cases hFr : Fr n0 Lc
  · exact Or.inl ⟨_, _, _, X', Fr.app hF hFr, rfl, Nat.add_le_add_right h1 _, Nat.add_le_add_right h2 _⟩
  · exact Or.inr hFr
theorem g_callU1 (C : Cx p s m meth c Z own bytes ml rt mn) (X : St p l e R s m args below meth c n0 T h k n) {rm : Room} {as' : Array Value} {bts : ByteArray} {mxl : Nat} {rty : Option FieldType} {argsL : List Value} {ps : List FieldType} {rt' : Option FieldType} {k' n' W : Nat} {Q : Value → Heap → Prop} {y z : MethodName} {i : Nat} {a : Addr} {K owner : String} (hy : owner ≠ "java/lang/invoke/MethodHandle" ∧ owner ≠ "java/lang/invoke/VarHandle") (w1 : (Cond.methodLink own i y).before a0 Z = true) (w2 : (Cond.sameMethod y.cls owner y.name y.desc).before a0 Z = true) (w2' : (Cond.declares ⟨owner, y.name, y.desc⟩).before a0 Z = true) (w3 : (Cond.selects K y z).before a0 Z = true) (w4 : (Cond.instanceMethod z).before a0 Z = true) (E : Exa Z h a K) (w8 : (Cond.code z bts mxl rty).before a0 Z = true) (w9 : (Cond.initialized z.cls).before a0 Z = true) (hM : Met1 l Z z bts mxl rty rm as' h n0 Q) (hf : rm.frames + 1 ≤ R.frames) (hl : W + (mxl + 11) + rm.locals ≤ R.locals) (hk : k + rm.cells = k') (hn : n + rm.slots = n') (hkR : k' ≤ R.cells) (hnR : n' ≤ R.slots) (hsz : L.size = ml) (hdd : parseMethodDescriptor y.desc = some ⟨ps, rt'⟩) (hlen : argsL.length = ps.length) (hst : st = argsL.reverse ++ .ref a :: rest) (has : (.ref a :: argsL).toArray = as') (hW : (rest.map fun v => v.category).sum = W) (hd : decode bytes pc = .ok (.invokevirtual i, 3)) (hq : pc + 3 = q)
    (r : ∀ w T' h', St p l e R s m args below meth c n0 T' h' k' n' → Q w h' → Goes p e below G (T'.setTop (mkF m q L (w :: rest)))) : Goes p e below G (T.setTop (mkF m pc L st)) := by
  have bk := backOf (Q := fun v h L => Fr n0 L ∧ (∃ w, v = some w ∧ Q w h)) (R := R) (p := p) (e := e) (below := below) (s := s) (args := args) (len := 3) (W := W) (hM []) C.2.1 w8 w9 hf hl
  refine g_callUb C X (QL := fun v h L => Fr n0 L ∧ (∃ w, v = some w ∧ Q w h)) hy w1 w2 w2' w3 w4 E bk hk hn hkR hnR hsz hdd hlen hst has hW hd hq ?_
  rintro v T' h' L' hX ⟨hFr, hQ⟩
  obtain ⟨w, rfl, hQ⟩ := hQ
  exact r w T' h' (hX.resolve_right fun z => z hFr) hQ
theorem g_callU0 (C : Cx p s m meth c Z own bytes ml rt mn) (X : St p l e R s m args below meth c n0 T h k n) {rm : Room} {as' : Array Value} {bts : ByteArray} {mxl : Nat} {rty : Option FieldType} {argsL : List Value} {ps : List FieldType} {rt' : Option FieldType} {k' n' W : Nat} {Q : Heap → Prop} {y z : MethodName} {i : Nat} {a : Addr} {K owner : String} (hy : owner ≠ "java/lang/invoke/MethodHandle" ∧ owner ≠ "java/lang/invoke/VarHandle") (w1 : (Cond.methodLink own i y).before a0 Z = true) (w2 : (Cond.sameMethod y.cls owner y.name y.desc).before a0 Z = true) (w2' : (Cond.declares ⟨owner, y.name, y.desc⟩).before a0 Z = true) (w3 : (Cond.selects K y z).before a0 Z = true) (w4 : (Cond.instanceMethod z).before a0 Z = true) (E : Exa Z h a K) (w8 : (Cond.code z bts mxl rty).before a0 Z = true) (w9 : (Cond.initialized z.cls).before a0 Z = true) (hM : Met0 l Z z bts mxl rty rm as' h n0 Q) (hf : rm.frames + 1 ≤ R.frames) (hl : W + (mxl + 11) + rm.locals ≤ R.locals) (hk : k + rm.cells = k') (hn : n + rm.slots = n') (hkR : k' ≤ R.cells) (hnR : n' ≤ R.slots) (hsz : L.size = ml) (hdd : parseMethodDescriptor y.desc = some ⟨ps, rt'⟩) (hlen : argsL.length = ps.length) (hst : st = argsL.reverse ++ .ref a :: rest) (has : (.ref a :: argsL).toArray = as') (hW : (rest.map fun v => v.category).sum = W) (hd : decode bytes pc = .ok (.invokevirtual i, 3)) (hq : pc + 3 = q)
    (r : ∀ T' h', St p l e R s m args below meth c n0 T' h' k' n' → Q h' → Goes p e below G (T'.setTop (mkF m q L rest))) : Goes p e below G (T.setTop (mkF m pc L st)) := by
  have bk := backOf (Q := fun v h L => Fr n0 L ∧ (v = none ∧ Q h)) (R := R) (p := p) (e := e) (below := below) (s := s) (args := args) (len := 3) (W := W) (hM []) C.2.1 w8 w9 hf hl
  refine g_callUb C X (QL := fun v h L => Fr n0 L ∧ (v = none ∧ Q h)) hy w1 w2 w2' w3 w4 E bk hk hn hkR hnR hsz hdd hlen hst has hW hd hq ?_
  rintro v T' h' L' hX ⟨hFr, hQ⟩
  obtain ⟨rfl, hQ⟩ := hQ
  exact r T' h' (hX.resolve_right fun z => z hFr) hQ
theorem g_callPb (C : Cx p s m meth c Z own bytes ml rt mn) (X : St p l e R s m args below meth c n0 T h k n) {as' : Array Value} {argsL : List Value} {ps : List FieldType} {rt' : Option FieldType} {k' n' W kc ks : Nat} {QL : Option Value → Heap → List Loc → Prop} {y : MethodName} {i : Nat} {a : Addr} {K : String} (hy : y.cls ≠ "java/lang/invoke/MethodHandle" ∧ y.cls ≠ "java/lang/invoke/VarHandle") (w1 : (Cond.methodLink own i y).before a0 Z = true) (w3 : (Cond.selects y.cls y y).before a0 Z = true) (w4 : (Cond.instanceMethod y).before a0 Z = true) (w5 : (Cond.privateMethod y).before a0 Z = true) (E : Exa Z h a K) {bts : ByteArray} {mxl : Nat} {rty : Option FieldType} (w8 : (Cond.code y bts mxl rty).before a0 Z = true) (bk : Back l R p e below s args y 3 W (fun A a => a = as' ∧ A.U.heap = h ∧ A.cells + kc ≤ R.cells ∧ A.slots + ks ≤ R.slots) (fun A _ v B => ∃ L, QL v B.U.heap L ∧ B.locs = A.locs ++ L ∧ B.cells = A.cells + kc ∧ B.slots = A.slots + ks)) (hk : k + kc = k') (hn : n + ks = n') (hkR : k' ≤ R.cells) (hnR : n' ≤ R.slots) (hsz : L.size = ml) (hdd : parseMethodDescriptor y.desc = some ⟨ps, rt'⟩) (hlen : argsL.length = ps.length) (hst : st = argsL.reverse ++ .ref a :: rest) (has : (.ref a :: argsL).toArray = as') (hW : (rest.map fun v => v.category).sum = W) (hd : decode bytes pc = .ok (.invokevirtual i, 3)) (hq : pc + 3 = q)
    (r : ∀ v T' h' L', St p l e R s m args below meth c n0 T' h' k' n' ∨ ¬ Fr n0 L' → QL v h' L' → Goes p e below G (T'.setTop (mkF m q L (v.toList ++ rest)))) : Goes p e below G (T.setTop (mkF m pc L st)) := by
  obtain ⟨hx, hZ, hown, hby, hml, -⟩ := C
  obtain ⟨_, cells, slots, X, hF, eT, h1, h2⟩ := X
  subst hq hk hn has hst hW
  obtain ⟨cq, qa, qb⟩ := E.cell
  obtain ⟨_, _, ⟨T', Lo, kk, nn⟩, -, X', ⟨Lc, hQ, q1, q2, q3⟩, st'⟩ := X.privateBack hx hown (mvT hZ w1) (mvT hZ w4) (mvT hZ w3) (Cond.privateMethod_at (mvP hZ w5 (args := #[]))) (mvT hZ w8) hy bk (g := mkF m pc L (argsL.reverse ++ .ref a :: rest)) rfl (hsz.trans hml.symm) (Steps.refl _) (a := a) (by rw [eT]; exact qa) qb (argsL := argsL) (rest := rest) (lenOf hdd hlen) rfl (by show 2 * 0 + _ ≤ _; omega) (hb hby hd) (fun _ _ => ⟨rfl, eT, Nat.le_trans (Nat.add_le_add_right h1 _) hkR, Nat.le_trans (Nat.add_le_add_right h2 _) hnR⟩)
  dsimp only [Pt.U, Pt.locs, Pt.cells, Pt.slots] at X' q1 q2 q3 st' hQ
  subst q1 q2 q3
  refine go_tr st' (r _ T' _ Lc ?_ hQ)
  by_cases hFr : Fr n0 Lc
  · exact Or.inl ⟨_, _, _, X', Fr.app hF hFr, rfl, Nat.add_le_add_right h1 _, Nat.add_le_add_right h2 _⟩
  · exact Or.inr hFr
theorem g_callP1 (C : Cx p s m meth c Z own bytes ml rt mn) (X : St p l e R s m args below meth c n0 T h k n) {rm : Room} {as' : Array Value} {bts : ByteArray} {mxl : Nat} {rty : Option FieldType} {argsL : List Value} {ps : List FieldType} {rt' : Option FieldType} {k' n' W : Nat} {Q : Value → Heap → Prop} {y : MethodName} {i : Nat} {a : Addr} {K : String} (hy : y.cls ≠ "java/lang/invoke/MethodHandle" ∧ y.cls ≠ "java/lang/invoke/VarHandle") (w1 : (Cond.methodLink own i y).before a0 Z = true) (w3 : (Cond.selects y.cls y y).before a0 Z = true) (w4 : (Cond.instanceMethod y).before a0 Z = true) (w5 : (Cond.privateMethod y).before a0 Z = true) (E : Exa Z h a K) (w8 : (Cond.code y bts mxl rty).before a0 Z = true) (w9 : (Cond.initialized y.cls).before a0 Z = true) (hM : Met1 l Z y bts mxl rty rm as' h n0 Q) (hf : rm.frames + 1 ≤ R.frames) (hl : W + (mxl + 11) + rm.locals ≤ R.locals) (hk : k + rm.cells = k') (hn : n + rm.slots = n') (hkR : k' ≤ R.cells) (hnR : n' ≤ R.slots) (hsz : L.size = ml) (hdd : parseMethodDescriptor y.desc = some ⟨ps, rt'⟩) (hlen : argsL.length = ps.length) (hst : st = argsL.reverse ++ .ref a :: rest) (has : (.ref a :: argsL).toArray = as') (hW : (rest.map fun v => v.category).sum = W) (hd : decode bytes pc = .ok (.invokevirtual i, 3)) (hq : pc + 3 = q)
    (r : ∀ w T' h', St p l e R s m args below meth c n0 T' h' k' n' → Q w h' → Goes p e below G (T'.setTop (mkF m q L (w :: rest)))) : Goes p e below G (T.setTop (mkF m pc L st)) := by
  have bk := backOf (Q := fun v h L => Fr n0 L ∧ (∃ w, v = some w ∧ Q w h)) (R := R) (p := p) (e := e) (below := below) (s := s) (args := args) (len := 3) (W := W) (hM []) C.2.1 w8 w9 hf hl
  refine g_callPb C X (QL := fun v h L => Fr n0 L ∧ (∃ w, v = some w ∧ Q w h)) hy w1 w3 w4 w5 E w8 bk hk hn hkR hnR hsz hdd hlen hst has hW hd hq ?_
  rintro v T' h' L' hX ⟨hFr, hQ⟩
  obtain ⟨w, rfl, hQ⟩ := hQ
  exact r w T' h' (hX.resolve_right fun z => z hFr) hQ
theorem g_callP0 (C : Cx p s m meth c Z own bytes ml rt mn) (X : St p l e R s m args below meth c n0 T h k n) {rm : Room} {as' : Array Value} {bts : ByteArray} {mxl : Nat} {rty : Option FieldType} {argsL : List Value} {ps : List FieldType} {rt' : Option FieldType} {k' n' W : Nat} {Q : Heap → Prop} {y : MethodName} {i : Nat} {a : Addr} {K : String} (hy : y.cls ≠ "java/lang/invoke/MethodHandle" ∧ y.cls ≠ "java/lang/invoke/VarHandle") (w1 : (Cond.methodLink own i y).before a0 Z = true) (w3 : (Cond.selects y.cls y y).before a0 Z = true) (w4 : (Cond.instanceMethod y).before a0 Z = true) (w5 : (Cond.privateMethod y).before a0 Z = true) (E : Exa Z h a K) (w8 : (Cond.code y bts mxl rty).before a0 Z = true) (w9 : (Cond.initialized y.cls).before a0 Z = true) (hM : Met0 l Z y bts mxl rty rm as' h n0 Q) (hf : rm.frames + 1 ≤ R.frames) (hl : W + (mxl + 11) + rm.locals ≤ R.locals) (hk : k + rm.cells = k') (hn : n + rm.slots = n') (hkR : k' ≤ R.cells) (hnR : n' ≤ R.slots) (hsz : L.size = ml) (hdd : parseMethodDescriptor y.desc = some ⟨ps, rt'⟩) (hlen : argsL.length = ps.length) (hst : st = argsL.reverse ++ .ref a :: rest) (has : (.ref a :: argsL).toArray = as') (hW : (rest.map fun v => v.category).sum = W) (hd : decode bytes pc = .ok (.invokevirtual i, 3)) (hq : pc + 3 = q)
    (r : ∀ T' h', St p l e R s m args below meth c n0 T' h' k' n' → Q h' → Goes p e below G (T'.setTop (mkF m q L rest))) : Goes p e below G (T.setTop (mkF m pc L st)) := by
  have bk := backOf (Q := fun v h L => Fr n0 L ∧ (v = none ∧ Q h)) (R := R) (p := p) (e := e) (below := below) (s := s) (args := args) (len := 3) (W := W) (hM []) C.2.1 w8 w9 hf hl
  refine g_callPb C X (QL := fun v h L => Fr n0 L ∧ (v = none ∧ Q h)) hy w1 w3 w4 w5 E w8 bk hk hn hkR hnR hsz hdd hlen hst has hW hd hq ?_
  rintro v T' h' L' hX ⟨hFr, hQ⟩
  obtain ⟨rfl, hQ⟩ := hQ
  exact r T' h' (hX.resolve_right fun z => z hFr) hQ
theorem sel_priv {y : MethodName} {kk : Nat} (wi : (Cond.instantiable y.cls kk).before a0 Z = true) (w4 : (Cond.instanceMethod y).before a0 Z = true) (w5 : (Cond.privateMethod y).before a0 Z = true) (hy : y.cls ≠ "java/lang/invoke/MethodHandle" ∧ y.cls ≠ "java/lang/invoke/VarHandle") : (Cond.selects y.cls y y).before a0 Z = true := by
  obtain ⟨c1, k1, i1, i2, -, i4, -⟩ := Cond.instantiable_spec wi
  exact Stand.selects_self_of_private i1 i2 (by simp only [Bool.or_eq_false_iff] at i4; exact i4.1) (Cond.privateMethod_at w5) w4 hy
theorem own_noInst {K O Ko : String} {nn : Nat} (wO : (Cond.noSuperclass O).before a0 Z = true) (wC : (Cond.superclass Ko O).before a0 Z = true) (wK : (Cond.instantiable K nn).before a0 Z = true) (h1 : Ko ≠ K) (h2 : O ≠ K) : ∃ c t, Z.vm.findClass Ko = some c ∧ Z.vm.findClass K = some t ∧ Z.vm.assignable c t = false := by
  obtain ⟨t, kt, g1, g2, g3, g4, -⟩ := Cond.instantiable_spec wK
  obtain ⟨o, ko, o1, o2, o3, -, -⟩ := Cond.noSuperclass_spec wO
  have neO := ids_ne o1 g1 h2
  have nO : NS Z O K := ⟨o, t, o1, g1, fun fuel => by
    cases fuel with
    | zero => rfl
    | succ f => simp [Vm.isSubclassAux, neO, o2, o3]⟩
  obtain ⟨c, t', h0, g0, n3⟩ := NS.step wC nO h1
  cases g1.symm.trans g0
  obtain ⟨p, k, kp, q1, q2, q3, q4, q5, -, q7⟩ := Cond.superclass_spec h0 wC
  have neC := ids_ne h0 g1 h1
  simp only [Bool.or_eq_false_iff] at g4
  refine ⟨c, t, h0, g1, ?_⟩
  show Z.vm.assignableAux (255 + 1) c t = false
  simp [Vm.assignableAux, neC, q2, g2, q5, g3, g4.1, Vm.isSubclass, n3]
theorem own_nb {b : Int32} {t : Bool} (h1 : t = true → b = 0) (h2 : t = false → b = 1) : nar .boolean b = b := by
  cases t
  · rw [h2 rfl]; decide
  · rw [h1 rfl]; decide
theorem nf_sel {y : MethodName} {K : String} (w : (Cond.selects K y y).before a0 Z = true) : ∀ s' : State, Z.Warmed39 s'.vm → NotFace s' y := fun s' hZ => notFace_of_selects (args := #[]) (mvT hZ w)
end OwnKit
theorem own_i32 {x y : Int32} (h : x.toInt = y.toInt) : x = y := Int32.toInt_inj.mp h
theorem own_r1 {u w : Int32} {hi : Int} (h : u.toInt ≤ hi) (hw : hi < w.toInt) : u < w := Int32.lt_iff_toInt_lt.mpr (Int.lt_of_le_of_lt h hw)
theorem own_r2 {u w : Int32} {lo : Int} (h : lo ≤ u.toInt) (hw : w.toInt ≤ lo) : ¬ u < w := fun q => by have := Int32.lt_iff_toInt_lt.mp q; omega
theorem own_r3 {u w : Int32} {lo : Int} (h : lo ≤ w.toInt) (hu : u.toInt < lo) : u < w := Int32.lt_iff_toInt_lt.mpr (by omega)
theorem own_r4 {u w : Int32} {hi : Int} (h : w.toInt ≤ hi) (hu : hi ≤ u.toInt) : ¬ u < w := fun q => by have := Int32.lt_iff_toInt_lt.mp q; omega
theorem own_r5 {u w : Int32} {lo : Int} (h : lo ≤ u.toInt) (hw : w.toInt < lo) : ¬ u = w := fun q => by subst q; omega
theorem own_r6 {u w : Int32} {hi : Int} (h : u.toInt ≤ hi) (hw : hi < w.toInt) : ¬ u = w := fun q => by subst q; omega
theorem own_f0 {u w : Int32} {z : Int} (h1 : z ≤ u.toInt) (h2 : u.toInt ≤ z) (hz : w.toInt = z) : u = w := own_i32 (by omega)
theorem own_f1 {u w : Int32} {z : Int} (h : u < w) (hz : w.toInt = z + 1) : u.toInt ≤ z := by have := Int32.lt_iff_toInt_lt.mp h; omega
theorem own_f2 {u w : Int32} {z : Int} (h : ¬ u < w) (hz : w.toInt = z) : z ≤ u.toInt := by rw [Int32.lt_iff_toInt_lt] at h; omega
theorem own_f3 {u w : Int32} {z : Int} (h : w < u) (hz : w.toInt + 1 = z) : z ≤ u.toInt := by have := Int32.lt_iff_toInt_lt.mp h; omega
theorem own_f4 {u w : Int32} {z : Int} (h : ¬ w < u) (hz : w.toInt = z) : u.toInt ≤ z := by rw [Int32.lt_iff_toInt_lt] at h; omega
theorem own_f5 {u w : Int32} {z lo : Int} (h : ¬ u = w) (hl : lo ≤ u.toInt) (hz : w.toInt = lo ∧ z = lo + 1) : z ≤ u.toInt := by
  have : u.toInt ≠ w.toInt := fun q => h (own_i32 q)
  omega
theorem own_f6 {u w : Int32} {z hi : Int} (h : ¬ u = w) (hl : u.toInt ≤ hi) (hz : w.toInt = hi ∧ z = hi - 1) : u.toInt ≤ z := by
  have : u.toInt ≠ w.toInt := fun q => h (own_i32 q)
  omega
theorem own_i2c {v : Int32} {lo hi : Int} (h1 : lo ≤ v.toInt) (h2 : v.toInt ≤ hi) (h3 : 0 ≤ lo) (h4 : hi ≤ 65535) : v.toUInt32.toUInt16.toUInt32.toInt32 = v := by
  have h := c_i2c v
  apply own_i32
  omega
theorem own_narC {v : Int32} {lo hi : Int} (h1 : lo ≤ v.toInt) (h2 : v.toInt ≤ hi) (h3 : 0 ≤ lo) (h4 : hi ≤ 65535) : nar .char v = v := own_i2c h1 h2 h3 h4
theorem own_ch {v : Int32} {lo hi : Int} (h1 : lo ≤ v.toInt) (h2 : v.toInt ≤ hi) (h3 : 0 ≤ lo) (h4 : hi ≤ 255) : ¬ v < 0 ∧ ¬ (255 : Int32) < v := ⟨own_r2 h1 h3, own_r4 h2 h4⟩
theorem own_rem {x y : Int32} {d : Int} (hy : y.toInt = d + 1) (hd : 0 < d + 1) (hx : 0 ≤ x.toInt) : 0 ≤ (x % y).toInt ∧ (x % y).toInt ≤ d := by
  have h := (c_irem x y (d + 1) hy).1 hx
  rw [h]
  have := Int.emod_nonneg x.toInt (show d + 1 ≠ 0 by omega)
  have := Int.emod_lt_of_pos x.toInt hd
  omega
theorem own_ne {a b : Addr} {h : Heap} (h1 : a < h.size) (h2 : b = h.size) : a ≠ b := fun q => by subst q; subst h2; exact Nat.lt_irrefl _ h1
theorem own_ge {Z : State} {n0 : Nat} {h : Heap} {a : Addr} (O : Old Z n0 h) (g : a = h.size) : n0 ≤ a := by rw [g, ← O.1]; exact O.2.1
theorem own_szO {Z : State} {n0 : Nat} {h : Heap} (O : Old Z n0 h) : n0 ≤ h.size := by rw [← O.1]; exact O.2.1
theorem own_sz {h h' : Heap} {a : Addr} (q : h.size ≤ h'.size) (g : a = h'.size) : h.size ≤ a := g ▸ q
theorem own_neO {Z : State} {n0 : Nat} {h : Heap} {a b : Addr} (q : a < Z.heap.size) (O : Old Z n0 h) (r : n0 ≤ b) : a ≠ b := O.ne q r
theorem own_sta {s : State} {args : Array Value} {C n d K : String} (h : (Jvm.Cond.exactly (.static C n d) K).value args s none s [] = some true) (hi : (Jvm.Cond.initializedFor C n d).before args s = true ∨ ((Jvm.Cond.initialized C).before args s = true ∧ (Jvm.Cond.laysStatic C n d).before args s = true)) : ∃ a, (Term.static C n d).eval args s none [] s = some (.ref a) ∧ Sta s s.heap C n d (.ref a) ∧ Exa s s.heap a K := by
  obtain ⟨a, ev⟩ := exa_v h
  exact ⟨a, ev, Sta.start ev hi, Exa.start ev h⟩
theorem own_fldI {s : State} {args : Array Value} {t : Term} {C n d : String} {v : Int32} {a : Addr} (ev : t.eval args s none [] s = some (.ref a)) (h : (Jvm.Cond.eq (.field t C n d) (.int v)).value args s none s [] = some true) : Fld s s.heap a C n d (.int v) := by
  apply Fld.start
  cases hf : s.fieldOf? a C n d with
  | none => simp [Cond.value, Term.eval, ev, hf] at h
  | some x => cases x <;> simp [Cond.value, Term.eval, ev, hf] at h; subst h; rfl
theorem own_fldN {s : State} {args : Array Value} {t : Term} {C n d : String} {a : Addr} (ev : t.eval args s none [] s = some (.ref a)) (h : (Jvm.Cond.eq (.field t C n d) .null).value args s none s [] = some true) : Fld s s.heap a C n d .null := by
  apply Fld.start
  have := null_v h
  rw [fld_at ev] at this
  exact this
theorem own_fldR {s : State} {args : Array Value} {t : Term} {C n d K : String} {a : Addr} (ev : t.eval args s none [] s = some (.ref a)) (h : (Jvm.Cond.exactly (.field t C n d) K).value args s none s [] = some true) : ∃ b, (Term.field t C n d).eval args s none [] s = some (.ref b) ∧ Fld s s.heap a C n d (.ref b) ∧ Exa s s.heap b K := by
  obtain ⟨b, e2⟩ := exa_v h
  refine ⟨b, e2, Fld.start ?_, Exa.start e2 h⟩
  rw [← fld_at ev]; exact e2
section OwnWide
variable {p : Program} {l : Launch} {e : Env} {R : Room} {s : State} {m : MethodId} {args : Array Value} {below : List Frame} {meth : Method} {c : Code} {T : State} {Z : State} {own mn : String} {bytes : ByteArray} {ml n0 k n : Nat} {rt : Option FieldType} {h h' : Heap} {G : Outcome → State → Prop} {pc q : Nat} {L : Array Slot} {st rest : List Value} {a0 : Array Value} {EL : List (String × Nat)} {vm : Vm}
def FinW (Z : State) (EL : List (String × Nat)) (Q : Option Value → Heap → Prop) (s : State) (n0 k n : Nat) (o : Outcome) (U : State) : Prop := ∃ v L, o = .returned v ∧ (Fr n0 L ∧ Q v U.heap) ∧ CHr Z EL s.vm s.heap U.vm U.heap ∧ ReturnedEndW s o U L k n
def MetW (l : Launch) (Z : State) (EL : List (String × Nat)) (y : MethodName) (bytes : ByteArray) (ml : Nat) (rt : Option FieldType) (rm : Room) (as' : Array Value) (h0 : Heap) (n0 : Nat) (Q : Option Value → Heap → Prop) : Prop :=
  ∀ ws : List Jvm.Cond, MetFree l y (head1 (Jvm.Cond.code y bytes ml rt :: ws) rm) (fun a U => a = as' ∧ Z.Warmed39 U.vm ∧ U.heap = h0 ∧ CHv Z EL U.vm h0) (fun _ _ _ _ _ => True) (fun _ U o U' => ∃ v L, o = .returned v ∧ (Fr n0 L ∧ Q v U'.heap) ∧ CHr Z EL U.vm U.heap U'.vm U'.heap ∧ ReturnedEndW U o U' L rm.cells rm.slots)
abbrev MetW1 (l : Launch) (Z : State) (EL : List (String × Nat)) (y : MethodName) (bytes : ByteArray) (ml : Nat) (rt : Option FieldType) (rm : Room) (as' : Array Value) (h0 : Heap) (n0 : Nat) (Q : Value → Heap → Prop) : Prop := MetW l Z EL y bytes ml rt rm as' h0 n0 (fun v h => ∃ w, v = some w ∧ Q w h)
abbrev MetW0 (l : Launch) (Z : State) (EL : List (String × Nat)) (y : MethodName) (bytes : ByteArray) (ml : Nat) (rt : Option FieldType) (rm : Room) (as' : Array Value) (h0 : Heap) (n0 : Nat) (Q : Heap → Prop) : Prop := MetW l Z EL y bytes ml rt rm as' h0 n0 (fun v h => v = none ∧ Q h)
/-- what a wide walk bears besides: its tables come of the start's, and what they book is said -/
def Wx (Z : State) (EL : List (String × Nat)) (s : State) (vm : Vm) (h : Heap) : Prop := (∃ k0, s.Since vm k0 ∧ k0 ≤ h.size) ∧ CHr Z EL s.vm s.heap vm h
theorem Wx.ext (Y : Wx Z EL s vm h) (E : Ext h h') : Wx Z EL s vm h' := by
  obtain ⟨⟨k0, h1, h2⟩, h3⟩ := Y
  exact ⟨⟨k0, h1, Nat.le_trans h2 E.1⟩, h3.trans (CHr.ext E h3.1)⟩
theorem Wx.wr (Y : Wx Z EL s vm h) {a : Addr} {sl : Nat} {v : Value} (W : Wr h h' a sl v) (S : Safe Z EL vm h a) : Wx Z EL s vm h' := by
  obtain ⟨⟨k0, h1, h2⟩, h3⟩ := Y
  exact ⟨⟨k0, h1, by rw [W.size]; exact h2⟩, h3.trans (CHr.wr W S h3.1)⟩
theorem Wx.keep (Y : Wx Z EL s vm h) {ws : List Addr} (K : Keep h h' ws) (S : ∀ x ∈ ws, Safe Z EL vm h x) : Wx Z EL s vm h' := by
  obtain ⟨⟨k0, h1, h2⟩, h3⟩ := Y
  exact ⟨⟨k0, h1, Nat.le_trans h2 K.1⟩, h3.trans (CHr.keep K S h3.1)⟩
theorem Wx.safe0 (Y : Wx Z EL s vm h) {x : Addr} (hx : h.size ≤ x) : Safe Z EL vm h x := Safe.new hx
theorem Wx.safeE (Y : Wx Z EL s vm h) {x : Addr} (S : Safe Z EL vm h x) (E : Ext h h') : Safe Z EL vm h' x := Safe.ext E Y.2.1 S
theorem Wx.safeW (Y : Wx Z EL s vm h) {a x : Addr} {sl : Nat} {v : Value} (S : Safe Z EL vm h x) (W : Wr h h' a sl v) (Sa : Safe Z EL vm h a) : Safe Z EL vm h' x := Safe.wr W Sa Y.2.1 S
theorem Wx.safeK (Y : Wx Z EL s vm h) {x : Addr} {ws : List Addr} (S : Safe Z EL vm h x) (K : Keep h h' ws) (Sa : ∀ x ∈ ws, Safe Z EL vm h x) : Safe Z EL vm h' x := Safe.keep K Sa Y.2.1 S
theorem Cx.alike (C : Cx p (s.setVm vm) m meth c Z own bytes ml rt mn) : Z.vm.Alike vm := C.2.1.alike
theorem metW_of {y : MethodName} {rm : Room} {as' : Array Value} {Q : Option Value → Heap → Prop} (hp : plainFor y = true) (hef : ∀ m, entryFrame m as' ml = mkF m 0 L [])
    (body : ∀ (p : Program) (e : Env) (s : State) (m : MethodId) (below : List Frame) (meth : Method) (c : Code) (T : State) (vm : Vm), Cx p (s.setVm vm) m meth c Z y.cls bytes ml rt y.name → St p l e rm (s.setVm vm) m as' below meth c n0 T h 0 0 → Wx Z EL s vm h → Goes p e below (FinW Z EL Q s n0 rm.cells rm.slots) (T.setTop (mkF m 0 L []))) :
    MetW l Z EL y bytes ml rt rm as' h n0 Q := by
  intro ws
  refine MetFree.of_bodySF hp hisR ?_
  intro p e s m args below meth c s₁ Bd hml hP hK
  obtain ⟨rfl, hZ, hh, hCH⟩ := hP
  have e0 : s₁.heap = h := by rw [← hh, Bd.state]; rfl
  have b := body p e s m below meth c s₁ s.vm ⟨Bd.exec, hZ, findClass_of_methodNamed Bd.named, Bd.bytes, hml, Bd.returns, BodyLoose.notSynchronized Bd, (name_of_methodNamed Bd.named Bd.method).1⟩ ⟨[], 0, 0, Stand.of_body Bd, Fr.nil _, e0, Nat.le_refl _, Nat.le_refl _⟩
    ⟨⟨0, (State.WarmedH.refl s).since 0, Nat.zero_le _⟩, by rw [hh]; exact CHr.refl hCH⟩
  rw [hef m]
  exact b
theorem own_endW (C : Cx p (s.setVm vm) m meth c Z own bytes ml rt mn) (X : St p l e R (s.setVm vm) m args below meth c n0 T h k n) (Y : Wx Z EL s vm h) (hEL : EW Z a0 EL) {Q : Option Value → Heap → Prop} {K N : Nat} {S : State} {v : Option Value} (hv : rt = none → v = none) (hk : k ≤ K) (hn : n ≤ N) (hQ : Q v h)
    (f : ∀ locs cells slots fs, Stand p l e R (s.setVm vm) m args below meth c T locs cells slots → (∀ (f : JFrame) (acts : List Action), f.method = m → f.locked = none → f.entered = [] → (doReturn e (T.setTop f) acts v).1 = T.setFrames fs) → Steps p.tables e below S (T.setFrames fs)) : Goes p e below (FinW Z EL Q s n0 K N) S := by
  obtain ⟨hx, hZ, -, hby, -, hret, hlk, -⟩ := C
  obtain ⟨locs, cells, slots, X, hF, rfl, h1, h2⟩ := X
  obtain ⟨⟨k0, hS, hk0⟩, hC⟩ := Y
  have hA := CHv.at X hZ hEL hC.1
  obtain ⟨fs, hr, hrun, hended, hW, hsame⟩ := X.leave (v := v) (fun h => hv (hret.symm.trans h)) hlk
  have hS2 : s.Since (T.setFrames fs).vm T.heap.size := hS.trans (hW.since _) hk0
  refine ⟨_, _, f _ _ _ fs X hr, hrun, hended, _, _, rfl, ⟨hF, hQ⟩, hC.trans hA, ⟨_, rfl⟩, hS2.1, ?_, ?_⟩
  · intro j pp hj hp
    exact hS2.2 j pp hj hp
  · exact (hsame.setVm s.vm).mono (Nat.le_trans h1 hk) (Nat.le_trans h2 hn)
theorem gW_retI (C : Cx p (s.setVm vm) m meth c Z own bytes ml (some .int) mn) (X : St p l e R (s.setVm vm) m args below meth c n0 T h k n) (Y : Wx Z EL s vm h) (hEL : EW Z a0 EL) {Q : Option Value → Heap → Prop} {K N : Nat} {z : Int32} (hd : decode bytes pc = .ok (.ireturn, 1)) (hk : k ≤ K) (hn : n ≤ N) (hQ : Q (some (.int z)) h) : Goes p e below (FinW Z EL Q s n0 K N) (T.setTop (mkF m pc L (.int z :: st))) := by
  refine own_endW C X Y hEL (by simp) hk hn hQ fun locs cells slots fs X hr => ?_
  obtain ⟨hx, -, -, hby, -, hret, hlk, -⟩ := C
  exact retOut X hx hret rfl (Or.inl ⟨rfl, Or.inl rfl, _, rfl⟩) (hb hby hd) hr
theorem gW_retN {t : FieldType} (C : Cx p (s.setVm vm) m meth c Z own bytes ml (some t) mn) (X : St p l e R (s.setVm vm) m args below meth c n0 T h k n) (Y : Wx Z EL s vm h) (hEL : EW Z a0 EL) {Q : Option Value → Heap → Prop} {K N : Nat} {z z' : Int32} (ht : t = .boolean ∨ t = .byte ∨ t = .char ∨ t = .short) (hz : nar t z = z') (hd : decode bytes pc = .ok (.ireturn, 1)) (hk : k ≤ K) (hn : n ≤ N) (hQ : Q (some (.int z')) h) : Goes p e below (FinW Z EL Q s n0 K N) (T.setTop (mkF m pc L (.int z :: st))) := by
  subst hz
  refine own_endW C X Y hEL (by simp) hk hn hQ fun locs cells slots fs X hr => ?_
  obtain ⟨hx, -, -, hby, -, hret, hlk, -⟩ := C
  exact retN X hx hret ht (hb hby hd) hr
theorem gW_retA {t : FieldType} (C : Cx p (s.setVm vm) m meth c Z own bytes ml (some t) mn) (X : St p l e R (s.setVm vm) m args below meth c n0 T h k n) (Y : Wx Z EL s vm h) (hEL : EW Z a0 EL) {Q : Option Value → Heap → Prop} {K N : Nat} {v : Value} (ht : t.isReference = true) (hv : v.isRef = true) (hd : decode bytes pc = .ok (.areturn, 1)) (hk : k ≤ K) (hn : n ≤ N) (hQ : Q (some v) h) : Goes p e below (FinW Z EL Q s n0 K N) (T.setTop (mkF m pc L (v :: st))) := by
  refine own_endW C X Y hEL (by simp) hk hn hQ fun locs cells slots fs X hr => ?_
  obtain ⟨hx, -, -, hby, -, hret, hlk, -⟩ := C
  have hn' : narrow t v = v := by rcases ref_cases hv with rfl | ⟨b, rfl⟩ <;> cases t <;> first | rfl | (cases ht)
  exact retOut X hx hret hn' (Or.inr (Or.inr (Or.inr (Or.inr ⟨rfl, ht, hv⟩)))) (hb hby hd) hr
theorem gW_retV (C : Cx p (s.setVm vm) m meth c Z own bytes ml none mn) (X : St p l e R (s.setVm vm) m args below meth c n0 T h k n) (Y : Wx Z EL s vm h) (hEL : EW Z a0 EL) {Q : Option Value → Heap → Prop} {K N : Nat} (hd : decode bytes pc = .ok (.return_, 1)) (hk : k ≤ K) (hn : n ≤ N) (hQ : Q none h) : Goes p e below (FinW Z EL Q s n0 K N) (T.setTop (mkF m pc L [])) := by
  refine own_endW C X Y hEL (fun _ => rfl) hk hn hQ fun locs cells slots fs X hr => ?_
  obtain ⟨hx, -, -, hby, -, hret, hlk, -⟩ := C
  exact X.returnOut hx hret (hb hby hd) hr
theorem gW_ldcO (C : Cx p (s.setVm vm) m meth c Z own bytes ml rt mn) (X : St p l e R (s.setVm vm) m args below meth c n0 T h k n) (Y : Wx Z EL s vm h) (hEL : EW Z a0 EL) {text : String} {i nn k' n' : Nat} (w : (Cond.stringLink own i text).before a0 Z = true) (wS : ∀ a ∈ Bundle.stringAtoms, a.before a0 Z = true) (hd : decode bytes pc = .ok (.ldc i, 2)) (hq : pc + 2 = q) (hnn : 4 * text.toList.length ≤ nn) (hbig : nn ≤ 536870912) (hk : k + 2 = k') (hn : n + (nn + 4) = n') (hkR : k' ≤ R.cells) (hnR : n' ≤ R.slots)
    (r : ∀ a T' h' vm', Cx p (s.setVm vm') m meth c Z own bytes ml rt mn → St p l e R (s.setVm vm') m args below meth c n0 T' h' k' n' → Wx Z EL s vm' h' → Ext h h' → CHr Z EL vm h vm' h' → Goes p e below G (T'.setTop (mkF m q L (.ref a :: st)))) : Goes p e below G (T.setTop (mkF m pc L st)) := by
  obtain ⟨hx, hZ, hown, hby, hml, hret, hlk, hnm⟩ := C
  obtain ⟨locs, cells, slots, X, hF, eT, h1, h2⟩ := X
  obtain ⟨⟨k0, hS, hk0⟩, hC⟩ := Y
  subst hq hk hn
  obtain ⟨a, T', h', k1, X', e', E', hS', hk1, hZ', hown', hC', -, st'⟩ := ldcOH X hx hZ hown w wS eT hS hk0 hEL hC.1 (g := mkF m pc L st) rfl (hb hby hd) hnn hbig (Nat.le_trans (Nat.add_le_add_right h1 2) hkR) (Nat.le_trans (Nat.add_le_add_right h2 _) hnR)
  exact go_st st' (r a T' h' T'.vm ⟨hx, hZ', hown', hby, hml, hret, hlk, hnm⟩ ⟨_, _, _, X', hF, e', Nat.add_le_add_right h1 2, Nat.add_le_add_right h2 _⟩ ⟨⟨k1, hS', hk1⟩, hC.trans hC'⟩ E' hC')
theorem gW_ldcC (C : Cx p (s.setVm vm) m meth c Z own bytes ml rt mn) (X : St p l e R (s.setVm vm) m args below meth c n0 T h k n) (Y : Wx Z EL s vm h) (hEL : EW Z a0 EL) {text : String} {i nn k' n' : Nat} {vs : List Value} {z : Int32} (w : (Cond.stringLink own i text).before a0 Z = true) (wS : ∀ a ∈ Bundle.stringAtoms, a.before a0 Z = true) (hmem : (own, i) ∈ EL) (ht : (∀ c ∈ text.toList, c.toNat < 256) ∧ text.toList.map (fun c => Value.int (Jvm.Lit.byteI c.toNat.toUInt16)) = vs) (hz : ¬ z < 0) (hl : z.toNatClampNeg = vs.length) (hd : decode bytes pc = .ok (.ldc i, 2)) (hq : pc + 2 = q) (hnn : 4 * text.toList.length ≤ nn) (hbig : nn ≤ 536870912) (hk : k + 2 = k') (hn : n + (nn + 4) = n') (hkR : k' ≤ R.cells) (hnR : n' ≤ R.slots)
    (r : ∀ a b kk T' h' vm', Cx p (s.setVm vm') m meth c Z own bytes ml rt mn → St p l e R (s.setVm vm') m args below meth c n0 T' h' k' n' → Wx Z EL s vm' h' → Ext h h' → CHr Z EL vm h vm' h' → Exa Z h' a "java/lang/String" → Fld Z h' a "java/lang/String" "coder" "B" (.int 0) → Fld Z h' a "java/lang/String" "value" "[B" (.ref b) → Arv Z h' b kk .byte z vs (.int 0) → (∀ x, Safe Z EL vm' h' x → x ≠ a ∧ x ≠ b) → Goes p e below G (T'.setTop (mkF m q L (.ref a :: st)))) : Goes p e below G (T.setTop (mkF m pc L st)) := by
  obtain ⟨hx, hZ, hown, hby, hml, hret, hlk, hnm⟩ := C
  obtain ⟨locs, cells, slots, X, hF, eT, h1, h2⟩ := X
  obtain ⟨⟨k0, hS, hk0⟩, hC⟩ := Y
  subst hq hk hn
  obtain ⟨a, T', h', k1, b, kk, X', e', E', hS', hk1, hZ', hown', f1, f2, f3, f4, -, -, hC', -, hsf, st'⟩ := ldcCH X hx hZ hown w wS eT hS hk0 hEL hmem hC.1 ht hz hl (g := mkF m pc L st) rfl (hb hby hd) hnn hbig (Nat.le_trans (Nat.add_le_add_right h1 2) hkR) (Nat.le_trans (Nat.add_le_add_right h2 _) hnR)
  exact go_st st' (r a b kk T' h' T'.vm ⟨hx, hZ', hown', hby, hml, hret, hlk, hnm⟩ ⟨_, _, _, X', hF, e', Nat.add_le_add_right h1 2, Nat.add_le_add_right h2 _⟩ ⟨⟨k1, hS', hk1⟩, hC.trans hC'⟩ E' hC' f1 f2 f3 f4 hsf)
theorem gW_callS1 (C : Cx p (s.setVm vm) m meth c Z own bytes ml rt mn) (X : St p l e R (s.setVm vm) m args below meth c n0 T h k n) (Y : Wx Z EL s vm h) (hEL : EW Z a0 EL) {rm : Room} {as' : Array Value} {bts : ByteArray} {mxl : Nat} {rty : Option FieldType} {argsL : List Value} {ps : List FieldType} {rt' : Option FieldType} {k' n' W : Nat} {Q : Value → Heap → Prop} {y : MethodName} {i : Nat} (hy : y.cls ≠ "java/lang/invoke/MethodHandle" ∧ y.cls ≠ "java/lang/invoke/VarHandle") (w1 : (Cond.methodLink own i y).before a0 Z = true) (w2 : (Cond.static y).before a0 Z = true) (w8 : (Cond.code y bts mxl rty).before a0 Z = true) (w9 : (Cond.initialized y.cls).before a0 Z = true) (hM : MetW1 l Z EL y bts mxl rty rm as' h n0 Q) (hf : rm.frames + 1 ≤ R.frames) (hl : W + (mxl + 11) + rm.locals ≤ R.locals) (hk : k + rm.cells = k') (hn : n + rm.slots = n') (hkR : k' ≤ R.cells) (hnR : n' ≤ R.slots) (hsz : L.size = ml) (hdd : parseMethodDescriptor y.desc = some ⟨ps, rt'⟩) (hlen : argsL.length = ps.length) (hst : st = argsL.reverse ++ rest) (has : argsL.toArray = as') (hW : (rest.map fun v => v.category).sum = W) (hd : decode bytes pc = .ok (.invokestatic i, 3)) (hq : pc + 3 = q)
    (r : ∀ w T' h' vm', Cx p (s.setVm vm') m meth c Z own bytes ml rt mn → St p l e R (s.setVm vm') m args below meth c n0 T' h' k' n' → Wx Z EL s vm' h' → CHr Z EL vm h vm' h' → Q w h' → Goes p e below G (T'.setTop (mkF m q L (w :: rest)))) : Goes p e below G (T.setTop (mkF m pc L st)) := by
  obtain ⟨hx, hZ, hown, hby, hml, hret, hlk, hnm⟩ := C
  obtain ⟨_, cells, slots, X, hF, eT, h1, h2⟩ := X
  obtain ⟨⟨k0, hS, hk0⟩, hC⟩ := Y
  subst hq hk hn has hst hW
  have bk := backOfSH (Q := fun v h L => Fr n0 L ∧ (∃ w, v = some w ∧ Q w h)) (R := R) (p := p) (e := e) (below := below) (s := s) (args := args) (len := 3) (W := (rest.map fun v => v.category).sum) (hM []) hZ w8 w9 hf hl hEL hC.1
  obtain ⟨_, _, ⟨T', Lo, kk, nn⟩, -, X', hS', hg', ⟨Lc, hQ, q1, q2, q3, hC'⟩, st'⟩ := callSS X hx hown (mvT hZ w1) (mvT hZ w2) (mvT hZ w9) (mvT hZ w8) hy bk (g := mkF m pc L (argsL.reverse ++ rest)) rfl (hsz.trans hml.symm) (argsL := argsL) (rest := rest) (lenOf hdd hlen) rfl (by show 2 * 0 + _ ≤ _; omega) (hb hby hd) (fun _ _ => ⟨rfl, eT, Nat.le_trans (Nat.add_le_add_right h1 _) hkR, Nat.le_trans (Nat.add_le_add_right h2 _) hnR⟩)
  dsimp only [Pt.U, Pt.locs, Pt.cells, Pt.slots] at X' hS' hg' q1 q2 q3 st' hQ hC'
  subst q1 q2 q3
  obtain ⟨hFr, hQ'⟩ := hQ
  obtain ⟨w, rfl, hQ'⟩ := hQ'
  rw [eT] at hg'
  obtain ⟨X2, hS2, hZ2, hown2⟩ := rebS hS hk0 X' hS' hg' hZ hown
  exact go_tr st' (r w T' _ T'.vm ⟨hx, hZ2, hown2, hby, hml, hret, hlk, hnm⟩ ⟨_, _, _, X2, Fr.app hF hFr, rfl, Nat.add_le_add_right h1 _, Nat.add_le_add_right h2 _⟩ ⟨⟨_, hS2, Nat.le_refl _⟩, hC.trans hC'⟩ hC' hQ')
theorem gW_callS0 (C : Cx p (s.setVm vm) m meth c Z own bytes ml rt mn) (X : St p l e R (s.setVm vm) m args below meth c n0 T h k n) (Y : Wx Z EL s vm h) (hEL : EW Z a0 EL) {rm : Room} {as' : Array Value} {bts : ByteArray} {mxl : Nat} {rty : Option FieldType} {argsL : List Value} {ps : List FieldType} {rt' : Option FieldType} {k' n' W : Nat} {Q : Heap → Prop} {y : MethodName} {i : Nat} (hy : y.cls ≠ "java/lang/invoke/MethodHandle" ∧ y.cls ≠ "java/lang/invoke/VarHandle") (w1 : (Cond.methodLink own i y).before a0 Z = true) (w2 : (Cond.static y).before a0 Z = true) (w8 : (Cond.code y bts mxl rty).before a0 Z = true) (w9 : (Cond.initialized y.cls).before a0 Z = true) (hM : MetW0 l Z EL y bts mxl rty rm as' h n0 Q) (hf : rm.frames + 1 ≤ R.frames) (hl : W + (mxl + 11) + rm.locals ≤ R.locals) (hk : k + rm.cells = k') (hn : n + rm.slots = n') (hkR : k' ≤ R.cells) (hnR : n' ≤ R.slots) (hsz : L.size = ml) (hdd : parseMethodDescriptor y.desc = some ⟨ps, rt'⟩) (hlen : argsL.length = ps.length) (hst : st = argsL.reverse ++ rest) (has : argsL.toArray = as') (hW : (rest.map fun v => v.category).sum = W) (hd : decode bytes pc = .ok (.invokestatic i, 3)) (hq : pc + 3 = q)
    (r : ∀ T' h' vm', Cx p (s.setVm vm') m meth c Z own bytes ml rt mn → St p l e R (s.setVm vm') m args below meth c n0 T' h' k' n' → Wx Z EL s vm' h' → CHr Z EL vm h vm' h' → Q h' → Goes p e below G (T'.setTop (mkF m q L rest))) : Goes p e below G (T.setTop (mkF m pc L st)) := by
  obtain ⟨hx, hZ, hown, hby, hml, hret, hlk, hnm⟩ := C
  obtain ⟨_, cells, slots, X, hF, eT, h1, h2⟩ := X
  obtain ⟨⟨k0, hS, hk0⟩, hC⟩ := Y
  subst hq hk hn has hst hW
  have bk := backOfSH (Q := fun v h L => Fr n0 L ∧ (v = none ∧ Q h)) (R := R) (p := p) (e := e) (below := below) (s := s) (args := args) (len := 3) (W := (rest.map fun v => v.category).sum) (hM []) hZ w8 w9 hf hl hEL hC.1
  obtain ⟨_, _, ⟨T', Lo, kk, nn⟩, -, X', hS', hg', ⟨Lc, hQ, q1, q2, q3, hC'⟩, st'⟩ := callSS X hx hown (mvT hZ w1) (mvT hZ w2) (mvT hZ w9) (mvT hZ w8) hy bk (g := mkF m pc L (argsL.reverse ++ rest)) rfl (hsz.trans hml.symm) (argsL := argsL) (rest := rest) (lenOf hdd hlen) rfl (by show 2 * 0 + _ ≤ _; omega) (hb hby hd) (fun _ _ => ⟨rfl, eT, Nat.le_trans (Nat.add_le_add_right h1 _) hkR, Nat.le_trans (Nat.add_le_add_right h2 _) hnR⟩)
  dsimp only [Pt.U, Pt.locs, Pt.cells, Pt.slots] at X' hS' hg' q1 q2 q3 st' hQ hC'
  subst q1 q2 q3
  obtain ⟨hFr, hQ'⟩ := hQ
  obtain ⟨rfl, hQ'⟩ := hQ'
  rw [eT] at hg'
  obtain ⟨X2, hS2, hZ2, hown2⟩ := rebS hS hk0 X' hS' hg' hZ hown
  exact go_tr st' (r T' _ T'.vm ⟨hx, hZ2, hown2, hby, hml, hret, hlk, hnm⟩ ⟨_, _, _, X2, Fr.app hF hFr, rfl, Nat.add_le_add_right h1 _, Nat.add_le_add_right h2 _⟩ ⟨⟨_, hS2, Nat.le_refl _⟩, hC.trans hC'⟩ hC' hQ')
theorem gW_callI1 (C : Cx p (s.setVm vm) m meth c Z own bytes ml rt mn) (X : St p l e R (s.setVm vm) m args below meth c n0 T h k n) (Y : Wx Z EL s vm h) (hEL : EW Z a0 EL) {rm : Room} {as' : Array Value} {bts : ByteArray} {mxl : Nat} {rty : Option FieldType} {argsL : List Value} {ps : List FieldType} {rt' : Option FieldType} {k' n' W : Nat} {Q : Value → Heap → Prop} {y : MethodName} {i : Nat} {a : Addr} (hy : y.cls ≠ "java/lang/invoke/MethodHandle" ∧ y.cls ≠ "java/lang/invoke/VarHandle") (hy1 : y.name = "<init>") (hrn : rty = none) (w1 : (Cond.methodLink own i y).before a0 Z = true) (w2 : (Cond.instanceMethod y).before a0 Z = true) (w8 : (Cond.code y bts mxl rty).before a0 Z = true) (w9 : (Cond.initialized y.cls).before a0 Z = true) (hM : MetW1 l Z EL y bts mxl rty rm as' h n0 Q) (hf : rm.frames + 1 ≤ R.frames) (hl : W + (mxl + 11) + rm.locals ≤ R.locals) (hk : k + rm.cells = k') (hn : n + rm.slots = n') (hkR : k' ≤ R.cells) (hnR : n' ≤ R.slots) (hsz : L.size = ml) (hdd : parseMethodDescriptor y.desc = some ⟨ps, rt'⟩) (hlen : argsL.length = ps.length) (hst : st = argsL.reverse ++ .ref a :: rest) (has : (.ref a :: argsL).toArray = as') (hW : (rest.map fun v => v.category).sum = W) (hd : decode bytes pc = .ok (.invokespecial i, 3)) (hq : pc + 3 = q)
    (r : ∀ w T' h' vm', Cx p (s.setVm vm') m meth c Z own bytes ml rt mn → St p l e R (s.setVm vm') m args below meth c n0 T' h' k' n' → Wx Z EL s vm' h' → CHr Z EL vm h vm' h' → Q w h' → Goes p e below G (T'.setTop (mkF m q L (w :: rest)))) : Goes p e below G (T.setTop (mkF m pc L st)) := by
  obtain ⟨hx, hZ, hown, hby, hml, hret, hlk, hnm⟩ := C
  obtain ⟨_, cells, slots, X, hF, eT, h1, h2⟩ := X
  obtain ⟨⟨k0, hS, hk0⟩, hC⟩ := Y
  subst hq hk hn has hst hW
  have bk := backOfSH (Q := fun v h L => Fr n0 L ∧ (∃ w, v = some w ∧ Q w h)) (R := R) (p := p) (e := e) (below := below) (s := s) (args := args) (len := 3) (W := (rest.map fun v => v.category).sum) (hM []) hZ w8 w9 hf hl hEL hC.1
  subst hrn
  obtain ⟨_, _, ⟨T', Lo, kk, nn⟩, -, X', hS', hg', ⟨Lc, hQ, q1, q2, q3, hC'⟩, st'⟩ := X.specialBackS hx hy1 hown (mvT hZ w1) (mvT hZ w2) (mvT hZ w8) hy bk (g := mkF m pc L (argsL.reverse ++ .ref a :: rest)) rfl (hsz.trans hml.symm) (Steps.refl _) (a := a) (argsL := argsL) (rest := rest) (lenOf hdd hlen) rfl (by show 2 * 0 + _ ≤ _; omega) (hb hby hd) (fun _ _ => ⟨rfl, eT, Nat.le_trans (Nat.add_le_add_right h1 _) hkR, Nat.le_trans (Nat.add_le_add_right h2 _) hnR⟩)
  dsimp only [Pt.U, Pt.locs, Pt.cells, Pt.slots] at X' hS' hg' q1 q2 q3 st' hQ hC'
  subst q1 q2 q3
  obtain ⟨hFr, hQ'⟩ := hQ
  obtain ⟨w, rfl, hQ'⟩ := hQ'
  rw [eT] at hg'
  obtain ⟨X2, hS2, hZ2, hown2⟩ := rebS hS hk0 X' hS' hg' hZ hown
  exact go_tr st' (r w T' _ T'.vm ⟨hx, hZ2, hown2, hby, hml, hret, hlk, hnm⟩ ⟨_, _, _, X2, Fr.app hF hFr, rfl, Nat.add_le_add_right h1 _, Nat.add_le_add_right h2 _⟩ ⟨⟨_, hS2, Nat.le_refl _⟩, hC.trans hC'⟩ hC' hQ')
theorem gW_callI0 (C : Cx p (s.setVm vm) m meth c Z own bytes ml rt mn) (X : St p l e R (s.setVm vm) m args below meth c n0 T h k n) (Y : Wx Z EL s vm h) (hEL : EW Z a0 EL) {rm : Room} {as' : Array Value} {bts : ByteArray} {mxl : Nat} {rty : Option FieldType} {argsL : List Value} {ps : List FieldType} {rt' : Option FieldType} {k' n' W : Nat} {Q : Heap → Prop} {y : MethodName} {i : Nat} {a : Addr} (hy : y.cls ≠ "java/lang/invoke/MethodHandle" ∧ y.cls ≠ "java/lang/invoke/VarHandle") (hy1 : y.name = "<init>") (hrn : rty = none) (w1 : (Cond.methodLink own i y).before a0 Z = true) (w2 : (Cond.instanceMethod y).before a0 Z = true) (w8 : (Cond.code y bts mxl rty).before a0 Z = true) (w9 : (Cond.initialized y.cls).before a0 Z = true) (hM : MetW0 l Z EL y bts mxl rty rm as' h n0 Q) (hf : rm.frames + 1 ≤ R.frames) (hl : W + (mxl + 11) + rm.locals ≤ R.locals) (hk : k + rm.cells = k') (hn : n + rm.slots = n') (hkR : k' ≤ R.cells) (hnR : n' ≤ R.slots) (hsz : L.size = ml) (hdd : parseMethodDescriptor y.desc = some ⟨ps, rt'⟩) (hlen : argsL.length = ps.length) (hst : st = argsL.reverse ++ .ref a :: rest) (has : (.ref a :: argsL).toArray = as') (hW : (rest.map fun v => v.category).sum = W) (hd : decode bytes pc = .ok (.invokespecial i, 3)) (hq : pc + 3 = q)
    (r : ∀ T' h' vm', Cx p (s.setVm vm') m meth c Z own bytes ml rt mn → St p l e R (s.setVm vm') m args below meth c n0 T' h' k' n' → Wx Z EL s vm' h' → CHr Z EL vm h vm' h' → Q h' → Goes p e below G (T'.setTop (mkF m q L rest))) : Goes p e below G (T.setTop (mkF m pc L st)) := by
  obtain ⟨hx, hZ, hown, hby, hml, hret, hlk, hnm⟩ := C
  obtain ⟨_, cells, slots, X, hF, eT, h1, h2⟩ := X
  obtain ⟨⟨k0, hS, hk0⟩, hC⟩ := Y
  subst hq hk hn has hst hW
  have bk := backOfSH (Q := fun v h L => Fr n0 L ∧ (v = none ∧ Q h)) (R := R) (p := p) (e := e) (below := below) (s := s) (args := args) (len := 3) (W := (rest.map fun v => v.category).sum) (hM []) hZ w8 w9 hf hl hEL hC.1
  subst hrn
  obtain ⟨_, _, ⟨T', Lo, kk, nn⟩, -, X', hS', hg', ⟨Lc, hQ, q1, q2, q3, hC'⟩, st'⟩ := X.specialBackS hx hy1 hown (mvT hZ w1) (mvT hZ w2) (mvT hZ w8) hy bk (g := mkF m pc L (argsL.reverse ++ .ref a :: rest)) rfl (hsz.trans hml.symm) (Steps.refl _) (a := a) (argsL := argsL) (rest := rest) (lenOf hdd hlen) rfl (by show 2 * 0 + _ ≤ _; omega) (hb hby hd) (fun _ _ => ⟨rfl, eT, Nat.le_trans (Nat.add_le_add_right h1 _) hkR, Nat.le_trans (Nat.add_le_add_right h2 _) hnR⟩)
  dsimp only [Pt.U, Pt.locs, Pt.cells, Pt.slots] at X' hS' hg' q1 q2 q3 st' hQ hC'
  subst q1 q2 q3
  obtain ⟨hFr, hQ'⟩ := hQ
  obtain ⟨rfl, hQ'⟩ := hQ'
  rw [eT] at hg'
  obtain ⟨X2, hS2, hZ2, hown2⟩ := rebS hS hk0 X' hS' hg' hZ hown
  exact go_tr st' (r T' _ T'.vm ⟨hx, hZ2, hown2, hby, hml, hret, hlk, hnm⟩ ⟨_, _, _, X2, Fr.app hF hFr, rfl, Nat.add_le_add_right h1 _, Nat.add_le_add_right h2 _⟩ ⟨⟨_, hS2, Nat.le_refl _⟩, hC.trans hC'⟩ hC' hQ')
theorem gW_callV1 (C : Cx p (s.setVm vm) m meth c Z own bytes ml rt mn) (X : St p l e R (s.setVm vm) m args below meth c n0 T h k n) (Y : Wx Z EL s vm h) (hEL : EW Z a0 EL) {rm : Room} {as' : Array Value} {bts : ByteArray} {mxl : Nat} {rty : Option FieldType} {argsL : List Value} {ps : List FieldType} {rt' : Option FieldType} {k' n' W : Nat} {Q : Value → Heap → Prop} {y z : MethodName} {i : Nat} {a : Addr} {K : String} (hy : y.cls ≠ "java/lang/invoke/MethodHandle" ∧ y.cls ≠ "java/lang/invoke/VarHandle") (w1 : (Cond.methodLink own i y).before a0 Z = true) (w2 : (Cond.declares y).before a0 Z = true) (w3 : (Cond.selects K y z).before a0 Z = true) (w4 : (Cond.instanceMethod z).before a0 Z = true) (hnf : ∀ s' : State, Z.Warmed39 s'.vm → NotFace s' y) (E : Exa Z h a K) (w8 : (Cond.code z bts mxl rty).before a0 Z = true) (w9 : (Cond.initialized z.cls).before a0 Z = true) (hM : MetW1 l Z EL z bts mxl rty rm as' h n0 Q) (hf : rm.frames + 1 ≤ R.frames) (hl : W + (mxl + 11) + rm.locals ≤ R.locals) (hk : k + rm.cells = k') (hn : n + rm.slots = n') (hkR : k' ≤ R.cells) (hnR : n' ≤ R.slots) (hsz : L.size = ml) (hdd : parseMethodDescriptor y.desc = some ⟨ps, rt'⟩) (hlen : argsL.length = ps.length) (hst : st = argsL.reverse ++ .ref a :: rest) (has : (.ref a :: argsL).toArray = as') (hW : (rest.map fun v => v.category).sum = W) (hd : decode bytes pc = .ok (.invokevirtual i, 3)) (hq : pc + 3 = q)
    (r : ∀ w T' h' vm', Cx p (s.setVm vm') m meth c Z own bytes ml rt mn → St p l e R (s.setVm vm') m args below meth c n0 T' h' k' n' → Wx Z EL s vm' h' → CHr Z EL vm h vm' h' → Q w h' → Goes p e below G (T'.setTop (mkF m q L (w :: rest)))) : Goes p e below G (T.setTop (mkF m pc L st)) := by
  obtain ⟨hx, hZ, hown, hby, hml, hret, hlk, hnm⟩ := C
  obtain ⟨_, cells, slots, X, hF, eT, h1, h2⟩ := X
  obtain ⟨⟨k0, hS, hk0⟩, hC⟩ := Y
  subst hq hk hn has hst hW
  have bk := backOfSH (Q := fun v h L => Fr n0 L ∧ (∃ w, v = some w ∧ Q w h)) (R := R) (p := p) (e := e) (below := below) (s := s) (args := args) (len := 3) (W := (rest.map fun v => v.category).sum) (hM []) hZ w8 w9 hf hl hEL hC.1
  obtain ⟨cB, kB, qa, qb, qc⟩ := isOf hZ eT E
  obtain ⟨_, _, ⟨T', Lo, kk, nn⟩, -, X', hS', hg', ⟨Lc, hQ, q1, q2, q3, hC'⟩, st'⟩ := X.virtualBackS hx hown (mvT hZ w1) (mvT hZ w2) (hnf _ hZ) (mvT hZ w3) (mvT hZ w4) hy bk qa qc (g := mkF m pc L (argsL.reverse ++ .ref a :: rest)) rfl (hsz.trans hml.symm) (Steps.refl _) (argsL := argsL) (rest := rest) (lenOf hdd hlen) rfl (by show 2 * 0 + _ ≤ _; omega) (hb hby hd) (fun _ _ => ⟨rfl, eT, Nat.le_trans (Nat.add_le_add_right h1 _) hkR, Nat.le_trans (Nat.add_le_add_right h2 _) hnR⟩)
  dsimp only [Pt.U, Pt.locs, Pt.cells, Pt.slots] at X' hS' hg' q1 q2 q3 st' hQ hC'
  subst q1 q2 q3
  obtain ⟨hFr, hQ'⟩ := hQ
  obtain ⟨w, rfl, hQ'⟩ := hQ'
  rw [eT] at hg'
  obtain ⟨X2, hS2, hZ2, hown2⟩ := rebS hS hk0 X' hS' hg' hZ hown
  exact go_tr st' (r w T' _ T'.vm ⟨hx, hZ2, hown2, hby, hml, hret, hlk, hnm⟩ ⟨_, _, _, X2, Fr.app hF hFr, rfl, Nat.add_le_add_right h1 _, Nat.add_le_add_right h2 _⟩ ⟨⟨_, hS2, Nat.le_refl _⟩, hC.trans hC'⟩ hC' hQ')
theorem gW_callV0 (C : Cx p (s.setVm vm) m meth c Z own bytes ml rt mn) (X : St p l e R (s.setVm vm) m args below meth c n0 T h k n) (Y : Wx Z EL s vm h) (hEL : EW Z a0 EL) {rm : Room} {as' : Array Value} {bts : ByteArray} {mxl : Nat} {rty : Option FieldType} {argsL : List Value} {ps : List FieldType} {rt' : Option FieldType} {k' n' W : Nat} {Q : Heap → Prop} {y z : MethodName} {i : Nat} {a : Addr} {K : String} (hy : y.cls ≠ "java/lang/invoke/MethodHandle" ∧ y.cls ≠ "java/lang/invoke/VarHandle") (w1 : (Cond.methodLink own i y).before a0 Z = true) (w2 : (Cond.declares y).before a0 Z = true) (w3 : (Cond.selects K y z).before a0 Z = true) (w4 : (Cond.instanceMethod z).before a0 Z = true) (hnf : ∀ s' : State, Z.Warmed39 s'.vm → NotFace s' y) (E : Exa Z h a K) (w8 : (Cond.code z bts mxl rty).before a0 Z = true) (w9 : (Cond.initialized z.cls).before a0 Z = true) (hM : MetW0 l Z EL z bts mxl rty rm as' h n0 Q) (hf : rm.frames + 1 ≤ R.frames) (hl : W + (mxl + 11) + rm.locals ≤ R.locals) (hk : k + rm.cells = k') (hn : n + rm.slots = n') (hkR : k' ≤ R.cells) (hnR : n' ≤ R.slots) (hsz : L.size = ml) (hdd : parseMethodDescriptor y.desc = some ⟨ps, rt'⟩) (hlen : argsL.length = ps.length) (hst : st = argsL.reverse ++ .ref a :: rest) (has : (.ref a :: argsL).toArray = as') (hW : (rest.map fun v => v.category).sum = W) (hd : decode bytes pc = .ok (.invokevirtual i, 3)) (hq : pc + 3 = q)
    (r : ∀ T' h' vm', Cx p (s.setVm vm') m meth c Z own bytes ml rt mn → St p l e R (s.setVm vm') m args below meth c n0 T' h' k' n' → Wx Z EL s vm' h' → CHr Z EL vm h vm' h' → Q h' → Goes p e below G (T'.setTop (mkF m q L rest))) : Goes p e below G (T.setTop (mkF m pc L st)) := by
  obtain ⟨hx, hZ, hown, hby, hml, hret, hlk, hnm⟩ := C
  obtain ⟨_, cells, slots, X, hF, eT, h1, h2⟩ := X
  obtain ⟨⟨k0, hS, hk0⟩, hC⟩ := Y
  subst hq hk hn has hst hW
  have bk := backOfSH (Q := fun v h L => Fr n0 L ∧ (v = none ∧ Q h)) (R := R) (p := p) (e := e) (below := below) (s := s) (args := args) (len := 3) (W := (rest.map fun v => v.category).sum) (hM []) hZ w8 w9 hf hl hEL hC.1
  obtain ⟨cB, kB, qa, qb, qc⟩ := isOf hZ eT E
  obtain ⟨_, _, ⟨T', Lo, kk, nn⟩, -, X', hS', hg', ⟨Lc, hQ, q1, q2, q3, hC'⟩, st'⟩ := X.virtualBackS hx hown (mvT hZ w1) (mvT hZ w2) (hnf _ hZ) (mvT hZ w3) (mvT hZ w4) hy bk qa qc (g := mkF m pc L (argsL.reverse ++ .ref a :: rest)) rfl (hsz.trans hml.symm) (Steps.refl _) (argsL := argsL) (rest := rest) (lenOf hdd hlen) rfl (by show 2 * 0 + _ ≤ _; omega) (hb hby hd) (fun _ _ => ⟨rfl, eT, Nat.le_trans (Nat.add_le_add_right h1 _) hkR, Nat.le_trans (Nat.add_le_add_right h2 _) hnR⟩)
  dsimp only [Pt.U, Pt.locs, Pt.cells, Pt.slots] at X' hS' hg' q1 q2 q3 st' hQ hC'
  subst q1 q2 q3
  obtain ⟨hFr, hQ'⟩ := hQ
  obtain ⟨rfl, hQ'⟩ := hQ'
  rw [eT] at hg'
  obtain ⟨X2, hS2, hZ2, hown2⟩ := rebS hS hk0 X' hS' hg' hZ hown
  exact go_tr st' (r T' _ T'.vm ⟨hx, hZ2, hown2, hby, hml, hret, hlk, hnm⟩ ⟨_, _, _, X2, Fr.app hF hFr, rfl, Nat.add_le_add_right h1 _, Nat.add_le_add_right h2 _⟩ ⟨⟨_, hS2, Nat.le_refl _⟩, hC.trans hC'⟩ hC' hQ')
end OwnWide
section OwnStr
variable {p : Program} {l : Launch} {e : Env} {R : Room} {s : State} {m : MethodId} {args : Array Value} {below : List Frame} {meth : Method} {c : Code} {T : State} {Z : State} {own mn : String} {bytes : ByteArray} {ml n0 k n : Nat} {rt : Option FieldType} {h h' : Heap} {G : Outcome → State → Prop} {pc q : Nat} {L : Array Slot} {st rest : List Value} {a0 : Array Value} {x y o : Addr} {cs ds : List Int32} {sl : Nat} {v : Value} {ws : List Addr} {ty : FieldType}
/-- the String x spells cs -/
def Str (Z : State) (h : Heap) (x : Addr) (cs : List Int32) : Prop := ∃ (t : Addr) (kb : ClassId), Exa Z h x "java/lang/String" ∧ Fld Z h x "java/lang/String" "value" "[B" (.ref t) ∧ Fld Z h x "java/lang/String" "coder" "B" (.int 0) ∧ Arv Z h t kb .byte (Int32.ofNat cs.length) ((cs.map (fun c => c.toInt8.toInt32)).map Value.int) (.int 0) ∧ (∀ c ∈ cs, ¬ c < 0 ∧ ¬ (255 : Int32) < c) ∧ cs.length ≤ 4000
def Yar (Z : State) (h : Heap) (a : Addr) (ty : FieldType) : Prop := ∃ c : Cell, Arr Z h a c ty
theorem Yar.of {cA : ClassId} {z : Int32} {vs : List Value} {dv : Value} (V : Arv Z h o cA ty z vs dv) : Yar Z h o ty := by obtain ⟨c, A, -⟩ := V; exact ⟨c, A⟩
theorem Yar.ext (Y : Yar Z h o ty) (E : Ext h h') : Yar Z h' o ty := by obtain ⟨c, A⟩ := Y; exact ⟨c, A.ext E⟩
theorem Yar.wr (Y : Yar Z h o ty) (W : Wr h h' x sl v) : Yar Z h' o ty := by
  obtain ⟨c, A⟩ := Y
  by_cases q : o = x
  · subst q; exact ⟨_, A.same W⟩
  · exact ⟨_, A.other W q⟩
theorem Yar.keep (Y : Yar Z h o ty) (K : Keep h h' ws) : Yar Z h' o ty := by
  obtain ⟨c, A1, ⟨A2, kc, A3, comp, A4⟩, A5⟩ := Y
  obtain ⟨c', q1, q2, q3, -⟩ := K.2.2 _ _ A1
  exact ⟨c', q1, ⟨fun r z => A2 r (by rw [← q3]; exact z), kc, by rw [q2]; exact A3, comp, A4⟩, by rw [q3]; exact A5⟩
/-- neither a String nor a byte[] -/
def NoS (Z : State) (h : Heap) (o : Addr) : Prop := (∀ x, Exa Z h x "java/lang/String" → o ≠ x) ∧ ∀ t c, Arr Z h t c .byte → o ≠ t
theorem NoS.exa {K : String} {nn : Nat} (E : Exa Z h o K) (hK : K ≠ "java/lang/String") (wi : (Cond.instantiable K nn).before a0 Z = true) : NoS Z h o := ⟨fun x F => ne_exa E F hK, fun t c A => ne_arr E wi A⟩
theorem NoS.arr {nn : Nat} (Y : Yar Z h o ty) (ht : ty ≠ .byte) (wi : (Cond.instantiable "java/lang/String" nn).before a0 Z = true) : NoS Z h o := by
  obtain ⟨c, A⟩ := Y
  refine ⟨fun x F => Ne.symm (ne_arr F wi A), fun t c' B q => ?_⟩
  subst q
  obtain ⟨A1, ⟨-, k1, A3, comp, A4⟩, -⟩ := A
  obtain ⟨B1, ⟨-, k2, B3, comp', B4⟩, -⟩ := B
  cases A1.symm.trans B1
  cases A3.symm.trans B3
  rw [A4] at B4
  injection B4 with z1 z2
  exact ht z2
theorem Str.lt (F : Str Z h x cs) : x < h.size := by obtain ⟨t, kb, E, -⟩ := F; exact E.lt
theorem Str.exa (F : Str Z h x cs) : Exa Z h x "java/lang/String" := by obtain ⟨t, kb, E, -⟩ := F; exact E
theorem Str.rng (F : Str Z h x cs) : ∀ c ∈ cs, ¬ c < 0 ∧ ¬ (255 : Int32) < c := by obtain ⟨t, kb, -, -, -, -, r, -⟩ := F; exact r
theorem Str.ext (F : Str Z h x cs) (E : Ext h h') : Str Z h' x cs := by obtain ⟨t, kb, f1, f2, f3, f4, r⟩ := F; exact ⟨t, kb, f1.ext E, f2.ext E, f3.ext E, f4.ext E, r⟩
theorem Str.wr (F : Str Z h x cs) (W : Wr h h' o sl v) (N : NoS Z h o) : Str Z h' x cs := by
  obtain ⟨t, kb, f1, f2, f3, f4, r⟩ := F
  have n1 : x ≠ o := Ne.symm (N.1 x f1)
  have n2 : t ≠ o := by obtain ⟨c, A, -⟩ := f4; exact Ne.symm (N.2 t c A)
  exact ⟨t, kb, f1.wr W, f2.other W (Or.inl n1), f3.other W (Or.inl n1), f4.other W n2, r⟩
theorem Str.keep (F : Str Z h x cs) (K : Keep h h' ws) (N : ∀ o ∈ ws, NoS Z h o) : Str Z h' x cs := by
  obtain ⟨t, kb, f1, f2, f3, f4, r⟩ := F
  have n1 : x ∉ ws := fun q => (N x q).1 x f1 rfl
  have n2 : t ∉ ws := fun q => by obtain ⟨c, A, -⟩ := f4; exact (N t q).2 t c A rfl
  exact ⟨t, kb, f1.keep K, f2.keep K n1, f3.keep K n1, f4.keep K n2, r⟩
theorem Str.keepS {nn : Nat} (F : Str Z h x cs) (K : Keep h h' [y]) (hne : x ≠ y) (E : Exa Z h y "java/lang/String") (wi : (Cond.instantiable "java/lang/String" nn).before a0 Z = true) : Str Z h' x cs := by
  obtain ⟨t, kb, f1, f2, f3, f4, r⟩ := F
  have n1 : x ∉ [y] := ninS hne nin0
  have n2 : t ∉ [y] := ninS (by obtain ⟨c, A, -⟩ := f4; exact Ne.symm (ne_arr E wi A)) nin0
  exact ⟨t, kb, f1.keep K, f2.keep K n1, f3.keep K n1, f4.keep K n2, r⟩
theorem Str.cod (hr : ∀ c ∈ cs, ¬ c < 0 ∧ ¬ (255 : Int32) < c) : StrChars.Road.CodA cs 0 (Int32.ofNat cs.length) ((cs.map (fun c => c.toInt8.toInt32)).map Value.int) := StrChars.Road.codOf rfl fun c hc => (hr c hc).2
theorem Str.up (hr : ∀ c ∈ cs, ¬ c < 0 ∧ ¬ (255 : Int32) < c) : ∀ c ∈ cs, ¬ c < 0 ∧ ¬ (65535 : Int32) < c := fun c hc => ⟨(hr c hc).1, fun z => (hr c hc).2 (Int32.lt_trans (by decide) z)⟩
theorem g_strNew (C : Cx p s m meth c Z own bytes ml rt mn) (X : St p l e R s m args below meth c n0 T h k n) {i len k' n' W : Nat} {b : Addr} {kC : ClassId} {d v0 c0 : Value} {z N : Int32} (hwS : ∀ d ∈ StrChars.Road.words, d.before a0 Z = true) (wi : (Cond.instantiable "java/lang/String" 4).before a0 Z = true) (w1 : (Cond.methodLink own i ⟨"java/lang/String", "<init>", "([C)V"⟩).before a0 Z = true) (w2 : (Cond.instanceMethod ⟨"java/lang/String", "<init>", "([C)V"⟩).before a0 Z = true)
    (E : Exa Z h x "java/lang/String") (V : Fld Z h x "java/lang/String" "value" "[B" v0) (Cd : Fld Z h x "java/lang/String" "coder" "B" c0) (K : Arv Z h b kC .char N (cs.map Value.int) d) (S : Sta Z h "java/lang/String" "COMPACT_STRINGS" "Z" (.int z)) (hz : ¬ z = 0) (hlen : cs.length = len) (hN : N = Int32.ofNat len) (l0 : 0 < len) (l2 : len ≤ 4000) (hp : ∀ c ∈ cs, ¬ c < 0 ∧ ¬ (255 : Int32) < c) (hx0 : n0 ≤ x) (hh0 : n0 ≤ h.size)
    (hfr : 4 ≤ R.frames) (hlo : W + 65 ≤ R.locals) (hk : k + 1 = k') (hn : n + len = n') (hkR : k' ≤ R.cells) (hnR : n' ≤ R.slots) (hsz : L.size = ml) (hW : (rest.map fun v => v.category).sum = W) (hd : decode bytes pc = .ok (.invokespecial i, 3)) (hq : pc + 3 = q)
    (r : ∀ T' h', St p l e R s m args below meth c n0 T' h' k' n' → Keep h h' [x] → Str Z h' x cs → Goes p e below G (T'.setTop (mkF m q L rest))) : Goes p e below G (T.setTop (mkF m pc L (.ref b :: .ref x :: rest))) := by
  refine g_callIb C X (y := ⟨"java/lang/String", "<init>", "([C)V"⟩) (a := x) (by decide) rfl w1 w2 (hwS _ (List.mem_cons_self ..)) (StrChars.Road.backV (W := W) C.2.1 hwS (kI := 4) wi (bs := cs.map (fun c => c.toInt8.toInt32)) hx0 hh0 E V Cd K S hz hlen hN l0 l2 hp rfl hfr hlo) hk hn hkR hnR hsz (show parseMethodDescriptor "([C)V" = some ⟨[.array .char], none⟩ by decide +kernel) (argsL := [.ref b]) rfl (rest := rest) rfl rfl hW hd hq ?_
  rintro v T' h' L' hX ⟨rfl, hFr, K', E', C', t, kb, -, -, -, V', A'⟩
  subst hlen hN
  exact r T' h' (hX.resolve_right fun z => z hFr) K' ⟨t, kb, E', V', C', A', hp, l2⟩
theorem g_strEq (C : Cx p s m meth c Z own bytes ml rt mn) (X : St p l e R s m args below meth c n0 T h k n) {i W : Nat} {z : Int32} (hwE : ∀ d ∈ StrChars.Road.wordsEq, d.before a0 Z = true) (wi : (Cond.instantiable "java/lang/String" 4).before a0 Z = true) (w1 : (Cond.methodLink own i ⟨"java/lang/String", "equals", "(Ljava/lang/Object;)Z"⟩).before a0 Z = true) (w2 : (Cond.declares ⟨"java/lang/String", "equals", "(Ljava/lang/Object;)Z"⟩).before a0 Z = true) (w3 : (Cond.selects "java/lang/String" ⟨"java/lang/String", "equals", "(Ljava/lang/Object;)Z"⟩ ⟨"java/lang/String", "equals", "(Ljava/lang/Object;)Z"⟩).before a0 Z = true) (w4 : (Cond.instanceMethod ⟨"java/lang/String", "equals", "(Ljava/lang/Object;)Z"⟩).before a0 Z = true)
    (F : Str Z h x cs) (F' : Str Z h y ds) (S : Sta Z h "java/lang/String" "COMPACT_STRINGS" "Z" (.int z)) (hz : ¬ z = 0) (hfr : 2 ≤ R.frames) (hlo : W + 28 ≤ R.locals) (hkR : k ≤ R.cells) (hnR : n ≤ R.slots) (hsz : L.size = ml) (hW : (rest.map fun v => v.category).sum = W) (hd : decode bytes pc = .ok (.invokevirtual i, 3)) (hq : pc + 3 = q)
    (r : ∀ T', St p l e R s m args below meth c n0 T' h k n → Goes p e below G (T'.setTop (mkF m q L (.int (if cs = ds then 1 else 0) :: rest)))) : Goes p e below G (T.setTop (mkF m pc L (.ref y :: .ref x :: rest))) := by
  obtain ⟨t, kb, E, V, Cd, K, hr, l2⟩ := F
  obtain ⟨t', kb', E', V', Cd', K', hr', l2'⟩ := F'
  refine g_callVb C X (QL := fun v h' L => ((v = some (.int 1) ∧ cs = ds) ∨ (v = some (.int 0) ∧ ¬ cs = ds)) ∧ L = [] ∧ h' = h) (kc := 0) (ks := 0) (y := ⟨"java/lang/String", "equals", "(Ljava/lang/Object;)Z"⟩) (z := ⟨"java/lang/String", "equals", "(Ljava/lang/Object;)Z"⟩) (a := x) (by decide) w1 w2 w3 w4 (nf_sel w3) E (StrChars.Road.eqW (W := W) C.2.1 hwE (kI := 4) wi E V Cd K (Str.cod hr) (Str.up hr) l2 E' V' Cd' K' (Str.cod hr') (Str.up hr') l2' S hz hfr hlo) (k' := k) rfl (n' := n) rfl hkR hnR hsz (show parseMethodDescriptor "(Ljava/lang/Object;)Z" = some ⟨[.object "java/lang/Object"], some .boolean⟩ by decide +kernel) (argsL := [.ref y]) rfl (rest := rest) rfl rfl hW hd hq ?_
  rintro v T' h' L' hX ⟨hv, rfl, rfl⟩
  have r' := r T' (hX.resolve_right fun z => z (Fr.nil _))
  rcases hv with ⟨rfl, hcd⟩ | ⟨rfl, hcd⟩
  · rw [if_pos hcd] at r'; exact r'
  · rw [if_neg hcd] at r'; exact r'
end OwnStr
theorem own_safeY {Z : State} {EL : List (String × Nat)} {vm : Vm} {h : Heap} {o : Addr} {ty : FieldType} (hal : Z.vm.Alike vm) (Y : Yar Z h o ty) (ht : ty ≠ .byte) : Safe Z EL vm h o := by obtain ⟨c, A⟩ := Y; exact Safe.arr hal A ht
theorem own_safeN {Z : State} {EL : List (String × Nat)} {vm : Vm} {h : Heap} {x : Addr} (hal : Z.vm.Alike vm) (E : Exa Z h x "java/lang/String") (F : Fld Z h x "java/lang/String" "value" "[B" .null) : Safe Z EL vm h x := fun B => by
  obtain ⟨p, -, u, a, -, q, -, G, rfl | rfl⟩ := B
  · obtain ⟨cell, cf, k, i, f, h1, h2, h3, h4, h5, h6, h7⟩ := F
    cases (show h[q.sa]? = some q.sC from G.ha).symm.trans h1
    obtain ⟨cS, ⟨⟨-, -, -, ⟨c1, k1, i1, f1, -⟩, -, -, -, v1, -⟩, -⟩, -⟩ := G
    obtain ⟨k3, e3, -⟩ := State.fieldFound?_setVm (s := Z) hal h2
    have e4 := (show (Wst Z vm h).fieldFound? _ _ _ = _ from e3).symm.trans f1
    simp only [Option.some.injEq, Prod.mk.injEq] at e4
    rw [← e4.2.2.2, h7] at v1
    simp at v1
  · obtain ⟨cell, k, e1, e2, e3, -, -⟩ := E
    cases (show h[q.sd]? = some q.SA from G.hd).symm.trans e1
    obtain ⟨cS, -, -, f, -⟩ := G
    have f' : Z.vm.findClass "[B" = some q.SA.cls := by rw [← hal.findClass]; exact f
    obtain ⟨k1, q1, q2⟩ := Vm.findClass_spec f'
    obtain ⟨k2, q3, q4⟩ := Vm.findClass_spec e2
    cases q1.symm.trans q3
    exact absurd (q2.symm.trans q4) (by decide)
theorem own_arv {s : State} {args : Array Value} {t : Term} {ty : FieldType} {a : Addr} {z : Int32} {vs : List Value} {dv : Value} (hf : Fit s) (ev : t.eval args s none [] s = some (.ref a)) (hA : (Jvm.Cond.arrayOf t ty).value args s none s [] = some true) (hL : (Jvm.Cond.eq (.length t) (.int z)).value args s none s [] = some true) (hz : ¬ z < 0) (hl : z.toNatClampNeg = vs.length) (H : ∀ cl, s.heap[a]? = some cl → HasL cl 0 vs) : ∃ k, Arv s s.heap a k ty z vs dv := by
  obtain ⟨cl, A⟩ := Arr.start ev hA
  have ha : s.arrayAt? a = some cl := Arr.fin (Vm.Alike.refl _) A
  have q : cl.slots.size < 2 ^ 31 ∧ cl.slots.size.toInt32 = z := by
    by_cases h31 : cl.slots.size < 2 ^ 31
    · refine ⟨h31, ?_⟩
      have e := len_f ev ha h31
      simp only [Cond.value, e, Term.int_eval] at hL
      simpa using hL
    · exfalso
      cases he : (Term.length t).eval args s none [] s with
      | none => simp [Cond.value, he] at hL
      | some v => simp [Term.eval, ev, ha, h31] at he
  exact ⟨_, Arv.start hf A q.1 q.2 hz hl (H cl A.1)⟩
theorem own_elI {s : State} {args : Array Value} {t : Term} {a : Addr} {j v : Int32} {cl : Cell} (ev : t.eval args s none [] s = some (.ref a)) (h : (Jvm.Cond.eq (.elem t (.int j)) (.int v)).value args s none s [] = some true) (hc : s.heap[a]? = some cl) : cl.slots[j.toNatClampNeg]? = some (.int v) := by
  cases he : (Term.elem t (.int j)).eval args s none [] s with
  | none => simp [Cond.value, he] at h
  | some x =>
    have k := (elem_in he ev (Term.int_eval j) hc).2
    rw [k]
    simp only [Cond.value, he, Term.int_eval] at h
    cases x <;> simp at h
    rw [h]
theorem own_elR {s : State} {args : Array Value} {t u : Term} {a b : Addr} {j : Int32} {cl : Cell} (ev : t.eval args s none [] s = some (.ref a)) (eu : u.eval args s none [] s = some (.ref b)) (h : (Jvm.Cond.eq (.elem t (.int j)) u).value args s none s [] = some true) (hc : s.heap[a]? = some cl) : cl.slots[j.toNatClampNeg]? = some (.ref b) := by
  cases he : (Term.elem t (.int j)).eval args s none [] s with
  | none => simp [Cond.value, he] at h
  | some x =>
    have k := (elem_in he ev (Term.int_eval j) hc).2
    rw [k]
    simp only [Cond.value, he, eu] at h
    cases x <;> simp at h
    rw [h]
theorem own_fldV {s : State} {args : Array Value} {t : Term} {C n d : String} {ty : FieldType} {a : Addr} (ev : t.eval args s none [] s = some (.ref a)) (h : (Jvm.Cond.arrayOf (.field t C n d) ty).value args s none s [] = some true) : ∃ b, (Term.field t C n d).eval args s none [] s = some (.ref b) ∧ Fld s s.heap a C n d (.ref b) := by
  obtain ⟨b, e2⟩ := arr_v h
  refine ⟨b, e2, Fld.start ?_⟩
  rw [← fld_at ev]; exact e2
section OwnClone
variable {p : Program} {l : Launch} {e : Env} {R : Room} {s : State} {m : MethodId} {args : Array Value} {below : List Frame} {meth : Method} {c : Code} {T : State} {Z : State} {own mn : String} {bytes : ByteArray} {ml n0 k n : Nat} {rt : Option FieldType} {h : Heap} {G : Outcome → State → Prop} {pc q : Nat} {L : Array Slot} {st rest : List Value} {a0 : Array Value}
theorem g_clone (C : Cx p s m meth c Z own bytes ml rt mn) (X : St p l e R s m args below meth c n0 T h k n) {ad : String} {i cap k' n' W : Nat} (w1 : (Cond.methodLink own i ⟨ad, "clone", "()Ljava/lang/Object;"⟩).before a0 Z = true) (w2 : (Cond.sameMethod ad "java/lang/Object" "clone" "()Ljava/lang/Object;").before a0 Z = true) (w3 : (Cond.native ⟨"java/lang/Object", "clone", "()Ljava/lang/Object;"⟩).before a0 Z = true)
    (w4 : (Cond.instanceMethod ⟨"java/lang/Object", "clone", "()Ljava/lang/Object;"⟩).before a0 Z = true) (w5 : (Cond.selects ad ⟨ad, "clone", "()Ljava/lang/Object;"⟩ ⟨"java/lang/Object", "clone", "()Ljava/lang/Object;"⟩).before a0 Z = true) (w6 : (Cond.castable ad "java/lang/Cloneable").before a0 Z = true)
    {a : Addr} {kA : ClassId} {ty : FieldType} {z : Int32} {vs : List Value} {dv : Value} (F : Arv Z h a kA ty z vs dv) (E : Exa Z h a ad) (hcap : z.toNatClampNeg ≤ cap) (hf : 1 ≤ R.frames) (hl : W + 14 ≤ R.locals) (hk : k + 1 = k') (hn : n + cap = n') (hkR : k' ≤ R.cells) (hnR : n' ≤ R.slots) (hsz : L.size = ml) (hW : (rest.map fun v => v.category).sum = W) (hd : decode bytes pc = .ok (.invokevirtual i, 3)) (hq : pc + 3 = q)
    (r : ∀ T' h' b, b = h.size → St p l e R s m args below meth c n0 T' h' k' n' → Ext h h' → Arv Z h' b kA ty z vs dv → Exa Z h' b ad → Goes p e below G (T'.setTop (mkF m q L (.ref b :: rest)))) : Goes p e below G (T.setTop (mkF m pc L (.ref a :: rest))) := by
  obtain ⟨hx, hZ, hown, hby, hml, -⟩ := C
  obtain ⟨_, cells, slots, X, hF, eT, h1, h2⟩ := X
  subst hq hk hn hW
  obtain ⟨T', h', X', e', E', A', D', st'⟩ := cloneH X hx hZ hown w1 w2 w3 w4 w5 w6 eT F.arh E (g := mkF m pc L (.ref a :: rest)) rfl (hsz.trans hml.symm) (rest := rest) rfl (hb hby hd) hf (W := (rest.map fun v => v.category).sum) (cap := cap) (by show 2 * 0 + _ ≤ _; omega) hl hcap (Nat.le_trans (Nat.add_le_add_right h1 1) hkR) (Nat.le_trans (Nat.add_le_add_right h2 cap) hnR)
  exact go_st st' (r T' h' _ rfl ⟨_, _, _, X', hF, e', Nat.add_le_add_right h1 1, Nat.add_le_add_right h2 cap⟩ E' A' D')
end OwnClone
def Wd (Z : State) (a__VALUES : Addr) (a_H2 : Addr) (a_POSTGRESQL : Addr) (a_Dialect_H2__product : Addr) (a_Dialect_POSTGRESQL__product : Addr) (kc_a__VALUES : ClassId) (cz : Int32) : Prop := Sta Z Z.heap "com/example/sober_repository/soberrepository/Dialect" "$VALUES" "[Lcom/example/sober_repository/soberrepository/Dialect;" (.ref a__VALUES) ∧ Exa Z Z.heap a__VALUES "[Lcom/example/sober_repository/soberrepository/Dialect;" ∧ Sta Z Z.heap "com/example/sober_repository/soberrepository/Dialect" "H2" "Lcom/example/sober_repository/soberrepository/Dialect;" (.ref a_H2) ∧ Exa Z Z.heap a_H2 "com/example/sober_repository/soberrepository/Dialect" ∧ Sta Z Z.heap "com/example/sober_repository/soberrepository/Dialect" "POSTGRESQL" "Lcom/example/sober_repository/soberrepository/Dialect;" (.ref a_POSTGRESQL) ∧ Exa Z Z.heap a_POSTGRESQL "com/example/sober_repository/soberrepository/Dialect" ∧ Fld Z Z.heap a_H2 "com/example/sober_repository/soberrepository/Dialect" "_product" "Ljava/lang/String;" (.ref a_Dialect_H2__product) ∧ Exa Z Z.heap a_Dialect_H2__product "java/lang/String" ∧ Fld Z Z.heap a_Dialect_H2__product "java/lang/String" "coder" "B" (.int (0 : Int32)) ∧ Fld Z Z.heap a_POSTGRESQL "com/example/sober_repository/soberrepository/Dialect" "_product" "Ljava/lang/String;" (.ref a_Dialect_POSTGRESQL__product) ∧ Exa Z Z.heap a_Dialect_POSTGRESQL__product "java/lang/String" ∧ Fld Z Z.heap a_Dialect_POSTGRESQL__product "java/lang/String" "coder" "B" (.int (0 : Int32)) ∧ Arv Z Z.heap a__VALUES kc_a__VALUES (.object "com/example/sober_repository/soberrepository/Dialect") (2 : Int32) [(.ref a_H2), (.ref a_POSTGRESQL)] .null ∧ Str Z Z.heap a_Dialect_H2__product [(72 : Int32), (50 : Int32)] ∧ Str Z Z.heap a_Dialect_POSTGRESQL__product [(80 : Int32), (111 : Int32), (115 : Int32), (116 : Int32), (103 : Int32), (114 : Int32), (101 : Int32), (83 : Int32), (81 : Int32), (76 : Int32)] ∧ Sta Z Z.heap "java/lang/String" "COMPACT_STRINGS" "Z" (.int cz) ∧ ¬ cz = 0
theorem own_words {Z : State} {a0 : Array Value} (hw : ∀ d ∈ tables_1, d.before a0 Z = true) : ∀ d ∈ StrChars.Road.words, d.before a0 Z = true := fun d hd => hw d ((by decide +kernel : ∀ d ∈ StrChars.Road.words, d ∈ tables_1) d hd)
theorem own_wordsEq {Z : State} {a0 : Array Value} (hw : ∀ d ∈ tables_1, d.before a0 Z = true) : ∀ d ∈ StrChars.Road.wordsEq, d.before a0 Z = true := fun d hd => hw d ((by decide +kernel : ∀ d ∈ StrChars.Road.wordsEq, d ∈ tables_1) d hd)

theorem w68 {Z : State} {a0 : Array Value} (hw : ∀ d ∈ tables_1, d.before a0 Z = true) : (Jvm.Cond.initializedFor "com/example/sober_repository/soberrepository/Dialect" "$VALUES" "[Lcom/example/sober_repository/soberrepository/Dialect;").before a0 Z = true := hw _ (List.mem_of_getElem? (i := 68) rfl)
theorem w52 {Z : State} {a0 : Array Value} (hw : ∀ d ∈ tables_1, d.before a0 Z = true) : (Jvm.Cond.initialized "com/example/sober_repository/soberrepository/Dialect").before a0 Z = true := hw _ (List.mem_of_getElem? (i := 52) rfl)
theorem w66 {Z : State} {a0 : Array Value} (hw : ∀ d ∈ tables_1, d.before a0 Z = true) : (Jvm.Cond.laysStatic "com/example/sober_repository/soberrepository/Dialect" "H2" "Lcom/example/sober_repository/soberrepository/Dialect;").before a0 Z = true := hw _ (List.mem_of_getElem? (i := 66) rfl)
theorem w67 {Z : State} {a0 : Array Value} (hw : ∀ d ∈ tables_1, d.before a0 Z = true) : (Jvm.Cond.laysStatic "com/example/sober_repository/soberrepository/Dialect" "POSTGRESQL" "Lcom/example/sober_repository/soberrepository/Dialect;").before a0 Z = true := hw _ (List.mem_of_getElem? (i := 67) rfl)
theorem d10_0 : decode prog_20_method_4_code 0 = .ok (.invokestatic 33, 3) := by decide +kernel
theorem w54 {Z : State} {a0 : Array Value} (hw : ∀ d ∈ tables_1, d.before a0 Z = true) : (Jvm.Cond.methodLink "com/example/sober_repository/soberrepository/Dialect" (33 : Nat) ({ cls := "com/example/sober_repository/soberrepository/Dialect", name := "values", desc := "()[Lcom/example/sober_repository/soberrepository/Dialect;" } : Jvm.MethodName)).before a0 Z = true := hw _ (List.mem_of_getElem? (i := 54) rfl)
theorem d11_0 : decode prog_20_method_1_code 0 = .ok (.getstatic 10, 3) := by decide +kernel
theorem w57 {Z : State} {a0 : Array Value} (hw : ∀ d ∈ tables_1, d.before a0 Z = true) : (Jvm.Cond.fieldLink "com/example/sober_repository/soberrepository/Dialect" (10 : Nat) "com/example/sober_repository/soberrepository/Dialect" "$VALUES" "[Lcom/example/sober_repository/soberrepository/Dialect;").before a0 Z = true := hw _ (List.mem_of_getElem? (i := 57) rfl)
theorem d11_3 : decode prog_20_method_1_code 3 = .ok (.invokevirtual 14, 3) := by decide +kernel
theorem w59 {Z : State} {a0 : Array Value} (hw : ∀ d ∈ tables_1, d.before a0 Z = true) : (Jvm.Cond.methodLink "com/example/sober_repository/soberrepository/Dialect" (14 : Nat) ({ cls := "[Lcom/example/sober_repository/soberrepository/Dialect;", name := "clone", desc := "()Ljava/lang/Object;" } : Jvm.MethodName)).before a0 Z = true := hw _ (List.mem_of_getElem? (i := 59) rfl)
theorem w60 {Z : State} {a0 : Array Value} (hw : ∀ d ∈ tables_1, d.before a0 Z = true) : (Jvm.Cond.sameMethod "[Lcom/example/sober_repository/soberrepository/Dialect;" "java/lang/Object" "clone" "()Ljava/lang/Object;").before a0 Z = true := hw _ (List.mem_of_getElem? (i := 60) rfl)
theorem w64 {Z : State} {a0 : Array Value} (hw : ∀ d ∈ tables_1, d.before a0 Z = true) : (Jvm.Cond.native ({ cls := "java/lang/Object", name := "clone", desc := "()Ljava/lang/Object;" } : Jvm.MethodName)).before a0 Z = true := hw _ (List.mem_of_getElem? (i := 64) rfl)
theorem w62 {Z : State} {a0 : Array Value} (hw : ∀ d ∈ tables_1, d.before a0 Z = true) : (Jvm.Cond.instanceMethod ({ cls := "java/lang/Object", name := "clone", desc := "()Ljava/lang/Object;" } : Jvm.MethodName)).before a0 Z = true := hw _ (List.mem_of_getElem? (i := 62) rfl)
theorem w63 {Z : State} {a0 : Array Value} (hw : ∀ d ∈ tables_1, d.before a0 Z = true) : (Jvm.Cond.selects "[Lcom/example/sober_repository/soberrepository/Dialect;" ({ cls := "[Lcom/example/sober_repository/soberrepository/Dialect;", name := "clone", desc := "()Ljava/lang/Object;" } : Jvm.MethodName) ({ cls := "java/lang/Object", name := "clone", desc := "()Ljava/lang/Object;" } : Jvm.MethodName)).before a0 Z = true := hw _ (List.mem_of_getElem? (i := 63) rfl)
theorem w65 {Z : State} {a0 : Array Value} (hw : ∀ d ∈ tables_1, d.before a0 Z = true) : (Jvm.Cond.castable "[Lcom/example/sober_repository/soberrepository/Dialect;" "java/lang/Cloneable").before a0 Z = true := hw _ (List.mem_of_getElem? (i := 65) rfl)
theorem d11_6 : decode prog_20_method_1_code 6 = .ok (.checkcast 15, 3) := by decide +kernel
theorem w69 {Z : State} {a0 : Array Value} (hw : ∀ d ∈ tables_1, d.before a0 Z = true) : (Jvm.Cond.classLink "com/example/sober_repository/soberrepository/Dialect" (15 : Nat) "[Lcom/example/sober_repository/soberrepository/Dialect;").before a0 Z = true := hw _ (List.mem_of_getElem? (i := 69) rfl)
theorem d11_9 : decode prog_20_method_1_code 9 = .ok (.areturn, 1) := by decide +kernel
theorem pn_5 : plainName "com/example/sober_repository/soberrepository/Dialect" = true := by first | (simp [plainName, overriddenIn]; done) | decide +kernel
theorem w56 {Z : State} {a0 : Array Value} (hw : ∀ d ∈ tables_1, d.before a0 Z = true) : (Jvm.Cond.code ({ cls := "com/example/sober_repository/soberrepository/Dialect", name := "values", desc := "()[Lcom/example/sober_repository/soberrepository/Dialect;" } : Jvm.MethodName) prog_20_method_1_code (0 : Nat) (Option.some (Jvm.ClassFile.FieldType.array (Jvm.ClassFile.FieldType.object "com/example/sober_repository/soberrepository/Dialect")))).before a0 Z = true := hw _ (List.mem_of_getElem? (i := 56) rfl)
theorem pd_6 : parseMethodDescriptor "()[Lcom/example/sober_repository/soberrepository/Dialect;" = some ⟨[], some (.array (.object "com/example/sober_repository/soberrepository/Dialect"))⟩ := by decide +kernel
theorem w55 {Z : State} {a0 : Array Value} (hw : ∀ d ∈ tables_1, d.before a0 Z = true) : (Jvm.Cond.static ({ cls := "com/example/sober_repository/soberrepository/Dialect", name := "values", desc := "()[Lcom/example/sober_repository/soberrepository/Dialect;" } : Jvm.MethodName)).before a0 Z = true := hw _ (List.mem_of_getElem? (i := 55) rfl)
theorem d10_3 : decode prog_20_method_4_code 3 = .ok (.astore_n 1, 1) := by decide +kernel
theorem d10_4 : decode prog_20_method_4_code 4 = .ok (.aload_n 1, 1) := by decide +kernel
theorem d10_5 : decode prog_20_method_4_code 5 = .ok (.arraylength, 1) := by decide +kernel
theorem d10_6 : decode prog_20_method_4_code 6 = .ok (.istore_n 2, 1) := by decide +kernel
theorem d10_7 : decode prog_20_method_4_code 7 = .ok (.iconst 0, 1) := by decide +kernel
theorem d10_8 : decode prog_20_method_4_code 8 = .ok (.istore_n 3, 1) := by decide +kernel
theorem d10_9 : decode prog_20_method_4_code 9 = .ok (.iload_n 3, 1) := by decide +kernel
theorem d10_10 : decode prog_20_method_4_code 10 = .ok (.iload_n 2, 1) := by decide +kernel
theorem d10_11 : decode prog_20_method_4_code 11 = .ok (.if_icmp .ge 29, 3) := by decide +kernel
theorem d10_14 : decode prog_20_method_4_code 14 = .ok (.aload_n 1, 1) := by decide +kernel
theorem d10_15 : decode prog_20_method_4_code 15 = .ok (.iload_n 3, 1) := by decide +kernel
theorem d10_16 : decode prog_20_method_4_code 16 = .ok (.aaload, 1) := by decide +kernel
theorem d10_17 : decode prog_20_method_4_code 17 = .ok (.astore 4, 2) := by decide +kernel
theorem d10_19 : decode prog_20_method_4_code 19 = .ok (.aload 4, 2) := by decide +kernel
theorem d10_21 : decode prog_20_method_4_code 21 = .ok (.getfield 29, 3) := by decide +kernel
theorem w71 {Z : State} {a0 : Array Value} (hw : ∀ d ∈ tables_1, d.before a0 Z = true) : (Jvm.Cond.fieldLink "com/example/sober_repository/soberrepository/Dialect" (29 : Nat) "com/example/sober_repository/soberrepository/Dialect" "_product" "Ljava/lang/String;").before a0 Z = true := hw _ (List.mem_of_getElem? (i := 71) rfl)
theorem d10_24 : decode prog_20_method_4_code 24 = .ok (.aload_n 0, 1) := by decide +kernel
theorem d10_25 : decode prog_20_method_4_code 25 = .ok (.invokevirtual 37, 3) := by decide +kernel
theorem w73 {Z : State} {a0 : Array Value} (hw : ∀ d ∈ tables_1, d.before a0 Z = true) : (Jvm.Cond.methodLink "com/example/sober_repository/soberrepository/Dialect" (37 : Nat) ({ cls := "java/lang/String", name := "equals", desc := "(Ljava/lang/Object;)Z" } : Jvm.MethodName)).before a0 Z = true := hw _ (List.mem_of_getElem? (i := 73) rfl)
theorem w8 {Z : State} {a0 : Array Value} (hw : ∀ d ∈ tables_1, d.before a0 Z = true) : (Jvm.Cond.instantiable "java/lang/String" (4 : Nat)).before a0 Z = true := hw _ (List.mem_of_getElem? (i := 8) rfl)
theorem w40 {Z : State} {a0 : Array Value} (hw : ∀ d ∈ tables_1, d.before a0 Z = true) : (Jvm.Cond.declares ({ cls := "java/lang/String", name := "equals", desc := "(Ljava/lang/Object;)Z" } : Jvm.MethodName)).before a0 Z = true := hw _ (List.mem_of_getElem? (i := 40) rfl)
theorem w42 {Z : State} {a0 : Array Value} (hw : ∀ d ∈ tables_1, d.before a0 Z = true) : (Jvm.Cond.selects "java/lang/String" ({ cls := "java/lang/String", name := "equals", desc := "(Ljava/lang/Object;)Z" } : Jvm.MethodName) ({ cls := "java/lang/String", name := "equals", desc := "(Ljava/lang/Object;)Z" } : Jvm.MethodName)).before a0 Z = true := hw _ (List.mem_of_getElem? (i := 42) rfl)
theorem w41 {Z : State} {a0 : Array Value} (hw : ∀ d ∈ tables_1, d.before a0 Z = true) : (Jvm.Cond.instanceMethod ({ cls := "java/lang/String", name := "equals", desc := "(Ljava/lang/Object;)Z" } : Jvm.MethodName)).before a0 Z = true := hw _ (List.mem_of_getElem? (i := 41) rfl)
theorem d10_28 : decode prog_20_method_4_code 28 = .ok (.ifCond .eq 6, 3) := by decide +kernel
theorem d10_31 : decode prog_20_method_4_code 31 = .ok (.aload 4, 2) := by decide +kernel
theorem d10_33 : decode prog_20_method_4_code 33 = .ok (.areturn, 1) := by decide +kernel
theorem d10_34 : decode prog_20_method_4_code 34 = .ok (.iinc 3 1, 3) := by decide +kernel
theorem d10_37 : decode prog_20_method_4_code 37 = .ok (.goto (-28), 3) := by decide +kernel
theorem d10_40 : decode prog_20_method_4_code 40 = .ok (.aconst_null, 1) := by decide +kernel
theorem d10_41 : decode prog_20_method_4_code 41 = .ok (.areturn, 1) := by decide +kernel
theorem d8_0 : decode jdk_42_method_66_code 0 = .ok (.aload_n 0, 1) := by decide +kernel
theorem d8_1 : decode jdk_42_method_66_code 1 = .ok (.aload_n 1, 1) := by decide +kernel
theorem d8_2 : decode jdk_42_method_66_code 2 = .ok (.if_acmp .ne 5, 3) := by decide +kernel
theorem d8_7 : decode jdk_42_method_66_code 7 = .ok (.aload_n 1, 1) := by decide +kernel
theorem d8_8 : decode jdk_42_method_66_code 8 = .ok (.instanceof 10, 3) := by decide +kernel
theorem w44 {Z : State} {a0 : Array Value} (hw : ∀ d ∈ tables_1, d.before a0 Z = true) : (Jvm.Cond.classLink "java/lang/String" (10 : Nat) "java/lang/String").before a0 Z = true := hw _ (List.mem_of_getElem? (i := 44) rfl)
theorem d8_11 : decode jdk_42_method_66_code 11 = .ok (.ifCond .eq 43, 3) := by decide +kernel
theorem d8_54 : decode jdk_42_method_66_code 54 = .ok (.iconst 0, 1) := by decide +kernel
theorem d8_55 : decode jdk_42_method_66_code 55 = .ok (.ireturn, 1) := by decide +kernel
theorem pn_39 : plainName "java/lang/String" = true := by first | (simp [plainName, overriddenIn]; done) | decide +kernel
theorem w43 {Z : State} {a0 : Array Value} (hw : ∀ d ∈ tables_1, d.before a0 Z = true) : (Jvm.Cond.code ({ cls := "java/lang/String", name := "equals", desc := "(Ljava/lang/Object;)Z" } : Jvm.MethodName) jdk_42_method_66_code (3 : Nat) (Option.some Jvm.ClassFile.FieldType.boolean)).before a0 Z = true := hw _ (List.mem_of_getElem? (i := 43) rfl)
theorem w9 {Z : State} {a0 : Array Value} (hw : ∀ d ∈ tables_1, d.before a0 Z = true) : (Jvm.Cond.initialized "java/lang/String").before a0 Z = true := hw _ (List.mem_of_getElem? (i := 9) rfl)
theorem pd_40 : parseMethodDescriptor "(Ljava/lang/Object;)Z" = some ⟨[(.object "java/lang/Object")], some .boolean⟩ := by decide +kernel
theorem w36 {Z : State} {a0 : Array Value} (hw : ∀ d ∈ tables_1, d.before a0 Z = true) : (Jvm.Cond.stringLink "com/example/sober_repository/soberrepository/DialectOfPinLaw" (27 : Nat) "H2").before a0 Z = true := hw _ (List.mem_of_getElem? (i := 36) rfl)
theorem w39 {Z : State} {a0 : Array Value} (hw : ∀ d ∈ tables_1, d.before a0 Z = true) : (Jvm.Cond.methodLink "com/example/sober_repository/soberrepository/DialectOfPinLaw" (29 : Nat) ({ cls := "java/lang/String", name := "equals", desc := "(Ljava/lang/Object;)Z" } : Jvm.MethodName)).before a0 Z = true := hw _ (List.mem_of_getElem? (i := 39) rfl)
theorem w74 {Z : State} {a0 : Array Value} (hw : ∀ d ∈ tables_1, d.before a0 Z = true) : (Jvm.Cond.fieldLink "com/example/sober_repository/soberrepository/DialectOfPinLaw" (33 : Nat) "com/example/sober_repository/soberrepository/Dialect" "H2" "Lcom/example/sober_repository/soberrepository/Dialect;").before a0 Z = true := hw _ (List.mem_of_getElem? (i := 74) rfl)
theorem w50 {Z : State} {a0 : Array Value} (hw : ∀ d ∈ tables_1, d.before a0 Z = true) : (Jvm.Cond.methodLink "com/example/sober_repository/soberrepository/DialectOfPinLaw" (10 : Nat) ({ cls := "com/example/sober_repository/soberrepository/Dialect", name := "of", desc := "(Ljava/lang/String;)Lcom/example/sober_repository/soberrepository/Dialect;" } : Jvm.MethodName)).before a0 Z = true := hw _ (List.mem_of_getElem? (i := 50) rfl)
theorem w53 {Z : State} {a0 : Array Value} (hw : ∀ d ∈ tables_1, d.before a0 Z = true) : (Jvm.Cond.code ({ cls := "com/example/sober_repository/soberrepository/Dialect", name := "of", desc := "(Ljava/lang/String;)Lcom/example/sober_repository/soberrepository/Dialect;" } : Jvm.MethodName) prog_20_method_4_code (5 : Nat) (Option.some (Jvm.ClassFile.FieldType.object "com/example/sober_repository/soberrepository/Dialect"))).before a0 Z = true := hw _ (List.mem_of_getElem? (i := 53) rfl)
theorem pd_41 : parseMethodDescriptor "(Ljava/lang/String;)Lcom/example/sober_repository/soberrepository/Dialect;" = some ⟨[(.object "java/lang/String")], some (.object "com/example/sober_repository/soberrepository/Dialect")⟩ := by decide +kernel
theorem w51 {Z : State} {a0 : Array Value} (hw : ∀ d ∈ tables_1, d.before a0 Z = true) : (Jvm.Cond.static ({ cls := "com/example/sober_repository/soberrepository/Dialect", name := "of", desc := "(Ljava/lang/String;)Lcom/example/sober_repository/soberrepository/Dialect;" } : Jvm.MethodName)).before a0 Z = true := hw _ (List.mem_of_getElem? (i := 51) rfl)
theorem w49 {Z : State} {a0 : Array Value} (hw : ∀ d ∈ tables_1, d.before a0 Z = true) : (Jvm.Cond.stringLink "com/example/sober_repository/soberrepository/DialectOfPinLaw" (36 : Nat) "PostgreSQL").before a0 Z = true := hw _ (List.mem_of_getElem? (i := 49) rfl)
theorem w76 {Z : State} {a0 : Array Value} (hw : ∀ d ∈ tables_1, d.before a0 Z = true) : (Jvm.Cond.fieldLink "com/example/sober_repository/soberrepository/DialectOfPinLaw" (38 : Nat) "com/example/sober_repository/soberrepository/Dialect" "POSTGRESQL" "Lcom/example/sober_repository/soberrepository/Dialect;").before a0 Z = true := hw _ (List.mem_of_getElem? (i := 76) rfl)
theorem w1 {Z : State} {a0 : Array Value} (hw : ∀ d ∈ tables_1, d.before a0 Z = true) : (Jvm.Cond.arrayClass Jvm.ClassFile.FieldType.char).before a0 Z = true := hw _ (List.mem_of_getElem? (i := 1) rfl)
theorem w7 {Z : State} {a0 : Array Value} (hw : ∀ d ∈ tables_1, d.before a0 Z = true) : (Jvm.Cond.classLink "com/example/sober_repository/soberrepository/DialectOfPinLaw" (22 : Nat) "java/lang/String").before a0 Z = true := hw _ (List.mem_of_getElem? (i := 7) rfl)
theorem w33 {Z : State} {a0 : Array Value} (hw : ∀ d ∈ tables_1, d.before a0 Z = true) : (Jvm.Cond.laysFinal "java/lang/String" "java/lang/String" "coder" "B").before a0 Z = true := hw _ (List.mem_of_getElem? (i := 33) rfl)
theorem w35 {Z : State} {a0 : Array Value} (hw : ∀ d ∈ tables_1, d.before a0 Z = true) : (Jvm.Cond.laysFinal "java/lang/String" "java/lang/String" "value" "[B").before a0 Z = true := hw _ (List.mem_of_getElem? (i := 35) rfl)
theorem w10 {Z : State} {a0 : Array Value} (hw : ∀ d ∈ tables_1, d.before a0 Z = true) : (Jvm.Cond.methodLink "com/example/sober_repository/soberrepository/DialectOfPinLaw" (24 : Nat) ({ cls := "java/lang/String", name := "<init>", desc := "([C)V" } : Jvm.MethodName)).before a0 Z = true := hw _ (List.mem_of_getElem? (i := 10) rfl)
theorem d2_0 : decode jdk_42_method_3_code 0 = .ok (.aload_n 0, 1) := by decide +kernel
theorem d2_1 : decode jdk_42_method_3_code 1 = .ok (.aload_n 1, 1) := by decide +kernel
theorem d2_2 : decode jdk_42_method_3_code 2 = .ok (.iconst 0, 1) := by decide +kernel
theorem d2_3 : decode jdk_42_method_3_code 3 = .ok (.aload_n 1, 1) := by decide +kernel
theorem d2_4 : decode jdk_42_method_3_code 4 = .ok (.arraylength, 1) := by decide +kernel
theorem d2_5 : decode jdk_42_method_3_code 5 = .ok (.aconst_null, 1) := by decide +kernel
theorem d2_6 : decode jdk_42_method_3_code 6 = .ok (.invokespecial 27, 3) := by decide +kernel
theorem w13 {Z : State} {a0 : Array Value} (hw : ∀ d ∈ tables_1, d.before a0 Z = true) : (Jvm.Cond.methodLink "java/lang/String" (27 : Nat) ({ cls := "java/lang/String", name := "<init>", desc := "([CIILjava/lang/Void;)V" } : Jvm.MethodName)).before a0 Z = true := hw _ (List.mem_of_getElem? (i := 13) rfl)
theorem d3_0 : decode jdk_42_method_149_code 0 = .ok (.aload_n 0, 1) := by decide +kernel
theorem d3_1 : decode jdk_42_method_149_code 1 = .ok (.invokespecial 1, 3) := by decide +kernel
theorem w17 {Z : State} {a0 : Array Value} (hw : ∀ d ∈ tables_1, d.before a0 Z = true) : (Jvm.Cond.methodLink "java/lang/String" (1 : Nat) ({ cls := "java/lang/Object", name := "<init>", desc := "()V" } : Jvm.MethodName)).before a0 Z = true := hw _ (List.mem_of_getElem? (i := 17) rfl)
theorem w18 {Z : State} {a0 : Array Value} (hw : ∀ d ∈ tables_1, d.before a0 Z = true) : (Jvm.Cond.instanceMethod ({ cls := "java/lang/Object", name := "<init>", desc := "()V" } : Jvm.MethodName)).before a0 Z = true := hw _ (List.mem_of_getElem? (i := 18) rfl)
theorem w19 {Z : State} {a0 : Array Value} (hw : ∀ d ∈ tables_1, d.before a0 Z = true) : (Jvm.Cond.code ({ cls := "java/lang/Object", name := "<init>", desc := "()V" } : Jvm.MethodName) object_method_1_code (1 : Nat) (Option.none : Option Jvm.ClassFile.FieldType)).before a0 Z = true := hw _ (List.mem_of_getElem? (i := 19) rfl)
theorem d3_4 : decode jdk_42_method_149_code 4 = .ok (.iload_n 3, 1) := by decide +kernel
theorem d3_5 : decode jdk_42_method_149_code 5 = .ok (.ifCond .ne 22, 3) := by decide +kernel
theorem d3_8 : decode jdk_42_method_149_code 8 = .ok (.aload_n 0, 1) := by decide +kernel
theorem d3_9 : decode jdk_42_method_149_code 9 = .ok (.ldc 7, 2) := by decide +kernel
theorem w75 {Z : State} {a0 : Array Value} (hw : ∀ d ∈ tables_1, d.before a0 Z = true) : (Jvm.Cond.stringLink "java/lang/String" (7 : Nat) "").before a0 Z = true := hw _ (List.mem_of_getElem? (i := 75) rfl)
theorem d3_11 : decode jdk_42_method_149_code 11 = .ok (.getfield 9, 3) := by decide +kernel
theorem w34 {Z : State} {a0 : Array Value} (hw : ∀ d ∈ tables_1, d.before a0 Z = true) : (Jvm.Cond.fieldLink "java/lang/String" (9 : Nat) "java/lang/String" "value" "[B").before a0 Z = true := hw _ (List.mem_of_getElem? (i := 34) rfl)
theorem d3_14 : decode jdk_42_method_149_code 14 = .ok (.putfield 9, 3) := by decide +kernel
theorem d3_17 : decode jdk_42_method_149_code 17 = .ok (.aload_n 0, 1) := by decide +kernel
theorem d3_18 : decode jdk_42_method_149_code 18 = .ok (.ldc 7, 2) := by decide +kernel
theorem d3_20 : decode jdk_42_method_149_code 20 = .ok (.getfield 15, 3) := by decide +kernel
theorem w32 {Z : State} {a0 : Array Value} (hw : ∀ d ∈ tables_1, d.before a0 Z = true) : (Jvm.Cond.fieldLink "java/lang/String" (15 : Nat) "java/lang/String" "coder" "B").before a0 Z = true := hw _ (List.mem_of_getElem? (i := 32) rfl)
theorem d3_23 : decode jdk_42_method_149_code 23 = .ok (.putfield 15, 3) := by decide +kernel
theorem d3_26 : decode jdk_42_method_149_code 26 = .ok (.return_, 1) := by decide +kernel
theorem w16 {Z : State} {a0 : Array Value} (hw : ∀ d ∈ tables_1, d.before a0 Z = true) : (Jvm.Cond.code ({ cls := "java/lang/String", name := "<init>", desc := "([CIILjava/lang/Void;)V" } : Jvm.MethodName) jdk_42_method_149_code (6 : Nat) (Option.none : Option Jvm.ClassFile.FieldType)).before a0 Z = true := hw _ (List.mem_of_getElem? (i := 16) rfl)
theorem pd_62 : parseMethodDescriptor "([CIILjava/lang/Void;)V" = some ⟨[(.array .char), .int, .int, (.object "java/lang/Void")], none⟩ := by decide +kernel
theorem w14 {Z : State} {a0 : Array Value} (hw : ∀ d ∈ tables_1, d.before a0 Z = true) : (Jvm.Cond.instanceMethod ({ cls := "java/lang/String", name := "<init>", desc := "([CIILjava/lang/Void;)V" } : Jvm.MethodName)).before a0 Z = true := hw _ (List.mem_of_getElem? (i := 14) rfl)
theorem d2_9 : decode jdk_42_method_3_code 9 = .ok (.return_, 1) := by decide +kernel
theorem w12 {Z : State} {a0 : Array Value} (hw : ∀ d ∈ tables_1, d.before a0 Z = true) : (Jvm.Cond.code ({ cls := "java/lang/String", name := "<init>", desc := "([C)V" } : Jvm.MethodName) jdk_42_method_3_code (2 : Nat) (Option.none : Option Jvm.ClassFile.FieldType)).before a0 Z = true := hw _ (List.mem_of_getElem? (i := 12) rfl)
theorem pd_64 : parseMethodDescriptor "([C)V" = some ⟨[(.array .char)], none⟩ := by decide +kernel
theorem w11 {Z : State} {a0 : Array Value} (hw : ∀ d ∈ tables_1, d.before a0 Z = true) : (Jvm.Cond.instanceMethod ({ cls := "java/lang/String", name := "<init>", desc := "([C)V" } : Jvm.MethodName)).before a0 Z = true := hw _ (List.mem_of_getElem? (i := 11) rfl)
theorem w0 {Z : State} {a0 : Array Value} (hw : ∀ d ∈ tables_1, d.before a0 Z = true) : (Jvm.Cond.constant "com/example/sober_repository/soberrepository/DialectOfPinLaw" (9 : Nat) (2147483647 : Int32)).before a0 Z = true := hw _ (List.mem_of_getElem? (i := 0) rfl)
theorem w2 {Z : State} {a0 : Array Value} (hw : ∀ d ∈ tables_1, d.before a0 Z = true) : (Jvm.Cond.methodLink "com/example/sober_repository/soberrepository/DialectOfPinLaw" (16 : Nat) ({ cls := "com/example/sober_repository/soberrepository/DialectOfPinLaw", name := "d", desc := "(JI)C" } : Jvm.MethodName)).before a0 Z = true := hw _ (List.mem_of_getElem? (i := 2) rfl)
theorem d1_0 : decode method_2_code 0 = .ok (.lload_n 0, 1) := by decide +kernel
theorem d1_1 : decode method_2_code 1 = .ok (.bipush 8, 2) := by decide +kernel
theorem d1_3 : decode method_2_code 3 = .ok (.iload_n 2, 1) := by decide +kernel
theorem d1_4 : decode method_2_code 4 = .ok (.bipush 7, 2) := by decide +kernel
theorem d1_6 : decode method_2_code 6 = .ok (.iand, 1) := by decide +kernel
theorem d1_7 : decode method_2_code 7 = .ok (.imul, 1) := by decide +kernel
theorem d1_8 : decode method_2_code 8 = .ok (.lushr, 1) := by decide +kernel
theorem d1_9 : decode method_2_code 9 = .ok (.ldc2_w 7, 3) := by decide +kernel
theorem w6 {Z : State} {a0 : Array Value} (hw : ∀ d ∈ tables_1, d.before a0 Z = true) : (Jvm.Cond.constantLong "com/example/sober_repository/soberrepository/DialectOfPinLaw" (7 : Nat) (255 : Int64)).before a0 Z = true := hw _ (List.mem_of_getElem? (i := 6) rfl)
theorem d1_12 : decode method_2_code 12 = .ok (.land, 1) := by decide +kernel
theorem d1_13 : decode method_2_code 13 = .ok (.l2i, 1) := by decide +kernel
theorem d1_14 : decode method_2_code 14 = .ok (.i2c, 1) := by decide +kernel
theorem d1_15 : decode method_2_code 15 = .ok (.ireturn, 1) := by decide +kernel
theorem pn_77 : plainName "com/example/sober_repository/soberrepository/DialectOfPinLaw" = true := by first | (simp [plainName, overriddenIn]; done) | decide +kernel
theorem w5 {Z : State} {a0 : Array Value} (hw : ∀ d ∈ tables_1, d.before a0 Z = true) : (Jvm.Cond.code ({ cls := "com/example/sober_repository/soberrepository/DialectOfPinLaw", name := "d", desc := "(JI)C" } : Jvm.MethodName) method_2_code (3 : Nat) (Option.some Jvm.ClassFile.FieldType.char)).before a0 Z = true := hw _ (List.mem_of_getElem? (i := 5) rfl)
theorem w4 {Z : State} {a0 : Array Value} (hw : ∀ d ∈ tables_1, d.before a0 Z = true) : (Jvm.Cond.initialized "com/example/sober_repository/soberrepository/DialectOfPinLaw").before a0 Z = true := hw _ (List.mem_of_getElem? (i := 4) rfl)
theorem pd_78 : parseMethodDescriptor "(JI)C" = some ⟨[.long, .int], some .char⟩ := by decide +kernel
theorem w3 {Z : State} {a0 : Array Value} (hw : ∀ d ∈ tables_1, d.before a0 Z = true) : (Jvm.Cond.static ({ cls := "com/example/sober_repository/soberrepository/DialectOfPinLaw", name := "d", desc := "(JI)C" } : Jvm.MethodName)).before a0 Z = true := hw _ (List.mem_of_getElem? (i := 3) rfl)
theorem own_EL {Z : State} {a0 : Array Value} (hw : ∀ d ∈ tables_1, d.before a0 Z = true) : EW Z a0 consts_1 := (EW.cons (w36 hw) (by decide) (EW.cons (w49 hw) (by decide) (EW.cons (w75 hw) (by decide) EW.nil)))
theorem own_SA {Z : State} {a0 : Array Value} (hw : ∀ d ∈ tables_1, d.before a0 Z = true) : ∀ d ∈ Bundle.stringAtoms, d.before a0 Z = true := fun d hd => hw d ((by decide +kernel : ∀ d ∈ Bundle.stringAtoms, d ∈ tables_1) d hd)
theorem w25 {Z : State} {a0 : Array Value} (hw : ∀ d ∈ tables_1, d.before a0 Z = true) : (Jvm.Cond.arrayClass Jvm.ClassFile.FieldType.byte).before a0 Z = true := hw _ (List.mem_of_getElem? (i := 25) rfl)
theorem own_split11 {v : Int32} (h1 : 0 ≤ v.toInt) (h2 : v.toInt < 11) : v = 0 ∨ v = 1 ∨ v = 2 ∨ v = 3 ∨ v = 4 ∨ v = 5 ∨ v = 6 ∨ v = 7 ∨ v = 8 ∨ v = 9 ∨ v = 10 := by
  have h : v.toInt = 0 ∨ v.toInt = 1 ∨ v.toInt = 2 ∨ v.toInt = 3 ∨ v.toInt = 4 ∨ v.toInt = 5 ∨ v.toInt = 6 ∨ v.toInt = 7 ∨ v.toInt = 8 ∨ v.toInt = 9 ∨ v.toInt = 10 := by omega
  rcases h with h | h | h | h | h | h | h | h | h | h | h
  · exact Or.inl (own_i32 h)
  · exact Or.inr (Or.inl (own_i32 h))
  · exact Or.inr (Or.inr (Or.inl (own_i32 h)))
  · exact Or.inr (Or.inr (Or.inr (Or.inl (own_i32 h))))
  · exact Or.inr (Or.inr (Or.inr (Or.inr (Or.inl (own_i32 h)))))
  · exact Or.inr (Or.inr (Or.inr (Or.inr (Or.inr (Or.inl (own_i32 h))))))
  · exact Or.inr (Or.inr (Or.inr (Or.inr (Or.inr (Or.inr (Or.inl (own_i32 h)))))))
  · exact Or.inr (Or.inr (Or.inr (Or.inr (Or.inr (Or.inr (Or.inr (Or.inl (own_i32 h))))))))
  · exact Or.inr (Or.inr (Or.inr (Or.inr (Or.inr (Or.inr (Or.inr (Or.inr (Or.inl (own_i32 h)))))))))
  · exact Or.inr (Or.inr (Or.inr (Or.inr (Or.inr (Or.inr (Or.inr (Or.inr (Or.inr (Or.inl (own_i32 h))))))))))
  · exact Or.inr (Or.inr (Or.inr (Or.inr (Or.inr (Or.inr (Or.inr (Or.inr (Or.inr (Or.inr (own_i32 h))))))))))
theorem own_split12 {v : Int32} (h1 : 0 ≤ v.toInt) (h2 : v.toInt < 12) : v = 0 ∨ v = 1 ∨ v = 2 ∨ v = 3 ∨ v = 4 ∨ v = 5 ∨ v = 6 ∨ v = 7 ∨ v = 8 ∨ v = 9 ∨ v = 10 ∨ v = 11 := by
  have h : v.toInt = 0 ∨ v.toInt = 1 ∨ v.toInt = 2 ∨ v.toInt = 3 ∨ v.toInt = 4 ∨ v.toInt = 5 ∨ v.toInt = 6 ∨ v.toInt = 7 ∨ v.toInt = 8 ∨ v.toInt = 9 ∨ v.toInt = 10 ∨ v.toInt = 11 := by omega
  rcases h with h | h | h | h | h | h | h | h | h | h | h | h
  · exact Or.inl (own_i32 h)
  · exact Or.inr (Or.inl (own_i32 h))
  · exact Or.inr (Or.inr (Or.inl (own_i32 h)))
  · exact Or.inr (Or.inr (Or.inr (Or.inl (own_i32 h))))
  · exact Or.inr (Or.inr (Or.inr (Or.inr (Or.inl (own_i32 h)))))
  · exact Or.inr (Or.inr (Or.inr (Or.inr (Or.inr (Or.inl (own_i32 h))))))
  · exact Or.inr (Or.inr (Or.inr (Or.inr (Or.inr (Or.inr (Or.inl (own_i32 h)))))))
  · exact Or.inr (Or.inr (Or.inr (Or.inr (Or.inr (Or.inr (Or.inr (Or.inl (own_i32 h))))))))
  · exact Or.inr (Or.inr (Or.inr (Or.inr (Or.inr (Or.inr (Or.inr (Or.inr (Or.inl (own_i32 h)))))))))
  · exact Or.inr (Or.inr (Or.inr (Or.inr (Or.inr (Or.inr (Or.inr (Or.inr (Or.inr (Or.inl (own_i32 h))))))))))
  · exact Or.inr (Or.inr (Or.inr (Or.inr (Or.inr (Or.inr (Or.inr (Or.inr (Or.inr (Or.inr (Or.inl (own_i32 h)))))))))))
  · exact Or.inr (Or.inr (Or.inr (Or.inr (Or.inr (Or.inr (Or.inr (Or.inr (Or.inr (Or.inr (Or.inr (own_i32 h)))))))))))
theorem own_ushr1 (x : Int32) : 0 ≤ ((x.toUInt32 >>> ((1 : Int32) &&& 31).toUInt32).toInt32).toInt ∧ ((x.toUInt32 >>> ((1 : Int32) &&& 31).toUInt32).toInt32).toInt ≤ 2147483647 := by
  have h := c_iushr x 1 1 (by decide) (by decide)
  rw [show ((2 ^ 1 : Nat) : Int) = 2 by decide] at h
  have := Int.emod_nonneg x.toInt (show (4294967296 : Int) ≠ 0 by decide)
  have := Int.emod_lt_of_pos x.toInt (show (0 : Int) < 4294967296 by decide)
  rw [h]
  constructor <;> omega
theorem own_l255 (x : Int64) : 0 ≤ ((x &&& (255 : Int64)).toInt32).toInt ∧ ((x &&& (255 : Int64)).toInt32).toInt ≤ 255 := by
  have h := c_maskL x 255 8 (by decide) (by decide)
  rw [show ((2 ^ 8 : Nat) : Int) = 256 by decide] at h
  have h2 := c_l2i (x &&& (255 : Int64))
  have a1 := Int32.le_toInt (x &&& (255 : Int64)).toInt32
  have a2 := Int32.toInt_lt (x &&& (255 : Int64)).toInt32
  constructor <;> omega
theorem own_remK {x y : Int32} (hx : 0 ≤ x.toInt) (hy : 1 ≤ y.toInt) (h1 : y.toInt ≤ 11) : 0 ≤ (x % y).toInt ∧ (x % y).toInt ≤ 10 := by
  have h := (c_iremV x y).1 hx (by omega)
  exact ⟨h.1, by omega⟩
theorem own_nz1 {m : Int32} (h : 1 ≤ m.toInt) : m ≠ 0 := fun z => by subst z; exact absurd h (by decide)

set_option maxRecDepth 65536 in
set_option maxHeartbeats 40000000 in
theorem rm_vals_0 {l : Launch} {Z : State} {a0 : Array Value} (hw : ∀ d ∈ tables_1, d.before a0 Z = true) {a__VALUES : Addr} {a_H2 : Addr} {a_POSTGRESQL : Addr} {a_Dialect_H2__product : Addr} {a_Dialect_POSTGRESQL__product : Addr} {kc_a__VALUES : ClassId} {cz : Int32}  {h0 : Heap} {n0 : Nat} (O : Old Z n0 h0) (W : Wd Z a__VALUES a_H2 a_POSTGRESQL a_Dialect_H2__product a_Dialect_POSTGRESQL__product kc_a__VALUES cz)  :
    Met1 l Z (⟨"com/example/sober_repository/soberrepository/Dialect", "values", "()[Lcom/example/sober_repository/soberrepository/Dialect;"⟩ : MethodName) prog_20_method_1_code 0 (some (.array (.object "com/example/sober_repository/soberrepository/Dialect"))) ({ frames := 1, cells := 1, slots := 2, locals := 14 } : Room) #[] h0 n0 (fun v h => ∃ b5 : Addr, ∃ kc_a__VALUES : ClassId, v = (.ref b5) ∧ Keep h0 h [] ∧ n0 ≤ b5 ∧ h0.size ≤ b5 ∧ Exa Z h b5 "[Lcom/example/sober_repository/soberrepository/Dialect;" ∧ Arv Z h b5 kc_a__VALUES (.object "com/example/sober_repository/soberrepository/Dialect") (2 : Int32) [(.ref a_H2), (.ref a_POSTGRESQL)] .null) := by
  refine met_of (L := #[]) (plainFor_of_name pn_5) (fun m => by first | (simp [entryFrame, mkF, argsToLocals, Value.category]; done) | rfl) ?_
  intro p e s m below meth c T C X
  change Cx p s m meth c Z "com/example/sober_repository/soberrepository/Dialect" prog_20_method_1_code 0 (some (.array (.object "com/example/sober_repository/soberrepository/Dialect"))) "values" at C
  refine g_getS C X (host := "") (Or.inl (w57 hw)) Via.refl (W.1.ext O.2) d11_0 (q := 3) rfl ?_
  intro T1 X2
  refine g_clone C X2 (w59 hw) (w60 hw) (w64 hw) (w62 hw) (w63 hw) (w65 hw) (W.2.2.2.2.2.2.2.2.2.2.2.2.1.ext O.2) (W.2.1.ext O.2) (cap := 2) (by decide) (by decide) (W := 0) (by decide) (k' := 1) rfl (n' := 2) rfl (by decide) (by decide) rfl rfl d11_3 (q := 6) rfl ?_
  intro T3 h4 b5 g6 X7 E8 V9 E10
  have ge11 : n0 ≤ b5 := own_ge O g6
  have O12 := O.ext E8
  refine g_castY C X7 (w69 hw) (Ins.self E10) d11_6 (q := 9) rfl ?_
  intro T13 X14
  exact g_retA C X14 rfl rfl d11_9 (by decide) (by decide) ⟨_, rfl, b5, kc_a__VALUES, rfl, ((Keep.refl h0 []).ext E8), ge11, (own_sz (Keep.refl h0 []).1 g6), E10, V9⟩
set_option maxRecDepth 65536 in
set_option maxHeartbeats 40000000 in
theorem rm_of {l : Launch} {Z : State} {a0 : Array Value} (hw : ∀ d ∈ tables_1, d.before a0 Z = true) {o0 : Addr} {cs : List Int32} {a__VALUES : Addr} {a_H2 : Addr} {a_POSTGRESQL : Addr} {a_Dialect_H2__product : Addr} {a_Dialect_POSTGRESQL__product : Addr} {kc_a__VALUES : ClassId} {cz : Int32} {h0 : Heap} {n0 : Nat} (O : Old Z n0 h0) (W : Wd Z a__VALUES a_H2 a_POSTGRESQL a_Dialect_H2__product a_Dialect_POSTGRESQL__product kc_a__VALUES cz) (F0 : Str Z h0 o0 cs) :
    Met1 l Z (⟨"com/example/sober_repository/soberrepository/Dialect", "of", "(Ljava/lang/String;)Lcom/example/sober_repository/soberrepository/Dialect;"⟩ : MethodName) prog_20_method_4_code 5 (some (.object "com/example/sober_repository/soberrepository/Dialect")) ({ frames := 2, cells := 1, slots := 2, locals := 28 } : Room) #[(.ref o0)] h0 n0 (fun v h => Keep h0 h [] ∧ ((cs = [(72 : Int32), (50 : Int32)] ∧ v = .ref a_H2) ∨ (¬ cs = [(72 : Int32), (50 : Int32)] ∧ cs = [(80 : Int32), (111 : Int32), (115 : Int32), (116 : Int32), (103 : Int32), (114 : Int32), (101 : Int32), (83 : Int32), (81 : Int32), (76 : Int32)] ∧ v = .ref a_POSTGRESQL) ∨ (¬ cs = [(72 : Int32), (50 : Int32)] ∧ ¬ cs = [(80 : Int32), (111 : Int32), (115 : Int32), (116 : Int32), (103 : Int32), (114 : Int32), (101 : Int32), (83 : Int32), (81 : Int32), (76 : Int32)] ∧ v = .null))) := by
  refine met_of (L := #[.val (.ref o0), .unset, .unset, .unset, .unset]) (plainFor_of_name pn_5) (fun m => by first | (simp [entryFrame, mkF, argsToLocals, Value.category]; done) | rfl) ?_
  intro p e s m below meth c T C X
  change Cx p s m meth c Z "com/example/sober_repository/soberrepository/Dialect" prog_20_method_4_code 5 (some (.object "com/example/sober_repository/soberrepository/Dialect")) "of" at C
  refine g_callS1 C X (y := (⟨"com/example/sober_repository/soberrepository/Dialect", "values", "()[Lcom/example/sober_repository/soberrepository/Dialect;"⟩ : MethodName)) (by decide) (w54 hw) (w55 hw) (w56 hw) (w52 hw) (rm_vals_0 hw  O W ) (W := 0) (by decide) (by decide) (k' := 1) rfl (n' := 2) rfl (by decide) (by decide) rfl pd_6 (argsL := []) rfl (rest := []) rfl rfl rfl d10_0 (q := 3) rfl ?_
  rintro _ T1 h3 X2 ⟨b5, kA8, rfl, K4, ge6, sz7, f9, f10⟩
  have O11 := O.keep K4 all0
  refine g_astoreN C X2 d10_3 (q := 4) rfl rfl (L' := #[.val (.ref o0), .val (.ref b5), .unset, .unset, .unset]) rfl ?_
  refine g_aloadN C X2 d10_4 (q := 5) rfl rfl rfl ?_
  refine g_alen C X2 f10 d10_5 (q := 6) rfl ?_
  refine g_istoreN C X2 d10_6 (q := 7) rfl (L' := #[.val (.ref o0), .val (.ref b5), .val (.int (2 : Int32)), .unset, .unset]) rfl ?_
  refine g_iconst C X2 d10_7 (q := 8) rfl (z := (0 : Int32)) rfl ?_
  refine g_istoreN C X2 d10_8 (q := 9) rfl (L' := #[.val (.ref o0), .val (.ref b5), .val (.int (2 : Int32)), .val (.int (0 : Int32)), .unset]) rfl ?_
  refine g_iloadN C X2 d10_9 (q := 10) rfl rfl ?_
  refine g_iloadN C X2 d10_10 (q := 11) rfl rfl ?_
  refine g_icN C X2 d10_11 (q := 14) rfl (by decide) ?_
  refine g_aloadN C X2 d10_14 (q := 15) rfl rfl rfl ?_
  refine g_iloadN C X2 d10_15 (q := 16) rfl rfl ?_
  refine g_aaload C X2 rfl f10 (by decide) (w := (.ref a_H2)) rfl d10_16 (q := 17) rfl ?_
  refine g_astore C X2 d10_17 (q := 19) rfl rfl (L' := #[.val (.ref o0), .val (.ref b5), .val (.int (2 : Int32)), .val (.int (0 : Int32)), .val (.ref a_H2)]) rfl ?_
  refine g_aload C X2 d10_19 (q := 21) rfl rfl rfl ?_
  refine g_getF C X2 (host := "") (Or.inl (w71 hw)) Via.refl (W.2.2.2.2.2.2.1.ext O11.2) d10_21 (q := 24) rfl ?_
  intro T12 X13
  refine g_aloadN C X13 d10_24 (q := 25) rfl rfl rfl ?_
  have f14 := (F0.keep K4 all0)
  refine g_strEq C X13 (own_wordsEq hw) (w8 hw) (w73 hw) (w40 hw) (w42 hw) (w41 hw) (W.2.2.2.2.2.2.2.2.2.2.2.2.2.1.ext O11.2) f14 (W.2.2.2.2.2.2.2.2.2.2.2.2.2.2.2.1.ext O11.2) W.2.2.2.2.2.2.2.2.2.2.2.2.2.2.2.2 (W := 0) (by decide) (by decide) (by decide) (by decide) rfl rfl d10_25 (q := 28) rfl ?_
  intro T15 X16
  by_cases hx17 : [(72 : Int32), (50 : Int32)] = cs
  · rw [if_pos hx17]
    refine g_ifN C X16 d10_28 (q := 31) rfl (by decide) ?_
    refine g_aload C X16 d10_31 (q := 33) rfl rfl rfl ?_
    exact g_retA C X16 rfl rfl d10_33 (by decide) (by decide) ⟨_, rfl, ((Keep.refl h0 []).trans K4 all0), Or.inl ⟨hx17.symm, rfl⟩⟩
  · rw [if_neg hx17]
    refine g_ifY C X16 d10_28 (by decide) (q := 34) (by decide) (by decide) ?_
    refine g_iinc C X16 d10_34 (q := 37) rfl rfl (z := (1 : Int32)) (by decide) (L' := #[.val (.ref o0), .val (.ref b5), .val (.int (2 : Int32)), .val (.int (1 : Int32)), .val (.ref a_H2)]) rfl ?_
    refine g_goto C X16 d10_37 (by decide) (q := 9) (by decide) ?_
    refine g_iloadN C X16 d10_9 (q := 10) rfl rfl ?_
    refine g_iloadN C X16 d10_10 (q := 11) rfl rfl ?_
    refine g_icN C X16 d10_11 (q := 14) rfl (by decide) ?_
    refine g_aloadN C X16 d10_14 (q := 15) rfl rfl rfl ?_
    refine g_iloadN C X16 d10_15 (q := 16) rfl rfl ?_
    refine g_aaload C X16 rfl f10 (by decide) (w := (.ref a_POSTGRESQL)) rfl d10_16 (q := 17) rfl ?_
    refine g_astore C X16 d10_17 (q := 19) rfl rfl (L' := #[.val (.ref o0), .val (.ref b5), .val (.int (2 : Int32)), .val (.int (1 : Int32)), .val (.ref a_POSTGRESQL)]) rfl ?_
    refine g_aload C X16 d10_19 (q := 21) rfl rfl rfl ?_
    refine g_getF C X16 (host := "") (Or.inl (w71 hw)) Via.refl (W.2.2.2.2.2.2.2.2.2.1.ext O11.2) d10_21 (q := 24) rfl ?_
    intro T18 X19
    refine g_aloadN C X19 d10_24 (q := 25) rfl rfl rfl ?_
    refine g_strEq C X19 (own_wordsEq hw) (w8 hw) (w73 hw) (w40 hw) (w42 hw) (w41 hw) (W.2.2.2.2.2.2.2.2.2.2.2.2.2.2.1.ext O11.2) f14 (W.2.2.2.2.2.2.2.2.2.2.2.2.2.2.2.1.ext O11.2) W.2.2.2.2.2.2.2.2.2.2.2.2.2.2.2.2 (W := 0) (by decide) (by decide) (by decide) (by decide) rfl rfl d10_25 (q := 28) rfl ?_
    intro T20 X21
    by_cases hx22 : [(80 : Int32), (111 : Int32), (115 : Int32), (116 : Int32), (103 : Int32), (114 : Int32), (101 : Int32), (83 : Int32), (81 : Int32), (76 : Int32)] = cs
    · rw [if_pos hx22]
      refine g_ifN C X21 d10_28 (q := 31) rfl (by decide) ?_
      refine g_aload C X21 d10_31 (q := 33) rfl rfl rfl ?_
      exact g_retA C X21 rfl rfl d10_33 (by decide) (by decide) ⟨_, rfl, ((Keep.refl h0 []).trans K4 all0), Or.inr (Or.inl ⟨(fun z => hx17 z.symm), hx22.symm, rfl⟩)⟩
    · rw [if_neg hx22]
      refine g_ifY C X21 d10_28 (by decide) (q := 34) (by decide) (by decide) ?_
      refine g_iinc C X21 d10_34 (q := 37) rfl rfl (z := (2 : Int32)) (by decide) (L' := #[.val (.ref o0), .val (.ref b5), .val (.int (2 : Int32)), .val (.int (2 : Int32)), .val (.ref a_POSTGRESQL)]) rfl ?_
      refine g_goto C X21 d10_37 (by decide) (q := 9) (by decide) ?_
      refine g_iloadN C X21 d10_9 (q := 10) rfl rfl ?_
      refine g_iloadN C X21 d10_10 (q := 11) rfl rfl ?_
      refine g_icY C X21 d10_11 (by decide) (q := 40) (by decide) (by decide) ?_
      refine g_aconstNull C X21 d10_40 (q := 41) rfl ?_
      exact g_retA C X21 rfl rfl d10_41 (by decide) (by decide) ⟨_, rfl, ((Keep.refl h0 []).trans K4 all0), Or.inr (Or.inr ⟨(fun z => hx17 z.symm), (fun z => hx22 z.symm), rfl⟩)⟩
set_option maxRecDepth 65536 in
set_option maxHeartbeats 40000000 in
theorem rm_eqN_0 {l : Launch} {Z : State} {a0 : Array Value} (hw : ∀ d ∈ tables_1, d.before a0 Z = true) {a__VALUES : Addr} {a_H2 : Addr} {a_POSTGRESQL : Addr} {a_Dialect_H2__product : Addr} {a_Dialect_POSTGRESQL__product : Addr} {kc_a__VALUES : ClassId} {cz : Int32}  {h0 : Heap} {n0 : Nat} (O : Old Z n0 h0) (W : Wd Z a__VALUES a_H2 a_POSTGRESQL a_Dialect_H2__product a_Dialect_POSTGRESQL__product kc_a__VALUES cz)  :
    Met1 l Z (⟨"java/lang/String", "equals", "(Ljava/lang/Object;)Z"⟩ : MethodName) jdk_42_method_66_code 3 (some .boolean) ({ frames := 0, cells := 0, slots := 0, locals := 0 } : Room) #[(.ref a_Dialect_H2__product), .null] h0 n0 (fun v h => v = (.int (0 : Int32)) ∧ h0 = h) := by
  refine met_of (L := #[.val (.ref a_Dialect_H2__product), .val .null, .unset]) (plainFor_of_name pn_39) (fun m => by first | (simp [entryFrame, mkF, argsToLocals, Value.category]; done) | rfl) ?_
  intro p e s m below meth c T C X
  change Cx p s m meth c Z "java/lang/String" jdk_42_method_66_code 3 (some .boolean) "equals" at C
  refine g_aloadN C X d8_0 (q := 1) rfl rfl rfl ?_
  refine g_aloadN C X d8_1 (q := 2) rfl rfl rfl ?_
  refine g_acmp C X d8_2 rfl rfl (same := false) (decide_eq_false nofun) (by decide) (q := 7) (by decide) ?_
  refine g_aloadN C X d8_7 (q := 8) rfl rfl rfl ?_
  refine g_instNull C X d8_8 (q := 11) rfl ?_
  refine g_ifY C X d8_11 (by decide) (q := 54) (by decide) (by decide) ?_
  refine g_iconst C X d8_54 (q := 55) rfl (z := (0 : Int32)) rfl ?_
  exact g_retN C X (Or.inl rfl) (z' := (0 : Int32)) (by decide) d8_55 (by decide) (by decide) ⟨_, rfl, rfl, rfl⟩
set_option maxRecDepth 65536 in
set_option maxHeartbeats 40000000 in
theorem rm_eqN_1 {l : Launch} {Z : State} {a0 : Array Value} (hw : ∀ d ∈ tables_1, d.before a0 Z = true) {a__VALUES : Addr} {a_H2 : Addr} {a_POSTGRESQL : Addr} {a_Dialect_H2__product : Addr} {a_Dialect_POSTGRESQL__product : Addr} {kc_a__VALUES : ClassId} {cz : Int32}  {h0 : Heap} {n0 : Nat} (O : Old Z n0 h0) (W : Wd Z a__VALUES a_H2 a_POSTGRESQL a_Dialect_H2__product a_Dialect_POSTGRESQL__product kc_a__VALUES cz)  :
    Met1 l Z (⟨"java/lang/String", "equals", "(Ljava/lang/Object;)Z"⟩ : MethodName) jdk_42_method_66_code 3 (some .boolean) ({ frames := 0, cells := 0, slots := 0, locals := 0 } : Room) #[(.ref a_Dialect_POSTGRESQL__product), .null] h0 n0 (fun v h => v = (.int (0 : Int32)) ∧ h0 = h) := by
  refine met_of (L := #[.val (.ref a_Dialect_POSTGRESQL__product), .val .null, .unset]) (plainFor_of_name pn_39) (fun m => by first | (simp [entryFrame, mkF, argsToLocals, Value.category]; done) | rfl) ?_
  intro p e s m below meth c T C X
  change Cx p s m meth c Z "java/lang/String" jdk_42_method_66_code 3 (some .boolean) "equals" at C
  refine g_aloadN C X d8_0 (q := 1) rfl rfl rfl ?_
  refine g_aloadN C X d8_1 (q := 2) rfl rfl rfl ?_
  refine g_acmp C X d8_2 rfl rfl (same := false) (decide_eq_false nofun) (by decide) (q := 7) (by decide) ?_
  refine g_aloadN C X d8_7 (q := 8) rfl rfl rfl ?_
  refine g_instNull C X d8_8 (q := 11) rfl ?_
  refine g_ifY C X d8_11 (by decide) (q := 54) (by decide) (by decide) ?_
  refine g_iconst C X d8_54 (q := 55) rfl (z := (0 : Int32)) rfl ?_
  exact g_retN C X (Or.inl rfl) (z' := (0 : Int32)) (by decide) d8_55 (by decide) (by decide) ⟨_, rfl, rfl, rfl⟩
set_option maxRecDepth 65536 in
set_option maxHeartbeats 40000000 in
theorem rm_ofN {l : Launch} {Z : State} {a0 : Array Value} (hw : ∀ d ∈ tables_1, d.before a0 Z = true) {a__VALUES : Addr} {a_H2 : Addr} {a_POSTGRESQL : Addr} {a_Dialect_H2__product : Addr} {a_Dialect_POSTGRESQL__product : Addr} {kc_a__VALUES : ClassId} {cz : Int32} {h0 : Heap} {n0 : Nat} (O : Old Z n0 h0) (W : Wd Z a__VALUES a_H2 a_POSTGRESQL a_Dialect_H2__product a_Dialect_POSTGRESQL__product kc_a__VALUES cz) :
    Met1 l Z (⟨"com/example/sober_repository/soberrepository/Dialect", "of", "(Ljava/lang/String;)Lcom/example/sober_repository/soberrepository/Dialect;"⟩ : MethodName) prog_20_method_4_code 5 (some (.object "com/example/sober_repository/soberrepository/Dialect")) ({ frames := 2, cells := 1, slots := 2, locals := 25 } : Room) #[.null] h0 n0 (fun v h => Keep h0 h [] ∧ v = .null) := by
  refine met_of (L := #[.val .null, .unset, .unset, .unset, .unset]) (plainFor_of_name pn_5) (fun m => by first | (simp [entryFrame, mkF, argsToLocals, Value.category]; done) | rfl) ?_
  intro p e s m below meth c T C X
  change Cx p s m meth c Z "com/example/sober_repository/soberrepository/Dialect" prog_20_method_4_code 5 (some (.object "com/example/sober_repository/soberrepository/Dialect")) "of" at C
  refine g_callS1 C X (y := (⟨"com/example/sober_repository/soberrepository/Dialect", "values", "()[Lcom/example/sober_repository/soberrepository/Dialect;"⟩ : MethodName)) (by decide) (w54 hw) (w55 hw) (w56 hw) (w52 hw) (rm_vals_0 hw  O W ) (W := 0) (by decide) (by decide) (k' := 1) rfl (n' := 2) rfl (by decide) (by decide) rfl pd_6 (argsL := []) rfl (rest := []) rfl rfl rfl d10_0 (q := 3) rfl ?_
  rintro _ T1 h3 X2 ⟨b5, kA8, rfl, K4, ge6, sz7, f9, f10⟩
  have O11 := O.keep K4 all0
  refine g_astoreN C X2 d10_3 (q := 4) rfl rfl (L' := #[.val .null, .val (.ref b5), .unset, .unset, .unset]) rfl ?_
  refine g_aloadN C X2 d10_4 (q := 5) rfl rfl rfl ?_
  refine g_alen C X2 f10 d10_5 (q := 6) rfl ?_
  refine g_istoreN C X2 d10_6 (q := 7) rfl (L' := #[.val .null, .val (.ref b5), .val (.int (2 : Int32)), .unset, .unset]) rfl ?_
  refine g_iconst C X2 d10_7 (q := 8) rfl (z := (0 : Int32)) rfl ?_
  refine g_istoreN C X2 d10_8 (q := 9) rfl (L' := #[.val .null, .val (.ref b5), .val (.int (2 : Int32)), .val (.int (0 : Int32)), .unset]) rfl ?_
  refine g_iloadN C X2 d10_9 (q := 10) rfl rfl ?_
  refine g_iloadN C X2 d10_10 (q := 11) rfl rfl ?_
  refine g_icN C X2 d10_11 (q := 14) rfl (by decide) ?_
  refine g_aloadN C X2 d10_14 (q := 15) rfl rfl rfl ?_
  refine g_iloadN C X2 d10_15 (q := 16) rfl rfl ?_
  refine g_aaload C X2 rfl f10 (by decide) (w := (.ref a_H2)) rfl d10_16 (q := 17) rfl ?_
  refine g_astore C X2 d10_17 (q := 19) rfl rfl (L' := #[.val .null, .val (.ref b5), .val (.int (2 : Int32)), .val (.int (0 : Int32)), .val (.ref a_H2)]) rfl ?_
  refine g_aload C X2 d10_19 (q := 21) rfl rfl rfl ?_
  refine g_getF C X2 (host := "") (Or.inl (w71 hw)) Via.refl (W.2.2.2.2.2.2.1.ext O11.2) d10_21 (q := 24) rfl ?_
  intro T12 X13
  refine g_aloadN C X13 d10_24 (q := 25) rfl rfl rfl ?_
  refine g_callV1 C X13 (y := (⟨"java/lang/String", "equals", "(Ljava/lang/Object;)Z"⟩ : MethodName)) (z := (⟨"java/lang/String", "equals", "(Ljava/lang/Object;)Z"⟩ : MethodName)) (a := a_Dialect_H2__product) (by decide) (w73 hw) (w40 hw) (w42 hw) (w41 hw) (nf_sel (w42 hw)) (W.2.2.2.2.2.2.2.1.ext O11.2) (w43 hw) (w9 hw) (rm_eqN_0 hw  O11 W ) (W := 0) (by decide) (by decide) (k' := 1) rfl (n' := 2) rfl (by decide) (by decide) rfl pd_40 (argsL := [.null]) rfl (rest := []) rfl rfl rfl d10_25 (q := 28) rfl ?_
  rintro _ T14 _ X15 ⟨rfl, rfl⟩
  refine g_ifY C X15 d10_28 (by decide) (q := 34) (by decide) (by decide) ?_
  refine g_iinc C X15 d10_34 (q := 37) rfl rfl (z := (1 : Int32)) (by decide) (L' := #[.val .null, .val (.ref b5), .val (.int (2 : Int32)), .val (.int (1 : Int32)), .val (.ref a_H2)]) rfl ?_
  refine g_goto C X15 d10_37 (by decide) (q := 9) (by decide) ?_
  refine g_iloadN C X15 d10_9 (q := 10) rfl rfl ?_
  refine g_iloadN C X15 d10_10 (q := 11) rfl rfl ?_
  refine g_icN C X15 d10_11 (q := 14) rfl (by decide) ?_
  refine g_aloadN C X15 d10_14 (q := 15) rfl rfl rfl ?_
  refine g_iloadN C X15 d10_15 (q := 16) rfl rfl ?_
  refine g_aaload C X15 rfl f10 (by decide) (w := (.ref a_POSTGRESQL)) rfl d10_16 (q := 17) rfl ?_
  refine g_astore C X15 d10_17 (q := 19) rfl rfl (L' := #[.val .null, .val (.ref b5), .val (.int (2 : Int32)), .val (.int (1 : Int32)), .val (.ref a_POSTGRESQL)]) rfl ?_
  refine g_aload C X15 d10_19 (q := 21) rfl rfl rfl ?_
  refine g_getF C X15 (host := "") (Or.inl (w71 hw)) Via.refl (W.2.2.2.2.2.2.2.2.2.1.ext O11.2) d10_21 (q := 24) rfl ?_
  intro T16 X17
  refine g_aloadN C X17 d10_24 (q := 25) rfl rfl rfl ?_
  refine g_callV1 C X17 (y := (⟨"java/lang/String", "equals", "(Ljava/lang/Object;)Z"⟩ : MethodName)) (z := (⟨"java/lang/String", "equals", "(Ljava/lang/Object;)Z"⟩ : MethodName)) (a := a_Dialect_POSTGRESQL__product) (by decide) (w73 hw) (w40 hw) (w42 hw) (w41 hw) (nf_sel (w42 hw)) (W.2.2.2.2.2.2.2.2.2.2.1.ext O11.2) (w43 hw) (w9 hw) (rm_eqN_1 hw  O11 W ) (W := 0) (by decide) (by decide) (k' := 1) rfl (n' := 2) rfl (by decide) (by decide) rfl pd_40 (argsL := [.null]) rfl (rest := []) rfl rfl rfl d10_25 (q := 28) rfl ?_
  rintro _ T18 _ X19 ⟨rfl, rfl⟩
  refine g_ifY C X19 d10_28 (by decide) (q := 34) (by decide) (by decide) ?_
  refine g_iinc C X19 d10_34 (q := 37) rfl rfl (z := (2 : Int32)) (by decide) (L' := #[.val .null, .val (.ref b5), .val (.int (2 : Int32)), .val (.int (2 : Int32)), .val (.ref a_POSTGRESQL)]) rfl ?_
  refine g_goto C X19 d10_37 (by decide) (q := 9) (by decide) ?_
  refine g_iloadN C X19 d10_9 (q := 10) rfl rfl ?_
  refine g_iloadN C X19 d10_10 (q := 11) rfl rfl ?_
  refine g_icY C X19 d10_11 (by decide) (q := 40) (by decide) (by decide) ?_
  refine g_aconstNull C X19 d10_40 (q := 41) rfl ?_
  exact g_retA C X19 rfl rfl d10_41 (by decide) (by decide) ⟨_, rfl, ((Keep.refl h0 []).trans K4 all0), rfl⟩
set_option maxRecDepth 65536 in
set_option maxHeartbeats 40000000 in
theorem rmJ520 {l : Launch} {Z : State} {a0 : Array Value} (hw : ∀ d ∈ tables_1, d.before a0 Z = true) {a__VALUES : Addr} {a_H2 : Addr} {a_POSTGRESQL : Addr} {a_Dialect_H2__product : Addr} {a_Dialect_POSTGRESQL__product : Addr} {kc_a__VALUES : ClassId} {cz : Int32} {q0 q1 q2 q3 qm qn : Int32} {qf : Int64} {aw : Addr} {qk : Int32} {ac ax : Addr} {cs : List Int32} {n0 : Nat} {p : Program} {e : Env} {s : State} {m : MethodId} {below : List Frame} {meth : Method} {c : Code} {T : State} {vm : Vm} {h : Heap} {as' : Array Value} (C : Cx p (s.setVm vm) m meth c Z "com/example/sober_repository/soberrepository/DialectOfPinLaw" code 13 (some .boolean) "law") (X : St p l e room_1 (s.setVm vm) m as' below meth c n0 T h 8 60) (Y : Wx Z consts_1 s vm h) (O : Old Z n0 h) (W : Wd Z a__VALUES a_H2 a_POSTGRESQL a_Dialect_H2__product a_Dialect_POSTGRESQL__product kc_a__VALUES cz) (F0 : Str Z h ax cs) (gx : n0 ≤ ax) :
    Goes p e below (FinW Z consts_1 (fun v h => ∃ w, v = some w ∧ (fun v h => v = .int 1 ∧ True) w h) s n0 24 3264) (T.setTop (mkF m 520 #[.val (.int q0), .val (.int q1), .val (.int q2), .val (.int q3), .val (.long qf), .second, .val (.int qm), .val (.ref aw), .val (.int qn), .val (.int qk), .val (.ref ac), .val (.ref ax), .unset] [])) := by
  refine g_aload C X at_520 (q := 522) rfl rfl rfl ?_
  refine gW_ldcC C X Y (own_EL hw) (vs := [(.int (72 : Int32)), (.int (50 : Int32))]) (z := 2) (w36 hw) (own_SA hw) (List.mem_of_getElem? (i := 0) rfl) ⟨by decide, by decide +kernel⟩ (by decide) rfl at_522 (q := 524) rfl (nn := 8) (by decide) (by decide) (k' := 10) rfl (n' := 72) rfl (by decide) (by decide) ?_
  intro b1 b9 kA10 T2 h3 vm4 C X5 Y6 E7 R8 f11 f12 f13 f14 sf15
  have O16 := O.ext E7
  have F17 : Str Z h3 b1 [(72 : Int32), (50 : Int32)] := ⟨b9, kA10, f11, f13, f12, f14, by decide, by decide⟩
  have f18 := (F0.ext E7)
  refine g_strEq C X5 (own_wordsEq hw) (w8 hw) (w39 hw) (w40 hw) (w42 hw) (w41 hw) f18 F17 (W.2.2.2.2.2.2.2.2.2.2.2.2.2.2.2.1.ext O16.2) W.2.2.2.2.2.2.2.2.2.2.2.2.2.2.2.2 (W := 0) (by decide) (by decide) (by decide) (by decide) rfl rfl at_524 (q := 527) rfl ?_
  intro T19 X20
  by_cases hx21 : cs = [(72 : Int32), (50 : Int32)]
  · rw [if_pos hx21]
    refine g_ifN C X20 at_527 (q := 530) rfl (by decide) ?_
    refine g_getS C X20 (host := "") (Or.inl (w74 hw)) Via.refl (W.2.2.1.ext O16.2) at_530 (q := 533) rfl ?_
    intro T22 X23
    refine g_astore C X23 at_533 (q := 535) rfl rfl (L' := #[.val (.int q0), .val (.int q1), .val (.int q2), .val (.int q3), .val (.long qf), .second, .val (.int qm), .val (.ref aw), .val (.int qn), .val (.int qk), .val (.ref ac), .val (.ref ax), .val (.ref a_H2)]) rfl ?_
    refine g_goto C X23 at_535 (by decide) (q := 559) (by decide) ?_
    refine g_aload C X23 at_559 (q := 561) rfl rfl rfl ?_
    refine g_callS1 C X23 (y := (⟨"com/example/sober_repository/soberrepository/Dialect", "of", "(Ljava/lang/String;)Lcom/example/sober_repository/soberrepository/Dialect;"⟩ : MethodName)) (by decide) (w50 hw) (w51 hw) (w53 hw) (w52 hw) (rm_of hw O16 W f18) (W := 0) (by decide) (by decide) (k' := 11) rfl (n' := 74) rfl (by decide) (by decide) rfl pd_41 (argsL := [(.ref ax)]) rfl (rest := []) rfl rfl rfl at_561 (q := 564) rfl ?_
    rintro v28 T24 h25 X26 ⟨K27, hv29⟩
    have Y30 := Wx.keep Y6 K27 sf0
    have O31 := O16.keep K27 all0
    rcases hv29 with ⟨e32, rfl⟩ | ⟨e32, e33, rfl⟩ | ⟨e32, e33, rfl⟩
    · refine g_aload C X26 at_564 (q := 566) rfl rfl rfl ?_
      refine g_acmp C X26 at_566 rfl rfl (same := true) (decide_eq_true rfl) (by decide) (q := 569) (by decide) ?_
      refine g_iconst C X26 at_569 (q := 570) rfl (z := (1 : Int32)) rfl ?_
      refine g_goto C X26 at_570 (by decide) (q := 574) (by decide) ?_
      exact gW_retN C X26 Y30 (own_EL hw) (Or.inl rfl) (z' := 1) (by decide) at_574 (by decide) (by decide) ⟨_, rfl, rfl, trivial⟩
    · exact absurd hx21 e32
    · exact absurd hx21 e32
  · rw [if_neg hx21]
    refine g_ifY C X20 at_527 (by decide) (q := 538) (by decide) (by decide) ?_
    refine g_aload C X20 at_538 (q := 540) rfl rfl rfl ?_
    refine gW_ldcC C X20 Y6 (own_EL hw) (vs := [(.int (80 : Int32)), (.int (111 : Int32)), (.int (115 : Int32)), (.int (116 : Int32)), (.int (103 : Int32)), (.int (114 : Int32)), (.int (101 : Int32)), (.int (83 : Int32)), (.int (81 : Int32)), (.int (76 : Int32))]) (z := 10) (w49 hw) (own_SA hw) (List.mem_of_getElem? (i := 1) rfl) ⟨by decide, by decide +kernel⟩ (by decide) rfl at_540 (q := 542) rfl (nn := 40) (by decide) (by decide) (k' := 12) rfl (n' := 116) rfl (by decide) (by decide) ?_
    intro b34 b42 kA43 T35 h36 vm37 C X38 Y39 E40 R41 f44 f45 f46 f47 sf48
    have O49 := O16.ext E40
    have F50 : Str Z h36 b34 [(80 : Int32), (111 : Int32), (115 : Int32), (116 : Int32), (103 : Int32), (114 : Int32), (101 : Int32), (83 : Int32), (81 : Int32), (76 : Int32)] := ⟨b42, kA43, f44, f46, f45, f47, by decide, by decide⟩
    have f51 := (f18.ext E40)
    refine g_strEq C X38 (own_wordsEq hw) (w8 hw) (w39 hw) (w40 hw) (w42 hw) (w41 hw) f51 F50 (W.2.2.2.2.2.2.2.2.2.2.2.2.2.2.2.1.ext O49.2) W.2.2.2.2.2.2.2.2.2.2.2.2.2.2.2.2 (W := 0) (by decide) (by decide) (by decide) (by decide) rfl rfl at_542 (q := 545) rfl ?_
    intro T52 X53
    by_cases hx54 : cs = [(80 : Int32), (111 : Int32), (115 : Int32), (116 : Int32), (103 : Int32), (114 : Int32), (101 : Int32), (83 : Int32), (81 : Int32), (76 : Int32)]
    · rw [if_pos hx54]
      refine g_ifN C X53 at_545 (q := 548) rfl (by decide) ?_
      refine g_getS C X53 (host := "") (Or.inl (w76 hw)) Via.refl (W.2.2.2.2.1.ext O49.2) at_548 (q := 551) rfl ?_
      intro T55 X56
      refine g_astore C X56 at_551 (q := 553) rfl rfl (L' := #[.val (.int q0), .val (.int q1), .val (.int q2), .val (.int q3), .val (.long qf), .second, .val (.int qm), .val (.ref aw), .val (.int qn), .val (.int qk), .val (.ref ac), .val (.ref ax), .val (.ref a_POSTGRESQL)]) rfl ?_
      refine g_goto C X56 at_553 (by decide) (q := 559) (by decide) ?_
      refine g_aload C X56 at_559 (q := 561) rfl rfl rfl ?_
      refine g_callS1 C X56 (y := (⟨"com/example/sober_repository/soberrepository/Dialect", "of", "(Ljava/lang/String;)Lcom/example/sober_repository/soberrepository/Dialect;"⟩ : MethodName)) (by decide) (w50 hw) (w51 hw) (w53 hw) (w52 hw) (rm_of hw O49 W f51) (W := 0) (by decide) (by decide) (k' := 13) rfl (n' := 118) rfl (by decide) (by decide) rfl pd_41 (argsL := [(.ref ax)]) rfl (rest := []) rfl rfl rfl at_561 (q := 564) rfl ?_
      rintro v61 T57 h58 X59 ⟨K60, hv62⟩
      have Y63 := Wx.keep Y39 K60 sf0
      have O64 := O49.keep K60 all0
      rcases hv62 with ⟨e65, rfl⟩ | ⟨e65, e66, rfl⟩ | ⟨e65, e66, rfl⟩
      · exact absurd e65 hx21
      · refine g_aload C X59 at_564 (q := 566) rfl rfl rfl ?_
        refine g_acmp C X59 at_566 rfl rfl (same := true) (decide_eq_true rfl) (by decide) (q := 569) (by decide) ?_
        refine g_iconst C X59 at_569 (q := 570) rfl (z := (1 : Int32)) rfl ?_
        refine g_goto C X59 at_570 (by decide) (q := 574) (by decide) ?_
        exact gW_retN C X59 Y63 (own_EL hw) (Or.inl rfl) (z' := 1) (by decide) at_574 (by decide) (by decide) ⟨_, rfl, rfl, trivial⟩
      · exact absurd hx54 e66
    · rw [if_neg hx54]
      refine g_ifY C X53 at_545 (by decide) (q := 556) (by decide) (by decide) ?_
      refine g_aconstNull C X53 at_556 (q := 557) rfl ?_
      refine g_astore C X53 at_557 (q := 559) rfl rfl (L' := #[.val (.int q0), .val (.int q1), .val (.int q2), .val (.int q3), .val (.long qf), .second, .val (.int qm), .val (.ref aw), .val (.int qn), .val (.int qk), .val (.ref ac), .val (.ref ax), .val .null]) rfl ?_
      refine g_aload C X53 at_559 (q := 561) rfl rfl rfl ?_
      refine g_callS1 C X53 (y := (⟨"com/example/sober_repository/soberrepository/Dialect", "of", "(Ljava/lang/String;)Lcom/example/sober_repository/soberrepository/Dialect;"⟩ : MethodName)) (by decide) (w50 hw) (w51 hw) (w53 hw) (w52 hw) (rm_of hw O49 W f51) (W := 0) (by decide) (by decide) (k' := 13) rfl (n' := 118) rfl (by decide) (by decide) rfl pd_41 (argsL := [(.ref ax)]) rfl (rest := []) rfl rfl rfl at_561 (q := 564) rfl ?_
      rintro v71 T67 h68 X69 ⟨K70, hv72⟩
      have Y73 := Wx.keep Y39 K70 sf0
      have O74 := O49.keep K70 all0
      rcases hv72 with ⟨e75, rfl⟩ | ⟨e75, e76, rfl⟩ | ⟨e75, e76, rfl⟩
      · exact absurd e75 hx21
      · exact absurd e76 hx54
      · refine g_aload C X69 at_564 (q := 566) rfl rfl rfl ?_
        refine g_acmp C X69 at_566 rfl rfl (same := true) (decide_eq_true rfl) (by decide) (q := 569) (by decide) ?_
        refine g_iconst C X69 at_569 (q := 570) rfl (z := (1 : Int32)) rfl ?_
        refine g_goto C X69 at_570 (by decide) (q := 574) (by decide) ?_
        exact gW_retN C X69 Y73 (own_EL hw) (Or.inl rfl) (z' := 1) (by decide) at_574 (by decide) (by decide) ⟨_, rfl, rfl, trivial⟩
set_option maxRecDepth 65536 in
set_option maxHeartbeats 40000000 in
theorem rm_str4_0 {l : Launch} {Z : State} {a0 : Array Value} (hw : ∀ d ∈ tables_1, d.before a0 Z = true) {a__VALUES : Addr} {a_H2 : Addr} {a_POSTGRESQL : Addr} {a_Dialect_H2__product : Addr} {a_Dialect_POSTGRESQL__product : Addr} {kc_a__VALUES : ClassId} {cz : Int32} {o0 : Addr} {o1 : Addr} {h0 : Heap} {n0 : Nat} (O : Old Z n0 h0) (W : Wd Z a__VALUES a_H2 a_POSTGRESQL a_Dialect_H2__product a_Dialect_POSTGRESQL__product kc_a__VALUES cz)  (P0 : Exa Z h0 o0 "java/lang/String") (P1 : Fld Z h0 o0 "java/lang/String" "coder" "B" (.int (0 : Int32))) (P2 : Fld Z h0 o0 "java/lang/String" "value" "[B" .null) (G0 : n0 ≤ o0) :
    MetW0 l Z consts_1 (⟨"java/lang/String", "<init>", "([CIILjava/lang/Void;)V"⟩ : MethodName) jdk_42_method_149_code 6 none ({ frames := 1, cells := 4, slots := 8, locals := 12 } : Room) #[(.ref o0), (.ref o1), (.int (0 : Int32)), (.int (0 : Int32)), .null] h0 n0 (fun h => Keep h0 h [o0] ∧ Exa Z h o0 "java/lang/String" ∧ Str Z h o0 []) := by
  refine metW_of (L := #[.val (.ref o0), .val (.ref o1), .val (.int (0 : Int32)), .val (.int (0 : Int32)), .val .null, .unset]) (plainFor_of_name pn_39) (fun m => by first | (simp [entryFrame, mkF, argsToLocals, Value.category]; done) | rfl) ?_
  intro p e s m below meth c T vm C X Y
  change Cx p (s.setVm vm) m meth c Z "java/lang/String" jdk_42_method_149_code 6 none "<init>" at C
  have sf1 := own_safeN (EL := consts_1) (Cx.alike C) P0 P2
  refine g_aloadN C X d3_0 (q := 1) rfl rfl rfl ?_
  refine g_initO C X (w17 hw) (w18 hw) (w19 hw) rfl d3_1 (q := 4) rfl (by decide) (by decide) ?_
  intro T2 X3
  refine g_iloadN C X3 d3_4 (q := 5) rfl rfl ?_
  refine g_ifN C X3 d3_5 (q := 8) rfl (by decide) ?_
  refine g_aloadN C X3 d3_8 (q := 9) rfl rfl rfl ?_
  refine gW_ldcC C X3 Y (own_EL hw) (vs := []) (z := 0) (w75 hw) (own_SA hw) (List.mem_of_getElem? (i := 2) rfl) ⟨by decide, by decide +kernel⟩ (by decide) rfl d3_9 (q := 11) rfl (nn := 0) (by decide) (by decide) (k' := 2) rfl (n' := 4) rfl (by decide) (by decide) ?_
  intro b4 b12 kA13 T5 h6 vm7 C X8 Y9 E10 R11 f14 f15 f16 f17 sf18
  have O19 := O.ext E10
  have F20 : Str Z h6 b4 [] := ⟨b12, kA13, f14, f16, f15, f17, by decide, by decide⟩
  refine g_getF C X8 (host := "") (Or.inl (w34 hw)) Via.refl f16 d3_11 (q := 14) rfl ?_
  intro T21 X22
  have f23 := (P2.ext E10)
  have f24 := (P0.ext E10)
  refine g_putF C X22 (host := "") (Or.inl (w34 hw)) Via.refl f23 f24 (Or.inr ⟨(w35 hw), rfl, rfl⟩) (w8 hw) (ty := (.array .byte)) (by decide) rfl rfl d3_14 (q := 17) rfl G0 ?_
  intro T25 h27 X26 W28
  have FW28 := Fld.same W28 f23
  have Y29 := Wx.wr Y9 W28 (CHr.safe R11 P0.lt sf1)
  have O30 := O19.wr W28 G0
  refine g_aloadN C X26 d3_17 (q := 18) rfl rfl rfl ?_
  refine gW_ldcC C X26 Y29 (own_EL hw) (vs := []) (z := 0) (w75 hw) (own_SA hw) (List.mem_of_getElem? (i := 2) rfl) ⟨by decide, by decide +kernel⟩ (by decide) rfl d3_18 (q := 20) rfl (nn := 0) (by decide) (by decide) (k' := 4) rfl (n' := 8) rfl (by decide) (by decide) ?_
  intro b31 b39 kA40 T32 h33 vm34 C X35 Y36 E37 R38 f41 f42 f43 f44 sf45
  have O46 := O30.ext E37
  have F47 : Str Z h33 b31 [] := ⟨b39, kA40, f41, f43, f42, f44, by decide, by decide⟩
  refine g_getF C X35 (host := "") (Or.inl (w32 hw)) Via.refl f42 d3_20 (q := 23) rfl ?_
  intro T48 X49
  have f50 := (((P1.ext E10).other W28 (Or.inr (slot_ne (Or.inr (w33 hw)) (Or.inr (w35 hw)) (by decide) (t := .byte) (t' := (.array .byte)) (by decide) (by decide)))).ext E37)
  have f51 := ((f24.wr W28).ext E37)
  refine g_putF C X49 (host := "") (Or.inl (w32 hw)) Via.refl f50 f51 (Or.inr ⟨(w33 hw), rfl, rfl⟩) (w8 hw) (ty := .byte) (by decide) rfl rfl d3_23 (q := 26) rfl G0 ?_
  intro T52 h54 X53 W55
  have FW55 := Fld.same W55 f50
  have Y56 := Wx.wr Y36 W55 (CHr.safe R38 (Nat.lt_of_lt_of_le P0.lt (Nat.le_trans E10.1 (Nat.le_of_eq (Wr.size W28).symm))) (Wx.safeW Y9 (CHr.safe R11 P0.lt sf1) W28 (CHr.safe R11 P0.lt sf1)))
  have O57 := O46.wr W55 G0
  have f58 := (f51.wr W55)
  have f59 := ((FW28.ext E37).other W55 (Or.inr (slot_ne (Or.inr (w35 hw)) (Or.inr (w33 hw)) (by decide) (t := (.array .byte)) (t' := .byte) (by decide) (by decide))))
  have f60 := (((f17.other W28 (Ne.symm (sf18 _ (CHr.safe R11 P0.lt sf1)).2)).ext E37).other W55 (Ne.symm (sf18 _ (CHr.safe R11 P0.lt sf1)).2))
  have F61 : Str Z h54 o0 [] := ⟨b12, _, f58, f59, FW55, f60, by decide, by decide⟩
  exact gW_retV C X53 Y56 (own_EL hw) d3_26 (by decide) (by decide) ⟨rfl, (((((Keep.refl h0 [o0]).ext E10).wr W28 (Or.inl (List.mem_of_getElem? (i := 0) rfl))).ext E37).wr W55 (Or.inl (List.mem_of_getElem? (i := 0) rfl))), f58, F61⟩
set_option maxRecDepth 65536 in
set_option maxHeartbeats 40000000 in
theorem rm_str1_0 {l : Launch} {Z : State} {a0 : Array Value} (hw : ∀ d ∈ tables_1, d.before a0 Z = true) {a__VALUES : Addr} {a_H2 : Addr} {a_POSTGRESQL : Addr} {a_Dialect_H2__product : Addr} {a_Dialect_POSTGRESQL__product : Addr} {kc_a__VALUES : ClassId} {cz : Int32} {o0 : Addr} {o1 : Addr} {kc2 : ClassId} {h0 : Heap} {n0 : Nat} (O : Old Z n0 h0) (W : Wd Z a__VALUES a_H2 a_POSTGRESQL a_Dialect_H2__product a_Dialect_POSTGRESQL__product kc_a__VALUES cz)  (P0 : Exa Z h0 o0 "java/lang/String") (P1 : Fld Z h0 o0 "java/lang/String" "coder" "B" (.int (0 : Int32))) (P2 : Fld Z h0 o0 "java/lang/String" "value" "[B" .null) (P3 : Arv Z h0 o1 kc2 .char (0 : Int32) [] (.int (0 : Int32))) (G0 : n0 ≤ o0) (G1 : n0 ≤ o1) (N0_1 : o0 ≠ o1) :
    MetW0 l Z consts_1 (⟨"java/lang/String", "<init>", "([C)V"⟩ : MethodName) jdk_42_method_3_code 2 none ({ frames := 2, cells := 4, slots := 8, locals := 29 } : Room) #[(.ref o0), (.ref o1)] h0 n0 (fun h => Keep h0 h [o0] ∧ Exa Z h o0 "java/lang/String" ∧ Str Z h o0 []) := by
  refine metW_of (L := #[.val (.ref o0), .val (.ref o1)]) (plainFor_of_name pn_39) (fun m => by first | (simp [entryFrame, mkF, argsToLocals, Value.category]; done) | rfl) ?_
  intro p e s m below meth c T vm C X Y
  change Cx p (s.setVm vm) m meth c Z "java/lang/String" jdk_42_method_3_code 2 none "<init>" at C
  have sf1 := own_safeN (EL := consts_1) (Cx.alike C) P0 P2
  refine g_aloadN C X d2_0 (q := 1) rfl rfl rfl ?_
  refine g_aloadN C X d2_1 (q := 2) rfl rfl rfl ?_
  refine g_iconst C X d2_2 (q := 3) rfl (z := (0 : Int32)) rfl ?_
  refine g_aloadN C X d2_3 (q := 4) rfl rfl rfl ?_
  refine g_alen C X P3 d2_4 (q := 5) rfl ?_
  refine g_aconstNull C X d2_5 (q := 6) rfl ?_
  refine gW_callI0 C X Y (own_EL hw) (y := (⟨"java/lang/String", "<init>", "([CIILjava/lang/Void;)V"⟩ : MethodName)) (a := o0) (by decide) rfl rfl (w13 hw) (w14 hw) (w16 hw) (w9 hw) (rm_str4_0 hw (o0 := o0) (o1 := o1) O W P0 P1 P2 G0) (W := 0) (by decide) (by decide) (k' := 4) rfl (n' := 8) rfl (by decide) (by decide) rfl pd_62 (argsL := [(.ref o1), (.int (0 : Int32)), (.int (0 : Int32)), .null]) rfl (rest := []) rfl rfl rfl d2_6 (q := 9) rfl ?_
  rintro T2 h4 vm8 C X3 Y9 R10 ⟨K5, f6, f7⟩
  have O11 := O.keep K5 (allS G0 all0)
  exact gW_retV C X3 Y9 (own_EL hw) d2_9 (by decide) (by decide) ⟨rfl, ((Keep.refl h0 [o0]).trans K5 (allS (Or.inl (List.mem_of_getElem? (i := 0) rfl)) all0)), f6, f7⟩
set_option maxRecDepth 65536 in
set_option maxHeartbeats 40000000 in
theorem rmJ318 {l : Launch} {Z : State} {a0 : Array Value} (hw : ∀ d ∈ tables_1, d.before a0 Z = true) {a__VALUES : Addr} {a_H2 : Addr} {a_POSTGRESQL : Addr} {a_Dialect_H2__product : Addr} {a_Dialect_POSTGRESQL__product : Addr} {kc_a__VALUES : ClassId} {cz : Int32} {q0 q1 q2 q3 qm qn : Int32} {qf : Int64} {aw : Addr} {qk : Int32} {x0 x1 x2 x3 x4 x5 x6 x7 x8 x9 x10 x11 : Int32} {kw : ClassId}  {n0 : Nat} {p : Program} {e : Env} {s : State} {m : MethodId} {below : List Frame} {meth : Method} {c : Code} {T : State} {vm : Vm} {h : Heap} {as' : Array Value} (C : Cx p (s.setVm vm) m meth c Z "com/example/sober_repository/soberrepository/DialectOfPinLaw" code 13 (some .boolean) "law") (X : St p l e room_1 (s.setVm vm) m as' below meth c n0 T h 1 12) (Y : Wx Z consts_1 s vm h) (O : Old Z n0 h) (W : Wd Z a__VALUES a_H2 a_POSTGRESQL a_Dialect_H2__product a_Dialect_POSTGRESQL__product kc_a__VALUES cz) (Vw : Arv Z h aw kw .char (12 : Int32) [(.int x0), (.int x1), (.int x2), (.int x3), (.int x4), (.int x5), (.int x6), (.int x7), (.int x8), (.int x9), (.int x10), (.int x11)] (.int 0)) (gw : n0 ≤ aw) (lx0 : 0 ≤ x0.toInt) (ux0 : x0.toInt ≤ 255) (lx1 : 0 ≤ x1.toInt) (ux1 : x1.toInt ≤ 255) (lx2 : 0 ≤ x2.toInt) (ux2 : x2.toInt ≤ 255) (lx3 : 0 ≤ x3.toInt) (ux3 : x3.toInt ≤ 255) (lx4 : 0 ≤ x4.toInt) (ux4 : x4.toInt ≤ 255) (lx5 : 0 ≤ x5.toInt) (ux5 : x5.toInt ≤ 255) (lx6 : 0 ≤ x6.toInt) (ux6 : x6.toInt ≤ 255) (lx7 : 0 ≤ x7.toInt) (ux7 : x7.toInt ≤ 255) (lx8 : 0 ≤ x8.toInt) (ux8 : x8.toInt ≤ 255) (lx9 : 0 ≤ x9.toInt) (ux9 : x9.toInt ≤ 255) (lx10 : 0 ≤ x10.toInt) (ux10 : x10.toInt ≤ 255) (lx11 : 0 ≤ x11.toInt) (ux11 : x11.toInt ≤ 255) (lk : 0 ≤ qk.toInt) (uk : qk.toInt ≤ 11) :
    Goes p e below (FinW Z consts_1 (fun v h => ∃ w, v = some w ∧ (fun v h => v = .int 1 ∧ True) w h) s n0 24 3264) (T.setTop (mkF m 318 #[.val (.int q0), .val (.int q1), .val (.int q2), .val (.int q3), .val (.long qf), .second, .val (.int qm), .val (.ref aw), .val (.int qn), .val (.int qk), .unset, .unset, .unset] [])) := by
  have Yw := Yar.of Vw
  rcases own_split12 lk (by omega) with rfl | rfl | rfl | rfl | rfl | rfl | rfl | rfl | rfl | rfl | rfl | rfl
  · refine g_iload C X at_318 (q := 320) rfl rfl ?_
    refine g_newP C X (w1 hw) rfl at_320 (q := 322) rfl (by decide) (cap := 0) (by decide) (by decide) (k' := 2) rfl (n' := 12) rfl (by decide) (by decide) ?_
    intro T2 h3 kA4 b1 g6 X5 E7 V8
    have ge9 : n0 ≤ b1 := own_ge O g6
    have Y10 := Wx.ext Y E7
    have O11 := O.ext E7
    have Y12 := Yar.of V8
    refine g_astore C X5 at_322 (q := 324) rfl rfl (L' := #[.val (.int q0), .val (.int q1), .val (.int q2), .val (.int q3), .val (.long qf), .second, .val (.int qm), .val (.ref aw), .val (.int qn), .val (.int (0 : Int32)), .val (.ref b1), .unset, .unset]) rfl ?_
    refine g_iload C X5 at_324 (q := 326) rfl rfl ?_
    refine g_ifY C X5 at_326 (by decide) (q := 337) (by decide) (by decide) ?_
    refine g_iload C X5 at_337 (q := 339) rfl rfl ?_
    refine g_iconst C X5 at_339 (q := 340) rfl (z := (1 : Int32)) rfl ?_
    refine g_icY C X5 at_340 (by decide) (q := 351) (by decide) (by decide) ?_
    refine g_iload C X5 at_351 (q := 353) rfl rfl ?_
    refine g_iconst C X5 at_353 (q := 354) rfl (z := (2 : Int32)) rfl ?_
    refine g_icY C X5 at_354 (by decide) (q := 365) (by decide) (by decide) ?_
    refine g_iload C X5 at_365 (q := 367) rfl rfl ?_
    refine g_iconst C X5 at_367 (q := 368) rfl (z := (3 : Int32)) rfl ?_
    refine g_icY C X5 at_368 (by decide) (q := 379) (by decide) (by decide) ?_
    refine g_iload C X5 at_379 (q := 381) rfl rfl ?_
    refine g_iconst C X5 at_381 (q := 382) rfl (z := (4 : Int32)) rfl ?_
    refine g_icY C X5 at_382 (by decide) (q := 393) (by decide) (by decide) ?_
    refine g_iload C X5 at_393 (q := 395) rfl rfl ?_
    refine g_iconst C X5 at_395 (q := 396) rfl (z := (5 : Int32)) rfl ?_
    refine g_icY C X5 at_396 (by decide) (q := 407) (by decide) (by decide) ?_
    refine g_iload C X5 at_407 (q := 409) rfl rfl ?_
    refine g_bipush C X5 at_409 (q := 411) rfl (z := (6 : Int32)) rfl ?_
    refine g_icY C X5 at_411 (by decide) (q := 424) (by decide) (by decide) ?_
    refine g_iload C X5 at_424 (q := 426) rfl rfl ?_
    refine g_bipush C X5 at_426 (q := 428) rfl (z := (7 : Int32)) rfl ?_
    refine g_icY C X5 at_428 (by decide) (q := 441) (by decide) (by decide) ?_
    refine g_iload C X5 at_441 (q := 443) rfl rfl ?_
    refine g_bipush C X5 at_443 (q := 445) rfl (z := (8 : Int32)) rfl ?_
    refine g_icY C X5 at_445 (by decide) (q := 458) (by decide) (by decide) ?_
    refine g_iload C X5 at_458 (q := 460) rfl rfl ?_
    refine g_bipush C X5 at_460 (q := 462) rfl (z := (9 : Int32)) rfl ?_
    refine g_icY C X5 at_462 (by decide) (q := 475) (by decide) (by decide) ?_
    refine g_iload C X5 at_475 (q := 477) rfl rfl ?_
    refine g_bipush C X5 at_477 (q := 479) rfl (z := (10 : Int32)) rfl ?_
    refine g_icY C X5 at_479 (by decide) (q := 492) (by decide) (by decide) ?_
    refine g_iload C X5 at_492 (q := 494) rfl rfl ?_
    refine g_bipush C X5 at_494 (q := 496) rfl (z := (11 : Int32)) rfl ?_
    refine g_icY C X5 at_496 (by decide) (q := 509) (by decide) (by decide) ?_
    refine g_new C X5 (w7 hw) (w8 hw) (w9 hw) at_509 (q := 512) rfl (k' := 3) rfl (n' := 16) rfl (by decide) (by decide) ?_
    intro T14 h15 b13 g17 X16 E18 A19 D20
    have ge21 : n0 ≤ b13 := own_ge O11 g17
    have sf22 := Wx.safe0 Y10 (Nat.le_of_eq g17.symm)
    have Y23 := Wx.ext Y10 E18
    have O24 := O11.ext E18
    have f25 : Fld Z h15 b13 "java/lang/String" "coder" "B" (.int (0 : Int32)) := D20 (Or.inr (w33 hw)) (ty := .byte) (by decide)
    have f26 : Fld Z h15 b13 "java/lang/String" "value" "[B" .null := D20 (Or.inr (w35 hw)) (ty := (.array .byte)) (by decide)
    refine g_dup C X16 at_512 (q := 513) rfl rfl ?_
    refine g_aload C X16 at_513 (q := 515) rfl rfl rfl ?_
    have f27 := (V8.ext E18)
    refine gW_callI0 C X16 Y23 (own_EL hw) (y := (⟨"java/lang/String", "<init>", "([C)V"⟩ : MethodName)) (a := b13) (by decide) rfl rfl (w10 hw) (w11 hw) (w12 hw) (w9 hw) (rm_str1_0 hw (o0 := b13) (o1 := b1) (kc2 := kA4) O24 W A19 f25 f26 f27 ge21 ge9 (Ne.symm (own_ne V8.lt g17))) (W := 1) (by decide) (by decide) (k' := 7) rfl (n' := 24) rfl (by decide) (by decide) rfl pd_64 (argsL := [(.ref b1)]) rfl (rest := [(.ref b13)]) rfl rfl rfl at_515 (q := 518) rfl ?_
    rintro T28 h30 vm34 C X29 Y35 R36 ⟨K31, f32, f33⟩
    have O37 := O24.keep K31 (allS ge21 all0)
    refine g_astore C X29 at_518 (q := 520) rfl rfl (L' := #[.val (.int q0), .val (.int q1), .val (.int q2), .val (.int q3), .val (.long qf), .second, .val (.int qm), .val (.ref aw), .val (.int qn), .val (.int (0 : Int32)), .val (.ref b1), .val (.ref b13), .unset]) rfl ?_
    exact rmJ520 hw C (St.mono X29 (by decide) (by decide)) Y35 O37 W f33 ge21
  · refine g_iload C X at_318 (q := 320) rfl rfl ?_
    refine g_newP C X (w1 hw) rfl at_320 (q := 322) rfl (by decide) (cap := 1) (by decide) (by decide) (k' := 2) rfl (n' := 13) rfl (by decide) (by decide) ?_
    intro T39 h40 kA41 b38 g43 X42 E44 V45
    have ge46 : n0 ≤ b38 := own_ge O g43
    have Y47 := Wx.ext Y E44
    have O48 := O.ext E44
    have V49 : Arv Z h40 b38 kA41 .char (1 : Int32) [(.int (0 : Int32))] (.int (0 : Int32)) := Arv.pad V45 (pad_rep [] _ 1)
    have Y50 := Yar.of V49
    refine g_astore C X42 at_322 (q := 324) rfl rfl (L' := #[.val (.int q0), .val (.int q1), .val (.int q2), .val (.int q3), .val (.long qf), .second, .val (.int qm), .val (.ref aw), .val (.int qn), .val (.int (1 : Int32)), .val (.ref b38), .unset, .unset]) rfl ?_
    refine g_iload C X42 at_324 (q := 326) rfl rfl ?_
    refine g_ifN C X42 at_326 (q := 329) rfl (by decide) ?_
    refine g_aload C X42 at_329 (q := 331) rfl rfl rfl ?_
    refine g_iconst C X42 at_331 (q := 332) rfl (z := (0 : Int32)) rfl ?_
    refine g_aload C X42 at_332 (q := 334) rfl rfl rfl ?_
    refine g_iconst C X42 at_334 (q := 335) rfl (z := (0 : Int32)) rfl ?_
    have f51 := (Vw.ext E44)
    refine g_caload C X42 f51 (by decide) (w := (.int x0)) rfl at_335 (q := 336) rfl ?_
    refine g_castore C X42 V49 (by decide) (i := 0) (by decide) (Nat.le_of_ble_eq_true rfl) (vs' := [(.int x0)]) (by rw [own_narC lx0 ux0 (by decide) (by decide)]; rfl) ge46 at_336 (q := 337) rfl ?_
    intro T52 h53 X54 W55 V56
    have Y57 := Wx.wr Y47 W55 (own_safeY (Cx.alike C) Y50 (by decide))
    have O58 := O48.wr W55 ge46
    refine g_iload C X54 at_337 (q := 339) rfl rfl ?_
    refine g_iconst C X54 at_339 (q := 340) rfl (z := (1 : Int32)) rfl ?_
    refine g_icY C X54 at_340 (by decide) (q := 351) (by decide) (by decide) ?_
    refine g_iload C X54 at_351 (q := 353) rfl rfl ?_
    refine g_iconst C X54 at_353 (q := 354) rfl (z := (2 : Int32)) rfl ?_
    refine g_icY C X54 at_354 (by decide) (q := 365) (by decide) (by decide) ?_
    refine g_iload C X54 at_365 (q := 367) rfl rfl ?_
    refine g_iconst C X54 at_367 (q := 368) rfl (z := (3 : Int32)) rfl ?_
    refine g_icY C X54 at_368 (by decide) (q := 379) (by decide) (by decide) ?_
    refine g_iload C X54 at_379 (q := 381) rfl rfl ?_
    refine g_iconst C X54 at_381 (q := 382) rfl (z := (4 : Int32)) rfl ?_
    refine g_icY C X54 at_382 (by decide) (q := 393) (by decide) (by decide) ?_
    refine g_iload C X54 at_393 (q := 395) rfl rfl ?_
    refine g_iconst C X54 at_395 (q := 396) rfl (z := (5 : Int32)) rfl ?_
    refine g_icY C X54 at_396 (by decide) (q := 407) (by decide) (by decide) ?_
    refine g_iload C X54 at_407 (q := 409) rfl rfl ?_
    refine g_bipush C X54 at_409 (q := 411) rfl (z := (6 : Int32)) rfl ?_
    refine g_icY C X54 at_411 (by decide) (q := 424) (by decide) (by decide) ?_
    refine g_iload C X54 at_424 (q := 426) rfl rfl ?_
    refine g_bipush C X54 at_426 (q := 428) rfl (z := (7 : Int32)) rfl ?_
    refine g_icY C X54 at_428 (by decide) (q := 441) (by decide) (by decide) ?_
    refine g_iload C X54 at_441 (q := 443) rfl rfl ?_
    refine g_bipush C X54 at_443 (q := 445) rfl (z := (8 : Int32)) rfl ?_
    refine g_icY C X54 at_445 (by decide) (q := 458) (by decide) (by decide) ?_
    refine g_iload C X54 at_458 (q := 460) rfl rfl ?_
    refine g_bipush C X54 at_460 (q := 462) rfl (z := (9 : Int32)) rfl ?_
    refine g_icY C X54 at_462 (by decide) (q := 475) (by decide) (by decide) ?_
    refine g_iload C X54 at_475 (q := 477) rfl rfl ?_
    refine g_bipush C X54 at_477 (q := 479) rfl (z := (10 : Int32)) rfl ?_
    refine g_icY C X54 at_479 (by decide) (q := 492) (by decide) (by decide) ?_
    refine g_iload C X54 at_492 (q := 494) rfl rfl ?_
    refine g_bipush C X54 at_494 (q := 496) rfl (z := (11 : Int32)) rfl ?_
    refine g_icY C X54 at_496 (by decide) (q := 509) (by decide) (by decide) ?_
    refine g_new C X54 (w7 hw) (w8 hw) (w9 hw) at_509 (q := 512) rfl (k' := 3) rfl (n' := 17) rfl (by decide) (by decide) ?_
    intro T60 h61 b59 g63 X62 E64 A65 D66
    have ge67 : n0 ≤ b59 := own_ge O58 g63
    have sf68 := Wx.safe0 Y57 (Nat.le_of_eq g63.symm)
    have Y69 := Wx.ext Y57 E64
    have O70 := O58.ext E64
    have f71 : Fld Z h61 b59 "java/lang/String" "coder" "B" (.int (0 : Int32)) := D66 (Or.inr (w33 hw)) (ty := .byte) (by decide)
    have f72 : Fld Z h61 b59 "java/lang/String" "value" "[B" .null := D66 (Or.inr (w35 hw)) (ty := (.array .byte)) (by decide)
    refine g_dup C X62 at_512 (q := 513) rfl rfl ?_
    refine g_aload C X62 at_513 (q := 515) rfl rfl rfl ?_
    have f73 := (V56.ext E64)
    refine g_strNew C X62 (cs := [x0]) (own_words hw) (w8 hw) (w10 hw) (w11 hw) A65 f72 f71 f73 (W.2.2.2.2.2.2.2.2.2.2.2.2.2.2.2.1.ext O70.2) W.2.2.2.2.2.2.2.2.2.2.2.2.2.2.2.2 (len := 1) rfl rfl (by decide) (by decide) (List.forall_mem_cons.mpr ⟨(own_ch lx0 ux0 (by decide) (by decide)), (fun _ z => nomatch z)⟩) ge67 (own_szO O70) (W := 1) (by decide) (by decide) (k' := 4) rfl (n' := 18) rfl (by decide) (by decide) rfl rfl at_515 (q := 518) rfl ?_
    intro T74 h75 X76 K77 F78
    have Y79 := Wx.keep Y69 K77 (sfS (Wx.safeE Y57 sf68 E64) sf0)
    have O80 := O70.keep K77 (allS ge67 all0)
    refine g_astore C X76 at_518 (q := 520) rfl rfl (L' := #[.val (.int q0), .val (.int q1), .val (.int q2), .val (.int q3), .val (.long qf), .second, .val (.int qm), .val (.ref aw), .val (.int qn), .val (.int (1 : Int32)), .val (.ref b38), .val (.ref b59), .unset]) rfl ?_
    exact rmJ520 hw C (St.mono X76 (by decide) (by decide)) Y79 O80 W F78 ge67
  · refine g_iload C X at_318 (q := 320) rfl rfl ?_
    refine g_newP C X (w1 hw) rfl at_320 (q := 322) rfl (by decide) (cap := 2) (by decide) (by decide) (k' := 2) rfl (n' := 14) rfl (by decide) (by decide) ?_
    intro T82 h83 kA84 b81 g86 X85 E87 V88
    have ge89 : n0 ≤ b81 := own_ge O g86
    have Y90 := Wx.ext Y E87
    have O91 := O.ext E87
    have V92 : Arv Z h83 b81 kA84 .char (2 : Int32) [(.int (0 : Int32)), (.int (0 : Int32))] (.int (0 : Int32)) := Arv.pad V88 (pad_rep [] _ 2)
    have Y93 := Yar.of V92
    refine g_astore C X85 at_322 (q := 324) rfl rfl (L' := #[.val (.int q0), .val (.int q1), .val (.int q2), .val (.int q3), .val (.long qf), .second, .val (.int qm), .val (.ref aw), .val (.int qn), .val (.int (2 : Int32)), .val (.ref b81), .unset, .unset]) rfl ?_
    refine g_iload C X85 at_324 (q := 326) rfl rfl ?_
    refine g_ifN C X85 at_326 (q := 329) rfl (by decide) ?_
    refine g_aload C X85 at_329 (q := 331) rfl rfl rfl ?_
    refine g_iconst C X85 at_331 (q := 332) rfl (z := (0 : Int32)) rfl ?_
    refine g_aload C X85 at_332 (q := 334) rfl rfl rfl ?_
    refine g_iconst C X85 at_334 (q := 335) rfl (z := (0 : Int32)) rfl ?_
    have f94 := (Vw.ext E87)
    refine g_caload C X85 f94 (by decide) (w := (.int x0)) rfl at_335 (q := 336) rfl ?_
    refine g_castore C X85 V92 (by decide) (i := 0) (by decide) (Nat.le_of_ble_eq_true rfl) (vs' := [(.int x0), (.int (0 : Int32))]) (by rw [own_narC lx0 ux0 (by decide) (by decide)]; rfl) ge89 at_336 (q := 337) rfl ?_
    intro T95 h96 X97 W98 V99
    have Y100 := Wx.wr Y90 W98 (own_safeY (Cx.alike C) Y93 (by decide))
    have O101 := O91.wr W98 ge89
    refine g_iload C X97 at_337 (q := 339) rfl rfl ?_
    refine g_iconst C X97 at_339 (q := 340) rfl (z := (1 : Int32)) rfl ?_
    refine g_icN C X97 at_340 (q := 343) rfl (by decide) ?_
    refine g_aload C X97 at_343 (q := 345) rfl rfl rfl ?_
    refine g_iconst C X97 at_345 (q := 346) rfl (z := (1 : Int32)) rfl ?_
    refine g_aload C X97 at_346 (q := 348) rfl rfl rfl ?_
    refine g_iconst C X97 at_348 (q := 349) rfl (z := (1 : Int32)) rfl ?_
    have f102 := (f94.other W98 (own_ne Vw.lt g86))
    refine g_caload C X97 f102 (by decide) (w := (.int x1)) rfl at_349 (q := 350) rfl ?_
    refine g_castore C X97 V99 (by decide) (i := 1) (by decide) (Nat.le_of_ble_eq_true rfl) (vs' := [(.int x0), (.int x1)]) (by rw [own_narC lx1 ux1 (by decide) (by decide)]; rfl) ge89 at_350 (q := 351) rfl ?_
    intro T103 h104 X105 W106 V107
    have f108 := (Y93.wr W98)
    have Y109 := Wx.wr Y100 W106 (own_safeY (Cx.alike C) f108 (by decide))
    have O110 := O101.wr W106 ge89
    refine g_iload C X105 at_351 (q := 353) rfl rfl ?_
    refine g_iconst C X105 at_353 (q := 354) rfl (z := (2 : Int32)) rfl ?_
    refine g_icY C X105 at_354 (by decide) (q := 365) (by decide) (by decide) ?_
    refine g_iload C X105 at_365 (q := 367) rfl rfl ?_
    refine g_iconst C X105 at_367 (q := 368) rfl (z := (3 : Int32)) rfl ?_
    refine g_icY C X105 at_368 (by decide) (q := 379) (by decide) (by decide) ?_
    refine g_iload C X105 at_379 (q := 381) rfl rfl ?_
    refine g_iconst C X105 at_381 (q := 382) rfl (z := (4 : Int32)) rfl ?_
    refine g_icY C X105 at_382 (by decide) (q := 393) (by decide) (by decide) ?_
    refine g_iload C X105 at_393 (q := 395) rfl rfl ?_
    refine g_iconst C X105 at_395 (q := 396) rfl (z := (5 : Int32)) rfl ?_
    refine g_icY C X105 at_396 (by decide) (q := 407) (by decide) (by decide) ?_
    refine g_iload C X105 at_407 (q := 409) rfl rfl ?_
    refine g_bipush C X105 at_409 (q := 411) rfl (z := (6 : Int32)) rfl ?_
    refine g_icY C X105 at_411 (by decide) (q := 424) (by decide) (by decide) ?_
    refine g_iload C X105 at_424 (q := 426) rfl rfl ?_
    refine g_bipush C X105 at_426 (q := 428) rfl (z := (7 : Int32)) rfl ?_
    refine g_icY C X105 at_428 (by decide) (q := 441) (by decide) (by decide) ?_
    refine g_iload C X105 at_441 (q := 443) rfl rfl ?_
    refine g_bipush C X105 at_443 (q := 445) rfl (z := (8 : Int32)) rfl ?_
    refine g_icY C X105 at_445 (by decide) (q := 458) (by decide) (by decide) ?_
    refine g_iload C X105 at_458 (q := 460) rfl rfl ?_
    refine g_bipush C X105 at_460 (q := 462) rfl (z := (9 : Int32)) rfl ?_
    refine g_icY C X105 at_462 (by decide) (q := 475) (by decide) (by decide) ?_
    refine g_iload C X105 at_475 (q := 477) rfl rfl ?_
    refine g_bipush C X105 at_477 (q := 479) rfl (z := (10 : Int32)) rfl ?_
    refine g_icY C X105 at_479 (by decide) (q := 492) (by decide) (by decide) ?_
    refine g_iload C X105 at_492 (q := 494) rfl rfl ?_
    refine g_bipush C X105 at_494 (q := 496) rfl (z := (11 : Int32)) rfl ?_
    refine g_icY C X105 at_496 (by decide) (q := 509) (by decide) (by decide) ?_
    refine g_new C X105 (w7 hw) (w8 hw) (w9 hw) at_509 (q := 512) rfl (k' := 3) rfl (n' := 18) rfl (by decide) (by decide) ?_
    intro T112 h113 b111 g115 X114 E116 A117 D118
    have ge119 : n0 ≤ b111 := own_ge O110 g115
    have sf120 := Wx.safe0 Y109 (Nat.le_of_eq g115.symm)
    have Y121 := Wx.ext Y109 E116
    have O122 := O110.ext E116
    have f123 : Fld Z h113 b111 "java/lang/String" "coder" "B" (.int (0 : Int32)) := D118 (Or.inr (w33 hw)) (ty := .byte) (by decide)
    have f124 : Fld Z h113 b111 "java/lang/String" "value" "[B" .null := D118 (Or.inr (w35 hw)) (ty := (.array .byte)) (by decide)
    refine g_dup C X114 at_512 (q := 513) rfl rfl ?_
    refine g_aload C X114 at_513 (q := 515) rfl rfl rfl ?_
    have f125 := (V107.ext E116)
    refine g_strNew C X114 (cs := [x0, x1]) (own_words hw) (w8 hw) (w10 hw) (w11 hw) A117 f124 f123 f125 (W.2.2.2.2.2.2.2.2.2.2.2.2.2.2.2.1.ext O122.2) W.2.2.2.2.2.2.2.2.2.2.2.2.2.2.2.2 (len := 2) rfl rfl (by decide) (by decide) (List.forall_mem_cons.mpr ⟨(own_ch lx0 ux0 (by decide) (by decide)), (List.forall_mem_cons.mpr ⟨(own_ch lx1 ux1 (by decide) (by decide)), (fun _ z => nomatch z)⟩)⟩) ge119 (own_szO O122) (W := 1) (by decide) (by decide) (k' := 4) rfl (n' := 20) rfl (by decide) (by decide) rfl rfl at_515 (q := 518) rfl ?_
    intro T126 h127 X128 K129 F130
    have Y131 := Wx.keep Y121 K129 (sfS (Wx.safeE Y109 sf120 E116) sf0)
    have O132 := O122.keep K129 (allS ge119 all0)
    refine g_astore C X128 at_518 (q := 520) rfl rfl (L' := #[.val (.int q0), .val (.int q1), .val (.int q2), .val (.int q3), .val (.long qf), .second, .val (.int qm), .val (.ref aw), .val (.int qn), .val (.int (2 : Int32)), .val (.ref b81), .val (.ref b111), .unset]) rfl ?_
    exact rmJ520 hw C (St.mono X128 (by decide) (by decide)) Y131 O132 W F130 ge119
  · refine g_iload C X at_318 (q := 320) rfl rfl ?_
    refine g_newP C X (w1 hw) rfl at_320 (q := 322) rfl (by decide) (cap := 3) (by decide) (by decide) (k' := 2) rfl (n' := 15) rfl (by decide) (by decide) ?_
    intro T134 h135 kA136 b133 g138 X137 E139 V140
    have ge141 : n0 ≤ b133 := own_ge O g138
    have Y142 := Wx.ext Y E139
    have O143 := O.ext E139
    have V144 : Arv Z h135 b133 kA136 .char (3 : Int32) [(.int (0 : Int32)), (.int (0 : Int32)), (.int (0 : Int32))] (.int (0 : Int32)) := Arv.pad V140 (pad_rep [] _ 3)
    have Y145 := Yar.of V144
    refine g_astore C X137 at_322 (q := 324) rfl rfl (L' := #[.val (.int q0), .val (.int q1), .val (.int q2), .val (.int q3), .val (.long qf), .second, .val (.int qm), .val (.ref aw), .val (.int qn), .val (.int (3 : Int32)), .val (.ref b133), .unset, .unset]) rfl ?_
    refine g_iload C X137 at_324 (q := 326) rfl rfl ?_
    refine g_ifN C X137 at_326 (q := 329) rfl (by decide) ?_
    refine g_aload C X137 at_329 (q := 331) rfl rfl rfl ?_
    refine g_iconst C X137 at_331 (q := 332) rfl (z := (0 : Int32)) rfl ?_
    refine g_aload C X137 at_332 (q := 334) rfl rfl rfl ?_
    refine g_iconst C X137 at_334 (q := 335) rfl (z := (0 : Int32)) rfl ?_
    have f146 := (Vw.ext E139)
    refine g_caload C X137 f146 (by decide) (w := (.int x0)) rfl at_335 (q := 336) rfl ?_
    refine g_castore C X137 V144 (by decide) (i := 0) (by decide) (Nat.le_of_ble_eq_true rfl) (vs' := [(.int x0), (.int (0 : Int32)), (.int (0 : Int32))]) (by rw [own_narC lx0 ux0 (by decide) (by decide)]; rfl) ge141 at_336 (q := 337) rfl ?_
    intro T147 h148 X149 W150 V151
    have Y152 := Wx.wr Y142 W150 (own_safeY (Cx.alike C) Y145 (by decide))
    have O153 := O143.wr W150 ge141
    refine g_iload C X149 at_337 (q := 339) rfl rfl ?_
    refine g_iconst C X149 at_339 (q := 340) rfl (z := (1 : Int32)) rfl ?_
    refine g_icN C X149 at_340 (q := 343) rfl (by decide) ?_
    refine g_aload C X149 at_343 (q := 345) rfl rfl rfl ?_
    refine g_iconst C X149 at_345 (q := 346) rfl (z := (1 : Int32)) rfl ?_
    refine g_aload C X149 at_346 (q := 348) rfl rfl rfl ?_
    refine g_iconst C X149 at_348 (q := 349) rfl (z := (1 : Int32)) rfl ?_
    have f154 := (f146.other W150 (own_ne Vw.lt g138))
    refine g_caload C X149 f154 (by decide) (w := (.int x1)) rfl at_349 (q := 350) rfl ?_
    refine g_castore C X149 V151 (by decide) (i := 1) (by decide) (Nat.le_of_ble_eq_true rfl) (vs' := [(.int x0), (.int x1), (.int (0 : Int32))]) (by rw [own_narC lx1 ux1 (by decide) (by decide)]; rfl) ge141 at_350 (q := 351) rfl ?_
    intro T155 h156 X157 W158 V159
    have f160 := (Y145.wr W150)
    have Y161 := Wx.wr Y152 W158 (own_safeY (Cx.alike C) f160 (by decide))
    have O162 := O153.wr W158 ge141
    refine g_iload C X157 at_351 (q := 353) rfl rfl ?_
    refine g_iconst C X157 at_353 (q := 354) rfl (z := (2 : Int32)) rfl ?_
    refine g_icN C X157 at_354 (q := 357) rfl (by decide) ?_
    refine g_aload C X157 at_357 (q := 359) rfl rfl rfl ?_
    refine g_iconst C X157 at_359 (q := 360) rfl (z := (2 : Int32)) rfl ?_
    refine g_aload C X157 at_360 (q := 362) rfl rfl rfl ?_
    refine g_iconst C X157 at_362 (q := 363) rfl (z := (2 : Int32)) rfl ?_
    have f163 := (f154.other W158 (own_ne Vw.lt g138))
    refine g_caload C X157 f163 (by decide) (w := (.int x2)) rfl at_363 (q := 364) rfl ?_
    refine g_castore C X157 V159 (by decide) (i := 2) (by decide) (Nat.le_of_ble_eq_true rfl) (vs' := [(.int x0), (.int x1), (.int x2)]) (by rw [own_narC lx2 ux2 (by decide) (by decide)]; rfl) ge141 at_364 (q := 365) rfl ?_
    intro T164 h165 X166 W167 V168
    have f169 := (f160.wr W158)
    have Y170 := Wx.wr Y161 W167 (own_safeY (Cx.alike C) f169 (by decide))
    have O171 := O162.wr W167 ge141
    refine g_iload C X166 at_365 (q := 367) rfl rfl ?_
    refine g_iconst C X166 at_367 (q := 368) rfl (z := (3 : Int32)) rfl ?_
    refine g_icY C X166 at_368 (by decide) (q := 379) (by decide) (by decide) ?_
    refine g_iload C X166 at_379 (q := 381) rfl rfl ?_
    refine g_iconst C X166 at_381 (q := 382) rfl (z := (4 : Int32)) rfl ?_
    refine g_icY C X166 at_382 (by decide) (q := 393) (by decide) (by decide) ?_
    refine g_iload C X166 at_393 (q := 395) rfl rfl ?_
    refine g_iconst C X166 at_395 (q := 396) rfl (z := (5 : Int32)) rfl ?_
    refine g_icY C X166 at_396 (by decide) (q := 407) (by decide) (by decide) ?_
    refine g_iload C X166 at_407 (q := 409) rfl rfl ?_
    refine g_bipush C X166 at_409 (q := 411) rfl (z := (6 : Int32)) rfl ?_
    refine g_icY C X166 at_411 (by decide) (q := 424) (by decide) (by decide) ?_
    refine g_iload C X166 at_424 (q := 426) rfl rfl ?_
    refine g_bipush C X166 at_426 (q := 428) rfl (z := (7 : Int32)) rfl ?_
    refine g_icY C X166 at_428 (by decide) (q := 441) (by decide) (by decide) ?_
    refine g_iload C X166 at_441 (q := 443) rfl rfl ?_
    refine g_bipush C X166 at_443 (q := 445) rfl (z := (8 : Int32)) rfl ?_
    refine g_icY C X166 at_445 (by decide) (q := 458) (by decide) (by decide) ?_
    refine g_iload C X166 at_458 (q := 460) rfl rfl ?_
    refine g_bipush C X166 at_460 (q := 462) rfl (z := (9 : Int32)) rfl ?_
    refine g_icY C X166 at_462 (by decide) (q := 475) (by decide) (by decide) ?_
    refine g_iload C X166 at_475 (q := 477) rfl rfl ?_
    refine g_bipush C X166 at_477 (q := 479) rfl (z := (10 : Int32)) rfl ?_
    refine g_icY C X166 at_479 (by decide) (q := 492) (by decide) (by decide) ?_
    refine g_iload C X166 at_492 (q := 494) rfl rfl ?_
    refine g_bipush C X166 at_494 (q := 496) rfl (z := (11 : Int32)) rfl ?_
    refine g_icY C X166 at_496 (by decide) (q := 509) (by decide) (by decide) ?_
    refine g_new C X166 (w7 hw) (w8 hw) (w9 hw) at_509 (q := 512) rfl (k' := 3) rfl (n' := 19) rfl (by decide) (by decide) ?_
    intro T173 h174 b172 g176 X175 E177 A178 D179
    have ge180 : n0 ≤ b172 := own_ge O171 g176
    have sf181 := Wx.safe0 Y170 (Nat.le_of_eq g176.symm)
    have Y182 := Wx.ext Y170 E177
    have O183 := O171.ext E177
    have f184 : Fld Z h174 b172 "java/lang/String" "coder" "B" (.int (0 : Int32)) := D179 (Or.inr (w33 hw)) (ty := .byte) (by decide)
    have f185 : Fld Z h174 b172 "java/lang/String" "value" "[B" .null := D179 (Or.inr (w35 hw)) (ty := (.array .byte)) (by decide)
    refine g_dup C X175 at_512 (q := 513) rfl rfl ?_
    refine g_aload C X175 at_513 (q := 515) rfl rfl rfl ?_
    have f186 := (V168.ext E177)
    refine g_strNew C X175 (cs := [x0, x1, x2]) (own_words hw) (w8 hw) (w10 hw) (w11 hw) A178 f185 f184 f186 (W.2.2.2.2.2.2.2.2.2.2.2.2.2.2.2.1.ext O183.2) W.2.2.2.2.2.2.2.2.2.2.2.2.2.2.2.2 (len := 3) rfl rfl (by decide) (by decide) (List.forall_mem_cons.mpr ⟨(own_ch lx0 ux0 (by decide) (by decide)), (List.forall_mem_cons.mpr ⟨(own_ch lx1 ux1 (by decide) (by decide)), (List.forall_mem_cons.mpr ⟨(own_ch lx2 ux2 (by decide) (by decide)), (fun _ z => nomatch z)⟩)⟩)⟩) ge180 (own_szO O183) (W := 1) (by decide) (by decide) (k' := 4) rfl (n' := 22) rfl (by decide) (by decide) rfl rfl at_515 (q := 518) rfl ?_
    intro T187 h188 X189 K190 F191
    have Y192 := Wx.keep Y182 K190 (sfS (Wx.safeE Y170 sf181 E177) sf0)
    have O193 := O183.keep K190 (allS ge180 all0)
    refine g_astore C X189 at_518 (q := 520) rfl rfl (L' := #[.val (.int q0), .val (.int q1), .val (.int q2), .val (.int q3), .val (.long qf), .second, .val (.int qm), .val (.ref aw), .val (.int qn), .val (.int (3 : Int32)), .val (.ref b133), .val (.ref b172), .unset]) rfl ?_
    exact rmJ520 hw C (St.mono X189 (by decide) (by decide)) Y192 O193 W F191 ge180
  · refine g_iload C X at_318 (q := 320) rfl rfl ?_
    refine g_newP C X (w1 hw) rfl at_320 (q := 322) rfl (by decide) (cap := 4) (by decide) (by decide) (k' := 2) rfl (n' := 16) rfl (by decide) (by decide) ?_
    intro T195 h196 kA197 b194 g199 X198 E200 V201
    have ge202 : n0 ≤ b194 := own_ge O g199
    have Y203 := Wx.ext Y E200
    have O204 := O.ext E200
    have V205 : Arv Z h196 b194 kA197 .char (4 : Int32) [(.int (0 : Int32)), (.int (0 : Int32)), (.int (0 : Int32)), (.int (0 : Int32))] (.int (0 : Int32)) := Arv.pad V201 (pad_rep [] _ 4)
    have Y206 := Yar.of V205
    refine g_astore C X198 at_322 (q := 324) rfl rfl (L' := #[.val (.int q0), .val (.int q1), .val (.int q2), .val (.int q3), .val (.long qf), .second, .val (.int qm), .val (.ref aw), .val (.int qn), .val (.int (4 : Int32)), .val (.ref b194), .unset, .unset]) rfl ?_
    refine g_iload C X198 at_324 (q := 326) rfl rfl ?_
    refine g_ifN C X198 at_326 (q := 329) rfl (by decide) ?_
    refine g_aload C X198 at_329 (q := 331) rfl rfl rfl ?_
    refine g_iconst C X198 at_331 (q := 332) rfl (z := (0 : Int32)) rfl ?_
    refine g_aload C X198 at_332 (q := 334) rfl rfl rfl ?_
    refine g_iconst C X198 at_334 (q := 335) rfl (z := (0 : Int32)) rfl ?_
    have f207 := (Vw.ext E200)
    refine g_caload C X198 f207 (by decide) (w := (.int x0)) rfl at_335 (q := 336) rfl ?_
    refine g_castore C X198 V205 (by decide) (i := 0) (by decide) (Nat.le_of_ble_eq_true rfl) (vs' := [(.int x0), (.int (0 : Int32)), (.int (0 : Int32)), (.int (0 : Int32))]) (by rw [own_narC lx0 ux0 (by decide) (by decide)]; rfl) ge202 at_336 (q := 337) rfl ?_
    intro T208 h209 X210 W211 V212
    have Y213 := Wx.wr Y203 W211 (own_safeY (Cx.alike C) Y206 (by decide))
    have O214 := O204.wr W211 ge202
    refine g_iload C X210 at_337 (q := 339) rfl rfl ?_
    refine g_iconst C X210 at_339 (q := 340) rfl (z := (1 : Int32)) rfl ?_
    refine g_icN C X210 at_340 (q := 343) rfl (by decide) ?_
    refine g_aload C X210 at_343 (q := 345) rfl rfl rfl ?_
    refine g_iconst C X210 at_345 (q := 346) rfl (z := (1 : Int32)) rfl ?_
    refine g_aload C X210 at_346 (q := 348) rfl rfl rfl ?_
    refine g_iconst C X210 at_348 (q := 349) rfl (z := (1 : Int32)) rfl ?_
    have f215 := (f207.other W211 (own_ne Vw.lt g199))
    refine g_caload C X210 f215 (by decide) (w := (.int x1)) rfl at_349 (q := 350) rfl ?_
    refine g_castore C X210 V212 (by decide) (i := 1) (by decide) (Nat.le_of_ble_eq_true rfl) (vs' := [(.int x0), (.int x1), (.int (0 : Int32)), (.int (0 : Int32))]) (by rw [own_narC lx1 ux1 (by decide) (by decide)]; rfl) ge202 at_350 (q := 351) rfl ?_
    intro T216 h217 X218 W219 V220
    have f221 := (Y206.wr W211)
    have Y222 := Wx.wr Y213 W219 (own_safeY (Cx.alike C) f221 (by decide))
    have O223 := O214.wr W219 ge202
    refine g_iload C X218 at_351 (q := 353) rfl rfl ?_
    refine g_iconst C X218 at_353 (q := 354) rfl (z := (2 : Int32)) rfl ?_
    refine g_icN C X218 at_354 (q := 357) rfl (by decide) ?_
    refine g_aload C X218 at_357 (q := 359) rfl rfl rfl ?_
    refine g_iconst C X218 at_359 (q := 360) rfl (z := (2 : Int32)) rfl ?_
    refine g_aload C X218 at_360 (q := 362) rfl rfl rfl ?_
    refine g_iconst C X218 at_362 (q := 363) rfl (z := (2 : Int32)) rfl ?_
    have f224 := (f215.other W219 (own_ne Vw.lt g199))
    refine g_caload C X218 f224 (by decide) (w := (.int x2)) rfl at_363 (q := 364) rfl ?_
    refine g_castore C X218 V220 (by decide) (i := 2) (by decide) (Nat.le_of_ble_eq_true rfl) (vs' := [(.int x0), (.int x1), (.int x2), (.int (0 : Int32))]) (by rw [own_narC lx2 ux2 (by decide) (by decide)]; rfl) ge202 at_364 (q := 365) rfl ?_
    intro T225 h226 X227 W228 V229
    have f230 := (f221.wr W219)
    have Y231 := Wx.wr Y222 W228 (own_safeY (Cx.alike C) f230 (by decide))
    have O232 := O223.wr W228 ge202
    refine g_iload C X227 at_365 (q := 367) rfl rfl ?_
    refine g_iconst C X227 at_367 (q := 368) rfl (z := (3 : Int32)) rfl ?_
    refine g_icN C X227 at_368 (q := 371) rfl (by decide) ?_
    refine g_aload C X227 at_371 (q := 373) rfl rfl rfl ?_
    refine g_iconst C X227 at_373 (q := 374) rfl (z := (3 : Int32)) rfl ?_
    refine g_aload C X227 at_374 (q := 376) rfl rfl rfl ?_
    refine g_iconst C X227 at_376 (q := 377) rfl (z := (3 : Int32)) rfl ?_
    have f233 := (f224.other W228 (own_ne Vw.lt g199))
    refine g_caload C X227 f233 (by decide) (w := (.int x3)) rfl at_377 (q := 378) rfl ?_
    refine g_castore C X227 V229 (by decide) (i := 3) (by decide) (Nat.le_of_ble_eq_true rfl) (vs' := [(.int x0), (.int x1), (.int x2), (.int x3)]) (by rw [own_narC lx3 ux3 (by decide) (by decide)]; rfl) ge202 at_378 (q := 379) rfl ?_
    intro T234 h235 X236 W237 V238
    have f239 := (f230.wr W228)
    have Y240 := Wx.wr Y231 W237 (own_safeY (Cx.alike C) f239 (by decide))
    have O241 := O232.wr W237 ge202
    refine g_iload C X236 at_379 (q := 381) rfl rfl ?_
    refine g_iconst C X236 at_381 (q := 382) rfl (z := (4 : Int32)) rfl ?_
    refine g_icY C X236 at_382 (by decide) (q := 393) (by decide) (by decide) ?_
    refine g_iload C X236 at_393 (q := 395) rfl rfl ?_
    refine g_iconst C X236 at_395 (q := 396) rfl (z := (5 : Int32)) rfl ?_
    refine g_icY C X236 at_396 (by decide) (q := 407) (by decide) (by decide) ?_
    refine g_iload C X236 at_407 (q := 409) rfl rfl ?_
    refine g_bipush C X236 at_409 (q := 411) rfl (z := (6 : Int32)) rfl ?_
    refine g_icY C X236 at_411 (by decide) (q := 424) (by decide) (by decide) ?_
    refine g_iload C X236 at_424 (q := 426) rfl rfl ?_
    refine g_bipush C X236 at_426 (q := 428) rfl (z := (7 : Int32)) rfl ?_
    refine g_icY C X236 at_428 (by decide) (q := 441) (by decide) (by decide) ?_
    refine g_iload C X236 at_441 (q := 443) rfl rfl ?_
    refine g_bipush C X236 at_443 (q := 445) rfl (z := (8 : Int32)) rfl ?_
    refine g_icY C X236 at_445 (by decide) (q := 458) (by decide) (by decide) ?_
    refine g_iload C X236 at_458 (q := 460) rfl rfl ?_
    refine g_bipush C X236 at_460 (q := 462) rfl (z := (9 : Int32)) rfl ?_
    refine g_icY C X236 at_462 (by decide) (q := 475) (by decide) (by decide) ?_
    refine g_iload C X236 at_475 (q := 477) rfl rfl ?_
    refine g_bipush C X236 at_477 (q := 479) rfl (z := (10 : Int32)) rfl ?_
    refine g_icY C X236 at_479 (by decide) (q := 492) (by decide) (by decide) ?_
    refine g_iload C X236 at_492 (q := 494) rfl rfl ?_
    refine g_bipush C X236 at_494 (q := 496) rfl (z := (11 : Int32)) rfl ?_
    refine g_icY C X236 at_496 (by decide) (q := 509) (by decide) (by decide) ?_
    refine g_new C X236 (w7 hw) (w8 hw) (w9 hw) at_509 (q := 512) rfl (k' := 3) rfl (n' := 20) rfl (by decide) (by decide) ?_
    intro T243 h244 b242 g246 X245 E247 A248 D249
    have ge250 : n0 ≤ b242 := own_ge O241 g246
    have sf251 := Wx.safe0 Y240 (Nat.le_of_eq g246.symm)
    have Y252 := Wx.ext Y240 E247
    have O253 := O241.ext E247
    have f254 : Fld Z h244 b242 "java/lang/String" "coder" "B" (.int (0 : Int32)) := D249 (Or.inr (w33 hw)) (ty := .byte) (by decide)
    have f255 : Fld Z h244 b242 "java/lang/String" "value" "[B" .null := D249 (Or.inr (w35 hw)) (ty := (.array .byte)) (by decide)
    refine g_dup C X245 at_512 (q := 513) rfl rfl ?_
    refine g_aload C X245 at_513 (q := 515) rfl rfl rfl ?_
    have f256 := (V238.ext E247)
    refine g_strNew C X245 (cs := [x0, x1, x2, x3]) (own_words hw) (w8 hw) (w10 hw) (w11 hw) A248 f255 f254 f256 (W.2.2.2.2.2.2.2.2.2.2.2.2.2.2.2.1.ext O253.2) W.2.2.2.2.2.2.2.2.2.2.2.2.2.2.2.2 (len := 4) rfl rfl (by decide) (by decide) (List.forall_mem_cons.mpr ⟨(own_ch lx0 ux0 (by decide) (by decide)), (List.forall_mem_cons.mpr ⟨(own_ch lx1 ux1 (by decide) (by decide)), (List.forall_mem_cons.mpr ⟨(own_ch lx2 ux2 (by decide) (by decide)), (List.forall_mem_cons.mpr ⟨(own_ch lx3 ux3 (by decide) (by decide)), (fun _ z => nomatch z)⟩)⟩)⟩)⟩) ge250 (own_szO O253) (W := 1) (by decide) (by decide) (k' := 4) rfl (n' := 24) rfl (by decide) (by decide) rfl rfl at_515 (q := 518) rfl ?_
    intro T257 h258 X259 K260 F261
    have Y262 := Wx.keep Y252 K260 (sfS (Wx.safeE Y240 sf251 E247) sf0)
    have O263 := O253.keep K260 (allS ge250 all0)
    refine g_astore C X259 at_518 (q := 520) rfl rfl (L' := #[.val (.int q0), .val (.int q1), .val (.int q2), .val (.int q3), .val (.long qf), .second, .val (.int qm), .val (.ref aw), .val (.int qn), .val (.int (4 : Int32)), .val (.ref b194), .val (.ref b242), .unset]) rfl ?_
    exact rmJ520 hw C (St.mono X259 (by decide) (by decide)) Y262 O263 W F261 ge250
  · refine g_iload C X at_318 (q := 320) rfl rfl ?_
    refine g_newP C X (w1 hw) rfl at_320 (q := 322) rfl (by decide) (cap := 5) (by decide) (by decide) (k' := 2) rfl (n' := 17) rfl (by decide) (by decide) ?_
    intro T265 h266 kA267 b264 g269 X268 E270 V271
    have ge272 : n0 ≤ b264 := own_ge O g269
    have Y273 := Wx.ext Y E270
    have O274 := O.ext E270
    have V275 : Arv Z h266 b264 kA267 .char (5 : Int32) [(.int (0 : Int32)), (.int (0 : Int32)), (.int (0 : Int32)), (.int (0 : Int32)), (.int (0 : Int32))] (.int (0 : Int32)) := Arv.pad V271 (pad_rep [] _ 5)
    have Y276 := Yar.of V275
    refine g_astore C X268 at_322 (q := 324) rfl rfl (L' := #[.val (.int q0), .val (.int q1), .val (.int q2), .val (.int q3), .val (.long qf), .second, .val (.int qm), .val (.ref aw), .val (.int qn), .val (.int (5 : Int32)), .val (.ref b264), .unset, .unset]) rfl ?_
    refine g_iload C X268 at_324 (q := 326) rfl rfl ?_
    refine g_ifN C X268 at_326 (q := 329) rfl (by decide) ?_
    refine g_aload C X268 at_329 (q := 331) rfl rfl rfl ?_
    refine g_iconst C X268 at_331 (q := 332) rfl (z := (0 : Int32)) rfl ?_
    refine g_aload C X268 at_332 (q := 334) rfl rfl rfl ?_
    refine g_iconst C X268 at_334 (q := 335) rfl (z := (0 : Int32)) rfl ?_
    have f277 := (Vw.ext E270)
    refine g_caload C X268 f277 (by decide) (w := (.int x0)) rfl at_335 (q := 336) rfl ?_
    refine g_castore C X268 V275 (by decide) (i := 0) (by decide) (Nat.le_of_ble_eq_true rfl) (vs' := [(.int x0), (.int (0 : Int32)), (.int (0 : Int32)), (.int (0 : Int32)), (.int (0 : Int32))]) (by rw [own_narC lx0 ux0 (by decide) (by decide)]; rfl) ge272 at_336 (q := 337) rfl ?_
    intro T278 h279 X280 W281 V282
    have Y283 := Wx.wr Y273 W281 (own_safeY (Cx.alike C) Y276 (by decide))
    have O284 := O274.wr W281 ge272
    refine g_iload C X280 at_337 (q := 339) rfl rfl ?_
    refine g_iconst C X280 at_339 (q := 340) rfl (z := (1 : Int32)) rfl ?_
    refine g_icN C X280 at_340 (q := 343) rfl (by decide) ?_
    refine g_aload C X280 at_343 (q := 345) rfl rfl rfl ?_
    refine g_iconst C X280 at_345 (q := 346) rfl (z := (1 : Int32)) rfl ?_
    refine g_aload C X280 at_346 (q := 348) rfl rfl rfl ?_
    refine g_iconst C X280 at_348 (q := 349) rfl (z := (1 : Int32)) rfl ?_
    have f285 := (f277.other W281 (own_ne Vw.lt g269))
    refine g_caload C X280 f285 (by decide) (w := (.int x1)) rfl at_349 (q := 350) rfl ?_
    refine g_castore C X280 V282 (by decide) (i := 1) (by decide) (Nat.le_of_ble_eq_true rfl) (vs' := [(.int x0), (.int x1), (.int (0 : Int32)), (.int (0 : Int32)), (.int (0 : Int32))]) (by rw [own_narC lx1 ux1 (by decide) (by decide)]; rfl) ge272 at_350 (q := 351) rfl ?_
    intro T286 h287 X288 W289 V290
    have f291 := (Y276.wr W281)
    have Y292 := Wx.wr Y283 W289 (own_safeY (Cx.alike C) f291 (by decide))
    have O293 := O284.wr W289 ge272
    refine g_iload C X288 at_351 (q := 353) rfl rfl ?_
    refine g_iconst C X288 at_353 (q := 354) rfl (z := (2 : Int32)) rfl ?_
    refine g_icN C X288 at_354 (q := 357) rfl (by decide) ?_
    refine g_aload C X288 at_357 (q := 359) rfl rfl rfl ?_
    refine g_iconst C X288 at_359 (q := 360) rfl (z := (2 : Int32)) rfl ?_
    refine g_aload C X288 at_360 (q := 362) rfl rfl rfl ?_
    refine g_iconst C X288 at_362 (q := 363) rfl (z := (2 : Int32)) rfl ?_
    have f294 := (f285.other W289 (own_ne Vw.lt g269))
    refine g_caload C X288 f294 (by decide) (w := (.int x2)) rfl at_363 (q := 364) rfl ?_
    refine g_castore C X288 V290 (by decide) (i := 2) (by decide) (Nat.le_of_ble_eq_true rfl) (vs' := [(.int x0), (.int x1), (.int x2), (.int (0 : Int32)), (.int (0 : Int32))]) (by rw [own_narC lx2 ux2 (by decide) (by decide)]; rfl) ge272 at_364 (q := 365) rfl ?_
    intro T295 h296 X297 W298 V299
    have f300 := (f291.wr W289)
    have Y301 := Wx.wr Y292 W298 (own_safeY (Cx.alike C) f300 (by decide))
    have O302 := O293.wr W298 ge272
    refine g_iload C X297 at_365 (q := 367) rfl rfl ?_
    refine g_iconst C X297 at_367 (q := 368) rfl (z := (3 : Int32)) rfl ?_
    refine g_icN C X297 at_368 (q := 371) rfl (by decide) ?_
    refine g_aload C X297 at_371 (q := 373) rfl rfl rfl ?_
    refine g_iconst C X297 at_373 (q := 374) rfl (z := (3 : Int32)) rfl ?_
    refine g_aload C X297 at_374 (q := 376) rfl rfl rfl ?_
    refine g_iconst C X297 at_376 (q := 377) rfl (z := (3 : Int32)) rfl ?_
    have f303 := (f294.other W298 (own_ne Vw.lt g269))
    refine g_caload C X297 f303 (by decide) (w := (.int x3)) rfl at_377 (q := 378) rfl ?_
    refine g_castore C X297 V299 (by decide) (i := 3) (by decide) (Nat.le_of_ble_eq_true rfl) (vs' := [(.int x0), (.int x1), (.int x2), (.int x3), (.int (0 : Int32))]) (by rw [own_narC lx3 ux3 (by decide) (by decide)]; rfl) ge272 at_378 (q := 379) rfl ?_
    intro T304 h305 X306 W307 V308
    have f309 := (f300.wr W298)
    have Y310 := Wx.wr Y301 W307 (own_safeY (Cx.alike C) f309 (by decide))
    have O311 := O302.wr W307 ge272
    refine g_iload C X306 at_379 (q := 381) rfl rfl ?_
    refine g_iconst C X306 at_381 (q := 382) rfl (z := (4 : Int32)) rfl ?_
    refine g_icN C X306 at_382 (q := 385) rfl (by decide) ?_
    refine g_aload C X306 at_385 (q := 387) rfl rfl rfl ?_
    refine g_iconst C X306 at_387 (q := 388) rfl (z := (4 : Int32)) rfl ?_
    refine g_aload C X306 at_388 (q := 390) rfl rfl rfl ?_
    refine g_iconst C X306 at_390 (q := 391) rfl (z := (4 : Int32)) rfl ?_
    have f312 := (f303.other W307 (own_ne Vw.lt g269))
    refine g_caload C X306 f312 (by decide) (w := (.int x4)) rfl at_391 (q := 392) rfl ?_
    refine g_castore C X306 V308 (by decide) (i := 4) (by decide) (Nat.le_of_ble_eq_true rfl) (vs' := [(.int x0), (.int x1), (.int x2), (.int x3), (.int x4)]) (by rw [own_narC lx4 ux4 (by decide) (by decide)]; rfl) ge272 at_392 (q := 393) rfl ?_
    intro T313 h314 X315 W316 V317
    have f318 := (f309.wr W307)
    have Y319 := Wx.wr Y310 W316 (own_safeY (Cx.alike C) f318 (by decide))
    have O320 := O311.wr W316 ge272
    refine g_iload C X315 at_393 (q := 395) rfl rfl ?_
    refine g_iconst C X315 at_395 (q := 396) rfl (z := (5 : Int32)) rfl ?_
    refine g_icY C X315 at_396 (by decide) (q := 407) (by decide) (by decide) ?_
    refine g_iload C X315 at_407 (q := 409) rfl rfl ?_
    refine g_bipush C X315 at_409 (q := 411) rfl (z := (6 : Int32)) rfl ?_
    refine g_icY C X315 at_411 (by decide) (q := 424) (by decide) (by decide) ?_
    refine g_iload C X315 at_424 (q := 426) rfl rfl ?_
    refine g_bipush C X315 at_426 (q := 428) rfl (z := (7 : Int32)) rfl ?_
    refine g_icY C X315 at_428 (by decide) (q := 441) (by decide) (by decide) ?_
    refine g_iload C X315 at_441 (q := 443) rfl rfl ?_
    refine g_bipush C X315 at_443 (q := 445) rfl (z := (8 : Int32)) rfl ?_
    refine g_icY C X315 at_445 (by decide) (q := 458) (by decide) (by decide) ?_
    refine g_iload C X315 at_458 (q := 460) rfl rfl ?_
    refine g_bipush C X315 at_460 (q := 462) rfl (z := (9 : Int32)) rfl ?_
    refine g_icY C X315 at_462 (by decide) (q := 475) (by decide) (by decide) ?_
    refine g_iload C X315 at_475 (q := 477) rfl rfl ?_
    refine g_bipush C X315 at_477 (q := 479) rfl (z := (10 : Int32)) rfl ?_
    refine g_icY C X315 at_479 (by decide) (q := 492) (by decide) (by decide) ?_
    refine g_iload C X315 at_492 (q := 494) rfl rfl ?_
    refine g_bipush C X315 at_494 (q := 496) rfl (z := (11 : Int32)) rfl ?_
    refine g_icY C X315 at_496 (by decide) (q := 509) (by decide) (by decide) ?_
    refine g_new C X315 (w7 hw) (w8 hw) (w9 hw) at_509 (q := 512) rfl (k' := 3) rfl (n' := 21) rfl (by decide) (by decide) ?_
    intro T322 h323 b321 g325 X324 E326 A327 D328
    have ge329 : n0 ≤ b321 := own_ge O320 g325
    have sf330 := Wx.safe0 Y319 (Nat.le_of_eq g325.symm)
    have Y331 := Wx.ext Y319 E326
    have O332 := O320.ext E326
    have f333 : Fld Z h323 b321 "java/lang/String" "coder" "B" (.int (0 : Int32)) := D328 (Or.inr (w33 hw)) (ty := .byte) (by decide)
    have f334 : Fld Z h323 b321 "java/lang/String" "value" "[B" .null := D328 (Or.inr (w35 hw)) (ty := (.array .byte)) (by decide)
    refine g_dup C X324 at_512 (q := 513) rfl rfl ?_
    refine g_aload C X324 at_513 (q := 515) rfl rfl rfl ?_
    have f335 := (V317.ext E326)
    refine g_strNew C X324 (cs := [x0, x1, x2, x3, x4]) (own_words hw) (w8 hw) (w10 hw) (w11 hw) A327 f334 f333 f335 (W.2.2.2.2.2.2.2.2.2.2.2.2.2.2.2.1.ext O332.2) W.2.2.2.2.2.2.2.2.2.2.2.2.2.2.2.2 (len := 5) rfl rfl (by decide) (by decide) (List.forall_mem_cons.mpr ⟨(own_ch lx0 ux0 (by decide) (by decide)), (List.forall_mem_cons.mpr ⟨(own_ch lx1 ux1 (by decide) (by decide)), (List.forall_mem_cons.mpr ⟨(own_ch lx2 ux2 (by decide) (by decide)), (List.forall_mem_cons.mpr ⟨(own_ch lx3 ux3 (by decide) (by decide)), (List.forall_mem_cons.mpr ⟨(own_ch lx4 ux4 (by decide) (by decide)), (fun _ z => nomatch z)⟩)⟩)⟩)⟩)⟩) ge329 (own_szO O332) (W := 1) (by decide) (by decide) (k' := 4) rfl (n' := 26) rfl (by decide) (by decide) rfl rfl at_515 (q := 518) rfl ?_
    intro T336 h337 X338 K339 F340
    have Y341 := Wx.keep Y331 K339 (sfS (Wx.safeE Y319 sf330 E326) sf0)
    have O342 := O332.keep K339 (allS ge329 all0)
    refine g_astore C X338 at_518 (q := 520) rfl rfl (L' := #[.val (.int q0), .val (.int q1), .val (.int q2), .val (.int q3), .val (.long qf), .second, .val (.int qm), .val (.ref aw), .val (.int qn), .val (.int (5 : Int32)), .val (.ref b264), .val (.ref b321), .unset]) rfl ?_
    exact rmJ520 hw C (St.mono X338 (by decide) (by decide)) Y341 O342 W F340 ge329
  · refine g_iload C X at_318 (q := 320) rfl rfl ?_
    refine g_newP C X (w1 hw) rfl at_320 (q := 322) rfl (by decide) (cap := 6) (by decide) (by decide) (k' := 2) rfl (n' := 18) rfl (by decide) (by decide) ?_
    intro T344 h345 kA346 b343 g348 X347 E349 V350
    have ge351 : n0 ≤ b343 := own_ge O g348
    have Y352 := Wx.ext Y E349
    have O353 := O.ext E349
    have V354 : Arv Z h345 b343 kA346 .char (6 : Int32) [(.int (0 : Int32)), (.int (0 : Int32)), (.int (0 : Int32)), (.int (0 : Int32)), (.int (0 : Int32)), (.int (0 : Int32))] (.int (0 : Int32)) := Arv.pad V350 (pad_rep [] _ 6)
    have Y355 := Yar.of V354
    refine g_astore C X347 at_322 (q := 324) rfl rfl (L' := #[.val (.int q0), .val (.int q1), .val (.int q2), .val (.int q3), .val (.long qf), .second, .val (.int qm), .val (.ref aw), .val (.int qn), .val (.int (6 : Int32)), .val (.ref b343), .unset, .unset]) rfl ?_
    refine g_iload C X347 at_324 (q := 326) rfl rfl ?_
    refine g_ifN C X347 at_326 (q := 329) rfl (by decide) ?_
    refine g_aload C X347 at_329 (q := 331) rfl rfl rfl ?_
    refine g_iconst C X347 at_331 (q := 332) rfl (z := (0 : Int32)) rfl ?_
    refine g_aload C X347 at_332 (q := 334) rfl rfl rfl ?_
    refine g_iconst C X347 at_334 (q := 335) rfl (z := (0 : Int32)) rfl ?_
    have f356 := (Vw.ext E349)
    refine g_caload C X347 f356 (by decide) (w := (.int x0)) rfl at_335 (q := 336) rfl ?_
    refine g_castore C X347 V354 (by decide) (i := 0) (by decide) (Nat.le_of_ble_eq_true rfl) (vs' := [(.int x0), (.int (0 : Int32)), (.int (0 : Int32)), (.int (0 : Int32)), (.int (0 : Int32)), (.int (0 : Int32))]) (by rw [own_narC lx0 ux0 (by decide) (by decide)]; rfl) ge351 at_336 (q := 337) rfl ?_
    intro T357 h358 X359 W360 V361
    have Y362 := Wx.wr Y352 W360 (own_safeY (Cx.alike C) Y355 (by decide))
    have O363 := O353.wr W360 ge351
    refine g_iload C X359 at_337 (q := 339) rfl rfl ?_
    refine g_iconst C X359 at_339 (q := 340) rfl (z := (1 : Int32)) rfl ?_
    refine g_icN C X359 at_340 (q := 343) rfl (by decide) ?_
    refine g_aload C X359 at_343 (q := 345) rfl rfl rfl ?_
    refine g_iconst C X359 at_345 (q := 346) rfl (z := (1 : Int32)) rfl ?_
    refine g_aload C X359 at_346 (q := 348) rfl rfl rfl ?_
    refine g_iconst C X359 at_348 (q := 349) rfl (z := (1 : Int32)) rfl ?_
    have f364 := (f356.other W360 (own_ne Vw.lt g348))
    refine g_caload C X359 f364 (by decide) (w := (.int x1)) rfl at_349 (q := 350) rfl ?_
    refine g_castore C X359 V361 (by decide) (i := 1) (by decide) (Nat.le_of_ble_eq_true rfl) (vs' := [(.int x0), (.int x1), (.int (0 : Int32)), (.int (0 : Int32)), (.int (0 : Int32)), (.int (0 : Int32))]) (by rw [own_narC lx1 ux1 (by decide) (by decide)]; rfl) ge351 at_350 (q := 351) rfl ?_
    intro T365 h366 X367 W368 V369
    have f370 := (Y355.wr W360)
    have Y371 := Wx.wr Y362 W368 (own_safeY (Cx.alike C) f370 (by decide))
    have O372 := O363.wr W368 ge351
    refine g_iload C X367 at_351 (q := 353) rfl rfl ?_
    refine g_iconst C X367 at_353 (q := 354) rfl (z := (2 : Int32)) rfl ?_
    refine g_icN C X367 at_354 (q := 357) rfl (by decide) ?_
    refine g_aload C X367 at_357 (q := 359) rfl rfl rfl ?_
    refine g_iconst C X367 at_359 (q := 360) rfl (z := (2 : Int32)) rfl ?_
    refine g_aload C X367 at_360 (q := 362) rfl rfl rfl ?_
    refine g_iconst C X367 at_362 (q := 363) rfl (z := (2 : Int32)) rfl ?_
    have f373 := (f364.other W368 (own_ne Vw.lt g348))
    refine g_caload C X367 f373 (by decide) (w := (.int x2)) rfl at_363 (q := 364) rfl ?_
    refine g_castore C X367 V369 (by decide) (i := 2) (by decide) (Nat.le_of_ble_eq_true rfl) (vs' := [(.int x0), (.int x1), (.int x2), (.int (0 : Int32)), (.int (0 : Int32)), (.int (0 : Int32))]) (by rw [own_narC lx2 ux2 (by decide) (by decide)]; rfl) ge351 at_364 (q := 365) rfl ?_
    intro T374 h375 X376 W377 V378
    have f379 := (f370.wr W368)
    have Y380 := Wx.wr Y371 W377 (own_safeY (Cx.alike C) f379 (by decide))
    have O381 := O372.wr W377 ge351
    refine g_iload C X376 at_365 (q := 367) rfl rfl ?_
    refine g_iconst C X376 at_367 (q := 368) rfl (z := (3 : Int32)) rfl ?_
    refine g_icN C X376 at_368 (q := 371) rfl (by decide) ?_
    refine g_aload C X376 at_371 (q := 373) rfl rfl rfl ?_
    refine g_iconst C X376 at_373 (q := 374) rfl (z := (3 : Int32)) rfl ?_
    refine g_aload C X376 at_374 (q := 376) rfl rfl rfl ?_
    refine g_iconst C X376 at_376 (q := 377) rfl (z := (3 : Int32)) rfl ?_
    have f382 := (f373.other W377 (own_ne Vw.lt g348))
    refine g_caload C X376 f382 (by decide) (w := (.int x3)) rfl at_377 (q := 378) rfl ?_
    refine g_castore C X376 V378 (by decide) (i := 3) (by decide) (Nat.le_of_ble_eq_true rfl) (vs' := [(.int x0), (.int x1), (.int x2), (.int x3), (.int (0 : Int32)), (.int (0 : Int32))]) (by rw [own_narC lx3 ux3 (by decide) (by decide)]; rfl) ge351 at_378 (q := 379) rfl ?_
    intro T383 h384 X385 W386 V387
    have f388 := (f379.wr W377)
    have Y389 := Wx.wr Y380 W386 (own_safeY (Cx.alike C) f388 (by decide))
    have O390 := O381.wr W386 ge351
    refine g_iload C X385 at_379 (q := 381) rfl rfl ?_
    refine g_iconst C X385 at_381 (q := 382) rfl (z := (4 : Int32)) rfl ?_
    refine g_icN C X385 at_382 (q := 385) rfl (by decide) ?_
    refine g_aload C X385 at_385 (q := 387) rfl rfl rfl ?_
    refine g_iconst C X385 at_387 (q := 388) rfl (z := (4 : Int32)) rfl ?_
    refine g_aload C X385 at_388 (q := 390) rfl rfl rfl ?_
    refine g_iconst C X385 at_390 (q := 391) rfl (z := (4 : Int32)) rfl ?_
    have f391 := (f382.other W386 (own_ne Vw.lt g348))
    refine g_caload C X385 f391 (by decide) (w := (.int x4)) rfl at_391 (q := 392) rfl ?_
    refine g_castore C X385 V387 (by decide) (i := 4) (by decide) (Nat.le_of_ble_eq_true rfl) (vs' := [(.int x0), (.int x1), (.int x2), (.int x3), (.int x4), (.int (0 : Int32))]) (by rw [own_narC lx4 ux4 (by decide) (by decide)]; rfl) ge351 at_392 (q := 393) rfl ?_
    intro T392 h393 X394 W395 V396
    have f397 := (f388.wr W386)
    have Y398 := Wx.wr Y389 W395 (own_safeY (Cx.alike C) f397 (by decide))
    have O399 := O390.wr W395 ge351
    refine g_iload C X394 at_393 (q := 395) rfl rfl ?_
    refine g_iconst C X394 at_395 (q := 396) rfl (z := (5 : Int32)) rfl ?_
    refine g_icN C X394 at_396 (q := 399) rfl (by decide) ?_
    refine g_aload C X394 at_399 (q := 401) rfl rfl rfl ?_
    refine g_iconst C X394 at_401 (q := 402) rfl (z := (5 : Int32)) rfl ?_
    refine g_aload C X394 at_402 (q := 404) rfl rfl rfl ?_
    refine g_iconst C X394 at_404 (q := 405) rfl (z := (5 : Int32)) rfl ?_
    have f400 := (f391.other W395 (own_ne Vw.lt g348))
    refine g_caload C X394 f400 (by decide) (w := (.int x5)) rfl at_405 (q := 406) rfl ?_
    refine g_castore C X394 V396 (by decide) (i := 5) (by decide) (Nat.le_of_ble_eq_true rfl) (vs' := [(.int x0), (.int x1), (.int x2), (.int x3), (.int x4), (.int x5)]) (by rw [own_narC lx5 ux5 (by decide) (by decide)]; rfl) ge351 at_406 (q := 407) rfl ?_
    intro T401 h402 X403 W404 V405
    have f406 := (f397.wr W395)
    have Y407 := Wx.wr Y398 W404 (own_safeY (Cx.alike C) f406 (by decide))
    have O408 := O399.wr W404 ge351
    refine g_iload C X403 at_407 (q := 409) rfl rfl ?_
    refine g_bipush C X403 at_409 (q := 411) rfl (z := (6 : Int32)) rfl ?_
    refine g_icY C X403 at_411 (by decide) (q := 424) (by decide) (by decide) ?_
    refine g_iload C X403 at_424 (q := 426) rfl rfl ?_
    refine g_bipush C X403 at_426 (q := 428) rfl (z := (7 : Int32)) rfl ?_
    refine g_icY C X403 at_428 (by decide) (q := 441) (by decide) (by decide) ?_
    refine g_iload C X403 at_441 (q := 443) rfl rfl ?_
    refine g_bipush C X403 at_443 (q := 445) rfl (z := (8 : Int32)) rfl ?_
    refine g_icY C X403 at_445 (by decide) (q := 458) (by decide) (by decide) ?_
    refine g_iload C X403 at_458 (q := 460) rfl rfl ?_
    refine g_bipush C X403 at_460 (q := 462) rfl (z := (9 : Int32)) rfl ?_
    refine g_icY C X403 at_462 (by decide) (q := 475) (by decide) (by decide) ?_
    refine g_iload C X403 at_475 (q := 477) rfl rfl ?_
    refine g_bipush C X403 at_477 (q := 479) rfl (z := (10 : Int32)) rfl ?_
    refine g_icY C X403 at_479 (by decide) (q := 492) (by decide) (by decide) ?_
    refine g_iload C X403 at_492 (q := 494) rfl rfl ?_
    refine g_bipush C X403 at_494 (q := 496) rfl (z := (11 : Int32)) rfl ?_
    refine g_icY C X403 at_496 (by decide) (q := 509) (by decide) (by decide) ?_
    refine g_new C X403 (w7 hw) (w8 hw) (w9 hw) at_509 (q := 512) rfl (k' := 3) rfl (n' := 22) rfl (by decide) (by decide) ?_
    intro T410 h411 b409 g413 X412 E414 A415 D416
    have ge417 : n0 ≤ b409 := own_ge O408 g413
    have sf418 := Wx.safe0 Y407 (Nat.le_of_eq g413.symm)
    have Y419 := Wx.ext Y407 E414
    have O420 := O408.ext E414
    have f421 : Fld Z h411 b409 "java/lang/String" "coder" "B" (.int (0 : Int32)) := D416 (Or.inr (w33 hw)) (ty := .byte) (by decide)
    have f422 : Fld Z h411 b409 "java/lang/String" "value" "[B" .null := D416 (Or.inr (w35 hw)) (ty := (.array .byte)) (by decide)
    refine g_dup C X412 at_512 (q := 513) rfl rfl ?_
    refine g_aload C X412 at_513 (q := 515) rfl rfl rfl ?_
    have f423 := (V405.ext E414)
    refine g_strNew C X412 (cs := [x0, x1, x2, x3, x4, x5]) (own_words hw) (w8 hw) (w10 hw) (w11 hw) A415 f422 f421 f423 (W.2.2.2.2.2.2.2.2.2.2.2.2.2.2.2.1.ext O420.2) W.2.2.2.2.2.2.2.2.2.2.2.2.2.2.2.2 (len := 6) rfl rfl (by decide) (by decide) (List.forall_mem_cons.mpr ⟨(own_ch lx0 ux0 (by decide) (by decide)), (List.forall_mem_cons.mpr ⟨(own_ch lx1 ux1 (by decide) (by decide)), (List.forall_mem_cons.mpr ⟨(own_ch lx2 ux2 (by decide) (by decide)), (List.forall_mem_cons.mpr ⟨(own_ch lx3 ux3 (by decide) (by decide)), (List.forall_mem_cons.mpr ⟨(own_ch lx4 ux4 (by decide) (by decide)), (List.forall_mem_cons.mpr ⟨(own_ch lx5 ux5 (by decide) (by decide)), (fun _ z => nomatch z)⟩)⟩)⟩)⟩)⟩)⟩) ge417 (own_szO O420) (W := 1) (by decide) (by decide) (k' := 4) rfl (n' := 28) rfl (by decide) (by decide) rfl rfl at_515 (q := 518) rfl ?_
    intro T424 h425 X426 K427 F428
    have Y429 := Wx.keep Y419 K427 (sfS (Wx.safeE Y407 sf418 E414) sf0)
    have O430 := O420.keep K427 (allS ge417 all0)
    refine g_astore C X426 at_518 (q := 520) rfl rfl (L' := #[.val (.int q0), .val (.int q1), .val (.int q2), .val (.int q3), .val (.long qf), .second, .val (.int qm), .val (.ref aw), .val (.int qn), .val (.int (6 : Int32)), .val (.ref b343), .val (.ref b409), .unset]) rfl ?_
    exact rmJ520 hw C (St.mono X426 (by decide) (by decide)) Y429 O430 W F428 ge417
  · refine g_iload C X at_318 (q := 320) rfl rfl ?_
    refine g_newP C X (w1 hw) rfl at_320 (q := 322) rfl (by decide) (cap := 7) (by decide) (by decide) (k' := 2) rfl (n' := 19) rfl (by decide) (by decide) ?_
    intro T432 h433 kA434 b431 g436 X435 E437 V438
    have ge439 : n0 ≤ b431 := own_ge O g436
    have Y440 := Wx.ext Y E437
    have O441 := O.ext E437
    have V442 : Arv Z h433 b431 kA434 .char (7 : Int32) [(.int (0 : Int32)), (.int (0 : Int32)), (.int (0 : Int32)), (.int (0 : Int32)), (.int (0 : Int32)), (.int (0 : Int32)), (.int (0 : Int32))] (.int (0 : Int32)) := Arv.pad V438 (pad_rep [] _ 7)
    have Y443 := Yar.of V442
    refine g_astore C X435 at_322 (q := 324) rfl rfl (L' := #[.val (.int q0), .val (.int q1), .val (.int q2), .val (.int q3), .val (.long qf), .second, .val (.int qm), .val (.ref aw), .val (.int qn), .val (.int (7 : Int32)), .val (.ref b431), .unset, .unset]) rfl ?_
    refine g_iload C X435 at_324 (q := 326) rfl rfl ?_
    refine g_ifN C X435 at_326 (q := 329) rfl (by decide) ?_
    refine g_aload C X435 at_329 (q := 331) rfl rfl rfl ?_
    refine g_iconst C X435 at_331 (q := 332) rfl (z := (0 : Int32)) rfl ?_
    refine g_aload C X435 at_332 (q := 334) rfl rfl rfl ?_
    refine g_iconst C X435 at_334 (q := 335) rfl (z := (0 : Int32)) rfl ?_
    have f444 := (Vw.ext E437)
    refine g_caload C X435 f444 (by decide) (w := (.int x0)) rfl at_335 (q := 336) rfl ?_
    refine g_castore C X435 V442 (by decide) (i := 0) (by decide) (Nat.le_of_ble_eq_true rfl) (vs' := [(.int x0), (.int (0 : Int32)), (.int (0 : Int32)), (.int (0 : Int32)), (.int (0 : Int32)), (.int (0 : Int32)), (.int (0 : Int32))]) (by rw [own_narC lx0 ux0 (by decide) (by decide)]; rfl) ge439 at_336 (q := 337) rfl ?_
    intro T445 h446 X447 W448 V449
    have Y450 := Wx.wr Y440 W448 (own_safeY (Cx.alike C) Y443 (by decide))
    have O451 := O441.wr W448 ge439
    refine g_iload C X447 at_337 (q := 339) rfl rfl ?_
    refine g_iconst C X447 at_339 (q := 340) rfl (z := (1 : Int32)) rfl ?_
    refine g_icN C X447 at_340 (q := 343) rfl (by decide) ?_
    refine g_aload C X447 at_343 (q := 345) rfl rfl rfl ?_
    refine g_iconst C X447 at_345 (q := 346) rfl (z := (1 : Int32)) rfl ?_
    refine g_aload C X447 at_346 (q := 348) rfl rfl rfl ?_
    refine g_iconst C X447 at_348 (q := 349) rfl (z := (1 : Int32)) rfl ?_
    have f452 := (f444.other W448 (own_ne Vw.lt g436))
    refine g_caload C X447 f452 (by decide) (w := (.int x1)) rfl at_349 (q := 350) rfl ?_
    refine g_castore C X447 V449 (by decide) (i := 1) (by decide) (Nat.le_of_ble_eq_true rfl) (vs' := [(.int x0), (.int x1), (.int (0 : Int32)), (.int (0 : Int32)), (.int (0 : Int32)), (.int (0 : Int32)), (.int (0 : Int32))]) (by rw [own_narC lx1 ux1 (by decide) (by decide)]; rfl) ge439 at_350 (q := 351) rfl ?_
    intro T453 h454 X455 W456 V457
    have f458 := (Y443.wr W448)
    have Y459 := Wx.wr Y450 W456 (own_safeY (Cx.alike C) f458 (by decide))
    have O460 := O451.wr W456 ge439
    refine g_iload C X455 at_351 (q := 353) rfl rfl ?_
    refine g_iconst C X455 at_353 (q := 354) rfl (z := (2 : Int32)) rfl ?_
    refine g_icN C X455 at_354 (q := 357) rfl (by decide) ?_
    refine g_aload C X455 at_357 (q := 359) rfl rfl rfl ?_
    refine g_iconst C X455 at_359 (q := 360) rfl (z := (2 : Int32)) rfl ?_
    refine g_aload C X455 at_360 (q := 362) rfl rfl rfl ?_
    refine g_iconst C X455 at_362 (q := 363) rfl (z := (2 : Int32)) rfl ?_
    have f461 := (f452.other W456 (own_ne Vw.lt g436))
    refine g_caload C X455 f461 (by decide) (w := (.int x2)) rfl at_363 (q := 364) rfl ?_
    refine g_castore C X455 V457 (by decide) (i := 2) (by decide) (Nat.le_of_ble_eq_true rfl) (vs' := [(.int x0), (.int x1), (.int x2), (.int (0 : Int32)), (.int (0 : Int32)), (.int (0 : Int32)), (.int (0 : Int32))]) (by rw [own_narC lx2 ux2 (by decide) (by decide)]; rfl) ge439 at_364 (q := 365) rfl ?_
    intro T462 h463 X464 W465 V466
    have f467 := (f458.wr W456)
    have Y468 := Wx.wr Y459 W465 (own_safeY (Cx.alike C) f467 (by decide))
    have O469 := O460.wr W465 ge439
    refine g_iload C X464 at_365 (q := 367) rfl rfl ?_
    refine g_iconst C X464 at_367 (q := 368) rfl (z := (3 : Int32)) rfl ?_
    refine g_icN C X464 at_368 (q := 371) rfl (by decide) ?_
    refine g_aload C X464 at_371 (q := 373) rfl rfl rfl ?_
    refine g_iconst C X464 at_373 (q := 374) rfl (z := (3 : Int32)) rfl ?_
    refine g_aload C X464 at_374 (q := 376) rfl rfl rfl ?_
    refine g_iconst C X464 at_376 (q := 377) rfl (z := (3 : Int32)) rfl ?_
    have f470 := (f461.other W465 (own_ne Vw.lt g436))
    refine g_caload C X464 f470 (by decide) (w := (.int x3)) rfl at_377 (q := 378) rfl ?_
    refine g_castore C X464 V466 (by decide) (i := 3) (by decide) (Nat.le_of_ble_eq_true rfl) (vs' := [(.int x0), (.int x1), (.int x2), (.int x3), (.int (0 : Int32)), (.int (0 : Int32)), (.int (0 : Int32))]) (by rw [own_narC lx3 ux3 (by decide) (by decide)]; rfl) ge439 at_378 (q := 379) rfl ?_
    intro T471 h472 X473 W474 V475
    have f476 := (f467.wr W465)
    have Y477 := Wx.wr Y468 W474 (own_safeY (Cx.alike C) f476 (by decide))
    have O478 := O469.wr W474 ge439
    refine g_iload C X473 at_379 (q := 381) rfl rfl ?_
    refine g_iconst C X473 at_381 (q := 382) rfl (z := (4 : Int32)) rfl ?_
    refine g_icN C X473 at_382 (q := 385) rfl (by decide) ?_
    refine g_aload C X473 at_385 (q := 387) rfl rfl rfl ?_
    refine g_iconst C X473 at_387 (q := 388) rfl (z := (4 : Int32)) rfl ?_
    refine g_aload C X473 at_388 (q := 390) rfl rfl rfl ?_
    refine g_iconst C X473 at_390 (q := 391) rfl (z := (4 : Int32)) rfl ?_
    have f479 := (f470.other W474 (own_ne Vw.lt g436))
    refine g_caload C X473 f479 (by decide) (w := (.int x4)) rfl at_391 (q := 392) rfl ?_
    refine g_castore C X473 V475 (by decide) (i := 4) (by decide) (Nat.le_of_ble_eq_true rfl) (vs' := [(.int x0), (.int x1), (.int x2), (.int x3), (.int x4), (.int (0 : Int32)), (.int (0 : Int32))]) (by rw [own_narC lx4 ux4 (by decide) (by decide)]; rfl) ge439 at_392 (q := 393) rfl ?_
    intro T480 h481 X482 W483 V484
    have f485 := (f476.wr W474)
    have Y486 := Wx.wr Y477 W483 (own_safeY (Cx.alike C) f485 (by decide))
    have O487 := O478.wr W483 ge439
    refine g_iload C X482 at_393 (q := 395) rfl rfl ?_
    refine g_iconst C X482 at_395 (q := 396) rfl (z := (5 : Int32)) rfl ?_
    refine g_icN C X482 at_396 (q := 399) rfl (by decide) ?_
    refine g_aload C X482 at_399 (q := 401) rfl rfl rfl ?_
    refine g_iconst C X482 at_401 (q := 402) rfl (z := (5 : Int32)) rfl ?_
    refine g_aload C X482 at_402 (q := 404) rfl rfl rfl ?_
    refine g_iconst C X482 at_404 (q := 405) rfl (z := (5 : Int32)) rfl ?_
    have f488 := (f479.other W483 (own_ne Vw.lt g436))
    refine g_caload C X482 f488 (by decide) (w := (.int x5)) rfl at_405 (q := 406) rfl ?_
    refine g_castore C X482 V484 (by decide) (i := 5) (by decide) (Nat.le_of_ble_eq_true rfl) (vs' := [(.int x0), (.int x1), (.int x2), (.int x3), (.int x4), (.int x5), (.int (0 : Int32))]) (by rw [own_narC lx5 ux5 (by decide) (by decide)]; rfl) ge439 at_406 (q := 407) rfl ?_
    intro T489 h490 X491 W492 V493
    have f494 := (f485.wr W483)
    have Y495 := Wx.wr Y486 W492 (own_safeY (Cx.alike C) f494 (by decide))
    have O496 := O487.wr W492 ge439
    refine g_iload C X491 at_407 (q := 409) rfl rfl ?_
    refine g_bipush C X491 at_409 (q := 411) rfl (z := (6 : Int32)) rfl ?_
    refine g_icN C X491 at_411 (q := 414) rfl (by decide) ?_
    refine g_aload C X491 at_414 (q := 416) rfl rfl rfl ?_
    refine g_bipush C X491 at_416 (q := 418) rfl (z := (6 : Int32)) rfl ?_
    refine g_aload C X491 at_418 (q := 420) rfl rfl rfl ?_
    refine g_bipush C X491 at_420 (q := 422) rfl (z := (6 : Int32)) rfl ?_
    have f497 := (f488.other W492 (own_ne Vw.lt g436))
    refine g_caload C X491 f497 (by decide) (w := (.int x6)) rfl at_422 (q := 423) rfl ?_
    refine g_castore C X491 V493 (by decide) (i := 6) (by decide) (Nat.le_of_ble_eq_true rfl) (vs' := [(.int x0), (.int x1), (.int x2), (.int x3), (.int x4), (.int x5), (.int x6)]) (by rw [own_narC lx6 ux6 (by decide) (by decide)]; rfl) ge439 at_423 (q := 424) rfl ?_
    intro T498 h499 X500 W501 V502
    have f503 := (f494.wr W492)
    have Y504 := Wx.wr Y495 W501 (own_safeY (Cx.alike C) f503 (by decide))
    have O505 := O496.wr W501 ge439
    refine g_iload C X500 at_424 (q := 426) rfl rfl ?_
    refine g_bipush C X500 at_426 (q := 428) rfl (z := (7 : Int32)) rfl ?_
    refine g_icY C X500 at_428 (by decide) (q := 441) (by decide) (by decide) ?_
    refine g_iload C X500 at_441 (q := 443) rfl rfl ?_
    refine g_bipush C X500 at_443 (q := 445) rfl (z := (8 : Int32)) rfl ?_
    refine g_icY C X500 at_445 (by decide) (q := 458) (by decide) (by decide) ?_
    refine g_iload C X500 at_458 (q := 460) rfl rfl ?_
    refine g_bipush C X500 at_460 (q := 462) rfl (z := (9 : Int32)) rfl ?_
    refine g_icY C X500 at_462 (by decide) (q := 475) (by decide) (by decide) ?_
    refine g_iload C X500 at_475 (q := 477) rfl rfl ?_
    refine g_bipush C X500 at_477 (q := 479) rfl (z := (10 : Int32)) rfl ?_
    refine g_icY C X500 at_479 (by decide) (q := 492) (by decide) (by decide) ?_
    refine g_iload C X500 at_492 (q := 494) rfl rfl ?_
    refine g_bipush C X500 at_494 (q := 496) rfl (z := (11 : Int32)) rfl ?_
    refine g_icY C X500 at_496 (by decide) (q := 509) (by decide) (by decide) ?_
    refine g_new C X500 (w7 hw) (w8 hw) (w9 hw) at_509 (q := 512) rfl (k' := 3) rfl (n' := 23) rfl (by decide) (by decide) ?_
    intro T507 h508 b506 g510 X509 E511 A512 D513
    have ge514 : n0 ≤ b506 := own_ge O505 g510
    have sf515 := Wx.safe0 Y504 (Nat.le_of_eq g510.symm)
    have Y516 := Wx.ext Y504 E511
    have O517 := O505.ext E511
    have f518 : Fld Z h508 b506 "java/lang/String" "coder" "B" (.int (0 : Int32)) := D513 (Or.inr (w33 hw)) (ty := .byte) (by decide)
    have f519 : Fld Z h508 b506 "java/lang/String" "value" "[B" .null := D513 (Or.inr (w35 hw)) (ty := (.array .byte)) (by decide)
    refine g_dup C X509 at_512 (q := 513) rfl rfl ?_
    refine g_aload C X509 at_513 (q := 515) rfl rfl rfl ?_
    have f520 := (V502.ext E511)
    refine g_strNew C X509 (cs := [x0, x1, x2, x3, x4, x5, x6]) (own_words hw) (w8 hw) (w10 hw) (w11 hw) A512 f519 f518 f520 (W.2.2.2.2.2.2.2.2.2.2.2.2.2.2.2.1.ext O517.2) W.2.2.2.2.2.2.2.2.2.2.2.2.2.2.2.2 (len := 7) rfl rfl (by decide) (by decide) (List.forall_mem_cons.mpr ⟨(own_ch lx0 ux0 (by decide) (by decide)), (List.forall_mem_cons.mpr ⟨(own_ch lx1 ux1 (by decide) (by decide)), (List.forall_mem_cons.mpr ⟨(own_ch lx2 ux2 (by decide) (by decide)), (List.forall_mem_cons.mpr ⟨(own_ch lx3 ux3 (by decide) (by decide)), (List.forall_mem_cons.mpr ⟨(own_ch lx4 ux4 (by decide) (by decide)), (List.forall_mem_cons.mpr ⟨(own_ch lx5 ux5 (by decide) (by decide)), (List.forall_mem_cons.mpr ⟨(own_ch lx6 ux6 (by decide) (by decide)), (fun _ z => nomatch z)⟩)⟩)⟩)⟩)⟩)⟩)⟩) ge514 (own_szO O517) (W := 1) (by decide) (by decide) (k' := 4) rfl (n' := 30) rfl (by decide) (by decide) rfl rfl at_515 (q := 518) rfl ?_
    intro T521 h522 X523 K524 F525
    have Y526 := Wx.keep Y516 K524 (sfS (Wx.safeE Y504 sf515 E511) sf0)
    have O527 := O517.keep K524 (allS ge514 all0)
    refine g_astore C X523 at_518 (q := 520) rfl rfl (L' := #[.val (.int q0), .val (.int q1), .val (.int q2), .val (.int q3), .val (.long qf), .second, .val (.int qm), .val (.ref aw), .val (.int qn), .val (.int (7 : Int32)), .val (.ref b431), .val (.ref b506), .unset]) rfl ?_
    exact rmJ520 hw C (St.mono X523 (by decide) (by decide)) Y526 O527 W F525 ge514
  · refine g_iload C X at_318 (q := 320) rfl rfl ?_
    refine g_newP C X (w1 hw) rfl at_320 (q := 322) rfl (by decide) (cap := 8) (by decide) (by decide) (k' := 2) rfl (n' := 20) rfl (by decide) (by decide) ?_
    intro T529 h530 kA531 b528 g533 X532 E534 V535
    have ge536 : n0 ≤ b528 := own_ge O g533
    have Y537 := Wx.ext Y E534
    have O538 := O.ext E534
    have V539 : Arv Z h530 b528 kA531 .char (8 : Int32) [(.int (0 : Int32)), (.int (0 : Int32)), (.int (0 : Int32)), (.int (0 : Int32)), (.int (0 : Int32)), (.int (0 : Int32)), (.int (0 : Int32)), (.int (0 : Int32))] (.int (0 : Int32)) := Arv.pad V535 (pad_rep [] _ 8)
    have Y540 := Yar.of V539
    refine g_astore C X532 at_322 (q := 324) rfl rfl (L' := #[.val (.int q0), .val (.int q1), .val (.int q2), .val (.int q3), .val (.long qf), .second, .val (.int qm), .val (.ref aw), .val (.int qn), .val (.int (8 : Int32)), .val (.ref b528), .unset, .unset]) rfl ?_
    refine g_iload C X532 at_324 (q := 326) rfl rfl ?_
    refine g_ifN C X532 at_326 (q := 329) rfl (by decide) ?_
    refine g_aload C X532 at_329 (q := 331) rfl rfl rfl ?_
    refine g_iconst C X532 at_331 (q := 332) rfl (z := (0 : Int32)) rfl ?_
    refine g_aload C X532 at_332 (q := 334) rfl rfl rfl ?_
    refine g_iconst C X532 at_334 (q := 335) rfl (z := (0 : Int32)) rfl ?_
    have f541 := (Vw.ext E534)
    refine g_caload C X532 f541 (by decide) (w := (.int x0)) rfl at_335 (q := 336) rfl ?_
    refine g_castore C X532 V539 (by decide) (i := 0) (by decide) (Nat.le_of_ble_eq_true rfl) (vs' := [(.int x0), (.int (0 : Int32)), (.int (0 : Int32)), (.int (0 : Int32)), (.int (0 : Int32)), (.int (0 : Int32)), (.int (0 : Int32)), (.int (0 : Int32))]) (by rw [own_narC lx0 ux0 (by decide) (by decide)]; rfl) ge536 at_336 (q := 337) rfl ?_
    intro T542 h543 X544 W545 V546
    have Y547 := Wx.wr Y537 W545 (own_safeY (Cx.alike C) Y540 (by decide))
    have O548 := O538.wr W545 ge536
    refine g_iload C X544 at_337 (q := 339) rfl rfl ?_
    refine g_iconst C X544 at_339 (q := 340) rfl (z := (1 : Int32)) rfl ?_
    refine g_icN C X544 at_340 (q := 343) rfl (by decide) ?_
    refine g_aload C X544 at_343 (q := 345) rfl rfl rfl ?_
    refine g_iconst C X544 at_345 (q := 346) rfl (z := (1 : Int32)) rfl ?_
    refine g_aload C X544 at_346 (q := 348) rfl rfl rfl ?_
    refine g_iconst C X544 at_348 (q := 349) rfl (z := (1 : Int32)) rfl ?_
    have f549 := (f541.other W545 (own_ne Vw.lt g533))
    refine g_caload C X544 f549 (by decide) (w := (.int x1)) rfl at_349 (q := 350) rfl ?_
    refine g_castore C X544 V546 (by decide) (i := 1) (by decide) (Nat.le_of_ble_eq_true rfl) (vs' := [(.int x0), (.int x1), (.int (0 : Int32)), (.int (0 : Int32)), (.int (0 : Int32)), (.int (0 : Int32)), (.int (0 : Int32)), (.int (0 : Int32))]) (by rw [own_narC lx1 ux1 (by decide) (by decide)]; rfl) ge536 at_350 (q := 351) rfl ?_
    intro T550 h551 X552 W553 V554
    have f555 := (Y540.wr W545)
    have Y556 := Wx.wr Y547 W553 (own_safeY (Cx.alike C) f555 (by decide))
    have O557 := O548.wr W553 ge536
    refine g_iload C X552 at_351 (q := 353) rfl rfl ?_
    refine g_iconst C X552 at_353 (q := 354) rfl (z := (2 : Int32)) rfl ?_
    refine g_icN C X552 at_354 (q := 357) rfl (by decide) ?_
    refine g_aload C X552 at_357 (q := 359) rfl rfl rfl ?_
    refine g_iconst C X552 at_359 (q := 360) rfl (z := (2 : Int32)) rfl ?_
    refine g_aload C X552 at_360 (q := 362) rfl rfl rfl ?_
    refine g_iconst C X552 at_362 (q := 363) rfl (z := (2 : Int32)) rfl ?_
    have f558 := (f549.other W553 (own_ne Vw.lt g533))
    refine g_caload C X552 f558 (by decide) (w := (.int x2)) rfl at_363 (q := 364) rfl ?_
    refine g_castore C X552 V554 (by decide) (i := 2) (by decide) (Nat.le_of_ble_eq_true rfl) (vs' := [(.int x0), (.int x1), (.int x2), (.int (0 : Int32)), (.int (0 : Int32)), (.int (0 : Int32)), (.int (0 : Int32)), (.int (0 : Int32))]) (by rw [own_narC lx2 ux2 (by decide) (by decide)]; rfl) ge536 at_364 (q := 365) rfl ?_
    intro T559 h560 X561 W562 V563
    have f564 := (f555.wr W553)
    have Y565 := Wx.wr Y556 W562 (own_safeY (Cx.alike C) f564 (by decide))
    have O566 := O557.wr W562 ge536
    refine g_iload C X561 at_365 (q := 367) rfl rfl ?_
    refine g_iconst C X561 at_367 (q := 368) rfl (z := (3 : Int32)) rfl ?_
    refine g_icN C X561 at_368 (q := 371) rfl (by decide) ?_
    refine g_aload C X561 at_371 (q := 373) rfl rfl rfl ?_
    refine g_iconst C X561 at_373 (q := 374) rfl (z := (3 : Int32)) rfl ?_
    refine g_aload C X561 at_374 (q := 376) rfl rfl rfl ?_
    refine g_iconst C X561 at_376 (q := 377) rfl (z := (3 : Int32)) rfl ?_
    have f567 := (f558.other W562 (own_ne Vw.lt g533))
    refine g_caload C X561 f567 (by decide) (w := (.int x3)) rfl at_377 (q := 378) rfl ?_
    refine g_castore C X561 V563 (by decide) (i := 3) (by decide) (Nat.le_of_ble_eq_true rfl) (vs' := [(.int x0), (.int x1), (.int x2), (.int x3), (.int (0 : Int32)), (.int (0 : Int32)), (.int (0 : Int32)), (.int (0 : Int32))]) (by rw [own_narC lx3 ux3 (by decide) (by decide)]; rfl) ge536 at_378 (q := 379) rfl ?_
    intro T568 h569 X570 W571 V572
    have f573 := (f564.wr W562)
    have Y574 := Wx.wr Y565 W571 (own_safeY (Cx.alike C) f573 (by decide))
    have O575 := O566.wr W571 ge536
    refine g_iload C X570 at_379 (q := 381) rfl rfl ?_
    refine g_iconst C X570 at_381 (q := 382) rfl (z := (4 : Int32)) rfl ?_
    refine g_icN C X570 at_382 (q := 385) rfl (by decide) ?_
    refine g_aload C X570 at_385 (q := 387) rfl rfl rfl ?_
    refine g_iconst C X570 at_387 (q := 388) rfl (z := (4 : Int32)) rfl ?_
    refine g_aload C X570 at_388 (q := 390) rfl rfl rfl ?_
    refine g_iconst C X570 at_390 (q := 391) rfl (z := (4 : Int32)) rfl ?_
    have f576 := (f567.other W571 (own_ne Vw.lt g533))
    refine g_caload C X570 f576 (by decide) (w := (.int x4)) rfl at_391 (q := 392) rfl ?_
    refine g_castore C X570 V572 (by decide) (i := 4) (by decide) (Nat.le_of_ble_eq_true rfl) (vs' := [(.int x0), (.int x1), (.int x2), (.int x3), (.int x4), (.int (0 : Int32)), (.int (0 : Int32)), (.int (0 : Int32))]) (by rw [own_narC lx4 ux4 (by decide) (by decide)]; rfl) ge536 at_392 (q := 393) rfl ?_
    intro T577 h578 X579 W580 V581
    have f582 := (f573.wr W571)
    have Y583 := Wx.wr Y574 W580 (own_safeY (Cx.alike C) f582 (by decide))
    have O584 := O575.wr W580 ge536
    refine g_iload C X579 at_393 (q := 395) rfl rfl ?_
    refine g_iconst C X579 at_395 (q := 396) rfl (z := (5 : Int32)) rfl ?_
    refine g_icN C X579 at_396 (q := 399) rfl (by decide) ?_
    refine g_aload C X579 at_399 (q := 401) rfl rfl rfl ?_
    refine g_iconst C X579 at_401 (q := 402) rfl (z := (5 : Int32)) rfl ?_
    refine g_aload C X579 at_402 (q := 404) rfl rfl rfl ?_
    refine g_iconst C X579 at_404 (q := 405) rfl (z := (5 : Int32)) rfl ?_
    have f585 := (f576.other W580 (own_ne Vw.lt g533))
    refine g_caload C X579 f585 (by decide) (w := (.int x5)) rfl at_405 (q := 406) rfl ?_
    refine g_castore C X579 V581 (by decide) (i := 5) (by decide) (Nat.le_of_ble_eq_true rfl) (vs' := [(.int x0), (.int x1), (.int x2), (.int x3), (.int x4), (.int x5), (.int (0 : Int32)), (.int (0 : Int32))]) (by rw [own_narC lx5 ux5 (by decide) (by decide)]; rfl) ge536 at_406 (q := 407) rfl ?_
    intro T586 h587 X588 W589 V590
    have f591 := (f582.wr W580)
    have Y592 := Wx.wr Y583 W589 (own_safeY (Cx.alike C) f591 (by decide))
    have O593 := O584.wr W589 ge536
    refine g_iload C X588 at_407 (q := 409) rfl rfl ?_
    refine g_bipush C X588 at_409 (q := 411) rfl (z := (6 : Int32)) rfl ?_
    refine g_icN C X588 at_411 (q := 414) rfl (by decide) ?_
    refine g_aload C X588 at_414 (q := 416) rfl rfl rfl ?_
    refine g_bipush C X588 at_416 (q := 418) rfl (z := (6 : Int32)) rfl ?_
    refine g_aload C X588 at_418 (q := 420) rfl rfl rfl ?_
    refine g_bipush C X588 at_420 (q := 422) rfl (z := (6 : Int32)) rfl ?_
    have f594 := (f585.other W589 (own_ne Vw.lt g533))
    refine g_caload C X588 f594 (by decide) (w := (.int x6)) rfl at_422 (q := 423) rfl ?_
    refine g_castore C X588 V590 (by decide) (i := 6) (by decide) (Nat.le_of_ble_eq_true rfl) (vs' := [(.int x0), (.int x1), (.int x2), (.int x3), (.int x4), (.int x5), (.int x6), (.int (0 : Int32))]) (by rw [own_narC lx6 ux6 (by decide) (by decide)]; rfl) ge536 at_423 (q := 424) rfl ?_
    intro T595 h596 X597 W598 V599
    have f600 := (f591.wr W589)
    have Y601 := Wx.wr Y592 W598 (own_safeY (Cx.alike C) f600 (by decide))
    have O602 := O593.wr W598 ge536
    refine g_iload C X597 at_424 (q := 426) rfl rfl ?_
    refine g_bipush C X597 at_426 (q := 428) rfl (z := (7 : Int32)) rfl ?_
    refine g_icN C X597 at_428 (q := 431) rfl (by decide) ?_
    refine g_aload C X597 at_431 (q := 433) rfl rfl rfl ?_
    refine g_bipush C X597 at_433 (q := 435) rfl (z := (7 : Int32)) rfl ?_
    refine g_aload C X597 at_435 (q := 437) rfl rfl rfl ?_
    refine g_bipush C X597 at_437 (q := 439) rfl (z := (7 : Int32)) rfl ?_
    have f603 := (f594.other W598 (own_ne Vw.lt g533))
    refine g_caload C X597 f603 (by decide) (w := (.int x7)) rfl at_439 (q := 440) rfl ?_
    refine g_castore C X597 V599 (by decide) (i := 7) (by decide) (Nat.le_of_ble_eq_true rfl) (vs' := [(.int x0), (.int x1), (.int x2), (.int x3), (.int x4), (.int x5), (.int x6), (.int x7)]) (by rw [own_narC lx7 ux7 (by decide) (by decide)]; rfl) ge536 at_440 (q := 441) rfl ?_
    intro T604 h605 X606 W607 V608
    have f609 := (f600.wr W598)
    have Y610 := Wx.wr Y601 W607 (own_safeY (Cx.alike C) f609 (by decide))
    have O611 := O602.wr W607 ge536
    refine g_iload C X606 at_441 (q := 443) rfl rfl ?_
    refine g_bipush C X606 at_443 (q := 445) rfl (z := (8 : Int32)) rfl ?_
    refine g_icY C X606 at_445 (by decide) (q := 458) (by decide) (by decide) ?_
    refine g_iload C X606 at_458 (q := 460) rfl rfl ?_
    refine g_bipush C X606 at_460 (q := 462) rfl (z := (9 : Int32)) rfl ?_
    refine g_icY C X606 at_462 (by decide) (q := 475) (by decide) (by decide) ?_
    refine g_iload C X606 at_475 (q := 477) rfl rfl ?_
    refine g_bipush C X606 at_477 (q := 479) rfl (z := (10 : Int32)) rfl ?_
    refine g_icY C X606 at_479 (by decide) (q := 492) (by decide) (by decide) ?_
    refine g_iload C X606 at_492 (q := 494) rfl rfl ?_
    refine g_bipush C X606 at_494 (q := 496) rfl (z := (11 : Int32)) rfl ?_
    refine g_icY C X606 at_496 (by decide) (q := 509) (by decide) (by decide) ?_
    refine g_new C X606 (w7 hw) (w8 hw) (w9 hw) at_509 (q := 512) rfl (k' := 3) rfl (n' := 24) rfl (by decide) (by decide) ?_
    intro T613 h614 b612 g616 X615 E617 A618 D619
    have ge620 : n0 ≤ b612 := own_ge O611 g616
    have sf621 := Wx.safe0 Y610 (Nat.le_of_eq g616.symm)
    have Y622 := Wx.ext Y610 E617
    have O623 := O611.ext E617
    have f624 : Fld Z h614 b612 "java/lang/String" "coder" "B" (.int (0 : Int32)) := D619 (Or.inr (w33 hw)) (ty := .byte) (by decide)
    have f625 : Fld Z h614 b612 "java/lang/String" "value" "[B" .null := D619 (Or.inr (w35 hw)) (ty := (.array .byte)) (by decide)
    refine g_dup C X615 at_512 (q := 513) rfl rfl ?_
    refine g_aload C X615 at_513 (q := 515) rfl rfl rfl ?_
    have f626 := (V608.ext E617)
    refine g_strNew C X615 (cs := [x0, x1, x2, x3, x4, x5, x6, x7]) (own_words hw) (w8 hw) (w10 hw) (w11 hw) A618 f625 f624 f626 (W.2.2.2.2.2.2.2.2.2.2.2.2.2.2.2.1.ext O623.2) W.2.2.2.2.2.2.2.2.2.2.2.2.2.2.2.2 (len := 8) rfl rfl (by decide) (by decide) (List.forall_mem_cons.mpr ⟨(own_ch lx0 ux0 (by decide) (by decide)), (List.forall_mem_cons.mpr ⟨(own_ch lx1 ux1 (by decide) (by decide)), (List.forall_mem_cons.mpr ⟨(own_ch lx2 ux2 (by decide) (by decide)), (List.forall_mem_cons.mpr ⟨(own_ch lx3 ux3 (by decide) (by decide)), (List.forall_mem_cons.mpr ⟨(own_ch lx4 ux4 (by decide) (by decide)), (List.forall_mem_cons.mpr ⟨(own_ch lx5 ux5 (by decide) (by decide)), (List.forall_mem_cons.mpr ⟨(own_ch lx6 ux6 (by decide) (by decide)), (List.forall_mem_cons.mpr ⟨(own_ch lx7 ux7 (by decide) (by decide)), (fun _ z => nomatch z)⟩)⟩)⟩)⟩)⟩)⟩)⟩)⟩) ge620 (own_szO O623) (W := 1) (by decide) (by decide) (k' := 4) rfl (n' := 32) rfl (by decide) (by decide) rfl rfl at_515 (q := 518) rfl ?_
    intro T627 h628 X629 K630 F631
    have Y632 := Wx.keep Y622 K630 (sfS (Wx.safeE Y610 sf621 E617) sf0)
    have O633 := O623.keep K630 (allS ge620 all0)
    refine g_astore C X629 at_518 (q := 520) rfl rfl (L' := #[.val (.int q0), .val (.int q1), .val (.int q2), .val (.int q3), .val (.long qf), .second, .val (.int qm), .val (.ref aw), .val (.int qn), .val (.int (8 : Int32)), .val (.ref b528), .val (.ref b612), .unset]) rfl ?_
    exact rmJ520 hw C (St.mono X629 (by decide) (by decide)) Y632 O633 W F631 ge620
  · refine g_iload C X at_318 (q := 320) rfl rfl ?_
    refine g_newP C X (w1 hw) rfl at_320 (q := 322) rfl (by decide) (cap := 9) (by decide) (by decide) (k' := 2) rfl (n' := 21) rfl (by decide) (by decide) ?_
    intro T635 h636 kA637 b634 g639 X638 E640 V641
    have ge642 : n0 ≤ b634 := own_ge O g639
    have Y643 := Wx.ext Y E640
    have O644 := O.ext E640
    have V645 : Arv Z h636 b634 kA637 .char (9 : Int32) [(.int (0 : Int32)), (.int (0 : Int32)), (.int (0 : Int32)), (.int (0 : Int32)), (.int (0 : Int32)), (.int (0 : Int32)), (.int (0 : Int32)), (.int (0 : Int32)), (.int (0 : Int32))] (.int (0 : Int32)) := Arv.pad V641 (pad_rep [] _ 9)
    have Y646 := Yar.of V645
    refine g_astore C X638 at_322 (q := 324) rfl rfl (L' := #[.val (.int q0), .val (.int q1), .val (.int q2), .val (.int q3), .val (.long qf), .second, .val (.int qm), .val (.ref aw), .val (.int qn), .val (.int (9 : Int32)), .val (.ref b634), .unset, .unset]) rfl ?_
    refine g_iload C X638 at_324 (q := 326) rfl rfl ?_
    refine g_ifN C X638 at_326 (q := 329) rfl (by decide) ?_
    refine g_aload C X638 at_329 (q := 331) rfl rfl rfl ?_
    refine g_iconst C X638 at_331 (q := 332) rfl (z := (0 : Int32)) rfl ?_
    refine g_aload C X638 at_332 (q := 334) rfl rfl rfl ?_
    refine g_iconst C X638 at_334 (q := 335) rfl (z := (0 : Int32)) rfl ?_
    have f647 := (Vw.ext E640)
    refine g_caload C X638 f647 (by decide) (w := (.int x0)) rfl at_335 (q := 336) rfl ?_
    refine g_castore C X638 V645 (by decide) (i := 0) (by decide) (Nat.le_of_ble_eq_true rfl) (vs' := [(.int x0), (.int (0 : Int32)), (.int (0 : Int32)), (.int (0 : Int32)), (.int (0 : Int32)), (.int (0 : Int32)), (.int (0 : Int32)), (.int (0 : Int32)), (.int (0 : Int32))]) (by rw [own_narC lx0 ux0 (by decide) (by decide)]; rfl) ge642 at_336 (q := 337) rfl ?_
    intro T648 h649 X650 W651 V652
    have Y653 := Wx.wr Y643 W651 (own_safeY (Cx.alike C) Y646 (by decide))
    have O654 := O644.wr W651 ge642
    refine g_iload C X650 at_337 (q := 339) rfl rfl ?_
    refine g_iconst C X650 at_339 (q := 340) rfl (z := (1 : Int32)) rfl ?_
    refine g_icN C X650 at_340 (q := 343) rfl (by decide) ?_
    refine g_aload C X650 at_343 (q := 345) rfl rfl rfl ?_
    refine g_iconst C X650 at_345 (q := 346) rfl (z := (1 : Int32)) rfl ?_
    refine g_aload C X650 at_346 (q := 348) rfl rfl rfl ?_
    refine g_iconst C X650 at_348 (q := 349) rfl (z := (1 : Int32)) rfl ?_
    have f655 := (f647.other W651 (own_ne Vw.lt g639))
    refine g_caload C X650 f655 (by decide) (w := (.int x1)) rfl at_349 (q := 350) rfl ?_
    refine g_castore C X650 V652 (by decide) (i := 1) (by decide) (Nat.le_of_ble_eq_true rfl) (vs' := [(.int x0), (.int x1), (.int (0 : Int32)), (.int (0 : Int32)), (.int (0 : Int32)), (.int (0 : Int32)), (.int (0 : Int32)), (.int (0 : Int32)), (.int (0 : Int32))]) (by rw [own_narC lx1 ux1 (by decide) (by decide)]; rfl) ge642 at_350 (q := 351) rfl ?_
    intro T656 h657 X658 W659 V660
    have f661 := (Y646.wr W651)
    have Y662 := Wx.wr Y653 W659 (own_safeY (Cx.alike C) f661 (by decide))
    have O663 := O654.wr W659 ge642
    refine g_iload C X658 at_351 (q := 353) rfl rfl ?_
    refine g_iconst C X658 at_353 (q := 354) rfl (z := (2 : Int32)) rfl ?_
    refine g_icN C X658 at_354 (q := 357) rfl (by decide) ?_
    refine g_aload C X658 at_357 (q := 359) rfl rfl rfl ?_
    refine g_iconst C X658 at_359 (q := 360) rfl (z := (2 : Int32)) rfl ?_
    refine g_aload C X658 at_360 (q := 362) rfl rfl rfl ?_
    refine g_iconst C X658 at_362 (q := 363) rfl (z := (2 : Int32)) rfl ?_
    have f664 := (f655.other W659 (own_ne Vw.lt g639))
    refine g_caload C X658 f664 (by decide) (w := (.int x2)) rfl at_363 (q := 364) rfl ?_
    refine g_castore C X658 V660 (by decide) (i := 2) (by decide) (Nat.le_of_ble_eq_true rfl) (vs' := [(.int x0), (.int x1), (.int x2), (.int (0 : Int32)), (.int (0 : Int32)), (.int (0 : Int32)), (.int (0 : Int32)), (.int (0 : Int32)), (.int (0 : Int32))]) (by rw [own_narC lx2 ux2 (by decide) (by decide)]; rfl) ge642 at_364 (q := 365) rfl ?_
    intro T665 h666 X667 W668 V669
    have f670 := (f661.wr W659)
    have Y671 := Wx.wr Y662 W668 (own_safeY (Cx.alike C) f670 (by decide))
    have O672 := O663.wr W668 ge642
    refine g_iload C X667 at_365 (q := 367) rfl rfl ?_
    refine g_iconst C X667 at_367 (q := 368) rfl (z := (3 : Int32)) rfl ?_
    refine g_icN C X667 at_368 (q := 371) rfl (by decide) ?_
    refine g_aload C X667 at_371 (q := 373) rfl rfl rfl ?_
    refine g_iconst C X667 at_373 (q := 374) rfl (z := (3 : Int32)) rfl ?_
    refine g_aload C X667 at_374 (q := 376) rfl rfl rfl ?_
    refine g_iconst C X667 at_376 (q := 377) rfl (z := (3 : Int32)) rfl ?_
    have f673 := (f664.other W668 (own_ne Vw.lt g639))
    refine g_caload C X667 f673 (by decide) (w := (.int x3)) rfl at_377 (q := 378) rfl ?_
    refine g_castore C X667 V669 (by decide) (i := 3) (by decide) (Nat.le_of_ble_eq_true rfl) (vs' := [(.int x0), (.int x1), (.int x2), (.int x3), (.int (0 : Int32)), (.int (0 : Int32)), (.int (0 : Int32)), (.int (0 : Int32)), (.int (0 : Int32))]) (by rw [own_narC lx3 ux3 (by decide) (by decide)]; rfl) ge642 at_378 (q := 379) rfl ?_
    intro T674 h675 X676 W677 V678
    have f679 := (f670.wr W668)
    have Y680 := Wx.wr Y671 W677 (own_safeY (Cx.alike C) f679 (by decide))
    have O681 := O672.wr W677 ge642
    refine g_iload C X676 at_379 (q := 381) rfl rfl ?_
    refine g_iconst C X676 at_381 (q := 382) rfl (z := (4 : Int32)) rfl ?_
    refine g_icN C X676 at_382 (q := 385) rfl (by decide) ?_
    refine g_aload C X676 at_385 (q := 387) rfl rfl rfl ?_
    refine g_iconst C X676 at_387 (q := 388) rfl (z := (4 : Int32)) rfl ?_
    refine g_aload C X676 at_388 (q := 390) rfl rfl rfl ?_
    refine g_iconst C X676 at_390 (q := 391) rfl (z := (4 : Int32)) rfl ?_
    have f682 := (f673.other W677 (own_ne Vw.lt g639))
    refine g_caload C X676 f682 (by decide) (w := (.int x4)) rfl at_391 (q := 392) rfl ?_
    refine g_castore C X676 V678 (by decide) (i := 4) (by decide) (Nat.le_of_ble_eq_true rfl) (vs' := [(.int x0), (.int x1), (.int x2), (.int x3), (.int x4), (.int (0 : Int32)), (.int (0 : Int32)), (.int (0 : Int32)), (.int (0 : Int32))]) (by rw [own_narC lx4 ux4 (by decide) (by decide)]; rfl) ge642 at_392 (q := 393) rfl ?_
    intro T683 h684 X685 W686 V687
    have f688 := (f679.wr W677)
    have Y689 := Wx.wr Y680 W686 (own_safeY (Cx.alike C) f688 (by decide))
    have O690 := O681.wr W686 ge642
    refine g_iload C X685 at_393 (q := 395) rfl rfl ?_
    refine g_iconst C X685 at_395 (q := 396) rfl (z := (5 : Int32)) rfl ?_
    refine g_icN C X685 at_396 (q := 399) rfl (by decide) ?_
    refine g_aload C X685 at_399 (q := 401) rfl rfl rfl ?_
    refine g_iconst C X685 at_401 (q := 402) rfl (z := (5 : Int32)) rfl ?_
    refine g_aload C X685 at_402 (q := 404) rfl rfl rfl ?_
    refine g_iconst C X685 at_404 (q := 405) rfl (z := (5 : Int32)) rfl ?_
    have f691 := (f682.other W686 (own_ne Vw.lt g639))
    refine g_caload C X685 f691 (by decide) (w := (.int x5)) rfl at_405 (q := 406) rfl ?_
    refine g_castore C X685 V687 (by decide) (i := 5) (by decide) (Nat.le_of_ble_eq_true rfl) (vs' := [(.int x0), (.int x1), (.int x2), (.int x3), (.int x4), (.int x5), (.int (0 : Int32)), (.int (0 : Int32)), (.int (0 : Int32))]) (by rw [own_narC lx5 ux5 (by decide) (by decide)]; rfl) ge642 at_406 (q := 407) rfl ?_
    intro T692 h693 X694 W695 V696
    have f697 := (f688.wr W686)
    have Y698 := Wx.wr Y689 W695 (own_safeY (Cx.alike C) f697 (by decide))
    have O699 := O690.wr W695 ge642
    refine g_iload C X694 at_407 (q := 409) rfl rfl ?_
    refine g_bipush C X694 at_409 (q := 411) rfl (z := (6 : Int32)) rfl ?_
    refine g_icN C X694 at_411 (q := 414) rfl (by decide) ?_
    refine g_aload C X694 at_414 (q := 416) rfl rfl rfl ?_
    refine g_bipush C X694 at_416 (q := 418) rfl (z := (6 : Int32)) rfl ?_
    refine g_aload C X694 at_418 (q := 420) rfl rfl rfl ?_
    refine g_bipush C X694 at_420 (q := 422) rfl (z := (6 : Int32)) rfl ?_
    have f700 := (f691.other W695 (own_ne Vw.lt g639))
    refine g_caload C X694 f700 (by decide) (w := (.int x6)) rfl at_422 (q := 423) rfl ?_
    refine g_castore C X694 V696 (by decide) (i := 6) (by decide) (Nat.le_of_ble_eq_true rfl) (vs' := [(.int x0), (.int x1), (.int x2), (.int x3), (.int x4), (.int x5), (.int x6), (.int (0 : Int32)), (.int (0 : Int32))]) (by rw [own_narC lx6 ux6 (by decide) (by decide)]; rfl) ge642 at_423 (q := 424) rfl ?_
    intro T701 h702 X703 W704 V705
    have f706 := (f697.wr W695)
    have Y707 := Wx.wr Y698 W704 (own_safeY (Cx.alike C) f706 (by decide))
    have O708 := O699.wr W704 ge642
    refine g_iload C X703 at_424 (q := 426) rfl rfl ?_
    refine g_bipush C X703 at_426 (q := 428) rfl (z := (7 : Int32)) rfl ?_
    refine g_icN C X703 at_428 (q := 431) rfl (by decide) ?_
    refine g_aload C X703 at_431 (q := 433) rfl rfl rfl ?_
    refine g_bipush C X703 at_433 (q := 435) rfl (z := (7 : Int32)) rfl ?_
    refine g_aload C X703 at_435 (q := 437) rfl rfl rfl ?_
    refine g_bipush C X703 at_437 (q := 439) rfl (z := (7 : Int32)) rfl ?_
    have f709 := (f700.other W704 (own_ne Vw.lt g639))
    refine g_caload C X703 f709 (by decide) (w := (.int x7)) rfl at_439 (q := 440) rfl ?_
    refine g_castore C X703 V705 (by decide) (i := 7) (by decide) (Nat.le_of_ble_eq_true rfl) (vs' := [(.int x0), (.int x1), (.int x2), (.int x3), (.int x4), (.int x5), (.int x6), (.int x7), (.int (0 : Int32))]) (by rw [own_narC lx7 ux7 (by decide) (by decide)]; rfl) ge642 at_440 (q := 441) rfl ?_
    intro T710 h711 X712 W713 V714
    have f715 := (f706.wr W704)
    have Y716 := Wx.wr Y707 W713 (own_safeY (Cx.alike C) f715 (by decide))
    have O717 := O708.wr W713 ge642
    refine g_iload C X712 at_441 (q := 443) rfl rfl ?_
    refine g_bipush C X712 at_443 (q := 445) rfl (z := (8 : Int32)) rfl ?_
    refine g_icN C X712 at_445 (q := 448) rfl (by decide) ?_
    refine g_aload C X712 at_448 (q := 450) rfl rfl rfl ?_
    refine g_bipush C X712 at_450 (q := 452) rfl (z := (8 : Int32)) rfl ?_
    refine g_aload C X712 at_452 (q := 454) rfl rfl rfl ?_
    refine g_bipush C X712 at_454 (q := 456) rfl (z := (8 : Int32)) rfl ?_
    have f718 := (f709.other W713 (own_ne Vw.lt g639))
    refine g_caload C X712 f718 (by decide) (w := (.int x8)) rfl at_456 (q := 457) rfl ?_
    refine g_castore C X712 V714 (by decide) (i := 8) (by decide) (Nat.le_of_ble_eq_true rfl) (vs' := [(.int x0), (.int x1), (.int x2), (.int x3), (.int x4), (.int x5), (.int x6), (.int x7), (.int x8)]) (by rw [own_narC lx8 ux8 (by decide) (by decide)]; rfl) ge642 at_457 (q := 458) rfl ?_
    intro T719 h720 X721 W722 V723
    have f724 := (f715.wr W713)
    have Y725 := Wx.wr Y716 W722 (own_safeY (Cx.alike C) f724 (by decide))
    have O726 := O717.wr W722 ge642
    refine g_iload C X721 at_458 (q := 460) rfl rfl ?_
    refine g_bipush C X721 at_460 (q := 462) rfl (z := (9 : Int32)) rfl ?_
    refine g_icY C X721 at_462 (by decide) (q := 475) (by decide) (by decide) ?_
    refine g_iload C X721 at_475 (q := 477) rfl rfl ?_
    refine g_bipush C X721 at_477 (q := 479) rfl (z := (10 : Int32)) rfl ?_
    refine g_icY C X721 at_479 (by decide) (q := 492) (by decide) (by decide) ?_
    refine g_iload C X721 at_492 (q := 494) rfl rfl ?_
    refine g_bipush C X721 at_494 (q := 496) rfl (z := (11 : Int32)) rfl ?_
    refine g_icY C X721 at_496 (by decide) (q := 509) (by decide) (by decide) ?_
    refine g_new C X721 (w7 hw) (w8 hw) (w9 hw) at_509 (q := 512) rfl (k' := 3) rfl (n' := 25) rfl (by decide) (by decide) ?_
    intro T728 h729 b727 g731 X730 E732 A733 D734
    have ge735 : n0 ≤ b727 := own_ge O726 g731
    have sf736 := Wx.safe0 Y725 (Nat.le_of_eq g731.symm)
    have Y737 := Wx.ext Y725 E732
    have O738 := O726.ext E732
    have f739 : Fld Z h729 b727 "java/lang/String" "coder" "B" (.int (0 : Int32)) := D734 (Or.inr (w33 hw)) (ty := .byte) (by decide)
    have f740 : Fld Z h729 b727 "java/lang/String" "value" "[B" .null := D734 (Or.inr (w35 hw)) (ty := (.array .byte)) (by decide)
    refine g_dup C X730 at_512 (q := 513) rfl rfl ?_
    refine g_aload C X730 at_513 (q := 515) rfl rfl rfl ?_
    have f741 := (V723.ext E732)
    refine g_strNew C X730 (cs := [x0, x1, x2, x3, x4, x5, x6, x7, x8]) (own_words hw) (w8 hw) (w10 hw) (w11 hw) A733 f740 f739 f741 (W.2.2.2.2.2.2.2.2.2.2.2.2.2.2.2.1.ext O738.2) W.2.2.2.2.2.2.2.2.2.2.2.2.2.2.2.2 (len := 9) rfl rfl (by decide) (by decide) (List.forall_mem_cons.mpr ⟨(own_ch lx0 ux0 (by decide) (by decide)), (List.forall_mem_cons.mpr ⟨(own_ch lx1 ux1 (by decide) (by decide)), (List.forall_mem_cons.mpr ⟨(own_ch lx2 ux2 (by decide) (by decide)), (List.forall_mem_cons.mpr ⟨(own_ch lx3 ux3 (by decide) (by decide)), (List.forall_mem_cons.mpr ⟨(own_ch lx4 ux4 (by decide) (by decide)), (List.forall_mem_cons.mpr ⟨(own_ch lx5 ux5 (by decide) (by decide)), (List.forall_mem_cons.mpr ⟨(own_ch lx6 ux6 (by decide) (by decide)), (List.forall_mem_cons.mpr ⟨(own_ch lx7 ux7 (by decide) (by decide)), (List.forall_mem_cons.mpr ⟨(own_ch lx8 ux8 (by decide) (by decide)), (fun _ z => nomatch z)⟩)⟩)⟩)⟩)⟩)⟩)⟩)⟩)⟩) ge735 (own_szO O738) (W := 1) (by decide) (by decide) (k' := 4) rfl (n' := 34) rfl (by decide) (by decide) rfl rfl at_515 (q := 518) rfl ?_
    intro T742 h743 X744 K745 F746
    have Y747 := Wx.keep Y737 K745 (sfS (Wx.safeE Y725 sf736 E732) sf0)
    have O748 := O738.keep K745 (allS ge735 all0)
    refine g_astore C X744 at_518 (q := 520) rfl rfl (L' := #[.val (.int q0), .val (.int q1), .val (.int q2), .val (.int q3), .val (.long qf), .second, .val (.int qm), .val (.ref aw), .val (.int qn), .val (.int (9 : Int32)), .val (.ref b634), .val (.ref b727), .unset]) rfl ?_
    exact rmJ520 hw C (St.mono X744 (by decide) (by decide)) Y747 O748 W F746 ge735
  · refine g_iload C X at_318 (q := 320) rfl rfl ?_
    refine g_newP C X (w1 hw) rfl at_320 (q := 322) rfl (by decide) (cap := 10) (by decide) (by decide) (k' := 2) rfl (n' := 22) rfl (by decide) (by decide) ?_
    intro T750 h751 kA752 b749 g754 X753 E755 V756
    have ge757 : n0 ≤ b749 := own_ge O g754
    have Y758 := Wx.ext Y E755
    have O759 := O.ext E755
    have V760 : Arv Z h751 b749 kA752 .char (10 : Int32) [(.int (0 : Int32)), (.int (0 : Int32)), (.int (0 : Int32)), (.int (0 : Int32)), (.int (0 : Int32)), (.int (0 : Int32)), (.int (0 : Int32)), (.int (0 : Int32)), (.int (0 : Int32)), (.int (0 : Int32))] (.int (0 : Int32)) := Arv.pad V756 (pad_rep [] _ 10)
    have Y761 := Yar.of V760
    refine g_astore C X753 at_322 (q := 324) rfl rfl (L' := #[.val (.int q0), .val (.int q1), .val (.int q2), .val (.int q3), .val (.long qf), .second, .val (.int qm), .val (.ref aw), .val (.int qn), .val (.int (10 : Int32)), .val (.ref b749), .unset, .unset]) rfl ?_
    refine g_iload C X753 at_324 (q := 326) rfl rfl ?_
    refine g_ifN C X753 at_326 (q := 329) rfl (by decide) ?_
    refine g_aload C X753 at_329 (q := 331) rfl rfl rfl ?_
    refine g_iconst C X753 at_331 (q := 332) rfl (z := (0 : Int32)) rfl ?_
    refine g_aload C X753 at_332 (q := 334) rfl rfl rfl ?_
    refine g_iconst C X753 at_334 (q := 335) rfl (z := (0 : Int32)) rfl ?_
    have f762 := (Vw.ext E755)
    refine g_caload C X753 f762 (by decide) (w := (.int x0)) rfl at_335 (q := 336) rfl ?_
    refine g_castore C X753 V760 (by decide) (i := 0) (by decide) (Nat.le_of_ble_eq_true rfl) (vs' := [(.int x0), (.int (0 : Int32)), (.int (0 : Int32)), (.int (0 : Int32)), (.int (0 : Int32)), (.int (0 : Int32)), (.int (0 : Int32)), (.int (0 : Int32)), (.int (0 : Int32)), (.int (0 : Int32))]) (by rw [own_narC lx0 ux0 (by decide) (by decide)]; rfl) ge757 at_336 (q := 337) rfl ?_
    intro T763 h764 X765 W766 V767
    have Y768 := Wx.wr Y758 W766 (own_safeY (Cx.alike C) Y761 (by decide))
    have O769 := O759.wr W766 ge757
    refine g_iload C X765 at_337 (q := 339) rfl rfl ?_
    refine g_iconst C X765 at_339 (q := 340) rfl (z := (1 : Int32)) rfl ?_
    refine g_icN C X765 at_340 (q := 343) rfl (by decide) ?_
    refine g_aload C X765 at_343 (q := 345) rfl rfl rfl ?_
    refine g_iconst C X765 at_345 (q := 346) rfl (z := (1 : Int32)) rfl ?_
    refine g_aload C X765 at_346 (q := 348) rfl rfl rfl ?_
    refine g_iconst C X765 at_348 (q := 349) rfl (z := (1 : Int32)) rfl ?_
    have f770 := (f762.other W766 (own_ne Vw.lt g754))
    refine g_caload C X765 f770 (by decide) (w := (.int x1)) rfl at_349 (q := 350) rfl ?_
    refine g_castore C X765 V767 (by decide) (i := 1) (by decide) (Nat.le_of_ble_eq_true rfl) (vs' := [(.int x0), (.int x1), (.int (0 : Int32)), (.int (0 : Int32)), (.int (0 : Int32)), (.int (0 : Int32)), (.int (0 : Int32)), (.int (0 : Int32)), (.int (0 : Int32)), (.int (0 : Int32))]) (by rw [own_narC lx1 ux1 (by decide) (by decide)]; rfl) ge757 at_350 (q := 351) rfl ?_
    intro T771 h772 X773 W774 V775
    have f776 := (Y761.wr W766)
    have Y777 := Wx.wr Y768 W774 (own_safeY (Cx.alike C) f776 (by decide))
    have O778 := O769.wr W774 ge757
    refine g_iload C X773 at_351 (q := 353) rfl rfl ?_
    refine g_iconst C X773 at_353 (q := 354) rfl (z := (2 : Int32)) rfl ?_
    refine g_icN C X773 at_354 (q := 357) rfl (by decide) ?_
    refine g_aload C X773 at_357 (q := 359) rfl rfl rfl ?_
    refine g_iconst C X773 at_359 (q := 360) rfl (z := (2 : Int32)) rfl ?_
    refine g_aload C X773 at_360 (q := 362) rfl rfl rfl ?_
    refine g_iconst C X773 at_362 (q := 363) rfl (z := (2 : Int32)) rfl ?_
    have f779 := (f770.other W774 (own_ne Vw.lt g754))
    refine g_caload C X773 f779 (by decide) (w := (.int x2)) rfl at_363 (q := 364) rfl ?_
    refine g_castore C X773 V775 (by decide) (i := 2) (by decide) (Nat.le_of_ble_eq_true rfl) (vs' := [(.int x0), (.int x1), (.int x2), (.int (0 : Int32)), (.int (0 : Int32)), (.int (0 : Int32)), (.int (0 : Int32)), (.int (0 : Int32)), (.int (0 : Int32)), (.int (0 : Int32))]) (by rw [own_narC lx2 ux2 (by decide) (by decide)]; rfl) ge757 at_364 (q := 365) rfl ?_
    intro T780 h781 X782 W783 V784
    have f785 := (f776.wr W774)
    have Y786 := Wx.wr Y777 W783 (own_safeY (Cx.alike C) f785 (by decide))
    have O787 := O778.wr W783 ge757
    refine g_iload C X782 at_365 (q := 367) rfl rfl ?_
    refine g_iconst C X782 at_367 (q := 368) rfl (z := (3 : Int32)) rfl ?_
    refine g_icN C X782 at_368 (q := 371) rfl (by decide) ?_
    refine g_aload C X782 at_371 (q := 373) rfl rfl rfl ?_
    refine g_iconst C X782 at_373 (q := 374) rfl (z := (3 : Int32)) rfl ?_
    refine g_aload C X782 at_374 (q := 376) rfl rfl rfl ?_
    refine g_iconst C X782 at_376 (q := 377) rfl (z := (3 : Int32)) rfl ?_
    have f788 := (f779.other W783 (own_ne Vw.lt g754))
    refine g_caload C X782 f788 (by decide) (w := (.int x3)) rfl at_377 (q := 378) rfl ?_
    refine g_castore C X782 V784 (by decide) (i := 3) (by decide) (Nat.le_of_ble_eq_true rfl) (vs' := [(.int x0), (.int x1), (.int x2), (.int x3), (.int (0 : Int32)), (.int (0 : Int32)), (.int (0 : Int32)), (.int (0 : Int32)), (.int (0 : Int32)), (.int (0 : Int32))]) (by rw [own_narC lx3 ux3 (by decide) (by decide)]; rfl) ge757 at_378 (q := 379) rfl ?_
    intro T789 h790 X791 W792 V793
    have f794 := (f785.wr W783)
    have Y795 := Wx.wr Y786 W792 (own_safeY (Cx.alike C) f794 (by decide))
    have O796 := O787.wr W792 ge757
    refine g_iload C X791 at_379 (q := 381) rfl rfl ?_
    refine g_iconst C X791 at_381 (q := 382) rfl (z := (4 : Int32)) rfl ?_
    refine g_icN C X791 at_382 (q := 385) rfl (by decide) ?_
    refine g_aload C X791 at_385 (q := 387) rfl rfl rfl ?_
    refine g_iconst C X791 at_387 (q := 388) rfl (z := (4 : Int32)) rfl ?_
    refine g_aload C X791 at_388 (q := 390) rfl rfl rfl ?_
    refine g_iconst C X791 at_390 (q := 391) rfl (z := (4 : Int32)) rfl ?_
    have f797 := (f788.other W792 (own_ne Vw.lt g754))
    refine g_caload C X791 f797 (by decide) (w := (.int x4)) rfl at_391 (q := 392) rfl ?_
    refine g_castore C X791 V793 (by decide) (i := 4) (by decide) (Nat.le_of_ble_eq_true rfl) (vs' := [(.int x0), (.int x1), (.int x2), (.int x3), (.int x4), (.int (0 : Int32)), (.int (0 : Int32)), (.int (0 : Int32)), (.int (0 : Int32)), (.int (0 : Int32))]) (by rw [own_narC lx4 ux4 (by decide) (by decide)]; rfl) ge757 at_392 (q := 393) rfl ?_
    intro T798 h799 X800 W801 V802
    have f803 := (f794.wr W792)
    have Y804 := Wx.wr Y795 W801 (own_safeY (Cx.alike C) f803 (by decide))
    have O805 := O796.wr W801 ge757
    refine g_iload C X800 at_393 (q := 395) rfl rfl ?_
    refine g_iconst C X800 at_395 (q := 396) rfl (z := (5 : Int32)) rfl ?_
    refine g_icN C X800 at_396 (q := 399) rfl (by decide) ?_
    refine g_aload C X800 at_399 (q := 401) rfl rfl rfl ?_
    refine g_iconst C X800 at_401 (q := 402) rfl (z := (5 : Int32)) rfl ?_
    refine g_aload C X800 at_402 (q := 404) rfl rfl rfl ?_
    refine g_iconst C X800 at_404 (q := 405) rfl (z := (5 : Int32)) rfl ?_
    have f806 := (f797.other W801 (own_ne Vw.lt g754))
    refine g_caload C X800 f806 (by decide) (w := (.int x5)) rfl at_405 (q := 406) rfl ?_
    refine g_castore C X800 V802 (by decide) (i := 5) (by decide) (Nat.le_of_ble_eq_true rfl) (vs' := [(.int x0), (.int x1), (.int x2), (.int x3), (.int x4), (.int x5), (.int (0 : Int32)), (.int (0 : Int32)), (.int (0 : Int32)), (.int (0 : Int32))]) (by rw [own_narC lx5 ux5 (by decide) (by decide)]; rfl) ge757 at_406 (q := 407) rfl ?_
    intro T807 h808 X809 W810 V811
    have f812 := (f803.wr W801)
    have Y813 := Wx.wr Y804 W810 (own_safeY (Cx.alike C) f812 (by decide))
    have O814 := O805.wr W810 ge757
    refine g_iload C X809 at_407 (q := 409) rfl rfl ?_
    refine g_bipush C X809 at_409 (q := 411) rfl (z := (6 : Int32)) rfl ?_
    refine g_icN C X809 at_411 (q := 414) rfl (by decide) ?_
    refine g_aload C X809 at_414 (q := 416) rfl rfl rfl ?_
    refine g_bipush C X809 at_416 (q := 418) rfl (z := (6 : Int32)) rfl ?_
    refine g_aload C X809 at_418 (q := 420) rfl rfl rfl ?_
    refine g_bipush C X809 at_420 (q := 422) rfl (z := (6 : Int32)) rfl ?_
    have f815 := (f806.other W810 (own_ne Vw.lt g754))
    refine g_caload C X809 f815 (by decide) (w := (.int x6)) rfl at_422 (q := 423) rfl ?_
    refine g_castore C X809 V811 (by decide) (i := 6) (by decide) (Nat.le_of_ble_eq_true rfl) (vs' := [(.int x0), (.int x1), (.int x2), (.int x3), (.int x4), (.int x5), (.int x6), (.int (0 : Int32)), (.int (0 : Int32)), (.int (0 : Int32))]) (by rw [own_narC lx6 ux6 (by decide) (by decide)]; rfl) ge757 at_423 (q := 424) rfl ?_
    intro T816 h817 X818 W819 V820
    have f821 := (f812.wr W810)
    have Y822 := Wx.wr Y813 W819 (own_safeY (Cx.alike C) f821 (by decide))
    have O823 := O814.wr W819 ge757
    refine g_iload C X818 at_424 (q := 426) rfl rfl ?_
    refine g_bipush C X818 at_426 (q := 428) rfl (z := (7 : Int32)) rfl ?_
    refine g_icN C X818 at_428 (q := 431) rfl (by decide) ?_
    refine g_aload C X818 at_431 (q := 433) rfl rfl rfl ?_
    refine g_bipush C X818 at_433 (q := 435) rfl (z := (7 : Int32)) rfl ?_
    refine g_aload C X818 at_435 (q := 437) rfl rfl rfl ?_
    refine g_bipush C X818 at_437 (q := 439) rfl (z := (7 : Int32)) rfl ?_
    have f824 := (f815.other W819 (own_ne Vw.lt g754))
    refine g_caload C X818 f824 (by decide) (w := (.int x7)) rfl at_439 (q := 440) rfl ?_
    refine g_castore C X818 V820 (by decide) (i := 7) (by decide) (Nat.le_of_ble_eq_true rfl) (vs' := [(.int x0), (.int x1), (.int x2), (.int x3), (.int x4), (.int x5), (.int x6), (.int x7), (.int (0 : Int32)), (.int (0 : Int32))]) (by rw [own_narC lx7 ux7 (by decide) (by decide)]; rfl) ge757 at_440 (q := 441) rfl ?_
    intro T825 h826 X827 W828 V829
    have f830 := (f821.wr W819)
    have Y831 := Wx.wr Y822 W828 (own_safeY (Cx.alike C) f830 (by decide))
    have O832 := O823.wr W828 ge757
    refine g_iload C X827 at_441 (q := 443) rfl rfl ?_
    refine g_bipush C X827 at_443 (q := 445) rfl (z := (8 : Int32)) rfl ?_
    refine g_icN C X827 at_445 (q := 448) rfl (by decide) ?_
    refine g_aload C X827 at_448 (q := 450) rfl rfl rfl ?_
    refine g_bipush C X827 at_450 (q := 452) rfl (z := (8 : Int32)) rfl ?_
    refine g_aload C X827 at_452 (q := 454) rfl rfl rfl ?_
    refine g_bipush C X827 at_454 (q := 456) rfl (z := (8 : Int32)) rfl ?_
    have f833 := (f824.other W828 (own_ne Vw.lt g754))
    refine g_caload C X827 f833 (by decide) (w := (.int x8)) rfl at_456 (q := 457) rfl ?_
    refine g_castore C X827 V829 (by decide) (i := 8) (by decide) (Nat.le_of_ble_eq_true rfl) (vs' := [(.int x0), (.int x1), (.int x2), (.int x3), (.int x4), (.int x5), (.int x6), (.int x7), (.int x8), (.int (0 : Int32))]) (by rw [own_narC lx8 ux8 (by decide) (by decide)]; rfl) ge757 at_457 (q := 458) rfl ?_
    intro T834 h835 X836 W837 V838
    have f839 := (f830.wr W828)
    have Y840 := Wx.wr Y831 W837 (own_safeY (Cx.alike C) f839 (by decide))
    have O841 := O832.wr W837 ge757
    refine g_iload C X836 at_458 (q := 460) rfl rfl ?_
    refine g_bipush C X836 at_460 (q := 462) rfl (z := (9 : Int32)) rfl ?_
    refine g_icN C X836 at_462 (q := 465) rfl (by decide) ?_
    refine g_aload C X836 at_465 (q := 467) rfl rfl rfl ?_
    refine g_bipush C X836 at_467 (q := 469) rfl (z := (9 : Int32)) rfl ?_
    refine g_aload C X836 at_469 (q := 471) rfl rfl rfl ?_
    refine g_bipush C X836 at_471 (q := 473) rfl (z := (9 : Int32)) rfl ?_
    have f842 := (f833.other W837 (own_ne Vw.lt g754))
    refine g_caload C X836 f842 (by decide) (w := (.int x9)) rfl at_473 (q := 474) rfl ?_
    refine g_castore C X836 V838 (by decide) (i := 9) (by decide) (Nat.le_of_ble_eq_true rfl) (vs' := [(.int x0), (.int x1), (.int x2), (.int x3), (.int x4), (.int x5), (.int x6), (.int x7), (.int x8), (.int x9)]) (by rw [own_narC lx9 ux9 (by decide) (by decide)]; rfl) ge757 at_474 (q := 475) rfl ?_
    intro T843 h844 X845 W846 V847
    have f848 := (f839.wr W837)
    have Y849 := Wx.wr Y840 W846 (own_safeY (Cx.alike C) f848 (by decide))
    have O850 := O841.wr W846 ge757
    refine g_iload C X845 at_475 (q := 477) rfl rfl ?_
    refine g_bipush C X845 at_477 (q := 479) rfl (z := (10 : Int32)) rfl ?_
    refine g_icY C X845 at_479 (by decide) (q := 492) (by decide) (by decide) ?_
    refine g_iload C X845 at_492 (q := 494) rfl rfl ?_
    refine g_bipush C X845 at_494 (q := 496) rfl (z := (11 : Int32)) rfl ?_
    refine g_icY C X845 at_496 (by decide) (q := 509) (by decide) (by decide) ?_
    refine g_new C X845 (w7 hw) (w8 hw) (w9 hw) at_509 (q := 512) rfl (k' := 3) rfl (n' := 26) rfl (by decide) (by decide) ?_
    intro T852 h853 b851 g855 X854 E856 A857 D858
    have ge859 : n0 ≤ b851 := own_ge O850 g855
    have sf860 := Wx.safe0 Y849 (Nat.le_of_eq g855.symm)
    have Y861 := Wx.ext Y849 E856
    have O862 := O850.ext E856
    have f863 : Fld Z h853 b851 "java/lang/String" "coder" "B" (.int (0 : Int32)) := D858 (Or.inr (w33 hw)) (ty := .byte) (by decide)
    have f864 : Fld Z h853 b851 "java/lang/String" "value" "[B" .null := D858 (Or.inr (w35 hw)) (ty := (.array .byte)) (by decide)
    refine g_dup C X854 at_512 (q := 513) rfl rfl ?_
    refine g_aload C X854 at_513 (q := 515) rfl rfl rfl ?_
    have f865 := (V847.ext E856)
    refine g_strNew C X854 (cs := [x0, x1, x2, x3, x4, x5, x6, x7, x8, x9]) (own_words hw) (w8 hw) (w10 hw) (w11 hw) A857 f864 f863 f865 (W.2.2.2.2.2.2.2.2.2.2.2.2.2.2.2.1.ext O862.2) W.2.2.2.2.2.2.2.2.2.2.2.2.2.2.2.2 (len := 10) rfl rfl (by decide) (by decide) (List.forall_mem_cons.mpr ⟨(own_ch lx0 ux0 (by decide) (by decide)), (List.forall_mem_cons.mpr ⟨(own_ch lx1 ux1 (by decide) (by decide)), (List.forall_mem_cons.mpr ⟨(own_ch lx2 ux2 (by decide) (by decide)), (List.forall_mem_cons.mpr ⟨(own_ch lx3 ux3 (by decide) (by decide)), (List.forall_mem_cons.mpr ⟨(own_ch lx4 ux4 (by decide) (by decide)), (List.forall_mem_cons.mpr ⟨(own_ch lx5 ux5 (by decide) (by decide)), (List.forall_mem_cons.mpr ⟨(own_ch lx6 ux6 (by decide) (by decide)), (List.forall_mem_cons.mpr ⟨(own_ch lx7 ux7 (by decide) (by decide)), (List.forall_mem_cons.mpr ⟨(own_ch lx8 ux8 (by decide) (by decide)), (List.forall_mem_cons.mpr ⟨(own_ch lx9 ux9 (by decide) (by decide)), (fun _ z => nomatch z)⟩)⟩)⟩)⟩)⟩)⟩)⟩)⟩)⟩)⟩) ge859 (own_szO O862) (W := 1) (by decide) (by decide) (k' := 4) rfl (n' := 36) rfl (by decide) (by decide) rfl rfl at_515 (q := 518) rfl ?_
    intro T866 h867 X868 K869 F870
    have Y871 := Wx.keep Y861 K869 (sfS (Wx.safeE Y849 sf860 E856) sf0)
    have O872 := O862.keep K869 (allS ge859 all0)
    refine g_astore C X868 at_518 (q := 520) rfl rfl (L' := #[.val (.int q0), .val (.int q1), .val (.int q2), .val (.int q3), .val (.long qf), .second, .val (.int qm), .val (.ref aw), .val (.int qn), .val (.int (10 : Int32)), .val (.ref b749), .val (.ref b851), .unset]) rfl ?_
    exact rmJ520 hw C (St.mono X868 (by decide) (by decide)) Y871 O872 W F870 ge859
  · refine g_iload C X at_318 (q := 320) rfl rfl ?_
    refine g_newP C X (w1 hw) rfl at_320 (q := 322) rfl (by decide) (cap := 11) (by decide) (by decide) (k' := 2) rfl (n' := 23) rfl (by decide) (by decide) ?_
    intro T874 h875 kA876 b873 g878 X877 E879 V880
    have ge881 : n0 ≤ b873 := own_ge O g878
    have Y882 := Wx.ext Y E879
    have O883 := O.ext E879
    have V884 : Arv Z h875 b873 kA876 .char (11 : Int32) [(.int (0 : Int32)), (.int (0 : Int32)), (.int (0 : Int32)), (.int (0 : Int32)), (.int (0 : Int32)), (.int (0 : Int32)), (.int (0 : Int32)), (.int (0 : Int32)), (.int (0 : Int32)), (.int (0 : Int32)), (.int (0 : Int32))] (.int (0 : Int32)) := Arv.pad V880 (pad_rep [] _ 11)
    have Y885 := Yar.of V884
    refine g_astore C X877 at_322 (q := 324) rfl rfl (L' := #[.val (.int q0), .val (.int q1), .val (.int q2), .val (.int q3), .val (.long qf), .second, .val (.int qm), .val (.ref aw), .val (.int qn), .val (.int (11 : Int32)), .val (.ref b873), .unset, .unset]) rfl ?_
    refine g_iload C X877 at_324 (q := 326) rfl rfl ?_
    refine g_ifN C X877 at_326 (q := 329) rfl (by decide) ?_
    refine g_aload C X877 at_329 (q := 331) rfl rfl rfl ?_
    refine g_iconst C X877 at_331 (q := 332) rfl (z := (0 : Int32)) rfl ?_
    refine g_aload C X877 at_332 (q := 334) rfl rfl rfl ?_
    refine g_iconst C X877 at_334 (q := 335) rfl (z := (0 : Int32)) rfl ?_
    have f886 := (Vw.ext E879)
    refine g_caload C X877 f886 (by decide) (w := (.int x0)) rfl at_335 (q := 336) rfl ?_
    refine g_castore C X877 V884 (by decide) (i := 0) (by decide) (Nat.le_of_ble_eq_true rfl) (vs' := [(.int x0), (.int (0 : Int32)), (.int (0 : Int32)), (.int (0 : Int32)), (.int (0 : Int32)), (.int (0 : Int32)), (.int (0 : Int32)), (.int (0 : Int32)), (.int (0 : Int32)), (.int (0 : Int32)), (.int (0 : Int32))]) (by rw [own_narC lx0 ux0 (by decide) (by decide)]; rfl) ge881 at_336 (q := 337) rfl ?_
    intro T887 h888 X889 W890 V891
    have Y892 := Wx.wr Y882 W890 (own_safeY (Cx.alike C) Y885 (by decide))
    have O893 := O883.wr W890 ge881
    refine g_iload C X889 at_337 (q := 339) rfl rfl ?_
    refine g_iconst C X889 at_339 (q := 340) rfl (z := (1 : Int32)) rfl ?_
    refine g_icN C X889 at_340 (q := 343) rfl (by decide) ?_
    refine g_aload C X889 at_343 (q := 345) rfl rfl rfl ?_
    refine g_iconst C X889 at_345 (q := 346) rfl (z := (1 : Int32)) rfl ?_
    refine g_aload C X889 at_346 (q := 348) rfl rfl rfl ?_
    refine g_iconst C X889 at_348 (q := 349) rfl (z := (1 : Int32)) rfl ?_
    have f894 := (f886.other W890 (own_ne Vw.lt g878))
    refine g_caload C X889 f894 (by decide) (w := (.int x1)) rfl at_349 (q := 350) rfl ?_
    refine g_castore C X889 V891 (by decide) (i := 1) (by decide) (Nat.le_of_ble_eq_true rfl) (vs' := [(.int x0), (.int x1), (.int (0 : Int32)), (.int (0 : Int32)), (.int (0 : Int32)), (.int (0 : Int32)), (.int (0 : Int32)), (.int (0 : Int32)), (.int (0 : Int32)), (.int (0 : Int32)), (.int (0 : Int32))]) (by rw [own_narC lx1 ux1 (by decide) (by decide)]; rfl) ge881 at_350 (q := 351) rfl ?_
    intro T895 h896 X897 W898 V899
    have f900 := (Y885.wr W890)
    have Y901 := Wx.wr Y892 W898 (own_safeY (Cx.alike C) f900 (by decide))
    have O902 := O893.wr W898 ge881
    refine g_iload C X897 at_351 (q := 353) rfl rfl ?_
    refine g_iconst C X897 at_353 (q := 354) rfl (z := (2 : Int32)) rfl ?_
    refine g_icN C X897 at_354 (q := 357) rfl (by decide) ?_
    refine g_aload C X897 at_357 (q := 359) rfl rfl rfl ?_
    refine g_iconst C X897 at_359 (q := 360) rfl (z := (2 : Int32)) rfl ?_
    refine g_aload C X897 at_360 (q := 362) rfl rfl rfl ?_
    refine g_iconst C X897 at_362 (q := 363) rfl (z := (2 : Int32)) rfl ?_
    have f903 := (f894.other W898 (own_ne Vw.lt g878))
    refine g_caload C X897 f903 (by decide) (w := (.int x2)) rfl at_363 (q := 364) rfl ?_
    refine g_castore C X897 V899 (by decide) (i := 2) (by decide) (Nat.le_of_ble_eq_true rfl) (vs' := [(.int x0), (.int x1), (.int x2), (.int (0 : Int32)), (.int (0 : Int32)), (.int (0 : Int32)), (.int (0 : Int32)), (.int (0 : Int32)), (.int (0 : Int32)), (.int (0 : Int32)), (.int (0 : Int32))]) (by rw [own_narC lx2 ux2 (by decide) (by decide)]; rfl) ge881 at_364 (q := 365) rfl ?_
    intro T904 h905 X906 W907 V908
    have f909 := (f900.wr W898)
    have Y910 := Wx.wr Y901 W907 (own_safeY (Cx.alike C) f909 (by decide))
    have O911 := O902.wr W907 ge881
    refine g_iload C X906 at_365 (q := 367) rfl rfl ?_
    refine g_iconst C X906 at_367 (q := 368) rfl (z := (3 : Int32)) rfl ?_
    refine g_icN C X906 at_368 (q := 371) rfl (by decide) ?_
    refine g_aload C X906 at_371 (q := 373) rfl rfl rfl ?_
    refine g_iconst C X906 at_373 (q := 374) rfl (z := (3 : Int32)) rfl ?_
    refine g_aload C X906 at_374 (q := 376) rfl rfl rfl ?_
    refine g_iconst C X906 at_376 (q := 377) rfl (z := (3 : Int32)) rfl ?_
    have f912 := (f903.other W907 (own_ne Vw.lt g878))
    refine g_caload C X906 f912 (by decide) (w := (.int x3)) rfl at_377 (q := 378) rfl ?_
    refine g_castore C X906 V908 (by decide) (i := 3) (by decide) (Nat.le_of_ble_eq_true rfl) (vs' := [(.int x0), (.int x1), (.int x2), (.int x3), (.int (0 : Int32)), (.int (0 : Int32)), (.int (0 : Int32)), (.int (0 : Int32)), (.int (0 : Int32)), (.int (0 : Int32)), (.int (0 : Int32))]) (by rw [own_narC lx3 ux3 (by decide) (by decide)]; rfl) ge881 at_378 (q := 379) rfl ?_
    intro T913 h914 X915 W916 V917
    have f918 := (f909.wr W907)
    have Y919 := Wx.wr Y910 W916 (own_safeY (Cx.alike C) f918 (by decide))
    have O920 := O911.wr W916 ge881
    refine g_iload C X915 at_379 (q := 381) rfl rfl ?_
    refine g_iconst C X915 at_381 (q := 382) rfl (z := (4 : Int32)) rfl ?_
    refine g_icN C X915 at_382 (q := 385) rfl (by decide) ?_
    refine g_aload C X915 at_385 (q := 387) rfl rfl rfl ?_
    refine g_iconst C X915 at_387 (q := 388) rfl (z := (4 : Int32)) rfl ?_
    refine g_aload C X915 at_388 (q := 390) rfl rfl rfl ?_
    refine g_iconst C X915 at_390 (q := 391) rfl (z := (4 : Int32)) rfl ?_
    have f921 := (f912.other W916 (own_ne Vw.lt g878))
    refine g_caload C X915 f921 (by decide) (w := (.int x4)) rfl at_391 (q := 392) rfl ?_
    refine g_castore C X915 V917 (by decide) (i := 4) (by decide) (Nat.le_of_ble_eq_true rfl) (vs' := [(.int x0), (.int x1), (.int x2), (.int x3), (.int x4), (.int (0 : Int32)), (.int (0 : Int32)), (.int (0 : Int32)), (.int (0 : Int32)), (.int (0 : Int32)), (.int (0 : Int32))]) (by rw [own_narC lx4 ux4 (by decide) (by decide)]; rfl) ge881 at_392 (q := 393) rfl ?_
    intro T922 h923 X924 W925 V926
    have f927 := (f918.wr W916)
    have Y928 := Wx.wr Y919 W925 (own_safeY (Cx.alike C) f927 (by decide))
    have O929 := O920.wr W925 ge881
    refine g_iload C X924 at_393 (q := 395) rfl rfl ?_
    refine g_iconst C X924 at_395 (q := 396) rfl (z := (5 : Int32)) rfl ?_
    refine g_icN C X924 at_396 (q := 399) rfl (by decide) ?_
    refine g_aload C X924 at_399 (q := 401) rfl rfl rfl ?_
    refine g_iconst C X924 at_401 (q := 402) rfl (z := (5 : Int32)) rfl ?_
    refine g_aload C X924 at_402 (q := 404) rfl rfl rfl ?_
    refine g_iconst C X924 at_404 (q := 405) rfl (z := (5 : Int32)) rfl ?_
    have f930 := (f921.other W925 (own_ne Vw.lt g878))
    refine g_caload C X924 f930 (by decide) (w := (.int x5)) rfl at_405 (q := 406) rfl ?_
    refine g_castore C X924 V926 (by decide) (i := 5) (by decide) (Nat.le_of_ble_eq_true rfl) (vs' := [(.int x0), (.int x1), (.int x2), (.int x3), (.int x4), (.int x5), (.int (0 : Int32)), (.int (0 : Int32)), (.int (0 : Int32)), (.int (0 : Int32)), (.int (0 : Int32))]) (by rw [own_narC lx5 ux5 (by decide) (by decide)]; rfl) ge881 at_406 (q := 407) rfl ?_
    intro T931 h932 X933 W934 V935
    have f936 := (f927.wr W925)
    have Y937 := Wx.wr Y928 W934 (own_safeY (Cx.alike C) f936 (by decide))
    have O938 := O929.wr W934 ge881
    refine g_iload C X933 at_407 (q := 409) rfl rfl ?_
    refine g_bipush C X933 at_409 (q := 411) rfl (z := (6 : Int32)) rfl ?_
    refine g_icN C X933 at_411 (q := 414) rfl (by decide) ?_
    refine g_aload C X933 at_414 (q := 416) rfl rfl rfl ?_
    refine g_bipush C X933 at_416 (q := 418) rfl (z := (6 : Int32)) rfl ?_
    refine g_aload C X933 at_418 (q := 420) rfl rfl rfl ?_
    refine g_bipush C X933 at_420 (q := 422) rfl (z := (6 : Int32)) rfl ?_
    have f939 := (f930.other W934 (own_ne Vw.lt g878))
    refine g_caload C X933 f939 (by decide) (w := (.int x6)) rfl at_422 (q := 423) rfl ?_
    refine g_castore C X933 V935 (by decide) (i := 6) (by decide) (Nat.le_of_ble_eq_true rfl) (vs' := [(.int x0), (.int x1), (.int x2), (.int x3), (.int x4), (.int x5), (.int x6), (.int (0 : Int32)), (.int (0 : Int32)), (.int (0 : Int32)), (.int (0 : Int32))]) (by rw [own_narC lx6 ux6 (by decide) (by decide)]; rfl) ge881 at_423 (q := 424) rfl ?_
    intro T940 h941 X942 W943 V944
    have f945 := (f936.wr W934)
    have Y946 := Wx.wr Y937 W943 (own_safeY (Cx.alike C) f945 (by decide))
    have O947 := O938.wr W943 ge881
    refine g_iload C X942 at_424 (q := 426) rfl rfl ?_
    refine g_bipush C X942 at_426 (q := 428) rfl (z := (7 : Int32)) rfl ?_
    refine g_icN C X942 at_428 (q := 431) rfl (by decide) ?_
    refine g_aload C X942 at_431 (q := 433) rfl rfl rfl ?_
    refine g_bipush C X942 at_433 (q := 435) rfl (z := (7 : Int32)) rfl ?_
    refine g_aload C X942 at_435 (q := 437) rfl rfl rfl ?_
    refine g_bipush C X942 at_437 (q := 439) rfl (z := (7 : Int32)) rfl ?_
    have f948 := (f939.other W943 (own_ne Vw.lt g878))
    refine g_caload C X942 f948 (by decide) (w := (.int x7)) rfl at_439 (q := 440) rfl ?_
    refine g_castore C X942 V944 (by decide) (i := 7) (by decide) (Nat.le_of_ble_eq_true rfl) (vs' := [(.int x0), (.int x1), (.int x2), (.int x3), (.int x4), (.int x5), (.int x6), (.int x7), (.int (0 : Int32)), (.int (0 : Int32)), (.int (0 : Int32))]) (by rw [own_narC lx7 ux7 (by decide) (by decide)]; rfl) ge881 at_440 (q := 441) rfl ?_
    intro T949 h950 X951 W952 V953
    have f954 := (f945.wr W943)
    have Y955 := Wx.wr Y946 W952 (own_safeY (Cx.alike C) f954 (by decide))
    have O956 := O947.wr W952 ge881
    refine g_iload C X951 at_441 (q := 443) rfl rfl ?_
    refine g_bipush C X951 at_443 (q := 445) rfl (z := (8 : Int32)) rfl ?_
    refine g_icN C X951 at_445 (q := 448) rfl (by decide) ?_
    refine g_aload C X951 at_448 (q := 450) rfl rfl rfl ?_
    refine g_bipush C X951 at_450 (q := 452) rfl (z := (8 : Int32)) rfl ?_
    refine g_aload C X951 at_452 (q := 454) rfl rfl rfl ?_
    refine g_bipush C X951 at_454 (q := 456) rfl (z := (8 : Int32)) rfl ?_
    have f957 := (f948.other W952 (own_ne Vw.lt g878))
    refine g_caload C X951 f957 (by decide) (w := (.int x8)) rfl at_456 (q := 457) rfl ?_
    refine g_castore C X951 V953 (by decide) (i := 8) (by decide) (Nat.le_of_ble_eq_true rfl) (vs' := [(.int x0), (.int x1), (.int x2), (.int x3), (.int x4), (.int x5), (.int x6), (.int x7), (.int x8), (.int (0 : Int32)), (.int (0 : Int32))]) (by rw [own_narC lx8 ux8 (by decide) (by decide)]; rfl) ge881 at_457 (q := 458) rfl ?_
    intro T958 h959 X960 W961 V962
    have f963 := (f954.wr W952)
    have Y964 := Wx.wr Y955 W961 (own_safeY (Cx.alike C) f963 (by decide))
    have O965 := O956.wr W961 ge881
    refine g_iload C X960 at_458 (q := 460) rfl rfl ?_
    refine g_bipush C X960 at_460 (q := 462) rfl (z := (9 : Int32)) rfl ?_
    refine g_icN C X960 at_462 (q := 465) rfl (by decide) ?_
    refine g_aload C X960 at_465 (q := 467) rfl rfl rfl ?_
    refine g_bipush C X960 at_467 (q := 469) rfl (z := (9 : Int32)) rfl ?_
    refine g_aload C X960 at_469 (q := 471) rfl rfl rfl ?_
    refine g_bipush C X960 at_471 (q := 473) rfl (z := (9 : Int32)) rfl ?_
    have f966 := (f957.other W961 (own_ne Vw.lt g878))
    refine g_caload C X960 f966 (by decide) (w := (.int x9)) rfl at_473 (q := 474) rfl ?_
    refine g_castore C X960 V962 (by decide) (i := 9) (by decide) (Nat.le_of_ble_eq_true rfl) (vs' := [(.int x0), (.int x1), (.int x2), (.int x3), (.int x4), (.int x5), (.int x6), (.int x7), (.int x8), (.int x9), (.int (0 : Int32))]) (by rw [own_narC lx9 ux9 (by decide) (by decide)]; rfl) ge881 at_474 (q := 475) rfl ?_
    intro T967 h968 X969 W970 V971
    have f972 := (f963.wr W961)
    have Y973 := Wx.wr Y964 W970 (own_safeY (Cx.alike C) f972 (by decide))
    have O974 := O965.wr W970 ge881
    refine g_iload C X969 at_475 (q := 477) rfl rfl ?_
    refine g_bipush C X969 at_477 (q := 479) rfl (z := (10 : Int32)) rfl ?_
    refine g_icN C X969 at_479 (q := 482) rfl (by decide) ?_
    refine g_aload C X969 at_482 (q := 484) rfl rfl rfl ?_
    refine g_bipush C X969 at_484 (q := 486) rfl (z := (10 : Int32)) rfl ?_
    refine g_aload C X969 at_486 (q := 488) rfl rfl rfl ?_
    refine g_bipush C X969 at_488 (q := 490) rfl (z := (10 : Int32)) rfl ?_
    have f975 := (f966.other W970 (own_ne Vw.lt g878))
    refine g_caload C X969 f975 (by decide) (w := (.int x10)) rfl at_490 (q := 491) rfl ?_
    refine g_castore C X969 V971 (by decide) (i := 10) (by decide) (Nat.le_of_ble_eq_true rfl) (vs' := [(.int x0), (.int x1), (.int x2), (.int x3), (.int x4), (.int x5), (.int x6), (.int x7), (.int x8), (.int x9), (.int x10)]) (by rw [own_narC lx10 ux10 (by decide) (by decide)]; rfl) ge881 at_491 (q := 492) rfl ?_
    intro T976 h977 X978 W979 V980
    have f981 := (f972.wr W970)
    have Y982 := Wx.wr Y973 W979 (own_safeY (Cx.alike C) f981 (by decide))
    have O983 := O974.wr W979 ge881
    refine g_iload C X978 at_492 (q := 494) rfl rfl ?_
    refine g_bipush C X978 at_494 (q := 496) rfl (z := (11 : Int32)) rfl ?_
    refine g_icY C X978 at_496 (by decide) (q := 509) (by decide) (by decide) ?_
    refine g_new C X978 (w7 hw) (w8 hw) (w9 hw) at_509 (q := 512) rfl (k' := 3) rfl (n' := 27) rfl (by decide) (by decide) ?_
    intro T985 h986 b984 g988 X987 E989 A990 D991
    have ge992 : n0 ≤ b984 := own_ge O983 g988
    have sf993 := Wx.safe0 Y982 (Nat.le_of_eq g988.symm)
    have Y994 := Wx.ext Y982 E989
    have O995 := O983.ext E989
    have f996 : Fld Z h986 b984 "java/lang/String" "coder" "B" (.int (0 : Int32)) := D991 (Or.inr (w33 hw)) (ty := .byte) (by decide)
    have f997 : Fld Z h986 b984 "java/lang/String" "value" "[B" .null := D991 (Or.inr (w35 hw)) (ty := (.array .byte)) (by decide)
    refine g_dup C X987 at_512 (q := 513) rfl rfl ?_
    refine g_aload C X987 at_513 (q := 515) rfl rfl rfl ?_
    have f998 := (V980.ext E989)
    refine g_strNew C X987 (cs := [x0, x1, x2, x3, x4, x5, x6, x7, x8, x9, x10]) (own_words hw) (w8 hw) (w10 hw) (w11 hw) A990 f997 f996 f998 (W.2.2.2.2.2.2.2.2.2.2.2.2.2.2.2.1.ext O995.2) W.2.2.2.2.2.2.2.2.2.2.2.2.2.2.2.2 (len := 11) rfl rfl (by decide) (by decide) (List.forall_mem_cons.mpr ⟨(own_ch lx0 ux0 (by decide) (by decide)), (List.forall_mem_cons.mpr ⟨(own_ch lx1 ux1 (by decide) (by decide)), (List.forall_mem_cons.mpr ⟨(own_ch lx2 ux2 (by decide) (by decide)), (List.forall_mem_cons.mpr ⟨(own_ch lx3 ux3 (by decide) (by decide)), (List.forall_mem_cons.mpr ⟨(own_ch lx4 ux4 (by decide) (by decide)), (List.forall_mem_cons.mpr ⟨(own_ch lx5 ux5 (by decide) (by decide)), (List.forall_mem_cons.mpr ⟨(own_ch lx6 ux6 (by decide) (by decide)), (List.forall_mem_cons.mpr ⟨(own_ch lx7 ux7 (by decide) (by decide)), (List.forall_mem_cons.mpr ⟨(own_ch lx8 ux8 (by decide) (by decide)), (List.forall_mem_cons.mpr ⟨(own_ch lx9 ux9 (by decide) (by decide)), (List.forall_mem_cons.mpr ⟨(own_ch lx10 ux10 (by decide) (by decide)), (fun _ z => nomatch z)⟩)⟩)⟩)⟩)⟩)⟩)⟩)⟩)⟩)⟩)⟩) ge992 (own_szO O995) (W := 1) (by decide) (by decide) (k' := 4) rfl (n' := 38) rfl (by decide) (by decide) rfl rfl at_515 (q := 518) rfl ?_
    intro T999 h1000 X1001 K1002 F1003
    have Y1004 := Wx.keep Y994 K1002 (sfS (Wx.safeE Y982 sf993 E989) sf0)
    have O1005 := O995.keep K1002 (allS ge992 all0)
    refine g_astore C X1001 at_518 (q := 520) rfl rfl (L' := #[.val (.int q0), .val (.int q1), .val (.int q2), .val (.int q3), .val (.long qf), .second, .val (.int qm), .val (.ref aw), .val (.int qn), .val (.int (11 : Int32)), .val (.ref b873), .val (.ref b984), .unset]) rfl ?_
    exact rmJ520 hw C (St.mono X1001 (by decide) (by decide)) Y1004 O1005 W F1003 ge992
set_option maxRecDepth 65536 in
set_option maxHeartbeats 40000000 in
theorem rmJ292 {l : Launch} {Z : State} {a0 : Array Value} (hw : ∀ d ∈ tables_1, d.before a0 Z = true) {a__VALUES : Addr} {a_H2 : Addr} {a_POSTGRESQL : Addr} {a_Dialect_H2__product : Addr} {a_Dialect_POSTGRESQL__product : Addr} {kc_a__VALUES : ClassId} {cz : Int32} {q0 q1 q2 q3 qm qn : Int32} {qf : Int64} {aw : Addr} {qk : Int32} {x0 x1 x2 x3 x4 x5 x6 x7 x8 x9 x10 x11 : Int32} {kw : ClassId}  {n0 : Nat} {p : Program} {e : Env} {s : State} {m : MethodId} {below : List Frame} {meth : Method} {c : Code} {T : State} {vm : Vm} {h : Heap} {as' : Array Value} (C : Cx p (s.setVm vm) m meth c Z "com/example/sober_repository/soberrepository/DialectOfPinLaw" code 13 (some .boolean) "law") (X : St p l e room_1 (s.setVm vm) m as' below meth c n0 T h 1 12) (Y : Wx Z consts_1 s vm h) (O : Old Z n0 h) (W : Wd Z a__VALUES a_H2 a_POSTGRESQL a_Dialect_H2__product a_Dialect_POSTGRESQL__product kc_a__VALUES cz) (Vw : Arv Z h aw kw .char (12 : Int32) [(.int x0), (.int x1), (.int x2), (.int x3), (.int x4), (.int x5), (.int x6), (.int x7), (.int x8), (.int x9), (.int x10), (.int x11)] (.int 0)) (gw : n0 ≤ aw) (lx0 : 0 ≤ x0.toInt) (ux0 : x0.toInt ≤ 255) (lx1 : 0 ≤ x1.toInt) (ux1 : x1.toInt ≤ 255) (lx2 : 0 ≤ x2.toInt) (ux2 : x2.toInt ≤ 255) (lx3 : 0 ≤ x3.toInt) (ux3 : x3.toInt ≤ 255) (lx4 : 0 ≤ x4.toInt) (ux4 : x4.toInt ≤ 255) (lx5 : 0 ≤ x5.toInt) (ux5 : x5.toInt ≤ 255) (lx6 : 0 ≤ x6.toInt) (ux6 : x6.toInt ≤ 255) (lx7 : 0 ≤ x7.toInt) (ux7 : x7.toInt ≤ 255) (lx8 : 0 ≤ x8.toInt) (ux8 : x8.toInt ≤ 255) (lx9 : 0 ≤ x9.toInt) (ux9 : x9.toInt ≤ 255) (lx10 : 0 ≤ x10.toInt) (ux10 : x10.toInt ≤ 255) (lx11 : 0 ≤ x11.toInt) (ux11 : x11.toInt ≤ 255) (lk : 0 ≤ qk.toInt) (uk : qk.toInt ≤ 11) :
    Goes p e below (FinW Z consts_1 (fun v h => ∃ w, v = some w ∧ (fun v h => v = .int 1 ∧ True) w h) s n0 24 3264) (T.setTop (mkF m 292 #[.val (.int q0), .val (.int q1), .val (.int q2), .val (.int q3), .val (.long qf), .second, .val (.int qm), .val (.ref aw), .val (.int qn), .val (.int qk), .unset, .unset, .unset] [])) := by
  have Yw := Yar.of Vw
  refine g_iloadN C X at_292 (q := 293) rfl rfl ?_
  refine g_iconst C X at_293 (q := 294) rfl (z := (1 : Int32)) rfl ?_
  obtain ⟨v1, ev1⟩ : ∃ z, (q2 &&& (1 : Int32)) = z := ⟨_, rfl⟩
  have hl2 : 0 ≤ v1.toInt := by rw [← ev1]; exact (c_and q2 (1 : Int32) (by decide)).1
  have hh3 : v1.toInt ≤ 1 := by rw [← ev1]; exact (c_and q2 (1 : Int32) (by decide)).2
  refine g_iand C X at_294 (q := 295) rfl (z := v1) ev1 ?_
  by_cases hc4 : v1 = (0 : Int32)
  · refine g_ifY C X at_295 (by decide) (q := 318) (by decide) (teq hc4).1 ?_
    obtain rfl : v1 = (0 : Int32) := hc4
    exact rmJ318 hw C (St.mono X (by decide) (by decide)) Y O W Vw gw lx0 ux0 lx1 ux1 lx2 ux2 lx3 ux3 lx4 ux4 lx5 ux5 lx6 ux6 lx7 ux7 lx8 ux8 lx9 ux9 lx10 ux10 lx11 ux11 (Int.le_trans (by decide) lk) (Int.le_trans uk (by decide))
  · refine g_ifN C X at_295 (q := 298) rfl (feq hc4).1 ?_
    have hr6 : 1 ≤ v1.toInt := own_f5 hc4 hl2 (by decide)
    obtain rfl : v1 = (1 : Int32) := own_f0 hr6 hh3 (by decide)
    refine g_iload C X at_298 (q := 300) rfl rfl ?_
    by_cases hc7 : (0 : Int32) < qk
    · refine g_ifN C X at_300 (q := 303) rfl (tlt hc7).2.2.2 ?_
      have hr8 : 1 ≤ qk.toInt := own_f3 hc7 (by decide)
      refine g_aload C X at_303 (q := 305) rfl rfl rfl ?_
      refine g_iloadN C X at_305 (q := 306) rfl rfl ?_
      refine g_iconst C X at_306 (q := 307) rfl (z := (1 : Int32)) rfl ?_
      obtain ⟨v9, ev9⟩ : ∃ z, ((q2.toUInt32 >>> ((1 : Int32) &&& 31).toUInt32).toInt32) = z := ⟨_, rfl⟩
      have hl10 : 0 ≤ v9.toInt := by rw [← ev9]; exact (own_ushr1 q2).1
      have hh11 : v9.toInt ≤ 2147483647 := by rw [← ev9]; exact (own_ushr1 q2).2
      refine g_iushr C X at_307 (q := 308) rfl (z := v9) ev9 ?_
      refine g_iload C X at_308 (q := 310) rfl rfl ?_
      obtain ⟨v12, ev12⟩ : ∃ z, (v9 % qk) = z := ⟨_, rfl⟩
      have hl13 : 0 ≤ v12.toInt := by rw [← ev12]; exact (own_remK hl10 hr8 uk).1
      have hh14 : v12.toInt ≤ 10 := by rw [← ev12]; exact (own_remK hl10 hr8 uk).2
      refine g_irem C X at_310 (q := 311) rfl (own_nz1 hr8) (z := v12) ev12 ?_
      refine g_iloadN C X at_311 (q := 312) rfl rfl ?_
      refine g_sipush C X at_312 (q := 315) rfl (z := (255 : Int32)) rfl ?_
      obtain ⟨v15, ev15⟩ : ∃ z, (q3 &&& (255 : Int32)) = z := ⟨_, rfl⟩
      have hl16 : 0 ≤ v15.toInt := by rw [← ev15]; exact (c_and q3 (255 : Int32) (by decide)).1
      have hh17 : v15.toInt ≤ 255 := by rw [← ev15]; exact (c_and q3 (255 : Int32) (by decide)).2
      refine g_iand C X at_315 (q := 316) rfl (z := v15) ev15 ?_
      refine g_i2c C X at_316 (q := 317) rfl (z := v15) (own_i2c hl16 hh17 (by decide) (by decide)) ?_
      rcases own_split11 hl13 (by omega) with rfl | rfl | rfl | rfl | rfl | rfl | rfl | rfl | rfl | rfl | rfl
      · refine g_castore C X Vw (by decide) (i := 0) (by decide) (Nat.le_of_ble_eq_true rfl) (vs' := [(.int v15), (.int x1), (.int x2), (.int x3), (.int x4), (.int x5), (.int x6), (.int x7), (.int x8), (.int x9), (.int x10), (.int x11)]) (by rw [own_narC hl16 hh17 (by decide) (by decide)]; rfl) gw at_317 (q := 318) rfl ?_
        intro T18 h19 X20 W21 V22
        have Y23 := Wx.wr Y W21 (own_safeY (Cx.alike C) Yw (by decide))
        have O24 := O.wr W21 gw
        exact rmJ318 hw C (St.mono X20 (by decide) (by decide)) Y23 O24 W V22 gw hl16 hh17 lx1 ux1 lx2 ux2 lx3 ux3 lx4 ux4 lx5 ux5 lx6 ux6 lx7 ux7 lx8 ux8 lx9 ux9 lx10 ux10 lx11 ux11 (Int.le_trans (by decide) hr8) (Int.le_trans uk (by decide))
      · refine g_castore C X Vw (by decide) (i := 1) (by decide) (Nat.le_of_ble_eq_true rfl) (vs' := [(.int x0), (.int v15), (.int x2), (.int x3), (.int x4), (.int x5), (.int x6), (.int x7), (.int x8), (.int x9), (.int x10), (.int x11)]) (by rw [own_narC hl16 hh17 (by decide) (by decide)]; rfl) gw at_317 (q := 318) rfl ?_
        intro T25 h26 X27 W28 V29
        have Y30 := Wx.wr Y W28 (own_safeY (Cx.alike C) Yw (by decide))
        have O31 := O.wr W28 gw
        exact rmJ318 hw C (St.mono X27 (by decide) (by decide)) Y30 O31 W V29 gw lx0 ux0 hl16 hh17 lx2 ux2 lx3 ux3 lx4 ux4 lx5 ux5 lx6 ux6 lx7 ux7 lx8 ux8 lx9 ux9 lx10 ux10 lx11 ux11 (Int.le_trans (by decide) hr8) (Int.le_trans uk (by decide))
      · refine g_castore C X Vw (by decide) (i := 2) (by decide) (Nat.le_of_ble_eq_true rfl) (vs' := [(.int x0), (.int x1), (.int v15), (.int x3), (.int x4), (.int x5), (.int x6), (.int x7), (.int x8), (.int x9), (.int x10), (.int x11)]) (by rw [own_narC hl16 hh17 (by decide) (by decide)]; rfl) gw at_317 (q := 318) rfl ?_
        intro T32 h33 X34 W35 V36
        have Y37 := Wx.wr Y W35 (own_safeY (Cx.alike C) Yw (by decide))
        have O38 := O.wr W35 gw
        exact rmJ318 hw C (St.mono X34 (by decide) (by decide)) Y37 O38 W V36 gw lx0 ux0 lx1 ux1 hl16 hh17 lx3 ux3 lx4 ux4 lx5 ux5 lx6 ux6 lx7 ux7 lx8 ux8 lx9 ux9 lx10 ux10 lx11 ux11 (Int.le_trans (by decide) hr8) (Int.le_trans uk (by decide))
      · refine g_castore C X Vw (by decide) (i := 3) (by decide) (Nat.le_of_ble_eq_true rfl) (vs' := [(.int x0), (.int x1), (.int x2), (.int v15), (.int x4), (.int x5), (.int x6), (.int x7), (.int x8), (.int x9), (.int x10), (.int x11)]) (by rw [own_narC hl16 hh17 (by decide) (by decide)]; rfl) gw at_317 (q := 318) rfl ?_
        intro T39 h40 X41 W42 V43
        have Y44 := Wx.wr Y W42 (own_safeY (Cx.alike C) Yw (by decide))
        have O45 := O.wr W42 gw
        exact rmJ318 hw C (St.mono X41 (by decide) (by decide)) Y44 O45 W V43 gw lx0 ux0 lx1 ux1 lx2 ux2 hl16 hh17 lx4 ux4 lx5 ux5 lx6 ux6 lx7 ux7 lx8 ux8 lx9 ux9 lx10 ux10 lx11 ux11 (Int.le_trans (by decide) hr8) (Int.le_trans uk (by decide))
      · refine g_castore C X Vw (by decide) (i := 4) (by decide) (Nat.le_of_ble_eq_true rfl) (vs' := [(.int x0), (.int x1), (.int x2), (.int x3), (.int v15), (.int x5), (.int x6), (.int x7), (.int x8), (.int x9), (.int x10), (.int x11)]) (by rw [own_narC hl16 hh17 (by decide) (by decide)]; rfl) gw at_317 (q := 318) rfl ?_
        intro T46 h47 X48 W49 V50
        have Y51 := Wx.wr Y W49 (own_safeY (Cx.alike C) Yw (by decide))
        have O52 := O.wr W49 gw
        exact rmJ318 hw C (St.mono X48 (by decide) (by decide)) Y51 O52 W V50 gw lx0 ux0 lx1 ux1 lx2 ux2 lx3 ux3 hl16 hh17 lx5 ux5 lx6 ux6 lx7 ux7 lx8 ux8 lx9 ux9 lx10 ux10 lx11 ux11 (Int.le_trans (by decide) hr8) (Int.le_trans uk (by decide))
      · refine g_castore C X Vw (by decide) (i := 5) (by decide) (Nat.le_of_ble_eq_true rfl) (vs' := [(.int x0), (.int x1), (.int x2), (.int x3), (.int x4), (.int v15), (.int x6), (.int x7), (.int x8), (.int x9), (.int x10), (.int x11)]) (by rw [own_narC hl16 hh17 (by decide) (by decide)]; rfl) gw at_317 (q := 318) rfl ?_
        intro T53 h54 X55 W56 V57
        have Y58 := Wx.wr Y W56 (own_safeY (Cx.alike C) Yw (by decide))
        have O59 := O.wr W56 gw
        exact rmJ318 hw C (St.mono X55 (by decide) (by decide)) Y58 O59 W V57 gw lx0 ux0 lx1 ux1 lx2 ux2 lx3 ux3 lx4 ux4 hl16 hh17 lx6 ux6 lx7 ux7 lx8 ux8 lx9 ux9 lx10 ux10 lx11 ux11 (Int.le_trans (by decide) hr8) (Int.le_trans uk (by decide))
      · refine g_castore C X Vw (by decide) (i := 6) (by decide) (Nat.le_of_ble_eq_true rfl) (vs' := [(.int x0), (.int x1), (.int x2), (.int x3), (.int x4), (.int x5), (.int v15), (.int x7), (.int x8), (.int x9), (.int x10), (.int x11)]) (by rw [own_narC hl16 hh17 (by decide) (by decide)]; rfl) gw at_317 (q := 318) rfl ?_
        intro T60 h61 X62 W63 V64
        have Y65 := Wx.wr Y W63 (own_safeY (Cx.alike C) Yw (by decide))
        have O66 := O.wr W63 gw
        exact rmJ318 hw C (St.mono X62 (by decide) (by decide)) Y65 O66 W V64 gw lx0 ux0 lx1 ux1 lx2 ux2 lx3 ux3 lx4 ux4 lx5 ux5 hl16 hh17 lx7 ux7 lx8 ux8 lx9 ux9 lx10 ux10 lx11 ux11 (Int.le_trans (by decide) hr8) (Int.le_trans uk (by decide))
      · refine g_castore C X Vw (by decide) (i := 7) (by decide) (Nat.le_of_ble_eq_true rfl) (vs' := [(.int x0), (.int x1), (.int x2), (.int x3), (.int x4), (.int x5), (.int x6), (.int v15), (.int x8), (.int x9), (.int x10), (.int x11)]) (by rw [own_narC hl16 hh17 (by decide) (by decide)]; rfl) gw at_317 (q := 318) rfl ?_
        intro T67 h68 X69 W70 V71
        have Y72 := Wx.wr Y W70 (own_safeY (Cx.alike C) Yw (by decide))
        have O73 := O.wr W70 gw
        exact rmJ318 hw C (St.mono X69 (by decide) (by decide)) Y72 O73 W V71 gw lx0 ux0 lx1 ux1 lx2 ux2 lx3 ux3 lx4 ux4 lx5 ux5 lx6 ux6 hl16 hh17 lx8 ux8 lx9 ux9 lx10 ux10 lx11 ux11 (Int.le_trans (by decide) hr8) (Int.le_trans uk (by decide))
      · refine g_castore C X Vw (by decide) (i := 8) (by decide) (Nat.le_of_ble_eq_true rfl) (vs' := [(.int x0), (.int x1), (.int x2), (.int x3), (.int x4), (.int x5), (.int x6), (.int x7), (.int v15), (.int x9), (.int x10), (.int x11)]) (by rw [own_narC hl16 hh17 (by decide) (by decide)]; rfl) gw at_317 (q := 318) rfl ?_
        intro T74 h75 X76 W77 V78
        have Y79 := Wx.wr Y W77 (own_safeY (Cx.alike C) Yw (by decide))
        have O80 := O.wr W77 gw
        exact rmJ318 hw C (St.mono X76 (by decide) (by decide)) Y79 O80 W V78 gw lx0 ux0 lx1 ux1 lx2 ux2 lx3 ux3 lx4 ux4 lx5 ux5 lx6 ux6 lx7 ux7 hl16 hh17 lx9 ux9 lx10 ux10 lx11 ux11 (Int.le_trans (by decide) hr8) (Int.le_trans uk (by decide))
      · refine g_castore C X Vw (by decide) (i := 9) (by decide) (Nat.le_of_ble_eq_true rfl) (vs' := [(.int x0), (.int x1), (.int x2), (.int x3), (.int x4), (.int x5), (.int x6), (.int x7), (.int x8), (.int v15), (.int x10), (.int x11)]) (by rw [own_narC hl16 hh17 (by decide) (by decide)]; rfl) gw at_317 (q := 318) rfl ?_
        intro T81 h82 X83 W84 V85
        have Y86 := Wx.wr Y W84 (own_safeY (Cx.alike C) Yw (by decide))
        have O87 := O.wr W84 gw
        exact rmJ318 hw C (St.mono X83 (by decide) (by decide)) Y86 O87 W V85 gw lx0 ux0 lx1 ux1 lx2 ux2 lx3 ux3 lx4 ux4 lx5 ux5 lx6 ux6 lx7 ux7 lx8 ux8 hl16 hh17 lx10 ux10 lx11 ux11 (Int.le_trans (by decide) hr8) (Int.le_trans uk (by decide))
      · refine g_castore C X Vw (by decide) (i := 10) (by decide) (Nat.le_of_ble_eq_true rfl) (vs' := [(.int x0), (.int x1), (.int x2), (.int x3), (.int x4), (.int x5), (.int x6), (.int x7), (.int x8), (.int x9), (.int v15), (.int x11)]) (by rw [own_narC hl16 hh17 (by decide) (by decide)]; rfl) gw at_317 (q := 318) rfl ?_
        intro T88 h89 X90 W91 V92
        have Y93 := Wx.wr Y W91 (own_safeY (Cx.alike C) Yw (by decide))
        have O94 := O.wr W91 gw
        exact rmJ318 hw C (St.mono X90 (by decide) (by decide)) Y93 O94 W V92 gw lx0 ux0 lx1 ux1 lx2 ux2 lx3 ux3 lx4 ux4 lx5 ux5 lx6 ux6 lx7 ux7 lx8 ux8 lx9 ux9 hl16 hh17 lx11 ux11 (Int.le_trans (by decide) hr8) (Int.le_trans uk (by decide))
    · refine g_ifY C X at_300 (by decide) (q := 318) (by decide) (flt hc7).2.2.2 ?_
      have hr95 : qk.toInt ≤ 0 := own_f4 hc7 (by decide)
      obtain rfl : qk = (0 : Int32) := own_f0 lk hr95 (by decide)
      exact rmJ318 hw C (St.mono X (by decide) (by decide)) Y O W Vw gw lx0 ux0 lx1 ux1 lx2 ux2 lx3 ux3 lx4 ux4 lx5 ux5 lx6 ux6 lx7 ux7 lx8 ux8 lx9 ux9 lx10 ux10 lx11 ux11 (by decide) (by decide)
set_option maxRecDepth 65536 in
set_option maxHeartbeats 40000000 in
theorem rm_d_0 {l : Launch} {Z : State} {a0 : Array Value} (hw : ∀ d ∈ tables_1, d.before a0 Z = true) {pf : Int64} {h0 : Heap} {n0 : Nat} (O : Old Z n0 h0)  :
    Met1 l Z (⟨"com/example/sober_repository/soberrepository/DialectOfPinLaw", "d", "(JI)C"⟩ : MethodName) method_2_code 3 (some .char) ({ frames := 0, cells := 0, slots := 0, locals := 0 } : Room) #[(.long pf), (.int (0 : Int32))] h0 n0 (fun v h => v = .int ((((pf.toUInt64 >>> ((0 : Int32) &&& 0x3f).toInt64.toUInt64).toInt64) &&& (255 : Int64)).toInt32) ∧ h0 = h) := by
  refine met_of (L := #[.val (.long pf), .second, .val (.int (0 : Int32))]) (plainFor_of_name pn_77) (fun m => by first | (simp [entryFrame, mkF, argsToLocals, Value.category]; done) | rfl) ?_
  intro p e s m below meth c T C X
  change Cx p s m meth c Z "com/example/sober_repository/soberrepository/DialectOfPinLaw" method_2_code 3 (some .char) "d" at C
  refine g_lloadN C X d1_0 (q := 1) rfl rfl ?_
  refine g_bipush C X d1_1 (q := 3) rfl (z := (8 : Int32)) rfl ?_
  refine g_iloadN C X d1_3 (q := 4) rfl rfl ?_
  refine g_bipush C X d1_4 (q := 6) rfl (z := (7 : Int32)) rfl ?_
  refine g_iand C X d1_6 (q := 7) rfl (z := (0 : Int32)) (by decide) ?_
  refine g_imul C X d1_7 (q := 8) rfl (z := (0 : Int32)) (by decide) ?_
  refine g_lushr C X d1_8 (q := 9) rfl (z := ((pf.toUInt64 >>> ((0 : Int32) &&& 0x3f).toInt64.toUInt64).toInt64)) rfl ?_
  refine g_ldcJ C X (w6 hw) d1_9 (q := 12) rfl ?_
  refine g_land C X d1_12 (q := 13) rfl (z := (((pf.toUInt64 >>> ((0 : Int32) &&& 0x3f).toInt64.toUInt64).toInt64) &&& (255 : Int64))) rfl ?_
  obtain ⟨v1, ev1⟩ : ∃ z, ((((pf.toUInt64 >>> ((0 : Int32) &&& 0x3f).toInt64.toUInt64).toInt64) &&& (255 : Int64)).toInt32) = z := ⟨_, rfl⟩
  have hl2 : 0 ≤ v1.toInt := by rw [← ev1]; exact (own_l255 ((pf.toUInt64 >>> ((0 : Int32) &&& 0x3f).toInt64.toUInt64).toInt64)).1
  have hh3 : v1.toInt ≤ 255 := by rw [← ev1]; exact (own_l255 ((pf.toUInt64 >>> ((0 : Int32) &&& 0x3f).toInt64.toUInt64).toInt64)).2
  refine g_l2i C X d1_13 (q := 14) rfl (z := v1) ev1 ?_
  refine g_i2c C X d1_14 (q := 15) rfl (z := v1) (own_i2c hl2 hh3 (by decide) (by decide)) ?_
  exact g_retN C X (Or.inr (Or.inr (Or.inl rfl))) (z' := v1) (own_narC hl2 hh3 (by decide) (by decide)) d1_15 (by decide) (by decide) ⟨_, rfl, by rw [← ev1], rfl⟩
set_option maxRecDepth 65536 in
set_option maxHeartbeats 40000000 in
theorem rm_d_1 {l : Launch} {Z : State} {a0 : Array Value} (hw : ∀ d ∈ tables_1, d.before a0 Z = true) {pf : Int64} {h0 : Heap} {n0 : Nat} (O : Old Z n0 h0)  :
    Met1 l Z (⟨"com/example/sober_repository/soberrepository/DialectOfPinLaw", "d", "(JI)C"⟩ : MethodName) method_2_code 3 (some .char) ({ frames := 0, cells := 0, slots := 0, locals := 0 } : Room) #[(.long pf), (.int (1 : Int32))] h0 n0 (fun v h => v = .int ((((pf.toUInt64 >>> ((8 : Int32) &&& 0x3f).toInt64.toUInt64).toInt64) &&& (255 : Int64)).toInt32) ∧ h0 = h) := by
  refine met_of (L := #[.val (.long pf), .second, .val (.int (1 : Int32))]) (plainFor_of_name pn_77) (fun m => by first | (simp [entryFrame, mkF, argsToLocals, Value.category]; done) | rfl) ?_
  intro p e s m below meth c T C X
  change Cx p s m meth c Z "com/example/sober_repository/soberrepository/DialectOfPinLaw" method_2_code 3 (some .char) "d" at C
  refine g_lloadN C X d1_0 (q := 1) rfl rfl ?_
  refine g_bipush C X d1_1 (q := 3) rfl (z := (8 : Int32)) rfl ?_
  refine g_iloadN C X d1_3 (q := 4) rfl rfl ?_
  refine g_bipush C X d1_4 (q := 6) rfl (z := (7 : Int32)) rfl ?_
  refine g_iand C X d1_6 (q := 7) rfl (z := (1 : Int32)) (by decide) ?_
  refine g_imul C X d1_7 (q := 8) rfl (z := (8 : Int32)) (by decide) ?_
  refine g_lushr C X d1_8 (q := 9) rfl (z := ((pf.toUInt64 >>> ((8 : Int32) &&& 0x3f).toInt64.toUInt64).toInt64)) rfl ?_
  refine g_ldcJ C X (w6 hw) d1_9 (q := 12) rfl ?_
  refine g_land C X d1_12 (q := 13) rfl (z := (((pf.toUInt64 >>> ((8 : Int32) &&& 0x3f).toInt64.toUInt64).toInt64) &&& (255 : Int64))) rfl ?_
  obtain ⟨v1, ev1⟩ : ∃ z, ((((pf.toUInt64 >>> ((8 : Int32) &&& 0x3f).toInt64.toUInt64).toInt64) &&& (255 : Int64)).toInt32) = z := ⟨_, rfl⟩
  have hl2 : 0 ≤ v1.toInt := by rw [← ev1]; exact (own_l255 ((pf.toUInt64 >>> ((8 : Int32) &&& 0x3f).toInt64.toUInt64).toInt64)).1
  have hh3 : v1.toInt ≤ 255 := by rw [← ev1]; exact (own_l255 ((pf.toUInt64 >>> ((8 : Int32) &&& 0x3f).toInt64.toUInt64).toInt64)).2
  refine g_l2i C X d1_13 (q := 14) rfl (z := v1) ev1 ?_
  refine g_i2c C X d1_14 (q := 15) rfl (z := v1) (own_i2c hl2 hh3 (by decide) (by decide)) ?_
  exact g_retN C X (Or.inr (Or.inr (Or.inl rfl))) (z' := v1) (own_narC hl2 hh3 (by decide) (by decide)) d1_15 (by decide) (by decide) ⟨_, rfl, by rw [← ev1], rfl⟩
set_option maxRecDepth 65536 in
set_option maxHeartbeats 40000000 in
theorem rm_d_2 {l : Launch} {Z : State} {a0 : Array Value} (hw : ∀ d ∈ tables_1, d.before a0 Z = true) {pf : Int64} {h0 : Heap} {n0 : Nat} (O : Old Z n0 h0)  :
    Met1 l Z (⟨"com/example/sober_repository/soberrepository/DialectOfPinLaw", "d", "(JI)C"⟩ : MethodName) method_2_code 3 (some .char) ({ frames := 0, cells := 0, slots := 0, locals := 0 } : Room) #[(.long pf), (.int (2 : Int32))] h0 n0 (fun v h => v = .int ((((pf.toUInt64 >>> ((16 : Int32) &&& 0x3f).toInt64.toUInt64).toInt64) &&& (255 : Int64)).toInt32) ∧ h0 = h) := by
  refine met_of (L := #[.val (.long pf), .second, .val (.int (2 : Int32))]) (plainFor_of_name pn_77) (fun m => by first | (simp [entryFrame, mkF, argsToLocals, Value.category]; done) | rfl) ?_
  intro p e s m below meth c T C X
  change Cx p s m meth c Z "com/example/sober_repository/soberrepository/DialectOfPinLaw" method_2_code 3 (some .char) "d" at C
  refine g_lloadN C X d1_0 (q := 1) rfl rfl ?_
  refine g_bipush C X d1_1 (q := 3) rfl (z := (8 : Int32)) rfl ?_
  refine g_iloadN C X d1_3 (q := 4) rfl rfl ?_
  refine g_bipush C X d1_4 (q := 6) rfl (z := (7 : Int32)) rfl ?_
  refine g_iand C X d1_6 (q := 7) rfl (z := (2 : Int32)) (by decide) ?_
  refine g_imul C X d1_7 (q := 8) rfl (z := (16 : Int32)) (by decide) ?_
  refine g_lushr C X d1_8 (q := 9) rfl (z := ((pf.toUInt64 >>> ((16 : Int32) &&& 0x3f).toInt64.toUInt64).toInt64)) rfl ?_
  refine g_ldcJ C X (w6 hw) d1_9 (q := 12) rfl ?_
  refine g_land C X d1_12 (q := 13) rfl (z := (((pf.toUInt64 >>> ((16 : Int32) &&& 0x3f).toInt64.toUInt64).toInt64) &&& (255 : Int64))) rfl ?_
  obtain ⟨v1, ev1⟩ : ∃ z, ((((pf.toUInt64 >>> ((16 : Int32) &&& 0x3f).toInt64.toUInt64).toInt64) &&& (255 : Int64)).toInt32) = z := ⟨_, rfl⟩
  have hl2 : 0 ≤ v1.toInt := by rw [← ev1]; exact (own_l255 ((pf.toUInt64 >>> ((16 : Int32) &&& 0x3f).toInt64.toUInt64).toInt64)).1
  have hh3 : v1.toInt ≤ 255 := by rw [← ev1]; exact (own_l255 ((pf.toUInt64 >>> ((16 : Int32) &&& 0x3f).toInt64.toUInt64).toInt64)).2
  refine g_l2i C X d1_13 (q := 14) rfl (z := v1) ev1 ?_
  refine g_i2c C X d1_14 (q := 15) rfl (z := v1) (own_i2c hl2 hh3 (by decide) (by decide)) ?_
  exact g_retN C X (Or.inr (Or.inr (Or.inl rfl))) (z' := v1) (own_narC hl2 hh3 (by decide) (by decide)) d1_15 (by decide) (by decide) ⟨_, rfl, by rw [← ev1], rfl⟩
set_option maxRecDepth 65536 in
set_option maxHeartbeats 40000000 in
theorem rm_d_3 {l : Launch} {Z : State} {a0 : Array Value} (hw : ∀ d ∈ tables_1, d.before a0 Z = true) {pf : Int64} {h0 : Heap} {n0 : Nat} (O : Old Z n0 h0)  :
    Met1 l Z (⟨"com/example/sober_repository/soberrepository/DialectOfPinLaw", "d", "(JI)C"⟩ : MethodName) method_2_code 3 (some .char) ({ frames := 0, cells := 0, slots := 0, locals := 0 } : Room) #[(.long pf), (.int (3 : Int32))] h0 n0 (fun v h => v = .int ((((pf.toUInt64 >>> ((24 : Int32) &&& 0x3f).toInt64.toUInt64).toInt64) &&& (255 : Int64)).toInt32) ∧ h0 = h) := by
  refine met_of (L := #[.val (.long pf), .second, .val (.int (3 : Int32))]) (plainFor_of_name pn_77) (fun m => by first | (simp [entryFrame, mkF, argsToLocals, Value.category]; done) | rfl) ?_
  intro p e s m below meth c T C X
  change Cx p s m meth c Z "com/example/sober_repository/soberrepository/DialectOfPinLaw" method_2_code 3 (some .char) "d" at C
  refine g_lloadN C X d1_0 (q := 1) rfl rfl ?_
  refine g_bipush C X d1_1 (q := 3) rfl (z := (8 : Int32)) rfl ?_
  refine g_iloadN C X d1_3 (q := 4) rfl rfl ?_
  refine g_bipush C X d1_4 (q := 6) rfl (z := (7 : Int32)) rfl ?_
  refine g_iand C X d1_6 (q := 7) rfl (z := (3 : Int32)) (by decide) ?_
  refine g_imul C X d1_7 (q := 8) rfl (z := (24 : Int32)) (by decide) ?_
  refine g_lushr C X d1_8 (q := 9) rfl (z := ((pf.toUInt64 >>> ((24 : Int32) &&& 0x3f).toInt64.toUInt64).toInt64)) rfl ?_
  refine g_ldcJ C X (w6 hw) d1_9 (q := 12) rfl ?_
  refine g_land C X d1_12 (q := 13) rfl (z := (((pf.toUInt64 >>> ((24 : Int32) &&& 0x3f).toInt64.toUInt64).toInt64) &&& (255 : Int64))) rfl ?_
  obtain ⟨v1, ev1⟩ : ∃ z, ((((pf.toUInt64 >>> ((24 : Int32) &&& 0x3f).toInt64.toUInt64).toInt64) &&& (255 : Int64)).toInt32) = z := ⟨_, rfl⟩
  have hl2 : 0 ≤ v1.toInt := by rw [← ev1]; exact (own_l255 ((pf.toUInt64 >>> ((24 : Int32) &&& 0x3f).toInt64.toUInt64).toInt64)).1
  have hh3 : v1.toInt ≤ 255 := by rw [← ev1]; exact (own_l255 ((pf.toUInt64 >>> ((24 : Int32) &&& 0x3f).toInt64.toUInt64).toInt64)).2
  refine g_l2i C X d1_13 (q := 14) rfl (z := v1) ev1 ?_
  refine g_i2c C X d1_14 (q := 15) rfl (z := v1) (own_i2c hl2 hh3 (by decide) (by decide)) ?_
  exact g_retN C X (Or.inr (Or.inr (Or.inl rfl))) (z' := v1) (own_narC hl2 hh3 (by decide) (by decide)) d1_15 (by decide) (by decide) ⟨_, rfl, by rw [← ev1], rfl⟩
set_option maxRecDepth 65536 in
set_option maxHeartbeats 40000000 in
theorem rm_d_4 {l : Launch} {Z : State} {a0 : Array Value} (hw : ∀ d ∈ tables_1, d.before a0 Z = true) {pf : Int64} {h0 : Heap} {n0 : Nat} (O : Old Z n0 h0)  :
    Met1 l Z (⟨"com/example/sober_repository/soberrepository/DialectOfPinLaw", "d", "(JI)C"⟩ : MethodName) method_2_code 3 (some .char) ({ frames := 0, cells := 0, slots := 0, locals := 0 } : Room) #[(.long pf), (.int (4 : Int32))] h0 n0 (fun v h => v = .int ((((pf.toUInt64 >>> ((32 : Int32) &&& 0x3f).toInt64.toUInt64).toInt64) &&& (255 : Int64)).toInt32) ∧ h0 = h) := by
  refine met_of (L := #[.val (.long pf), .second, .val (.int (4 : Int32))]) (plainFor_of_name pn_77) (fun m => by first | (simp [entryFrame, mkF, argsToLocals, Value.category]; done) | rfl) ?_
  intro p e s m below meth c T C X
  change Cx p s m meth c Z "com/example/sober_repository/soberrepository/DialectOfPinLaw" method_2_code 3 (some .char) "d" at C
  refine g_lloadN C X d1_0 (q := 1) rfl rfl ?_
  refine g_bipush C X d1_1 (q := 3) rfl (z := (8 : Int32)) rfl ?_
  refine g_iloadN C X d1_3 (q := 4) rfl rfl ?_
  refine g_bipush C X d1_4 (q := 6) rfl (z := (7 : Int32)) rfl ?_
  refine g_iand C X d1_6 (q := 7) rfl (z := (4 : Int32)) (by decide) ?_
  refine g_imul C X d1_7 (q := 8) rfl (z := (32 : Int32)) (by decide) ?_
  refine g_lushr C X d1_8 (q := 9) rfl (z := ((pf.toUInt64 >>> ((32 : Int32) &&& 0x3f).toInt64.toUInt64).toInt64)) rfl ?_
  refine g_ldcJ C X (w6 hw) d1_9 (q := 12) rfl ?_
  refine g_land C X d1_12 (q := 13) rfl (z := (((pf.toUInt64 >>> ((32 : Int32) &&& 0x3f).toInt64.toUInt64).toInt64) &&& (255 : Int64))) rfl ?_
  obtain ⟨v1, ev1⟩ : ∃ z, ((((pf.toUInt64 >>> ((32 : Int32) &&& 0x3f).toInt64.toUInt64).toInt64) &&& (255 : Int64)).toInt32) = z := ⟨_, rfl⟩
  have hl2 : 0 ≤ v1.toInt := by rw [← ev1]; exact (own_l255 ((pf.toUInt64 >>> ((32 : Int32) &&& 0x3f).toInt64.toUInt64).toInt64)).1
  have hh3 : v1.toInt ≤ 255 := by rw [← ev1]; exact (own_l255 ((pf.toUInt64 >>> ((32 : Int32) &&& 0x3f).toInt64.toUInt64).toInt64)).2
  refine g_l2i C X d1_13 (q := 14) rfl (z := v1) ev1 ?_
  refine g_i2c C X d1_14 (q := 15) rfl (z := v1) (own_i2c hl2 hh3 (by decide) (by decide)) ?_
  exact g_retN C X (Or.inr (Or.inr (Or.inl rfl))) (z' := v1) (own_narC hl2 hh3 (by decide) (by decide)) d1_15 (by decide) (by decide) ⟨_, rfl, by rw [← ev1], rfl⟩
set_option maxRecDepth 65536 in
set_option maxHeartbeats 40000000 in
theorem rm_d_5 {l : Launch} {Z : State} {a0 : Array Value} (hw : ∀ d ∈ tables_1, d.before a0 Z = true) {pf : Int64} {h0 : Heap} {n0 : Nat} (O : Old Z n0 h0)  :
    Met1 l Z (⟨"com/example/sober_repository/soberrepository/DialectOfPinLaw", "d", "(JI)C"⟩ : MethodName) method_2_code 3 (some .char) ({ frames := 0, cells := 0, slots := 0, locals := 0 } : Room) #[(.long pf), (.int (5 : Int32))] h0 n0 (fun v h => v = .int ((((pf.toUInt64 >>> ((40 : Int32) &&& 0x3f).toInt64.toUInt64).toInt64) &&& (255 : Int64)).toInt32) ∧ h0 = h) := by
  refine met_of (L := #[.val (.long pf), .second, .val (.int (5 : Int32))]) (plainFor_of_name pn_77) (fun m => by first | (simp [entryFrame, mkF, argsToLocals, Value.category]; done) | rfl) ?_
  intro p e s m below meth c T C X
  change Cx p s m meth c Z "com/example/sober_repository/soberrepository/DialectOfPinLaw" method_2_code 3 (some .char) "d" at C
  refine g_lloadN C X d1_0 (q := 1) rfl rfl ?_
  refine g_bipush C X d1_1 (q := 3) rfl (z := (8 : Int32)) rfl ?_
  refine g_iloadN C X d1_3 (q := 4) rfl rfl ?_
  refine g_bipush C X d1_4 (q := 6) rfl (z := (7 : Int32)) rfl ?_
  refine g_iand C X d1_6 (q := 7) rfl (z := (5 : Int32)) (by decide) ?_
  refine g_imul C X d1_7 (q := 8) rfl (z := (40 : Int32)) (by decide) ?_
  refine g_lushr C X d1_8 (q := 9) rfl (z := ((pf.toUInt64 >>> ((40 : Int32) &&& 0x3f).toInt64.toUInt64).toInt64)) rfl ?_
  refine g_ldcJ C X (w6 hw) d1_9 (q := 12) rfl ?_
  refine g_land C X d1_12 (q := 13) rfl (z := (((pf.toUInt64 >>> ((40 : Int32) &&& 0x3f).toInt64.toUInt64).toInt64) &&& (255 : Int64))) rfl ?_
  obtain ⟨v1, ev1⟩ : ∃ z, ((((pf.toUInt64 >>> ((40 : Int32) &&& 0x3f).toInt64.toUInt64).toInt64) &&& (255 : Int64)).toInt32) = z := ⟨_, rfl⟩
  have hl2 : 0 ≤ v1.toInt := by rw [← ev1]; exact (own_l255 ((pf.toUInt64 >>> ((40 : Int32) &&& 0x3f).toInt64.toUInt64).toInt64)).1
  have hh3 : v1.toInt ≤ 255 := by rw [← ev1]; exact (own_l255 ((pf.toUInt64 >>> ((40 : Int32) &&& 0x3f).toInt64.toUInt64).toInt64)).2
  refine g_l2i C X d1_13 (q := 14) rfl (z := v1) ev1 ?_
  refine g_i2c C X d1_14 (q := 15) rfl (z := v1) (own_i2c hl2 hh3 (by decide) (by decide)) ?_
  exact g_retN C X (Or.inr (Or.inr (Or.inl rfl))) (z' := v1) (own_narC hl2 hh3 (by decide) (by decide)) d1_15 (by decide) (by decide) ⟨_, rfl, by rw [← ev1], rfl⟩
set_option maxRecDepth 65536 in
set_option maxHeartbeats 40000000 in
theorem rm_d_6 {l : Launch} {Z : State} {a0 : Array Value} (hw : ∀ d ∈ tables_1, d.before a0 Z = true) {pf : Int64} {h0 : Heap} {n0 : Nat} (O : Old Z n0 h0)  :
    Met1 l Z (⟨"com/example/sober_repository/soberrepository/DialectOfPinLaw", "d", "(JI)C"⟩ : MethodName) method_2_code 3 (some .char) ({ frames := 0, cells := 0, slots := 0, locals := 0 } : Room) #[(.long pf), (.int (6 : Int32))] h0 n0 (fun v h => v = .int ((((pf.toUInt64 >>> ((48 : Int32) &&& 0x3f).toInt64.toUInt64).toInt64) &&& (255 : Int64)).toInt32) ∧ h0 = h) := by
  refine met_of (L := #[.val (.long pf), .second, .val (.int (6 : Int32))]) (plainFor_of_name pn_77) (fun m => by first | (simp [entryFrame, mkF, argsToLocals, Value.category]; done) | rfl) ?_
  intro p e s m below meth c T C X
  change Cx p s m meth c Z "com/example/sober_repository/soberrepository/DialectOfPinLaw" method_2_code 3 (some .char) "d" at C
  refine g_lloadN C X d1_0 (q := 1) rfl rfl ?_
  refine g_bipush C X d1_1 (q := 3) rfl (z := (8 : Int32)) rfl ?_
  refine g_iloadN C X d1_3 (q := 4) rfl rfl ?_
  refine g_bipush C X d1_4 (q := 6) rfl (z := (7 : Int32)) rfl ?_
  refine g_iand C X d1_6 (q := 7) rfl (z := (6 : Int32)) (by decide) ?_
  refine g_imul C X d1_7 (q := 8) rfl (z := (48 : Int32)) (by decide) ?_
  refine g_lushr C X d1_8 (q := 9) rfl (z := ((pf.toUInt64 >>> ((48 : Int32) &&& 0x3f).toInt64.toUInt64).toInt64)) rfl ?_
  refine g_ldcJ C X (w6 hw) d1_9 (q := 12) rfl ?_
  refine g_land C X d1_12 (q := 13) rfl (z := (((pf.toUInt64 >>> ((48 : Int32) &&& 0x3f).toInt64.toUInt64).toInt64) &&& (255 : Int64))) rfl ?_
  obtain ⟨v1, ev1⟩ : ∃ z, ((((pf.toUInt64 >>> ((48 : Int32) &&& 0x3f).toInt64.toUInt64).toInt64) &&& (255 : Int64)).toInt32) = z := ⟨_, rfl⟩
  have hl2 : 0 ≤ v1.toInt := by rw [← ev1]; exact (own_l255 ((pf.toUInt64 >>> ((48 : Int32) &&& 0x3f).toInt64.toUInt64).toInt64)).1
  have hh3 : v1.toInt ≤ 255 := by rw [← ev1]; exact (own_l255 ((pf.toUInt64 >>> ((48 : Int32) &&& 0x3f).toInt64.toUInt64).toInt64)).2
  refine g_l2i C X d1_13 (q := 14) rfl (z := v1) ev1 ?_
  refine g_i2c C X d1_14 (q := 15) rfl (z := v1) (own_i2c hl2 hh3 (by decide) (by decide)) ?_
  exact g_retN C X (Or.inr (Or.inr (Or.inl rfl))) (z' := v1) (own_narC hl2 hh3 (by decide) (by decide)) d1_15 (by decide) (by decide) ⟨_, rfl, by rw [← ev1], rfl⟩
set_option maxRecDepth 65536 in
set_option maxHeartbeats 40000000 in
theorem rm_d_7 {l : Launch} {Z : State} {a0 : Array Value} (hw : ∀ d ∈ tables_1, d.before a0 Z = true) {pf : Int64} {h0 : Heap} {n0 : Nat} (O : Old Z n0 h0)  :
    Met1 l Z (⟨"com/example/sober_repository/soberrepository/DialectOfPinLaw", "d", "(JI)C"⟩ : MethodName) method_2_code 3 (some .char) ({ frames := 0, cells := 0, slots := 0, locals := 0 } : Room) #[(.long pf), (.int (7 : Int32))] h0 n0 (fun v h => v = .int ((((pf.toUInt64 >>> ((56 : Int32) &&& 0x3f).toInt64.toUInt64).toInt64) &&& (255 : Int64)).toInt32) ∧ h0 = h) := by
  refine met_of (L := #[.val (.long pf), .second, .val (.int (7 : Int32))]) (plainFor_of_name pn_77) (fun m => by first | (simp [entryFrame, mkF, argsToLocals, Value.category]; done) | rfl) ?_
  intro p e s m below meth c T C X
  change Cx p s m meth c Z "com/example/sober_repository/soberrepository/DialectOfPinLaw" method_2_code 3 (some .char) "d" at C
  refine g_lloadN C X d1_0 (q := 1) rfl rfl ?_
  refine g_bipush C X d1_1 (q := 3) rfl (z := (8 : Int32)) rfl ?_
  refine g_iloadN C X d1_3 (q := 4) rfl rfl ?_
  refine g_bipush C X d1_4 (q := 6) rfl (z := (7 : Int32)) rfl ?_
  refine g_iand C X d1_6 (q := 7) rfl (z := (7 : Int32)) (by decide) ?_
  refine g_imul C X d1_7 (q := 8) rfl (z := (56 : Int32)) (by decide) ?_
  refine g_lushr C X d1_8 (q := 9) rfl (z := ((pf.toUInt64 >>> ((56 : Int32) &&& 0x3f).toInt64.toUInt64).toInt64)) rfl ?_
  refine g_ldcJ C X (w6 hw) d1_9 (q := 12) rfl ?_
  refine g_land C X d1_12 (q := 13) rfl (z := (((pf.toUInt64 >>> ((56 : Int32) &&& 0x3f).toInt64.toUInt64).toInt64) &&& (255 : Int64))) rfl ?_
  obtain ⟨v1, ev1⟩ : ∃ z, ((((pf.toUInt64 >>> ((56 : Int32) &&& 0x3f).toInt64.toUInt64).toInt64) &&& (255 : Int64)).toInt32) = z := ⟨_, rfl⟩
  have hl2 : 0 ≤ v1.toInt := by rw [← ev1]; exact (own_l255 ((pf.toUInt64 >>> ((56 : Int32) &&& 0x3f).toInt64.toUInt64).toInt64)).1
  have hh3 : v1.toInt ≤ 255 := by rw [← ev1]; exact (own_l255 ((pf.toUInt64 >>> ((56 : Int32) &&& 0x3f).toInt64.toUInt64).toInt64)).2
  refine g_l2i C X d1_13 (q := 14) rfl (z := v1) ev1 ?_
  refine g_i2c C X d1_14 (q := 15) rfl (z := v1) (own_i2c hl2 hh3 (by decide) (by decide)) ?_
  exact g_retN C X (Or.inr (Or.inr (Or.inl rfl))) (z' := v1) (own_narC hl2 hh3 (by decide) (by decide)) d1_15 (by decide) (by decide) ⟨_, rfl, by rw [← ev1], rfl⟩
set_option maxRecDepth 65536 in
set_option maxHeartbeats 40000000 in
theorem rm_d_8 {l : Launch} {Z : State} {a0 : Array Value} (hw : ∀ d ∈ tables_1, d.before a0 Z = true) {pf : Int64} {h0 : Heap} {n0 : Nat} (O : Old Z n0 h0)  :
    Met1 l Z (⟨"com/example/sober_repository/soberrepository/DialectOfPinLaw", "d", "(JI)C"⟩ : MethodName) method_2_code 3 (some .char) ({ frames := 0, cells := 0, slots := 0, locals := 0 } : Room) #[(.long pf), (.int (8 : Int32))] h0 n0 (fun v h => v = .int ((((pf.toUInt64 >>> ((0 : Int32) &&& 0x3f).toInt64.toUInt64).toInt64) &&& (255 : Int64)).toInt32) ∧ h0 = h) := by
  refine met_of (L := #[.val (.long pf), .second, .val (.int (8 : Int32))]) (plainFor_of_name pn_77) (fun m => by first | (simp [entryFrame, mkF, argsToLocals, Value.category]; done) | rfl) ?_
  intro p e s m below meth c T C X
  change Cx p s m meth c Z "com/example/sober_repository/soberrepository/DialectOfPinLaw" method_2_code 3 (some .char) "d" at C
  refine g_lloadN C X d1_0 (q := 1) rfl rfl ?_
  refine g_bipush C X d1_1 (q := 3) rfl (z := (8 : Int32)) rfl ?_
  refine g_iloadN C X d1_3 (q := 4) rfl rfl ?_
  refine g_bipush C X d1_4 (q := 6) rfl (z := (7 : Int32)) rfl ?_
  refine g_iand C X d1_6 (q := 7) rfl (z := (0 : Int32)) (by decide) ?_
  refine g_imul C X d1_7 (q := 8) rfl (z := (0 : Int32)) (by decide) ?_
  refine g_lushr C X d1_8 (q := 9) rfl (z := ((pf.toUInt64 >>> ((0 : Int32) &&& 0x3f).toInt64.toUInt64).toInt64)) rfl ?_
  refine g_ldcJ C X (w6 hw) d1_9 (q := 12) rfl ?_
  refine g_land C X d1_12 (q := 13) rfl (z := (((pf.toUInt64 >>> ((0 : Int32) &&& 0x3f).toInt64.toUInt64).toInt64) &&& (255 : Int64))) rfl ?_
  obtain ⟨v1, ev1⟩ : ∃ z, ((((pf.toUInt64 >>> ((0 : Int32) &&& 0x3f).toInt64.toUInt64).toInt64) &&& (255 : Int64)).toInt32) = z := ⟨_, rfl⟩
  have hl2 : 0 ≤ v1.toInt := by rw [← ev1]; exact (own_l255 ((pf.toUInt64 >>> ((0 : Int32) &&& 0x3f).toInt64.toUInt64).toInt64)).1
  have hh3 : v1.toInt ≤ 255 := by rw [← ev1]; exact (own_l255 ((pf.toUInt64 >>> ((0 : Int32) &&& 0x3f).toInt64.toUInt64).toInt64)).2
  refine g_l2i C X d1_13 (q := 14) rfl (z := v1) ev1 ?_
  refine g_i2c C X d1_14 (q := 15) rfl (z := v1) (own_i2c hl2 hh3 (by decide) (by decide)) ?_
  exact g_retN C X (Or.inr (Or.inr (Or.inl rfl))) (z' := v1) (own_narC hl2 hh3 (by decide) (by decide)) d1_15 (by decide) (by decide) ⟨_, rfl, by rw [← ev1], rfl⟩
set_option maxRecDepth 65536 in
set_option maxHeartbeats 40000000 in
theorem rm_d_9 {l : Launch} {Z : State} {a0 : Array Value} (hw : ∀ d ∈ tables_1, d.before a0 Z = true) {pf : Int64} {h0 : Heap} {n0 : Nat} (O : Old Z n0 h0)  :
    Met1 l Z (⟨"com/example/sober_repository/soberrepository/DialectOfPinLaw", "d", "(JI)C"⟩ : MethodName) method_2_code 3 (some .char) ({ frames := 0, cells := 0, slots := 0, locals := 0 } : Room) #[(.long pf), (.int (9 : Int32))] h0 n0 (fun v h => v = .int ((((pf.toUInt64 >>> ((8 : Int32) &&& 0x3f).toInt64.toUInt64).toInt64) &&& (255 : Int64)).toInt32) ∧ h0 = h) := by
  refine met_of (L := #[.val (.long pf), .second, .val (.int (9 : Int32))]) (plainFor_of_name pn_77) (fun m => by first | (simp [entryFrame, mkF, argsToLocals, Value.category]; done) | rfl) ?_
  intro p e s m below meth c T C X
  change Cx p s m meth c Z "com/example/sober_repository/soberrepository/DialectOfPinLaw" method_2_code 3 (some .char) "d" at C
  refine g_lloadN C X d1_0 (q := 1) rfl rfl ?_
  refine g_bipush C X d1_1 (q := 3) rfl (z := (8 : Int32)) rfl ?_
  refine g_iloadN C X d1_3 (q := 4) rfl rfl ?_
  refine g_bipush C X d1_4 (q := 6) rfl (z := (7 : Int32)) rfl ?_
  refine g_iand C X d1_6 (q := 7) rfl (z := (1 : Int32)) (by decide) ?_
  refine g_imul C X d1_7 (q := 8) rfl (z := (8 : Int32)) (by decide) ?_
  refine g_lushr C X d1_8 (q := 9) rfl (z := ((pf.toUInt64 >>> ((8 : Int32) &&& 0x3f).toInt64.toUInt64).toInt64)) rfl ?_
  refine g_ldcJ C X (w6 hw) d1_9 (q := 12) rfl ?_
  refine g_land C X d1_12 (q := 13) rfl (z := (((pf.toUInt64 >>> ((8 : Int32) &&& 0x3f).toInt64.toUInt64).toInt64) &&& (255 : Int64))) rfl ?_
  obtain ⟨v1, ev1⟩ : ∃ z, ((((pf.toUInt64 >>> ((8 : Int32) &&& 0x3f).toInt64.toUInt64).toInt64) &&& (255 : Int64)).toInt32) = z := ⟨_, rfl⟩
  have hl2 : 0 ≤ v1.toInt := by rw [← ev1]; exact (own_l255 ((pf.toUInt64 >>> ((8 : Int32) &&& 0x3f).toInt64.toUInt64).toInt64)).1
  have hh3 : v1.toInt ≤ 255 := by rw [← ev1]; exact (own_l255 ((pf.toUInt64 >>> ((8 : Int32) &&& 0x3f).toInt64.toUInt64).toInt64)).2
  refine g_l2i C X d1_13 (q := 14) rfl (z := v1) ev1 ?_
  refine g_i2c C X d1_14 (q := 15) rfl (z := v1) (own_i2c hl2 hh3 (by decide) (by decide)) ?_
  exact g_retN C X (Or.inr (Or.inr (Or.inl rfl))) (z' := v1) (own_narC hl2 hh3 (by decide) (by decide)) d1_15 (by decide) (by decide) ⟨_, rfl, by rw [← ev1], rfl⟩
set_option maxRecDepth 65536 in
set_option maxHeartbeats 40000000 in
theorem rm_d_10 {l : Launch} {Z : State} {a0 : Array Value} (hw : ∀ d ∈ tables_1, d.before a0 Z = true) {pf : Int64} {h0 : Heap} {n0 : Nat} (O : Old Z n0 h0)  :
    Met1 l Z (⟨"com/example/sober_repository/soberrepository/DialectOfPinLaw", "d", "(JI)C"⟩ : MethodName) method_2_code 3 (some .char) ({ frames := 0, cells := 0, slots := 0, locals := 0 } : Room) #[(.long pf), (.int (10 : Int32))] h0 n0 (fun v h => v = .int ((((pf.toUInt64 >>> ((16 : Int32) &&& 0x3f).toInt64.toUInt64).toInt64) &&& (255 : Int64)).toInt32) ∧ h0 = h) := by
  refine met_of (L := #[.val (.long pf), .second, .val (.int (10 : Int32))]) (plainFor_of_name pn_77) (fun m => by first | (simp [entryFrame, mkF, argsToLocals, Value.category]; done) | rfl) ?_
  intro p e s m below meth c T C X
  change Cx p s m meth c Z "com/example/sober_repository/soberrepository/DialectOfPinLaw" method_2_code 3 (some .char) "d" at C
  refine g_lloadN C X d1_0 (q := 1) rfl rfl ?_
  refine g_bipush C X d1_1 (q := 3) rfl (z := (8 : Int32)) rfl ?_
  refine g_iloadN C X d1_3 (q := 4) rfl rfl ?_
  refine g_bipush C X d1_4 (q := 6) rfl (z := (7 : Int32)) rfl ?_
  refine g_iand C X d1_6 (q := 7) rfl (z := (2 : Int32)) (by decide) ?_
  refine g_imul C X d1_7 (q := 8) rfl (z := (16 : Int32)) (by decide) ?_
  refine g_lushr C X d1_8 (q := 9) rfl (z := ((pf.toUInt64 >>> ((16 : Int32) &&& 0x3f).toInt64.toUInt64).toInt64)) rfl ?_
  refine g_ldcJ C X (w6 hw) d1_9 (q := 12) rfl ?_
  refine g_land C X d1_12 (q := 13) rfl (z := (((pf.toUInt64 >>> ((16 : Int32) &&& 0x3f).toInt64.toUInt64).toInt64) &&& (255 : Int64))) rfl ?_
  obtain ⟨v1, ev1⟩ : ∃ z, ((((pf.toUInt64 >>> ((16 : Int32) &&& 0x3f).toInt64.toUInt64).toInt64) &&& (255 : Int64)).toInt32) = z := ⟨_, rfl⟩
  have hl2 : 0 ≤ v1.toInt := by rw [← ev1]; exact (own_l255 ((pf.toUInt64 >>> ((16 : Int32) &&& 0x3f).toInt64.toUInt64).toInt64)).1
  have hh3 : v1.toInt ≤ 255 := by rw [← ev1]; exact (own_l255 ((pf.toUInt64 >>> ((16 : Int32) &&& 0x3f).toInt64.toUInt64).toInt64)).2
  refine g_l2i C X d1_13 (q := 14) rfl (z := v1) ev1 ?_
  refine g_i2c C X d1_14 (q := 15) rfl (z := v1) (own_i2c hl2 hh3 (by decide) (by decide)) ?_
  exact g_retN C X (Or.inr (Or.inr (Or.inl rfl))) (z' := v1) (own_narC hl2 hh3 (by decide) (by decide)) d1_15 (by decide) (by decide) ⟨_, rfl, by rw [← ev1], rfl⟩
set_option maxRecDepth 65536 in
set_option maxHeartbeats 40000000 in
theorem rm_d_11 {l : Launch} {Z : State} {a0 : Array Value} (hw : ∀ d ∈ tables_1, d.before a0 Z = true) {pf : Int64} {h0 : Heap} {n0 : Nat} (O : Old Z n0 h0)  :
    Met1 l Z (⟨"com/example/sober_repository/soberrepository/DialectOfPinLaw", "d", "(JI)C"⟩ : MethodName) method_2_code 3 (some .char) ({ frames := 0, cells := 0, slots := 0, locals := 0 } : Room) #[(.long pf), (.int (11 : Int32))] h0 n0 (fun v h => v = .int ((((pf.toUInt64 >>> ((24 : Int32) &&& 0x3f).toInt64.toUInt64).toInt64) &&& (255 : Int64)).toInt32) ∧ h0 = h) := by
  refine met_of (L := #[.val (.long pf), .second, .val (.int (11 : Int32))]) (plainFor_of_name pn_77) (fun m => by first | (simp [entryFrame, mkF, argsToLocals, Value.category]; done) | rfl) ?_
  intro p e s m below meth c T C X
  change Cx p s m meth c Z "com/example/sober_repository/soberrepository/DialectOfPinLaw" method_2_code 3 (some .char) "d" at C
  refine g_lloadN C X d1_0 (q := 1) rfl rfl ?_
  refine g_bipush C X d1_1 (q := 3) rfl (z := (8 : Int32)) rfl ?_
  refine g_iloadN C X d1_3 (q := 4) rfl rfl ?_
  refine g_bipush C X d1_4 (q := 6) rfl (z := (7 : Int32)) rfl ?_
  refine g_iand C X d1_6 (q := 7) rfl (z := (3 : Int32)) (by decide) ?_
  refine g_imul C X d1_7 (q := 8) rfl (z := (24 : Int32)) (by decide) ?_
  refine g_lushr C X d1_8 (q := 9) rfl (z := ((pf.toUInt64 >>> ((24 : Int32) &&& 0x3f).toInt64.toUInt64).toInt64)) rfl ?_
  refine g_ldcJ C X (w6 hw) d1_9 (q := 12) rfl ?_
  refine g_land C X d1_12 (q := 13) rfl (z := (((pf.toUInt64 >>> ((24 : Int32) &&& 0x3f).toInt64.toUInt64).toInt64) &&& (255 : Int64))) rfl ?_
  obtain ⟨v1, ev1⟩ : ∃ z, ((((pf.toUInt64 >>> ((24 : Int32) &&& 0x3f).toInt64.toUInt64).toInt64) &&& (255 : Int64)).toInt32) = z := ⟨_, rfl⟩
  have hl2 : 0 ≤ v1.toInt := by rw [← ev1]; exact (own_l255 ((pf.toUInt64 >>> ((24 : Int32) &&& 0x3f).toInt64.toUInt64).toInt64)).1
  have hh3 : v1.toInt ≤ 255 := by rw [← ev1]; exact (own_l255 ((pf.toUInt64 >>> ((24 : Int32) &&& 0x3f).toInt64.toUInt64).toInt64)).2
  refine g_l2i C X d1_13 (q := 14) rfl (z := v1) ev1 ?_
  refine g_i2c C X d1_14 (q := 15) rfl (z := v1) (own_i2c hl2 hh3 (by decide) (by decide)) ?_
  exact g_retN C X (Or.inr (Or.inr (Or.inl rfl))) (z' := v1) (own_narC hl2 hh3 (by decide) (by decide)) d1_15 (by decide) (by decide) ⟨_, rfl, by rw [← ev1], rfl⟩
set_option maxRecDepth 65536 in
set_option maxHeartbeats 40000000 in
theorem rmLaw {l : Launch} {Z : State} {a0 : Array Value} (hw : ∀ d ∈ tables_1, d.before a0 Z = true) {p0 p1 p2 p3 : Int32} {p4 : Int64} {a__VALUES : Addr} {a_H2 : Addr} {a_POSTGRESQL : Addr} {a_Dialect_H2__product : Addr} {a_Dialect_POSTGRESQL__product : Addr} {kc_a__VALUES : ClassId} {cz : Int32} {h0 : Heap} {n0 : Nat} (O : Old Z n0 h0) (W : Wd Z a__VALUES a_H2 a_POSTGRESQL a_Dialect_H2__product a_Dialect_POSTGRESQL__product kc_a__VALUES cz) :
    MetW1 l Z consts_1 x code maxLocals ret room_1 #[(.int p0), (.int p1), (.int p2), (.int p3), (.long p4)] h0 n0 (fun v h => v = .int 1 ∧ True) := by
  refine metW_of (L := #[.val (.int p0), .val (.int p1), .val (.int p2), .val (.int p3), .val (.long p4), .second, .unset, .unset, .unset, .unset, .unset, .unset, .unset]) (plainFor_of_name pn_77) (fun m => by first | (simp [entryFrame, mkF, argsToLocals, Value.category, maxLocals]; done) | rfl) ?_
  intro p e s m below meth c T vm C X Y
  change Cx p (s.setVm vm) m meth c Z "com/example/sober_repository/soberrepository/DialectOfPinLaw" code 13 (some .boolean) "law" at C
  change Goes p e below (FinW Z consts_1 _ s n0 24 3264) _
  refine g_iloadN C X at_0 (q := 1) rfl rfl ?_
  refine g_ldcI C X (w0 hw) at_1 (q := 3) rfl ?_
  obtain ⟨v1, ev1⟩ : ∃ z, (p0 &&& (2147483647 : Int32)) = z := ⟨_, rfl⟩
  have hl2 : 0 ≤ v1.toInt := by rw [← ev1]; exact (c_and p0 (2147483647 : Int32) (by decide)).1
  have hh3 : v1.toInt ≤ 2147483647 := by rw [← ev1]; exact (c_and p0 (2147483647 : Int32) (by decide)).2
  refine g_iand C X at_3 (q := 4) rfl (z := v1) ev1 ?_
  refine g_iconst C X at_4 (q := 5) rfl (z := (4 : Int32)) rfl ?_
  obtain ⟨v4, ev4⟩ : ∃ z, (v1 % (4 : Int32)) = z := ⟨_, rfl⟩
  have hl5 : 0 ≤ v4.toInt := by rw [← ev4]; exact (own_rem (y := (4 : Int32)) (d := 3) (by decide) (by decide) (Int.le_trans (by decide) hl2)).1
  have hh6 : v4.toInt ≤ 3 := by rw [← ev4]; exact (own_rem (y := (4 : Int32)) (d := 3) (by decide) (by decide) (Int.le_trans (by decide) hl2)).2
  refine g_irem C X at_5 (q := 6) rfl (by decide) (z := v4) ev4 ?_
  refine g_istore C X at_6 (q := 8) rfl (L' := #[.val (.int p0), .val (.int p1), .val (.int p2), .val (.int p3), .val (.long p4), .second, .val (.int v4), .unset, .unset, .unset, .unset, .unset, .unset]) rfl ?_
  refine g_iload C X at_8 (q := 10) rfl rfl ?_
  refine g_iconst C X at_10 (q := 11) rfl (z := (3 : Int32)) rfl ?_
  by_cases hc7 : v4 = (3 : Int32)
  · refine g_icN C X at_11 (q := 14) rfl (teq hc7).2 ?_
    obtain rfl : v4 = (3 : Int32) := hc7
    refine g_aconstNull C X at_14 (q := 15) rfl ?_
    refine g_callS1 C X (y := (⟨"com/example/sober_repository/soberrepository/Dialect", "of", "(Ljava/lang/String;)Lcom/example/sober_repository/soberrepository/Dialect;"⟩ : MethodName)) (by decide) (w50 hw) (w51 hw) (w53 hw) (w52 hw) (rm_ofN hw O W) (W := 0) (by decide) (by decide) (k' := 1) rfl (n' := 2) rfl (by decide) (by decide) rfl pd_41 (argsL := [.null]) rfl (rest := []) rfl rfl rfl at_15 (q := 18) rfl ?_
    rintro _ T9 h10 X11 ⟨K12, rfl⟩
    have Y15 := Wx.keep Y K12 sf0
    have O16 := O.keep K12 all0
    refine g_nonN C X11 at_18 (q := 21) rfl ?_
    refine g_iconst C X11 at_21 (q := 22) rfl (z := (1 : Int32)) rfl ?_
    refine g_goto C X11 at_22 (by decide) (q := 26) (by decide) ?_
    exact gW_retN C X11 Y15 (own_EL hw) (Or.inl rfl) (z' := 1) (by decide) at_26 (by decide) (by decide) ⟨_, rfl, rfl, trivial⟩
  · refine g_icY C X at_11 (by decide) (q := 27) (by decide) (feq hc7).2 ?_
    have hr17 : v4.toInt ≤ 2 := own_f6 hc7 hh6 (by decide)
    refine g_bipush C X at_27 (q := 29) rfl (z := (12 : Int32)) rfl ?_
    refine g_newP C X (w1 hw) rfl at_29 (q := 31) rfl (by decide) (cap := 12) (by decide) (by decide) (k' := 1) rfl (n' := 12) rfl (by decide) (by decide) ?_
    intro T19 h20 kA21 b18 g23 X22 E24 V25
    have ge26 : n0 ≤ b18 := own_ge O g23
    have Y27 := Wx.ext Y E24
    have O28 := O.ext E24
    have V29 : Arv Z h20 b18 kA21 .char (12 : Int32) [(.int (0 : Int32)), (.int (0 : Int32)), (.int (0 : Int32)), (.int (0 : Int32)), (.int (0 : Int32)), (.int (0 : Int32)), (.int (0 : Int32)), (.int (0 : Int32)), (.int (0 : Int32)), (.int (0 : Int32)), (.int (0 : Int32)), (.int (0 : Int32))] (.int (0 : Int32)) := Arv.pad V25 (pad_rep [] _ 12)
    have Y30 := Yar.of V29
    refine g_astore C X22 at_31 (q := 33) rfl rfl (L' := #[.val (.int p0), .val (.int p1), .val (.int p2), .val (.int p3), .val (.long p4), .second, .val (.int v4), .val (.ref b18), .unset, .unset, .unset, .unset, .unset]) rfl ?_
    refine g_aload C X22 at_33 (q := 35) rfl rfl rfl ?_
    refine g_iconst C X22 at_35 (q := 36) rfl (z := (0 : Int32)) rfl ?_
    refine g_lload C X22 at_36 (q := 38) rfl rfl ?_
    refine g_iconst C X22 at_38 (q := 39) rfl (z := (0 : Int32)) rfl ?_
    obtain ⟨v31, ev31⟩ : ∃ z, ((((p4.toUInt64 >>> ((0 : Int32) &&& 0x3f).toInt64.toUInt64).toInt64) &&& (255 : Int64)).toInt32) = z := ⟨_, rfl⟩
    have hl32 : 0 ≤ v31.toInt := by rw [← ev31]; exact (own_l255 ((p4.toUInt64 >>> ((0 : Int32) &&& 0x3f).toInt64.toUInt64).toInt64)).1
    have hh33 : v31.toInt ≤ 255 := by rw [← ev31]; exact (own_l255 ((p4.toUInt64 >>> ((0 : Int32) &&& 0x3f).toInt64.toUInt64).toInt64)).2
    refine g_callS1 C X22 (y := (⟨"com/example/sober_repository/soberrepository/DialectOfPinLaw", "d", "(JI)C"⟩ : MethodName)) (by decide) (w2 hw) (w3 hw) (w5 hw) (w4 hw) (rm_d_0 hw (pf := p4) O28) (W := 2) (by decide) (by decide) (k' := 1) rfl (n' := 12) rfl (by decide) (by decide) rfl pd_78 (argsL := [(.long p4), (.int (0 : Int32))]) rfl (rest := [(.int (0 : Int32)), (.ref b18)]) rfl rfl rfl at_39 (q := 42) rfl ?_
    rintro _ T34 _ X35 ⟨rfl, rfl⟩
    rw [ev31]
    refine g_castore C X35 V29 (by decide) (i := 0) (by decide) (Nat.le_of_ble_eq_true rfl) (vs' := [(.int v31), (.int (0 : Int32)), (.int (0 : Int32)), (.int (0 : Int32)), (.int (0 : Int32)), (.int (0 : Int32)), (.int (0 : Int32)), (.int (0 : Int32)), (.int (0 : Int32)), (.int (0 : Int32)), (.int (0 : Int32)), (.int (0 : Int32))]) (by rw [own_narC hl32 hh33 (by decide) (by decide)]; rfl) ge26 at_42 (q := 43) rfl ?_
    intro T36 h37 X38 W39 V40
    have Y41 := Wx.wr Y27 W39 (own_safeY (Cx.alike C) Y30 (by decide))
    have O42 := O28.wr W39 ge26
    refine g_aload C X38 at_43 (q := 45) rfl rfl rfl ?_
    refine g_iconst C X38 at_45 (q := 46) rfl (z := (1 : Int32)) rfl ?_
    refine g_lload C X38 at_46 (q := 48) rfl rfl ?_
    refine g_iconst C X38 at_48 (q := 49) rfl (z := (1 : Int32)) rfl ?_
    obtain ⟨v43, ev43⟩ : ∃ z, ((((p4.toUInt64 >>> ((8 : Int32) &&& 0x3f).toInt64.toUInt64).toInt64) &&& (255 : Int64)).toInt32) = z := ⟨_, rfl⟩
    have hl44 : 0 ≤ v43.toInt := by rw [← ev43]; exact (own_l255 ((p4.toUInt64 >>> ((8 : Int32) &&& 0x3f).toInt64.toUInt64).toInt64)).1
    have hh45 : v43.toInt ≤ 255 := by rw [← ev43]; exact (own_l255 ((p4.toUInt64 >>> ((8 : Int32) &&& 0x3f).toInt64.toUInt64).toInt64)).2
    refine g_callS1 C X38 (y := (⟨"com/example/sober_repository/soberrepository/DialectOfPinLaw", "d", "(JI)C"⟩ : MethodName)) (by decide) (w2 hw) (w3 hw) (w5 hw) (w4 hw) (rm_d_1 hw (pf := p4) O42) (W := 2) (by decide) (by decide) (k' := 1) rfl (n' := 12) rfl (by decide) (by decide) rfl pd_78 (argsL := [(.long p4), (.int (1 : Int32))]) rfl (rest := [(.int (1 : Int32)), (.ref b18)]) rfl rfl rfl at_49 (q := 52) rfl ?_
    rintro _ T46 _ X47 ⟨rfl, rfl⟩
    rw [ev43]
    refine g_castore C X47 V40 (by decide) (i := 1) (by decide) (Nat.le_of_ble_eq_true rfl) (vs' := [(.int v31), (.int v43), (.int (0 : Int32)), (.int (0 : Int32)), (.int (0 : Int32)), (.int (0 : Int32)), (.int (0 : Int32)), (.int (0 : Int32)), (.int (0 : Int32)), (.int (0 : Int32)), (.int (0 : Int32)), (.int (0 : Int32))]) (by rw [own_narC hl44 hh45 (by decide) (by decide)]; rfl) ge26 at_52 (q := 53) rfl ?_
    intro T48 h49 X50 W51 V52
    have f53 := (Y30.wr W39)
    have Y54 := Wx.wr Y41 W51 (own_safeY (Cx.alike C) f53 (by decide))
    have O55 := O42.wr W51 ge26
    refine g_aload C X50 at_53 (q := 55) rfl rfl rfl ?_
    refine g_iconst C X50 at_55 (q := 56) rfl (z := (2 : Int32)) rfl ?_
    refine g_lload C X50 at_56 (q := 58) rfl rfl ?_
    refine g_iconst C X50 at_58 (q := 59) rfl (z := (2 : Int32)) rfl ?_
    obtain ⟨v56, ev56⟩ : ∃ z, ((((p4.toUInt64 >>> ((16 : Int32) &&& 0x3f).toInt64.toUInt64).toInt64) &&& (255 : Int64)).toInt32) = z := ⟨_, rfl⟩
    have hl57 : 0 ≤ v56.toInt := by rw [← ev56]; exact (own_l255 ((p4.toUInt64 >>> ((16 : Int32) &&& 0x3f).toInt64.toUInt64).toInt64)).1
    have hh58 : v56.toInt ≤ 255 := by rw [← ev56]; exact (own_l255 ((p4.toUInt64 >>> ((16 : Int32) &&& 0x3f).toInt64.toUInt64).toInt64)).2
    refine g_callS1 C X50 (y := (⟨"com/example/sober_repository/soberrepository/DialectOfPinLaw", "d", "(JI)C"⟩ : MethodName)) (by decide) (w2 hw) (w3 hw) (w5 hw) (w4 hw) (rm_d_2 hw (pf := p4) O55) (W := 2) (by decide) (by decide) (k' := 1) rfl (n' := 12) rfl (by decide) (by decide) rfl pd_78 (argsL := [(.long p4), (.int (2 : Int32))]) rfl (rest := [(.int (2 : Int32)), (.ref b18)]) rfl rfl rfl at_59 (q := 62) rfl ?_
    rintro _ T59 _ X60 ⟨rfl, rfl⟩
    rw [ev56]
    refine g_castore C X60 V52 (by decide) (i := 2) (by decide) (Nat.le_of_ble_eq_true rfl) (vs' := [(.int v31), (.int v43), (.int v56), (.int (0 : Int32)), (.int (0 : Int32)), (.int (0 : Int32)), (.int (0 : Int32)), (.int (0 : Int32)), (.int (0 : Int32)), (.int (0 : Int32)), (.int (0 : Int32)), (.int (0 : Int32))]) (by rw [own_narC hl57 hh58 (by decide) (by decide)]; rfl) ge26 at_62 (q := 63) rfl ?_
    intro T61 h62 X63 W64 V65
    have f66 := (f53.wr W51)
    have Y67 := Wx.wr Y54 W64 (own_safeY (Cx.alike C) f66 (by decide))
    have O68 := O55.wr W64 ge26
    refine g_aload C X63 at_63 (q := 65) rfl rfl rfl ?_
    refine g_iconst C X63 at_65 (q := 66) rfl (z := (3 : Int32)) rfl ?_
    refine g_lload C X63 at_66 (q := 68) rfl rfl ?_
    refine g_iconst C X63 at_68 (q := 69) rfl (z := (3 : Int32)) rfl ?_
    obtain ⟨v69, ev69⟩ : ∃ z, ((((p4.toUInt64 >>> ((24 : Int32) &&& 0x3f).toInt64.toUInt64).toInt64) &&& (255 : Int64)).toInt32) = z := ⟨_, rfl⟩
    have hl70 : 0 ≤ v69.toInt := by rw [← ev69]; exact (own_l255 ((p4.toUInt64 >>> ((24 : Int32) &&& 0x3f).toInt64.toUInt64).toInt64)).1
    have hh71 : v69.toInt ≤ 255 := by rw [← ev69]; exact (own_l255 ((p4.toUInt64 >>> ((24 : Int32) &&& 0x3f).toInt64.toUInt64).toInt64)).2
    refine g_callS1 C X63 (y := (⟨"com/example/sober_repository/soberrepository/DialectOfPinLaw", "d", "(JI)C"⟩ : MethodName)) (by decide) (w2 hw) (w3 hw) (w5 hw) (w4 hw) (rm_d_3 hw (pf := p4) O68) (W := 2) (by decide) (by decide) (k' := 1) rfl (n' := 12) rfl (by decide) (by decide) rfl pd_78 (argsL := [(.long p4), (.int (3 : Int32))]) rfl (rest := [(.int (3 : Int32)), (.ref b18)]) rfl rfl rfl at_69 (q := 72) rfl ?_
    rintro _ T72 _ X73 ⟨rfl, rfl⟩
    rw [ev69]
    refine g_castore C X73 V65 (by decide) (i := 3) (by decide) (Nat.le_of_ble_eq_true rfl) (vs' := [(.int v31), (.int v43), (.int v56), (.int v69), (.int (0 : Int32)), (.int (0 : Int32)), (.int (0 : Int32)), (.int (0 : Int32)), (.int (0 : Int32)), (.int (0 : Int32)), (.int (0 : Int32)), (.int (0 : Int32))]) (by rw [own_narC hl70 hh71 (by decide) (by decide)]; rfl) ge26 at_72 (q := 73) rfl ?_
    intro T74 h75 X76 W77 V78
    have f79 := (f66.wr W64)
    have Y80 := Wx.wr Y67 W77 (own_safeY (Cx.alike C) f79 (by decide))
    have O81 := O68.wr W77 ge26
    refine g_aload C X76 at_73 (q := 75) rfl rfl rfl ?_
    refine g_iconst C X76 at_75 (q := 76) rfl (z := (4 : Int32)) rfl ?_
    refine g_lload C X76 at_76 (q := 78) rfl rfl ?_
    refine g_iconst C X76 at_78 (q := 79) rfl (z := (4 : Int32)) rfl ?_
    obtain ⟨v82, ev82⟩ : ∃ z, ((((p4.toUInt64 >>> ((32 : Int32) &&& 0x3f).toInt64.toUInt64).toInt64) &&& (255 : Int64)).toInt32) = z := ⟨_, rfl⟩
    have hl83 : 0 ≤ v82.toInt := by rw [← ev82]; exact (own_l255 ((p4.toUInt64 >>> ((32 : Int32) &&& 0x3f).toInt64.toUInt64).toInt64)).1
    have hh84 : v82.toInt ≤ 255 := by rw [← ev82]; exact (own_l255 ((p4.toUInt64 >>> ((32 : Int32) &&& 0x3f).toInt64.toUInt64).toInt64)).2
    refine g_callS1 C X76 (y := (⟨"com/example/sober_repository/soberrepository/DialectOfPinLaw", "d", "(JI)C"⟩ : MethodName)) (by decide) (w2 hw) (w3 hw) (w5 hw) (w4 hw) (rm_d_4 hw (pf := p4) O81) (W := 2) (by decide) (by decide) (k' := 1) rfl (n' := 12) rfl (by decide) (by decide) rfl pd_78 (argsL := [(.long p4), (.int (4 : Int32))]) rfl (rest := [(.int (4 : Int32)), (.ref b18)]) rfl rfl rfl at_79 (q := 82) rfl ?_
    rintro _ T85 _ X86 ⟨rfl, rfl⟩
    rw [ev82]
    refine g_castore C X86 V78 (by decide) (i := 4) (by decide) (Nat.le_of_ble_eq_true rfl) (vs' := [(.int v31), (.int v43), (.int v56), (.int v69), (.int v82), (.int (0 : Int32)), (.int (0 : Int32)), (.int (0 : Int32)), (.int (0 : Int32)), (.int (0 : Int32)), (.int (0 : Int32)), (.int (0 : Int32))]) (by rw [own_narC hl83 hh84 (by decide) (by decide)]; rfl) ge26 at_82 (q := 83) rfl ?_
    intro T87 h88 X89 W90 V91
    have f92 := (f79.wr W77)
    have Y93 := Wx.wr Y80 W90 (own_safeY (Cx.alike C) f92 (by decide))
    have O94 := O81.wr W90 ge26
    refine g_aload C X89 at_83 (q := 85) rfl rfl rfl ?_
    refine g_iconst C X89 at_85 (q := 86) rfl (z := (5 : Int32)) rfl ?_
    refine g_lload C X89 at_86 (q := 88) rfl rfl ?_
    refine g_iconst C X89 at_88 (q := 89) rfl (z := (5 : Int32)) rfl ?_
    obtain ⟨v95, ev95⟩ : ∃ z, ((((p4.toUInt64 >>> ((40 : Int32) &&& 0x3f).toInt64.toUInt64).toInt64) &&& (255 : Int64)).toInt32) = z := ⟨_, rfl⟩
    have hl96 : 0 ≤ v95.toInt := by rw [← ev95]; exact (own_l255 ((p4.toUInt64 >>> ((40 : Int32) &&& 0x3f).toInt64.toUInt64).toInt64)).1
    have hh97 : v95.toInt ≤ 255 := by rw [← ev95]; exact (own_l255 ((p4.toUInt64 >>> ((40 : Int32) &&& 0x3f).toInt64.toUInt64).toInt64)).2
    refine g_callS1 C X89 (y := (⟨"com/example/sober_repository/soberrepository/DialectOfPinLaw", "d", "(JI)C"⟩ : MethodName)) (by decide) (w2 hw) (w3 hw) (w5 hw) (w4 hw) (rm_d_5 hw (pf := p4) O94) (W := 2) (by decide) (by decide) (k' := 1) rfl (n' := 12) rfl (by decide) (by decide) rfl pd_78 (argsL := [(.long p4), (.int (5 : Int32))]) rfl (rest := [(.int (5 : Int32)), (.ref b18)]) rfl rfl rfl at_89 (q := 92) rfl ?_
    rintro _ T98 _ X99 ⟨rfl, rfl⟩
    rw [ev95]
    refine g_castore C X99 V91 (by decide) (i := 5) (by decide) (Nat.le_of_ble_eq_true rfl) (vs' := [(.int v31), (.int v43), (.int v56), (.int v69), (.int v82), (.int v95), (.int (0 : Int32)), (.int (0 : Int32)), (.int (0 : Int32)), (.int (0 : Int32)), (.int (0 : Int32)), (.int (0 : Int32))]) (by rw [own_narC hl96 hh97 (by decide) (by decide)]; rfl) ge26 at_92 (q := 93) rfl ?_
    intro T100 h101 X102 W103 V104
    have f105 := (f92.wr W90)
    have Y106 := Wx.wr Y93 W103 (own_safeY (Cx.alike C) f105 (by decide))
    have O107 := O94.wr W103 ge26
    refine g_aload C X102 at_93 (q := 95) rfl rfl rfl ?_
    refine g_bipush C X102 at_95 (q := 97) rfl (z := (6 : Int32)) rfl ?_
    refine g_lload C X102 at_97 (q := 99) rfl rfl ?_
    refine g_bipush C X102 at_99 (q := 101) rfl (z := (6 : Int32)) rfl ?_
    obtain ⟨v108, ev108⟩ : ∃ z, ((((p4.toUInt64 >>> ((48 : Int32) &&& 0x3f).toInt64.toUInt64).toInt64) &&& (255 : Int64)).toInt32) = z := ⟨_, rfl⟩
    have hl109 : 0 ≤ v108.toInt := by rw [← ev108]; exact (own_l255 ((p4.toUInt64 >>> ((48 : Int32) &&& 0x3f).toInt64.toUInt64).toInt64)).1
    have hh110 : v108.toInt ≤ 255 := by rw [← ev108]; exact (own_l255 ((p4.toUInt64 >>> ((48 : Int32) &&& 0x3f).toInt64.toUInt64).toInt64)).2
    refine g_callS1 C X102 (y := (⟨"com/example/sober_repository/soberrepository/DialectOfPinLaw", "d", "(JI)C"⟩ : MethodName)) (by decide) (w2 hw) (w3 hw) (w5 hw) (w4 hw) (rm_d_6 hw (pf := p4) O107) (W := 2) (by decide) (by decide) (k' := 1) rfl (n' := 12) rfl (by decide) (by decide) rfl pd_78 (argsL := [(.long p4), (.int (6 : Int32))]) rfl (rest := [(.int (6 : Int32)), (.ref b18)]) rfl rfl rfl at_101 (q := 104) rfl ?_
    rintro _ T111 _ X112 ⟨rfl, rfl⟩
    rw [ev108]
    refine g_castore C X112 V104 (by decide) (i := 6) (by decide) (Nat.le_of_ble_eq_true rfl) (vs' := [(.int v31), (.int v43), (.int v56), (.int v69), (.int v82), (.int v95), (.int v108), (.int (0 : Int32)), (.int (0 : Int32)), (.int (0 : Int32)), (.int (0 : Int32)), (.int (0 : Int32))]) (by rw [own_narC hl109 hh110 (by decide) (by decide)]; rfl) ge26 at_104 (q := 105) rfl ?_
    intro T113 h114 X115 W116 V117
    have f118 := (f105.wr W103)
    have Y119 := Wx.wr Y106 W116 (own_safeY (Cx.alike C) f118 (by decide))
    have O120 := O107.wr W116 ge26
    refine g_aload C X115 at_105 (q := 107) rfl rfl rfl ?_
    refine g_bipush C X115 at_107 (q := 109) rfl (z := (7 : Int32)) rfl ?_
    refine g_lload C X115 at_109 (q := 111) rfl rfl ?_
    refine g_bipush C X115 at_111 (q := 113) rfl (z := (7 : Int32)) rfl ?_
    obtain ⟨v121, ev121⟩ : ∃ z, ((((p4.toUInt64 >>> ((56 : Int32) &&& 0x3f).toInt64.toUInt64).toInt64) &&& (255 : Int64)).toInt32) = z := ⟨_, rfl⟩
    have hl122 : 0 ≤ v121.toInt := by rw [← ev121]; exact (own_l255 ((p4.toUInt64 >>> ((56 : Int32) &&& 0x3f).toInt64.toUInt64).toInt64)).1
    have hh123 : v121.toInt ≤ 255 := by rw [← ev121]; exact (own_l255 ((p4.toUInt64 >>> ((56 : Int32) &&& 0x3f).toInt64.toUInt64).toInt64)).2
    refine g_callS1 C X115 (y := (⟨"com/example/sober_repository/soberrepository/DialectOfPinLaw", "d", "(JI)C"⟩ : MethodName)) (by decide) (w2 hw) (w3 hw) (w5 hw) (w4 hw) (rm_d_7 hw (pf := p4) O120) (W := 2) (by decide) (by decide) (k' := 1) rfl (n' := 12) rfl (by decide) (by decide) rfl pd_78 (argsL := [(.long p4), (.int (7 : Int32))]) rfl (rest := [(.int (7 : Int32)), (.ref b18)]) rfl rfl rfl at_113 (q := 116) rfl ?_
    rintro _ T124 _ X125 ⟨rfl, rfl⟩
    rw [ev121]
    refine g_castore C X125 V117 (by decide) (i := 7) (by decide) (Nat.le_of_ble_eq_true rfl) (vs' := [(.int v31), (.int v43), (.int v56), (.int v69), (.int v82), (.int v95), (.int v108), (.int v121), (.int (0 : Int32)), (.int (0 : Int32)), (.int (0 : Int32)), (.int (0 : Int32))]) (by rw [own_narC hl122 hh123 (by decide) (by decide)]; rfl) ge26 at_116 (q := 117) rfl ?_
    intro T126 h127 X128 W129 V130
    have f131 := (f118.wr W116)
    have Y132 := Wx.wr Y119 W129 (own_safeY (Cx.alike C) f131 (by decide))
    have O133 := O120.wr W129 ge26
    refine g_aload C X128 at_117 (q := 119) rfl rfl rfl ?_
    refine g_bipush C X128 at_119 (q := 121) rfl (z := (8 : Int32)) rfl ?_
    refine g_lload C X128 at_121 (q := 123) rfl rfl ?_
    refine g_bipush C X128 at_123 (q := 125) rfl (z := (8 : Int32)) rfl ?_
    obtain ⟨v134, ev134⟩ : ∃ z, ((((p4.toUInt64 >>> ((0 : Int32) &&& 0x3f).toInt64.toUInt64).toInt64) &&& (255 : Int64)).toInt32) = z := ⟨_, rfl⟩
    have hl135 : 0 ≤ v134.toInt := by rw [← ev134]; exact (own_l255 ((p4.toUInt64 >>> ((0 : Int32) &&& 0x3f).toInt64.toUInt64).toInt64)).1
    have hh136 : v134.toInt ≤ 255 := by rw [← ev134]; exact (own_l255 ((p4.toUInt64 >>> ((0 : Int32) &&& 0x3f).toInt64.toUInt64).toInt64)).2
    refine g_callS1 C X128 (y := (⟨"com/example/sober_repository/soberrepository/DialectOfPinLaw", "d", "(JI)C"⟩ : MethodName)) (by decide) (w2 hw) (w3 hw) (w5 hw) (w4 hw) (rm_d_8 hw (pf := p4) O133) (W := 2) (by decide) (by decide) (k' := 1) rfl (n' := 12) rfl (by decide) (by decide) rfl pd_78 (argsL := [(.long p4), (.int (8 : Int32))]) rfl (rest := [(.int (8 : Int32)), (.ref b18)]) rfl rfl rfl at_125 (q := 128) rfl ?_
    rintro _ T137 _ X138 ⟨rfl, rfl⟩
    rw [ev134]
    refine g_castore C X138 V130 (by decide) (i := 8) (by decide) (Nat.le_of_ble_eq_true rfl) (vs' := [(.int v31), (.int v43), (.int v56), (.int v69), (.int v82), (.int v95), (.int v108), (.int v121), (.int v134), (.int (0 : Int32)), (.int (0 : Int32)), (.int (0 : Int32))]) (by rw [own_narC hl135 hh136 (by decide) (by decide)]; rfl) ge26 at_128 (q := 129) rfl ?_
    intro T139 h140 X141 W142 V143
    have f144 := (f131.wr W129)
    have Y145 := Wx.wr Y132 W142 (own_safeY (Cx.alike C) f144 (by decide))
    have O146 := O133.wr W142 ge26
    refine g_aload C X141 at_129 (q := 131) rfl rfl rfl ?_
    refine g_bipush C X141 at_131 (q := 133) rfl (z := (9 : Int32)) rfl ?_
    refine g_lload C X141 at_133 (q := 135) rfl rfl ?_
    refine g_bipush C X141 at_135 (q := 137) rfl (z := (9 : Int32)) rfl ?_
    obtain ⟨v147, ev147⟩ : ∃ z, ((((p4.toUInt64 >>> ((8 : Int32) &&& 0x3f).toInt64.toUInt64).toInt64) &&& (255 : Int64)).toInt32) = z := ⟨_, rfl⟩
    have hl148 : 0 ≤ v147.toInt := by rw [← ev147]; exact (own_l255 ((p4.toUInt64 >>> ((8 : Int32) &&& 0x3f).toInt64.toUInt64).toInt64)).1
    have hh149 : v147.toInt ≤ 255 := by rw [← ev147]; exact (own_l255 ((p4.toUInt64 >>> ((8 : Int32) &&& 0x3f).toInt64.toUInt64).toInt64)).2
    refine g_callS1 C X141 (y := (⟨"com/example/sober_repository/soberrepository/DialectOfPinLaw", "d", "(JI)C"⟩ : MethodName)) (by decide) (w2 hw) (w3 hw) (w5 hw) (w4 hw) (rm_d_9 hw (pf := p4) O146) (W := 2) (by decide) (by decide) (k' := 1) rfl (n' := 12) rfl (by decide) (by decide) rfl pd_78 (argsL := [(.long p4), (.int (9 : Int32))]) rfl (rest := [(.int (9 : Int32)), (.ref b18)]) rfl rfl rfl at_137 (q := 140) rfl ?_
    rintro _ T150 _ X151 ⟨rfl, rfl⟩
    rw [ev147]
    refine g_castore C X151 V143 (by decide) (i := 9) (by decide) (Nat.le_of_ble_eq_true rfl) (vs' := [(.int v31), (.int v43), (.int v56), (.int v69), (.int v82), (.int v95), (.int v108), (.int v121), (.int v134), (.int v147), (.int (0 : Int32)), (.int (0 : Int32))]) (by rw [own_narC hl148 hh149 (by decide) (by decide)]; rfl) ge26 at_140 (q := 141) rfl ?_
    intro T152 h153 X154 W155 V156
    have f157 := (f144.wr W142)
    have Y158 := Wx.wr Y145 W155 (own_safeY (Cx.alike C) f157 (by decide))
    have O159 := O146.wr W155 ge26
    refine g_aload C X154 at_141 (q := 143) rfl rfl rfl ?_
    refine g_bipush C X154 at_143 (q := 145) rfl (z := (10 : Int32)) rfl ?_
    refine g_lload C X154 at_145 (q := 147) rfl rfl ?_
    refine g_bipush C X154 at_147 (q := 149) rfl (z := (10 : Int32)) rfl ?_
    obtain ⟨v160, ev160⟩ : ∃ z, ((((p4.toUInt64 >>> ((16 : Int32) &&& 0x3f).toInt64.toUInt64).toInt64) &&& (255 : Int64)).toInt32) = z := ⟨_, rfl⟩
    have hl161 : 0 ≤ v160.toInt := by rw [← ev160]; exact (own_l255 ((p4.toUInt64 >>> ((16 : Int32) &&& 0x3f).toInt64.toUInt64).toInt64)).1
    have hh162 : v160.toInt ≤ 255 := by rw [← ev160]; exact (own_l255 ((p4.toUInt64 >>> ((16 : Int32) &&& 0x3f).toInt64.toUInt64).toInt64)).2
    refine g_callS1 C X154 (y := (⟨"com/example/sober_repository/soberrepository/DialectOfPinLaw", "d", "(JI)C"⟩ : MethodName)) (by decide) (w2 hw) (w3 hw) (w5 hw) (w4 hw) (rm_d_10 hw (pf := p4) O159) (W := 2) (by decide) (by decide) (k' := 1) rfl (n' := 12) rfl (by decide) (by decide) rfl pd_78 (argsL := [(.long p4), (.int (10 : Int32))]) rfl (rest := [(.int (10 : Int32)), (.ref b18)]) rfl rfl rfl at_149 (q := 152) rfl ?_
    rintro _ T163 _ X164 ⟨rfl, rfl⟩
    rw [ev160]
    refine g_castore C X164 V156 (by decide) (i := 10) (by decide) (Nat.le_of_ble_eq_true rfl) (vs' := [(.int v31), (.int v43), (.int v56), (.int v69), (.int v82), (.int v95), (.int v108), (.int v121), (.int v134), (.int v147), (.int v160), (.int (0 : Int32))]) (by rw [own_narC hl161 hh162 (by decide) (by decide)]; rfl) ge26 at_152 (q := 153) rfl ?_
    intro T165 h166 X167 W168 V169
    have f170 := (f157.wr W155)
    have Y171 := Wx.wr Y158 W168 (own_safeY (Cx.alike C) f170 (by decide))
    have O172 := O159.wr W168 ge26
    refine g_aload C X167 at_153 (q := 155) rfl rfl rfl ?_
    refine g_bipush C X167 at_155 (q := 157) rfl (z := (11 : Int32)) rfl ?_
    refine g_lload C X167 at_157 (q := 159) rfl rfl ?_
    refine g_bipush C X167 at_159 (q := 161) rfl (z := (11 : Int32)) rfl ?_
    obtain ⟨v173, ev173⟩ : ∃ z, ((((p4.toUInt64 >>> ((24 : Int32) &&& 0x3f).toInt64.toUInt64).toInt64) &&& (255 : Int64)).toInt32) = z := ⟨_, rfl⟩
    have hl174 : 0 ≤ v173.toInt := by rw [← ev173]; exact (own_l255 ((p4.toUInt64 >>> ((24 : Int32) &&& 0x3f).toInt64.toUInt64).toInt64)).1
    have hh175 : v173.toInt ≤ 255 := by rw [← ev173]; exact (own_l255 ((p4.toUInt64 >>> ((24 : Int32) &&& 0x3f).toInt64.toUInt64).toInt64)).2
    refine g_callS1 C X167 (y := (⟨"com/example/sober_repository/soberrepository/DialectOfPinLaw", "d", "(JI)C"⟩ : MethodName)) (by decide) (w2 hw) (w3 hw) (w5 hw) (w4 hw) (rm_d_11 hw (pf := p4) O172) (W := 2) (by decide) (by decide) (k' := 1) rfl (n' := 12) rfl (by decide) (by decide) rfl pd_78 (argsL := [(.long p4), (.int (11 : Int32))]) rfl (rest := [(.int (11 : Int32)), (.ref b18)]) rfl rfl rfl at_161 (q := 164) rfl ?_
    rintro _ T176 _ X177 ⟨rfl, rfl⟩
    rw [ev173]
    refine g_castore C X177 V169 (by decide) (i := 11) (by decide) (Nat.le_of_ble_eq_true rfl) (vs' := [(.int v31), (.int v43), (.int v56), (.int v69), (.int v82), (.int v95), (.int v108), (.int v121), (.int v134), (.int v147), (.int v160), (.int v173)]) (by rw [own_narC hl174 hh175 (by decide) (by decide)]; rfl) ge26 at_164 (q := 165) rfl ?_
    intro T178 h179 X180 W181 V182
    have f183 := (f170.wr W168)
    have Y184 := Wx.wr Y171 W181 (own_safeY (Cx.alike C) f183 (by decide))
    have O185 := O172.wr W181 ge26
    refine g_iconst C X180 at_165 (q := 166) rfl (z := (0 : Int32)) rfl ?_
    refine g_istore C X180 at_166 (q := 168) rfl (L' := #[.val (.int p0), .val (.int p1), .val (.int p2), .val (.int p3), .val (.long p4), .second, .val (.int v4), .val (.ref b18), .val (.int (0 : Int32)), .unset, .unset, .unset, .unset]) rfl ?_
    refine g_iload C X180 at_168 (q := 170) rfl rfl ?_
    by_cases hc186 : v4 = (0 : Int32)
    · refine g_ifN C X180 at_170 (q := 173) rfl (teq hc186).2 ?_
      obtain rfl : v4 = (0 : Int32) := hc186
      refine g_aload C X180 at_173 (q := 175) rfl rfl rfl ?_
      refine g_iconst C X180 at_175 (q := 176) rfl (z := (0 : Int32)) rfl ?_
      refine g_bipush C X180 at_176 (q := 178) rfl (z := (72 : Int32)) rfl ?_
      refine g_castore C X180 V182 (by decide) (i := 0) (by decide) (Nat.le_of_ble_eq_true rfl) (vs' := [(.int (72 : Int32)), (.int v43), (.int v56), (.int v69), (.int v82), (.int v95), (.int v108), (.int v121), (.int v134), (.int v147), (.int v160), (.int v173)]) rfl ge26 at_178 (q := 179) rfl ?_
      intro T188 h189 X190 W191 V192
      have f193 := (f183.wr W181)
      have Y194 := Wx.wr Y184 W191 (own_safeY (Cx.alike C) f193 (by decide))
      have O195 := O185.wr W191 ge26
      refine g_aload C X190 at_179 (q := 181) rfl rfl rfl ?_
      refine g_iconst C X190 at_181 (q := 182) rfl (z := (1 : Int32)) rfl ?_
      refine g_bipush C X190 at_182 (q := 184) rfl (z := (50 : Int32)) rfl ?_
      refine g_castore C X190 V192 (by decide) (i := 1) (by decide) (Nat.le_of_ble_eq_true rfl) (vs' := [(.int (72 : Int32)), (.int (50 : Int32)), (.int v56), (.int v69), (.int v82), (.int v95), (.int v108), (.int v121), (.int v134), (.int v147), (.int v160), (.int v173)]) rfl ge26 at_184 (q := 185) rfl ?_
      intro T196 h197 X198 W199 V200
      have f201 := (f193.wr W191)
      have Y202 := Wx.wr Y194 W199 (own_safeY (Cx.alike C) f201 (by decide))
      have O203 := O195.wr W199 ge26
      refine g_iconst C X198 at_185 (q := 186) rfl (z := (2 : Int32)) rfl ?_
      refine g_istore C X198 at_186 (q := 188) rfl (L' := #[.val (.int p0), .val (.int p1), .val (.int p2), .val (.int p3), .val (.long p4), .second, .val (.int (0 : Int32)), .val (.ref b18), .val (.int (2 : Int32)), .unset, .unset, .unset, .unset]) rfl ?_
      refine g_goto C X198 at_188 (by decide) (q := 265) (by decide) ?_
      refine g_iloadN C X198 at_265 (q := 266) rfl rfl ?_
      refine g_iconst C X198 at_266 (q := 267) rfl (z := (1 : Int32)) rfl ?_
      obtain ⟨v204, ev204⟩ : ∃ z, (p1 &&& (1 : Int32)) = z := ⟨_, rfl⟩
      have hl205 : 0 ≤ v204.toInt := by rw [← ev204]; exact (c_and p1 (1 : Int32) (by decide)).1
      have hh206 : v204.toInt ≤ 1 := by rw [← ev204]; exact (c_and p1 (1 : Int32) (by decide)).2
      refine g_iand C X198 at_267 (q := 268) rfl (z := v204) ev204 ?_
      by_cases hc207 : v204 = (0 : Int32)
      · refine g_ifN C X198 at_268 (q := 271) rfl (teq hc207).2 ?_
        obtain rfl : v204 = (0 : Int32) := hc207
        refine g_iload C X198 at_271 (q := 273) rfl rfl ?_
        refine g_iconst C X198 at_273 (q := 274) rfl (z := (2 : Int32)) rfl ?_
        refine g_icN C X198 at_274 (q := 277) rfl (by decide) ?_
        refine g_iload C X198 at_277 (q := 279) rfl rfl ?_
        refine g_istore C X198 at_279 (q := 281) rfl (L' := #[.val (.int p0), .val (.int p1), .val (.int p2), .val (.int p3), .val (.long p4), .second, .val (.int (0 : Int32)), .val (.ref b18), .val (.int (2 : Int32)), .val (.int (2 : Int32)), .unset, .unset, .unset]) rfl ?_
        refine g_goto C X198 at_281 (by decide) (q := 292) (by decide) ?_
        exact rmJ292 hw C (St.mono X198 (by decide) (by decide)) Y202 O203 W V200 ge26 (by decide) (by decide) (by decide) (by decide) hl57 hh58 hl70 hh71 hl83 hh84 hl96 hh97 hl109 hh110 hl122 hh123 hl135 hh136 hl148 hh149 hl161 hh162 hl174 hh175 (by decide) (by decide)
      · refine g_ifY C X198 at_268 (by decide) (q := 284) (by decide) (feq hc207).2 ?_
        have hr209 : 1 ≤ v204.toInt := own_f5 hc207 hl205 (by decide)
        obtain rfl : v204 = (1 : Int32) := own_f0 hr209 hh206 (by decide)
        refine g_iloadN C X198 at_284 (q := 285) rfl rfl ?_
        refine g_iconst C X198 at_285 (q := 286) rfl (z := (1 : Int32)) rfl ?_
        obtain ⟨v210, ev210⟩ : ∃ z, ((p1.toUInt32 >>> ((1 : Int32) &&& 31).toUInt32).toInt32) = z := ⟨_, rfl⟩
        have hl211 : 0 ≤ v210.toInt := by rw [← ev210]; exact (own_ushr1 p1).1
        have hh212 : v210.toInt ≤ 2147483647 := by rw [← ev210]; exact (own_ushr1 p1).2
        refine g_iushr C X198 at_286 (q := 287) rfl (z := v210) ev210 ?_
        refine g_bipush C X198 at_287 (q := 289) rfl (z := (12 : Int32)) rfl ?_
        obtain ⟨v213, ev213⟩ : ∃ z, (v210 % (12 : Int32)) = z := ⟨_, rfl⟩
        have hl214 : 0 ≤ v213.toInt := by rw [← ev213]; exact (own_rem (y := (12 : Int32)) (d := 11) (by decide) (by decide) (Int.le_trans (by decide) hl211)).1
        have hh215 : v213.toInt ≤ 11 := by rw [← ev213]; exact (own_rem (y := (12 : Int32)) (d := 11) (by decide) (by decide) (Int.le_trans (by decide) hl211)).2
        refine g_irem C X198 at_289 (q := 290) rfl (by decide) (z := v213) ev213 ?_
        refine g_istore C X198 at_290 (q := 292) rfl (L' := #[.val (.int p0), .val (.int p1), .val (.int p2), .val (.int p3), .val (.long p4), .second, .val (.int (0 : Int32)), .val (.ref b18), .val (.int (2 : Int32)), .val (.int v213), .unset, .unset, .unset]) rfl ?_
        exact rmJ292 hw C (St.mono X198 (by decide) (by decide)) Y202 O203 W V200 ge26 (by decide) (by decide) (by decide) (by decide) hl57 hh58 hl70 hh71 hl83 hh84 hl96 hh97 hl109 hh110 hl122 hh123 hl135 hh136 hl148 hh149 hl161 hh162 hl174 hh175 (Int.le_trans (by decide) hl214) (Int.le_trans hh215 (by decide))
    · refine g_ifY C X180 at_170 (by decide) (q := 191) (by decide) (feq hc186).2 ?_
      have hr216 : 1 ≤ v4.toInt := own_f5 hc186 hl5 (by decide)
      refine g_iload C X180 at_191 (q := 193) rfl rfl ?_
      refine g_iconst C X180 at_193 (q := 194) rfl (z := (1 : Int32)) rfl ?_
      by_cases hc217 : v4 = (1 : Int32)
      · refine g_icN C X180 at_194 (q := 197) rfl (teq hc217).2 ?_
        obtain rfl : v4 = (1 : Int32) := hc217
        refine g_aload C X180 at_197 (q := 199) rfl rfl rfl ?_
        refine g_iconst C X180 at_199 (q := 200) rfl (z := (0 : Int32)) rfl ?_
        refine g_bipush C X180 at_200 (q := 202) rfl (z := (80 : Int32)) rfl ?_
        refine g_castore C X180 V182 (by decide) (i := 0) (by decide) (Nat.le_of_ble_eq_true rfl) (vs' := [(.int (80 : Int32)), (.int v43), (.int v56), (.int v69), (.int v82), (.int v95), (.int v108), (.int v121), (.int v134), (.int v147), (.int v160), (.int v173)]) rfl ge26 at_202 (q := 203) rfl ?_
        intro T219 h220 X221 W222 V223
        have f224 := (f183.wr W181)
        have Y225 := Wx.wr Y184 W222 (own_safeY (Cx.alike C) f224 (by decide))
        have O226 := O185.wr W222 ge26
        refine g_aload C X221 at_203 (q := 205) rfl rfl rfl ?_
        refine g_iconst C X221 at_205 (q := 206) rfl (z := (1 : Int32)) rfl ?_
        refine g_bipush C X221 at_206 (q := 208) rfl (z := (111 : Int32)) rfl ?_
        refine g_castore C X221 V223 (by decide) (i := 1) (by decide) (Nat.le_of_ble_eq_true rfl) (vs' := [(.int (80 : Int32)), (.int (111 : Int32)), (.int v56), (.int v69), (.int v82), (.int v95), (.int v108), (.int v121), (.int v134), (.int v147), (.int v160), (.int v173)]) rfl ge26 at_208 (q := 209) rfl ?_
        intro T227 h228 X229 W230 V231
        have f232 := (f224.wr W222)
        have Y233 := Wx.wr Y225 W230 (own_safeY (Cx.alike C) f232 (by decide))
        have O234 := O226.wr W230 ge26
        refine g_aload C X229 at_209 (q := 211) rfl rfl rfl ?_
        refine g_iconst C X229 at_211 (q := 212) rfl (z := (2 : Int32)) rfl ?_
        refine g_bipush C X229 at_212 (q := 214) rfl (z := (115 : Int32)) rfl ?_
        refine g_castore C X229 V231 (by decide) (i := 2) (by decide) (Nat.le_of_ble_eq_true rfl) (vs' := [(.int (80 : Int32)), (.int (111 : Int32)), (.int (115 : Int32)), (.int v69), (.int v82), (.int v95), (.int v108), (.int v121), (.int v134), (.int v147), (.int v160), (.int v173)]) rfl ge26 at_214 (q := 215) rfl ?_
        intro T235 h236 X237 W238 V239
        have f240 := (f232.wr W230)
        have Y241 := Wx.wr Y233 W238 (own_safeY (Cx.alike C) f240 (by decide))
        have O242 := O234.wr W238 ge26
        refine g_aload C X237 at_215 (q := 217) rfl rfl rfl ?_
        refine g_iconst C X237 at_217 (q := 218) rfl (z := (3 : Int32)) rfl ?_
        refine g_bipush C X237 at_218 (q := 220) rfl (z := (116 : Int32)) rfl ?_
        refine g_castore C X237 V239 (by decide) (i := 3) (by decide) (Nat.le_of_ble_eq_true rfl) (vs' := [(.int (80 : Int32)), (.int (111 : Int32)), (.int (115 : Int32)), (.int (116 : Int32)), (.int v82), (.int v95), (.int v108), (.int v121), (.int v134), (.int v147), (.int v160), (.int v173)]) rfl ge26 at_220 (q := 221) rfl ?_
        intro T243 h244 X245 W246 V247
        have f248 := (f240.wr W238)
        have Y249 := Wx.wr Y241 W246 (own_safeY (Cx.alike C) f248 (by decide))
        have O250 := O242.wr W246 ge26
        refine g_aload C X245 at_221 (q := 223) rfl rfl rfl ?_
        refine g_iconst C X245 at_223 (q := 224) rfl (z := (4 : Int32)) rfl ?_
        refine g_bipush C X245 at_224 (q := 226) rfl (z := (103 : Int32)) rfl ?_
        refine g_castore C X245 V247 (by decide) (i := 4) (by decide) (Nat.le_of_ble_eq_true rfl) (vs' := [(.int (80 : Int32)), (.int (111 : Int32)), (.int (115 : Int32)), (.int (116 : Int32)), (.int (103 : Int32)), (.int v95), (.int v108), (.int v121), (.int v134), (.int v147), (.int v160), (.int v173)]) rfl ge26 at_226 (q := 227) rfl ?_
        intro T251 h252 X253 W254 V255
        have f256 := (f248.wr W246)
        have Y257 := Wx.wr Y249 W254 (own_safeY (Cx.alike C) f256 (by decide))
        have O258 := O250.wr W254 ge26
        refine g_aload C X253 at_227 (q := 229) rfl rfl rfl ?_
        refine g_iconst C X253 at_229 (q := 230) rfl (z := (5 : Int32)) rfl ?_
        refine g_bipush C X253 at_230 (q := 232) rfl (z := (114 : Int32)) rfl ?_
        refine g_castore C X253 V255 (by decide) (i := 5) (by decide) (Nat.le_of_ble_eq_true rfl) (vs' := [(.int (80 : Int32)), (.int (111 : Int32)), (.int (115 : Int32)), (.int (116 : Int32)), (.int (103 : Int32)), (.int (114 : Int32)), (.int v108), (.int v121), (.int v134), (.int v147), (.int v160), (.int v173)]) rfl ge26 at_232 (q := 233) rfl ?_
        intro T259 h260 X261 W262 V263
        have f264 := (f256.wr W254)
        have Y265 := Wx.wr Y257 W262 (own_safeY (Cx.alike C) f264 (by decide))
        have O266 := O258.wr W262 ge26
        refine g_aload C X261 at_233 (q := 235) rfl rfl rfl ?_
        refine g_bipush C X261 at_235 (q := 237) rfl (z := (6 : Int32)) rfl ?_
        refine g_bipush C X261 at_237 (q := 239) rfl (z := (101 : Int32)) rfl ?_
        refine g_castore C X261 V263 (by decide) (i := 6) (by decide) (Nat.le_of_ble_eq_true rfl) (vs' := [(.int (80 : Int32)), (.int (111 : Int32)), (.int (115 : Int32)), (.int (116 : Int32)), (.int (103 : Int32)), (.int (114 : Int32)), (.int (101 : Int32)), (.int v121), (.int v134), (.int v147), (.int v160), (.int v173)]) rfl ge26 at_239 (q := 240) rfl ?_
        intro T267 h268 X269 W270 V271
        have f272 := (f264.wr W262)
        have Y273 := Wx.wr Y265 W270 (own_safeY (Cx.alike C) f272 (by decide))
        have O274 := O266.wr W270 ge26
        refine g_aload C X269 at_240 (q := 242) rfl rfl rfl ?_
        refine g_bipush C X269 at_242 (q := 244) rfl (z := (7 : Int32)) rfl ?_
        refine g_bipush C X269 at_244 (q := 246) rfl (z := (83 : Int32)) rfl ?_
        refine g_castore C X269 V271 (by decide) (i := 7) (by decide) (Nat.le_of_ble_eq_true rfl) (vs' := [(.int (80 : Int32)), (.int (111 : Int32)), (.int (115 : Int32)), (.int (116 : Int32)), (.int (103 : Int32)), (.int (114 : Int32)), (.int (101 : Int32)), (.int (83 : Int32)), (.int v134), (.int v147), (.int v160), (.int v173)]) rfl ge26 at_246 (q := 247) rfl ?_
        intro T275 h276 X277 W278 V279
        have f280 := (f272.wr W270)
        have Y281 := Wx.wr Y273 W278 (own_safeY (Cx.alike C) f280 (by decide))
        have O282 := O274.wr W278 ge26
        refine g_aload C X277 at_247 (q := 249) rfl rfl rfl ?_
        refine g_bipush C X277 at_249 (q := 251) rfl (z := (8 : Int32)) rfl ?_
        refine g_bipush C X277 at_251 (q := 253) rfl (z := (81 : Int32)) rfl ?_
        refine g_castore C X277 V279 (by decide) (i := 8) (by decide) (Nat.le_of_ble_eq_true rfl) (vs' := [(.int (80 : Int32)), (.int (111 : Int32)), (.int (115 : Int32)), (.int (116 : Int32)), (.int (103 : Int32)), (.int (114 : Int32)), (.int (101 : Int32)), (.int (83 : Int32)), (.int (81 : Int32)), (.int v147), (.int v160), (.int v173)]) rfl ge26 at_253 (q := 254) rfl ?_
        intro T283 h284 X285 W286 V287
        have f288 := (f280.wr W278)
        have Y289 := Wx.wr Y281 W286 (own_safeY (Cx.alike C) f288 (by decide))
        have O290 := O282.wr W286 ge26
        refine g_aload C X285 at_254 (q := 256) rfl rfl rfl ?_
        refine g_bipush C X285 at_256 (q := 258) rfl (z := (9 : Int32)) rfl ?_
        refine g_bipush C X285 at_258 (q := 260) rfl (z := (76 : Int32)) rfl ?_
        refine g_castore C X285 V287 (by decide) (i := 9) (by decide) (Nat.le_of_ble_eq_true rfl) (vs' := [(.int (80 : Int32)), (.int (111 : Int32)), (.int (115 : Int32)), (.int (116 : Int32)), (.int (103 : Int32)), (.int (114 : Int32)), (.int (101 : Int32)), (.int (83 : Int32)), (.int (81 : Int32)), (.int (76 : Int32)), (.int v160), (.int v173)]) rfl ge26 at_260 (q := 261) rfl ?_
        intro T291 h292 X293 W294 V295
        have f296 := (f288.wr W286)
        have Y297 := Wx.wr Y289 W294 (own_safeY (Cx.alike C) f296 (by decide))
        have O298 := O290.wr W294 ge26
        refine g_bipush C X293 at_261 (q := 263) rfl (z := (10 : Int32)) rfl ?_
        refine g_istore C X293 at_263 (q := 265) rfl (L' := #[.val (.int p0), .val (.int p1), .val (.int p2), .val (.int p3), .val (.long p4), .second, .val (.int (1 : Int32)), .val (.ref b18), .val (.int (10 : Int32)), .unset, .unset, .unset, .unset]) rfl ?_
        refine g_iloadN C X293 at_265 (q := 266) rfl rfl ?_
        refine g_iconst C X293 at_266 (q := 267) rfl (z := (1 : Int32)) rfl ?_
        obtain ⟨v299, ev299⟩ : ∃ z, (p1 &&& (1 : Int32)) = z := ⟨_, rfl⟩
        have hl300 : 0 ≤ v299.toInt := by rw [← ev299]; exact (c_and p1 (1 : Int32) (by decide)).1
        have hh301 : v299.toInt ≤ 1 := by rw [← ev299]; exact (c_and p1 (1 : Int32) (by decide)).2
        refine g_iand C X293 at_267 (q := 268) rfl (z := v299) ev299 ?_
        by_cases hc302 : v299 = (0 : Int32)
        · refine g_ifN C X293 at_268 (q := 271) rfl (teq hc302).2 ?_
          obtain rfl : v299 = (0 : Int32) := hc302
          refine g_iload C X293 at_271 (q := 273) rfl rfl ?_
          refine g_iconst C X293 at_273 (q := 274) rfl (z := (2 : Int32)) rfl ?_
          refine g_icN C X293 at_274 (q := 277) rfl (by decide) ?_
          refine g_iload C X293 at_277 (q := 279) rfl rfl ?_
          refine g_istore C X293 at_279 (q := 281) rfl (L' := #[.val (.int p0), .val (.int p1), .val (.int p2), .val (.int p3), .val (.long p4), .second, .val (.int (1 : Int32)), .val (.ref b18), .val (.int (10 : Int32)), .val (.int (10 : Int32)), .unset, .unset, .unset]) rfl ?_
          refine g_goto C X293 at_281 (by decide) (q := 292) (by decide) ?_
          exact rmJ292 hw C (St.mono X293 (by decide) (by decide)) Y297 O298 W V295 ge26 (by decide) (by decide) (by decide) (by decide) (by decide) (by decide) (by decide) (by decide) (by decide) (by decide) (by decide) (by decide) (by decide) (by decide) (by decide) (by decide) (by decide) (by decide) (by decide) (by decide) hl161 hh162 hl174 hh175 (by decide) (by decide)
        · refine g_ifY C X293 at_268 (by decide) (q := 284) (by decide) (feq hc302).2 ?_
          have hr304 : 1 ≤ v299.toInt := own_f5 hc302 hl300 (by decide)
          obtain rfl : v299 = (1 : Int32) := own_f0 hr304 hh301 (by decide)
          refine g_iloadN C X293 at_284 (q := 285) rfl rfl ?_
          refine g_iconst C X293 at_285 (q := 286) rfl (z := (1 : Int32)) rfl ?_
          obtain ⟨v305, ev305⟩ : ∃ z, ((p1.toUInt32 >>> ((1 : Int32) &&& 31).toUInt32).toInt32) = z := ⟨_, rfl⟩
          have hl306 : 0 ≤ v305.toInt := by rw [← ev305]; exact (own_ushr1 p1).1
          have hh307 : v305.toInt ≤ 2147483647 := by rw [← ev305]; exact (own_ushr1 p1).2
          refine g_iushr C X293 at_286 (q := 287) rfl (z := v305) ev305 ?_
          refine g_bipush C X293 at_287 (q := 289) rfl (z := (12 : Int32)) rfl ?_
          obtain ⟨v308, ev308⟩ : ∃ z, (v305 % (12 : Int32)) = z := ⟨_, rfl⟩
          have hl309 : 0 ≤ v308.toInt := by rw [← ev308]; exact (own_rem (y := (12 : Int32)) (d := 11) (by decide) (by decide) (Int.le_trans (by decide) hl306)).1
          have hh310 : v308.toInt ≤ 11 := by rw [← ev308]; exact (own_rem (y := (12 : Int32)) (d := 11) (by decide) (by decide) (Int.le_trans (by decide) hl306)).2
          refine g_irem C X293 at_289 (q := 290) rfl (by decide) (z := v308) ev308 ?_
          refine g_istore C X293 at_290 (q := 292) rfl (L' := #[.val (.int p0), .val (.int p1), .val (.int p2), .val (.int p3), .val (.long p4), .second, .val (.int (1 : Int32)), .val (.ref b18), .val (.int (10 : Int32)), .val (.int v308), .unset, .unset, .unset]) rfl ?_
          exact rmJ292 hw C (St.mono X293 (by decide) (by decide)) Y297 O298 W V295 ge26 (by decide) (by decide) (by decide) (by decide) (by decide) (by decide) (by decide) (by decide) (by decide) (by decide) (by decide) (by decide) (by decide) (by decide) (by decide) (by decide) (by decide) (by decide) (by decide) (by decide) hl161 hh162 hl174 hh175 (Int.le_trans (by decide) hl309) (Int.le_trans hh310 (by decide))
      · refine g_icY C X180 at_194 (by decide) (q := 265) (by decide) (feq hc217).2 ?_
        have hr311 : 2 ≤ v4.toInt := own_f5 hc217 hr216 (by decide)
        obtain rfl : v4 = (2 : Int32) := own_f0 hr311 hr17 (by decide)
        refine g_iloadN C X180 at_265 (q := 266) rfl rfl ?_
        refine g_iconst C X180 at_266 (q := 267) rfl (z := (1 : Int32)) rfl ?_
        obtain ⟨v312, ev312⟩ : ∃ z, (p1 &&& (1 : Int32)) = z := ⟨_, rfl⟩
        have hl313 : 0 ≤ v312.toInt := by rw [← ev312]; exact (c_and p1 (1 : Int32) (by decide)).1
        have hh314 : v312.toInt ≤ 1 := by rw [← ev312]; exact (c_and p1 (1 : Int32) (by decide)).2
        refine g_iand C X180 at_267 (q := 268) rfl (z := v312) ev312 ?_
        by_cases hc315 : v312 = (0 : Int32)
        · refine g_ifN C X180 at_268 (q := 271) rfl (teq hc315).2 ?_
          obtain rfl : v312 = (0 : Int32) := hc315
          refine g_iload C X180 at_271 (q := 273) rfl rfl ?_
          refine g_iconst C X180 at_273 (q := 274) rfl (z := (2 : Int32)) rfl ?_
          refine g_icY C X180 at_274 (by decide) (q := 284) (by decide) (by decide) ?_
          refine g_iloadN C X180 at_284 (q := 285) rfl rfl ?_
          refine g_iconst C X180 at_285 (q := 286) rfl (z := (1 : Int32)) rfl ?_
          obtain ⟨v317, ev317⟩ : ∃ z, ((p1.toUInt32 >>> ((1 : Int32) &&& 31).toUInt32).toInt32) = z := ⟨_, rfl⟩
          have hl318 : 0 ≤ v317.toInt := by rw [← ev317]; exact (own_ushr1 p1).1
          have hh319 : v317.toInt ≤ 2147483647 := by rw [← ev317]; exact (own_ushr1 p1).2
          refine g_iushr C X180 at_286 (q := 287) rfl (z := v317) ev317 ?_
          refine g_bipush C X180 at_287 (q := 289) rfl (z := (12 : Int32)) rfl ?_
          obtain ⟨v320, ev320⟩ : ∃ z, (v317 % (12 : Int32)) = z := ⟨_, rfl⟩
          have hl321 : 0 ≤ v320.toInt := by rw [← ev320]; exact (own_rem (y := (12 : Int32)) (d := 11) (by decide) (by decide) (Int.le_trans (by decide) hl318)).1
          have hh322 : v320.toInt ≤ 11 := by rw [← ev320]; exact (own_rem (y := (12 : Int32)) (d := 11) (by decide) (by decide) (Int.le_trans (by decide) hl318)).2
          refine g_irem C X180 at_289 (q := 290) rfl (by decide) (z := v320) ev320 ?_
          refine g_istore C X180 at_290 (q := 292) rfl (L' := #[.val (.int p0), .val (.int p1), .val (.int p2), .val (.int p3), .val (.long p4), .second, .val (.int (2 : Int32)), .val (.ref b18), .val (.int (0 : Int32)), .val (.int v320), .unset, .unset, .unset]) rfl ?_
          exact rmJ292 hw C (St.mono X180 (by decide) (by decide)) Y184 O185 W V182 ge26 hl32 hh33 hl44 hh45 hl57 hh58 hl70 hh71 hl83 hh84 hl96 hh97 hl109 hh110 hl122 hh123 hl135 hh136 hl148 hh149 hl161 hh162 hl174 hh175 (Int.le_trans (by decide) hl321) (Int.le_trans hh322 (by decide))
        · refine g_ifY C X180 at_268 (by decide) (q := 284) (by decide) (feq hc315).2 ?_
          have hr323 : 1 ≤ v312.toInt := own_f5 hc315 hl313 (by decide)
          obtain rfl : v312 = (1 : Int32) := own_f0 hr323 hh314 (by decide)
          refine g_iloadN C X180 at_284 (q := 285) rfl rfl ?_
          refine g_iconst C X180 at_285 (q := 286) rfl (z := (1 : Int32)) rfl ?_
          obtain ⟨v324, ev324⟩ : ∃ z, ((p1.toUInt32 >>> ((1 : Int32) &&& 31).toUInt32).toInt32) = z := ⟨_, rfl⟩
          have hl325 : 0 ≤ v324.toInt := by rw [← ev324]; exact (own_ushr1 p1).1
          have hh326 : v324.toInt ≤ 2147483647 := by rw [← ev324]; exact (own_ushr1 p1).2
          refine g_iushr C X180 at_286 (q := 287) rfl (z := v324) ev324 ?_
          refine g_bipush C X180 at_287 (q := 289) rfl (z := (12 : Int32)) rfl ?_
          obtain ⟨v327, ev327⟩ : ∃ z, (v324 % (12 : Int32)) = z := ⟨_, rfl⟩
          have hl328 : 0 ≤ v327.toInt := by rw [← ev327]; exact (own_rem (y := (12 : Int32)) (d := 11) (by decide) (by decide) (Int.le_trans (by decide) hl325)).1
          have hh329 : v327.toInt ≤ 11 := by rw [← ev327]; exact (own_rem (y := (12 : Int32)) (d := 11) (by decide) (by decide) (Int.le_trans (by decide) hl325)).2
          refine g_irem C X180 at_289 (q := 290) rfl (by decide) (z := v327) ev327 ?_
          refine g_istore C X180 at_290 (q := 292) rfl (L' := #[.val (.int p0), .val (.int p1), .val (.int p2), .val (.int p3), .val (.long p4), .second, .val (.int (2 : Int32)), .val (.ref b18), .val (.int (0 : Int32)), .val (.int v327), .unset, .unset, .unset]) rfl ?_
          exact rmJ292 hw C (St.mono X180 (by decide) (by decide)) Y184 O185 W V182 ge26 hl32 hh33 hl44 hh45 hl57 hh58 hl70 hh71 hl83 hh84 hl96 hh97 hl109 hh110 hl122 hh123 hl135 hh136 hl148 hh149 hl161 hh162 hl174 hh175 (Int.le_trans (by decide) hl328) (Int.le_trans hh329 (by decide))
set_option maxRecDepth 65536 in
set_option maxHeartbeats 40000000 in
theorem comes_1 {Post : Tables → Env → Array Value → State → Outcome → State → Prop} (hpost : ∀ tb e args s v u, (limb_1_1.after args s (.returned v) u = true ∧ limb_1_2.after args s (.returned v) u = true ∧ True) → ReturnedEndW s (.returned v) u (Jvm.fieldLocs frame_1_writes args s ++ Jvm.arrayLocs frame_1_arrays args s ++ Jvm.staticLocs frame_1_statics s) 24 3264 → Post tb e args s (.returned v) u) :
    ArmFor flags0 classFile x code maxLocals ret World_1 tables_1 room_1 Calls_1 rest_1 Pre_1 Post := by
  intro l hfl _ _ p e ha hc hk s m args below hf hA hF happ hP
  obtain ⟨hcalls, hrest, hpre⟩ := hP
  obtain ⟨-, -, -, hnamed, -, -, -, hat⟩ := (Spec.applies_iff hf).mp happ
  obtain ⟨hg, hn⟩ := and_e (Cond.before_iff.mp (show (Jvm.Cond.and given_1 narrow_1).before args s = true from hpre))
  obtain ⟨y1, y2⟩ := and_e hg
  obtain ⟨y3, y4⟩ := and_e y2
  obtain ⟨y5, y6⟩ := and_e y4
  obtain ⟨y7, y8⟩ := and_e y6
  obtain ⟨y9, y10⟩ := and_e y8
  obtain ⟨u0, u1, u2, u3, u4, rfl⟩ : ∃ u0 u1 u2 u3 u4 : Value, args = #[u0, u1, u2, u3, u4] := by
    have hs : args.size = 5 := by simpa [Cond.value, given_1] using y1
    obtain ⟨L⟩ := args
    match L, hs with
    | [u0, u1, u2, u3, u4], _ => exact ⟨u0, u1, u2, u3, u4, rfl⟩
  have hw := fun d (hd : d ∈ tables_1) => atoms_spec (ws := Jvm.Cond.code x code maxLocals ret :: tables_1) hat d (List.mem_cons_of_mem _ hd)
  have hfit : Fit s := fun {y c} hc i hi => by
    obtain ⟨ha, rfl⟩ := Array.getElem?_eq_some_iff.mp hc
    have q := List.all_eq_true.mp ((Array.all_eq_true_iff_forall_mem.mp hF) _ (Array.getElem_mem ha)) i (List.mem_range.mpr hi)
    simpa [Array.getElem?_eq_getElem hi] using q
  obtain ⟨hsets, hown0⟩ := atoms_of _ (rest_1_c_eq ▸ (show rest_1_c.before _ s = true from hrest))
  have hr0 := Cond.before_iff.mp hown0
  obtain ⟨i0, ei0⟩ := is_v y3
  obtain rfl : u0 = (.int i0) := Option.some.inj ei0
  obtain ⟨i1, ei1⟩ := is_v y5
  obtain rfl : u1 = (.int i1) := Option.some.inj ei1
  obtain ⟨i2, ei2⟩ := is_v y7
  obtain rfl : u2 = (.int i2) := Option.some.inj ei2
  obtain ⟨i3, ei3⟩ := is_v y9
  obtain rfl : u3 = (.int i3) := Option.some.inj ei3
  obtain ⟨i4, ei4⟩ := isL_v y10
  obtain rfl : u4 = (.long i4) := Option.some.inj ei4
  obtain ⟨y1, y2⟩ := and_e hn
  obtain ⟨y3, y4⟩ := and_e y2
  obtain ⟨o5, ev6, S7, E8⟩ := own_sta y3 (Or.inl (w68 hw))
  obtain ⟨y9, y10⟩ := and_e y4
  obtain ⟨y11, y12⟩ := and_e y10
  obtain ⟨o13, ev14, S15, E16⟩ := own_sta y11 (Or.inr ⟨(w52 hw), (w66 hw)⟩)
  obtain ⟨y17, y18⟩ := and_e y12
  obtain ⟨y19, y20⟩ := and_e y18
  obtain ⟨o21, ev22, S23, E24⟩ := own_sta y19 (Or.inr ⟨(w52 hw), (w67 hw)⟩)
  obtain ⟨y25, y26⟩ := and_e y20
  obtain ⟨y27, y28⟩ := and_e y26
  obtain ⟨o29, ev30, F31, E32⟩ := own_fldR ev14 y27
  obtain ⟨y33, y34⟩ := and_e y28
  have F35 := own_fldI ev30 y33
  obtain ⟨y36, y37⟩ := and_e y34
  obtain ⟨o38, ev39, F40⟩ := own_fldV ev30 y36
  obtain ⟨y41, y42⟩ := and_e y37
  obtain ⟨y43, y44⟩ := and_e y42
  obtain ⟨o45, ev46, F47, E48⟩ := own_fldR ev22 y43
  obtain ⟨y49, y50⟩ := and_e y44
  have F51 := own_fldI ev46 y49
  obtain ⟨y52, y53⟩ := and_e y50
  obtain ⟨o54, ev55, F56⟩ := own_fldV ev46 y52
  obtain ⟨y57, y58⟩ := and_e y53
  obtain ⟨y59, y60⟩ := and_e y58
  obtain ⟨y61, y62⟩ := and_e y60
  obtain ⟨y63, y64⟩ := and_e y62
  obtain ⟨y65, y66⟩ := and_e y64
  obtain ⟨y67, y68⟩ := and_e y66
  obtain ⟨y69, y70⟩ := and_e y68
  obtain ⟨y71, y72⟩ := and_e y70
  obtain ⟨y73, y74⟩ := and_e y72
  obtain ⟨y75, y76⟩ := and_e y74
  obtain ⟨y77, y78⟩ := and_e y76
  obtain ⟨y79, y80⟩ := and_e y78
  obtain ⟨kV81, V82⟩ := own_arv (ty := (.object "com/example/sober_repository/soberrepository/Dialect")) (vs := [(.ref o13), (.ref o21)]) (dv := .null) hfit ev6 y1 y9 (by decide) rfl (fun cl hc => ⟨own_elR ev6 ev14 y17 hc, own_elR ev6 ev22 y25 hc, trivial⟩)
  obtain ⟨kV83, V84⟩ := own_arv (ty := .byte) (vs := [(.int (72 : Int32)), (.int (50 : Int32))]) (dv := (.int (0 : Int32))) hfit ev39 y36 y41 (by decide) rfl (fun cl hc => ⟨own_elI ev39 y59 hc, own_elI ev39 y61 hc, trivial⟩)
  have T85 : Str s s.heap o29 [(72 : Int32), (50 : Int32)] := ⟨o38, kV83, E32, F40, F35, V84, by decide, by decide⟩
  obtain ⟨kV86, V87⟩ := own_arv (ty := .byte) (vs := [(.int (80 : Int32)), (.int (111 : Int32)), (.int (115 : Int32)), (.int (116 : Int32)), (.int (103 : Int32)), (.int (114 : Int32)), (.int (101 : Int32)), (.int (83 : Int32)), (.int (81 : Int32)), (.int (76 : Int32))]) (dv := (.int (0 : Int32))) hfit ev55 y52 y57 (by decide) rfl (fun cl hc => ⟨own_elI ev55 y63 hc, own_elI ev55 y65 hc, own_elI ev55 y67 hc, own_elI ev55 y69 hc, own_elI ev55 y71 hc, own_elI ev55 y73 hc, own_elI ev55 y75 hc, own_elI ev55 y77 hc, own_elI ev55 y79 hc, own_elI ev55 y80 hc, trivial⟩)
  have T88 : Str s s.heap o45 [(80 : Int32), (111 : Int32), (115 : Int32), (116 : Int32), (103 : Int32), (114 : Int32), (101 : Int32), (83 : Int32), (81 : Int32), (76 : Int32)] := ⟨o54, kV86, E48, F56, F51, V87, by decide, by decide⟩
  obtain ⟨cz, ecz⟩ := is_v (Cond.before_iff.mp (hsets _ (List.mem_of_getElem? (i := 1) rfl)))
  have SCz : Sta s s.heap "java/lang/String" "COMPACT_STRINGS" "Z" (.int cz) := Sta.start ecz (Or.inl (hsets _ (List.mem_of_getElem? (i := 0) rfl)))
  have hcz : ¬ cz = 0 := gotF (Cond.eq_ints ecz (Term.int_eval (0))) (not_v (Cond.before_iff.mp (hsets _ (List.mem_of_getElem? (i := 2) rfl))))
  have hM := rmLaw (l := l) hw (p0 := i0) (p1 := i1) (p2 := i2) (p3 := i3) (p4 := i4) (Old.start s) (show Wd s o5 o13 o21 o29 o45 kV81 cz from ⟨S7, E8, S15, E16, S23, E24, F31, E32, F35, F47, E48, F51, V82, T85, T88, SCz, hcz⟩)
  have hCH : CHv s consts_1 s.vm s.heap := CHv.start (own_EL hw) (fun p hp => hcalls.1 p hp) (hsets _ (List.mem_of_getElem? (i := 2) rfl)) (w25 hw) (w8 hw)
  obtain ⟨n, o, h1, h2, h3, _, L, rfl, ⟨N, _, rfl, rfl, -⟩, -, hq⟩ := hM tables_1 p e ha hc hk s m _ below hf ((Spec.applies_iff_loose hf).mp happ).1 ⟨rfl, State.Warmed39.refl s, rfl, hCH⟩ trivial
  refine ⟨n, _, h1, h2, h3, hpost _ _ _ _ _ _ ⟨Cond.after_iff.mpr rfl, Cond.after_iff.mpr (eq_i res_at (Term.int_eval (1)) rfl), trivial⟩ ⟨hq.1, hq.2.1, hq.2.2.1, (hq.2.2.2.sift fun y hy => Or.inr (N y hy)).mono (by decide) (by decide)⟩⟩
theorem main_1_1 : Claimed_1_1 := comes_1 fun _ _ _ _ _ _ h hF => ⟨h.1, hF⟩
theorem main_1_2 : Claimed_1_2 := comes_1 fun _ _ _ _ _ _ h hF => ⟨h.2.1, hF⟩
end Jvm.Pilot.@@N@@
namespace Jvm.Pilot.@@N@@
open Jvm Jvm.ClassFile Sem Op Lib Jvm.Free Jvm.Stand Jvm.Pilot.@@N@@.Jvm.D
/-! MADE BY PROGRAM (witnessworld.py) out of the Statement's table words and the real class files: 22 classes; the members and pool entries that the words name. The judged class is class 1, her method 2. -/
namespace start1
open Jvm.ClassFile
def u (s : String) : CpInfo := .utf8 (stringToUtf16 s)
/-- a pool by its gaps: so many unusable entries, then the entry; so many at the end -/
def gap : Nat → List CpInfo → List CpInfo
  | 0, r => r
  | n + 1, r => .unusable :: gap n r
def poolList (es : List (Nat × CpInfo)) (last : Nat) : List CpInfo := es.foldr (fun e r => gap e.1 (e.2 :: r)) (gap last [])
def pool (es : List (Nat × CpInfo)) (last : Nat) : Array CpInfo := ⟨poolList es last⟩
def fileOf (pool : Array CpInfo) (this : Nat) (attrs : Array Attribute := #[]) (ms : Array MethodInfo := #[]) (fl : Nat := 33) (sup : Nat := 0) (ifs : Array Nat := #[]) (fds : Array FieldInfo := #[]) : ClassFile where
  minorVersion := 0
  majorVersion := 65
  constantPool := pool
  accessFlags := fl
  thisClass := this
  superClass := sup
  interfaces := ifs
  fields := fds
  methods := ms
  attributes := attrs
def plain (name : String) (sup : Option ClassId) : Class where
  name := name
  kind := .ordinary
  loader := none
  accessFlags := 33
  super := sup
  interfaces := #[]
  cf := none
  fields := #[]
  methods := #[]
  instanceTypes := #[]
  staticTypes := #[]
  resolved := #[]
  callSites := []
  init := .initialized
  statics := none
  mirror := none

def pool0 : Array CpInfo := pool [(5, u "<init>"), (0, u "()V"), (1, .class_ 10), (1, u "java/lang/Object"), (85, u "clone"), (0, u "()Ljava/lang/Object;")] 26

def k0c0 : Code := { maxStack := 0, maxLocals := 1, code := object_method_1_code, exceptionTable := #[], attributes := #[] }
def k0m0 : Method := { name := "<init>", desc := "()V", sig := { parameters := [], returnType := none }, accessFlags := 1, code := some k0c0 }
def k0m1 : Method := { name := "clone", desc := "()Ljava/lang/Object;", sig := { parameters := [], returnType := some (.object "java/lang/Object") }, accessFlags := 260, code := none }
/-- java/lang/Object -/
def k0 : Class := { plain "java/lang/Object" none with
  accessFlags := 33
  interfaces := #[]
  cf := some (fileOf pool0 8 #[] #[{ accessFlags := 1, nameIndex := 5, descriptorIndex := 6, attributes := #[] }, { accessFlags := 260, nameIndex := 96, descriptorIndex := 97, attributes := #[] }] 33 0 #[] #[])
  fields := #[]
  methods := #[k0m0, k0m1]
  instanceTypes := #[]
  staticTypes := #[]
  resolved := Array.replicate 124 none
  statics := none }

def pool1 : Array CpInfo := pool [(2, .class_ 4), (1, u "java/lang/Object"), (0, u "<init>"), (0, u "()V"), (0, .long 255), (1, .integer 2147483647), (0, .methodref 11 12), (0, .class_ 13), (0, .nameAndType 14 15), (0, u "com/example/sober_repository/soberrepository/Dialect"), (0, u "of"), (0, u "(Ljava/lang/String;)Lcom/example/sober_repository/soberrepository/Dialect;"), (0, .methodref 17 18), (0, .class_ 19), (0, .nameAndType 20 21), (0, u "com/example/sober_repository/soberrepository/DialectOfPinLaw"), (0, u "d"), (0, u "(JI)C"), (0, .class_ 23), (0, u "java/lang/String"), (0, .methodref 22 25), (0, .nameAndType 5 26), (0, u "([C)V"), (0, .string 28), (0, u "H2"), (0, .methodref 22 30), (0, .nameAndType 31 32), (0, u "equals"), (0, u "(Ljava/lang/Object;)Z"), (0, .fieldref 11 34), (0, .nameAndType 28 35), (0, u "Lcom/example/sober_repository/soberrepository/Dialect;"), (0, .string 37), (0, u "PostgreSQL"), (0, .fieldref 11 39), (0, .nameAndType 40 35), (0, u "POSTGRESQL"), (2, u "law"), (0, u "(IIIIJ)Z")] 5

def k1m0 : Method := { name := "<init>", desc := "()V", sig := { parameters := [], returnType := none }, accessFlags := 1, code := none }
def k1c1 : Code := { maxStack := 5, maxLocals := 3, code := method_2_code, exceptionTable := #[], attributes := #[] }
def k1m1 : Method := { name := "d", desc := "(JI)C", sig := { parameters := [.long, .int], returnType := some .char }, accessFlags := 10, code := some k1c1 }
def k1c2 : Code := { maxStack := 5, maxLocals := 13, code := code, exceptionTable := #[], attributes := #[] }
def k1m2 : Method := { name := "law", desc := "(IIIIJ)Z", sig := { parameters := [.int, .int, .int, .int, .long], returnType := some .boolean }, accessFlags := 9, code := some k1c2 }
/-- com/example/sober_repository/soberrepository/DialectOfPinLaw -/
def k1 : Class := { plain "com/example/sober_repository/soberrepository/DialectOfPinLaw" (some 0) with
  accessFlags := 49
  interfaces := #[]
  cf := some (fileOf pool1 17 #[] #[{ accessFlags := 1, nameIndex := 5, descriptorIndex := 6, attributes := #[] }, { accessFlags := 10, nameIndex := 20, descriptorIndex := 21, attributes := #[] }, { accessFlags := 9, nameIndex := 43, descriptorIndex := 44, attributes := #[] }] 49 2 #[] #[])
  fields := #[]
  methods := #[k1m0, k1m1, k1m2]
  instanceTypes := #[]
  staticTypes := #[]
  resolved := Array.replicate 50 none
  statics := none }

def pool2 : Array CpInfo := pool [(1, .class_ 2), (0, u "java/io/Serializable"), (0, .class_ 4), (0, u "java/lang/Object")] 2

/-- java/io/Serializable -/
def k2 : Class := { plain "java/io/Serializable" (some 0) with
  accessFlags := 1537
  interfaces := #[]
  cf := some (fileOf pool2 1 #[] #[] 1537 3 #[] #[])
  fields := #[]
  methods := #[]
  instanceTypes := #[]
  staticTypes := #[]
  resolved := Array.replicate 7 none
  statics := none }

def pool3 : Array CpInfo := pool [(1, .class_ 2), (0, u "java/lang/Comparable"), (0, .class_ 4), (0, u "java/lang/Object")] 7

/-- java/lang/Comparable -/
def k3 : Class := { plain "java/lang/Comparable" (some 0) with
  accessFlags := 1537
  interfaces := #[]
  cf := some (fileOf pool3 1 #[] #[] 1537 3 #[] #[])
  fields := #[]
  methods := #[]
  instanceTypes := #[]
  staticTypes := #[]
  resolved := Array.replicate 12 none
  statics := none }

def pool4 : Array CpInfo := pool [(2, .class_ 4), (1, u "java/lang/CharSequence"), (42, .class_ 48), (0, u "java/lang/CharSequence$1CodePointIterator"), (10, .class_ 60), (0, u "java/lang/CharSequence$1CharIterator"), (5, .class_ 67), (0, u "java/lang/Object")] 63

/-- java/lang/CharSequence -/
def k4 : Class := { plain "java/lang/CharSequence" (some 0) with
  accessFlags := 1537
  interfaces := #[]
  cf := some (fileOf pool4 2 #[.nestMembers #[47, 59]] #[] 1537 66 #[] #[])
  fields := #[]
  methods := #[]
  instanceTypes := #[]
  staticTypes := #[]
  resolved := Array.replicate 131 none
  statics := none }

def pool5 : Array CpInfo := pool [(1, .class_ 2), (0, u "java/lang/constant/Constable"), (0, .class_ 4), (0, u "java/lang/Object")] 6

/-- java/lang/constant/Constable -/
def k5 : Class := { plain "java/lang/constant/Constable" (some 0) with
  accessFlags := 1537
  interfaces := #[]
  cf := some (fileOf pool5 1 #[] #[] 1537 3 #[] #[])
  fields := #[]
  methods := #[]
  instanceTypes := #[]
  staticTypes := #[]
  resolved := Array.replicate 11 none
  statics := none }

def pool6 : Array CpInfo := pool [(1, .class_ 2), (0, u "java/lang/constant/ConstantDesc"), (0, .class_ 4), (0, u "java/lang/Object")] 32

/-- java/lang/constant/ConstantDesc -/
def k6 : Class := { plain "java/lang/constant/ConstantDesc" (some 0) with
  accessFlags := 1537
  interfaces := #[]
  cf := some (fileOf pool6 1 #[] #[] 1537 3 #[] #[])
  fields := #[]
  methods := #[]
  instanceTypes := #[]
  staticTypes := #[]
  resolved := Array.replicate 37 none
  statics := none }

def pool7 : Array CpInfo := pool [(1, .methodref 2 3), (0, .class_ 4), (0, .nameAndType 5 6), (0, u "java/lang/Object"), (0, u "<init>"), (0, u "()V"), (0, .string 8), (0, u ""), (0, .fieldref 10 11), (0, .class_ 12), (0, .nameAndType 13 14), (0, u "java/lang/String"), (0, u "value"), (0, u "[B"), (0, .fieldref 10 16), (0, .nameAndType 17 18), (0, u "coder"), (0, u "B"), (2, u "hash"), (0, u "I"), (2, u "hashIsZero"), (0, u "Z"), (0, .methodref 10 28), (0, .nameAndType 5 29), (0, u "([CIILjava/lang/Void;)V"), (8, .fieldref 10 39), (0, .nameAndType 40 26), (0, u "COMPACT_STRINGS"), (1, .class_ 44), (1, u "java/lang/StringUTF16"), (0, u "compress"), (1, .methodref 42 48), (0, .nameAndType 49 50), (0, u "coderFromArrayLen"), (0, u "([BI)B"), (56, .class_ 109), (1, u "java/lang/StringLatin1"), (67, .methodref 42 178), (0, .nameAndType 45 179), (0, u "([CII)[B"), (361, .methodref 107 542), (0, .nameAndType 543 544), (0, u "equals"), (0, u "([B[B)Z"), (28, u "(Ljava/lang/Object;)Z"), (1, .class_ 576), (0, u "java/lang/CharSequence"), (22, u "CASE_INSENSITIVE_ORDER"), (0, u "Ljava/util/Comparator;"), (409, u "([C)V"), (90, u "serialPersistentFields"), (0, u "[Ljava/io/ObjectStreamField;"), (0, .class_ 1104), (0, u "java/lang/String$CaseInsensitiveComparator"), (1, .class_ 1107), (0, u "java/io/Serializable"), (0, .class_ 1109), (0, u "java/lang/Comparable"), (0, .class_ 1111), (0, u "java/lang/constant/Constable"), (0, .class_ 1113), (0, u "java/lang/constant/ConstantDesc"), (2, u "serialVersionUID"), (0, u "J"), (3, u "REPL"), (0, u "C"), (2, u "LATIN1"), (1, u "UTF16")] 323

def k7m0 : Method := { name := "<init>", desc := "()V", sig := { parameters := [], returnType := none }, accessFlags := 1, code := none }
def k7c1 : Code := { maxStack := 5, maxLocals := 2, code := jdk_42_method_3_code, exceptionTable := #[], attributes := #[] }
def k7m1 : Method := { name := "<init>", desc := "([C)V", sig := { parameters := [(.array .char)], returnType := none }, accessFlags := 1, code := some k7c1 }
def k7c2 : Code := { maxStack := 2, maxLocals := 3, code := jdk_42_method_66_code, exceptionTable := #[], attributes := #[] }
def k7m2 : Method := { name := "equals", desc := "(Ljava/lang/Object;)Z", sig := { parameters := [(.object "java/lang/Object")], returnType := some .boolean }, accessFlags := 1, code := some k7c2 }
def k7c3 : Code := { maxStack := 4, maxLocals := 6, code := jdk_42_method_149_code, exceptionTable := #[], attributes := #[] }
def k7m3 : Method := { name := "<init>", desc := "([CIILjava/lang/Void;)V", sig := { parameters := [(.array .char), .int, .int, (.object "java/lang/Void")], returnType := none }, accessFlags := 2, code := some k7c3 }
/-- java/lang/String -/
def k7 : Class := { plain "java/lang/String" (some 0) with
  accessFlags := 49
  interfaces := #[2, 3, 4, 5, 6]
  cf := some (fileOf pool7 10 #[.nestMembers #[1103]] #[{ accessFlags := 1, nameIndex := 5, descriptorIndex := 6, attributes := #[] }, { accessFlags := 1, nameIndex := 5, descriptorIndex := 1010, attributes := #[] }, { accessFlags := 1, nameIndex := 543, descriptorIndex := 573, attributes := #[] }, { accessFlags := 2, nameIndex := 5, descriptorIndex := 29, attributes := #[] }] 49 2 #[1106, 1108, 575, 1110, 1112] #[{ accessFlags := 18, nameIndex := 13, descriptorIndex := 14, attributes := #[] }, { accessFlags := 18, nameIndex := 17, descriptorIndex := 18, attributes := #[] }, { accessFlags := 2, nameIndex := 21, descriptorIndex := 22, attributes := #[] }, { accessFlags := 2, nameIndex := 25, descriptorIndex := 26, attributes := #[] }, { accessFlags := 26, nameIndex := 1116, descriptorIndex := 1117, attributes := #[] }, { accessFlags := 24, nameIndex := 40, descriptorIndex := 26, attributes := #[] }, { accessFlags := 26, nameIndex := 1101, descriptorIndex := 1102, attributes := #[] }, { accessFlags := 26, nameIndex := 1121, descriptorIndex := 1122, attributes := #[] }, { accessFlags := 25, nameIndex := 599, descriptorIndex := 600, attributes := #[] }, { accessFlags := 24, nameIndex := 1125, descriptorIndex := 18, attributes := #[] }, { accessFlags := 24, nameIndex := 1127, descriptorIndex := 18, attributes := #[] }])
  fields := #[{ name := "value", type := (.array .byte), accessFlags := 18, slot := 0, constantValue := 0 }, { name := "coder", type := .byte, accessFlags := 18, slot := 1, constantValue := 0 }, { name := "hash", type := .int, accessFlags := 2, slot := 2, constantValue := 0 }, { name := "hashIsZero", type := .boolean, accessFlags := 2, slot := 3, constantValue := 0 }, { name := "serialVersionUID", type := .long, accessFlags := 26, slot := 0, constantValue := 0 }, { name := "COMPACT_STRINGS", type := .boolean, accessFlags := 24, slot := 1, constantValue := 0 }, { name := "serialPersistentFields", type := (.array (.object "java/io/ObjectStreamField")), accessFlags := 26, slot := 2, constantValue := 0 }, { name := "REPL", type := .char, accessFlags := 26, slot := 3, constantValue := 0 }, { name := "CASE_INSENSITIVE_ORDER", type := (.object "java/util/Comparator"), accessFlags := 25, slot := 4, constantValue := 0 }, { name := "LATIN1", type := .byte, accessFlags := 24, slot := 5, constantValue := 0 }, { name := "UTF16", type := .byte, accessFlags := 24, slot := 6, constantValue := 0 }]
  methods := #[k7m0, k7m1, k7m2, k7m3]
  instanceTypes := #[(.array .byte), .byte, .int, .boolean]
  staticTypes := #[.long, .boolean, (.array (.object "java/io/ObjectStreamField")), .char, (.object "java/util/Comparator"), .byte, .byte]
  resolved := Array.replicate 1451 none
  statics := some 0 }

def pool8 : Array CpInfo := pool [(6, .class_ 8), (1, u "java/lang/Object"), (0, u "<init>"), (0, u "()V"), (1, .class_ 14), (1, u "java/lang/StringUTF16"), (31, u "$assertionsDisabled"), (0, u "Z"), (13, u "HI_BYTE_SHIFT"), (0, u "I"), (2, u "LO_BYTE_SHIFT"), (49, .methodref 12 116), (0, .nameAndType 117 118), (0, u "compress"), (0, u "([CI[BII)I"), (3, u "([CII)[B"), (138, u "coderFromArrayLen"), (0, u "([BI)B"), (106, .class_ 371), (1, u "java/lang/StringUTF16$LinesSpliterator"), (58, u "MAX_LENGTH"), (196, .class_ 628), (0, u "java/lang/StringUTF16$CodePointsSpliterator"), (0, .class_ 630), (0, u "java/lang/StringUTF16$CharsSpliterator")] 4

def k8m0 : Method := { name := "<init>", desc := "()V", sig := { parameters := [], returnType := none }, accessFlags := 0, code := none }
def k8c1 : Code := { maxStack := 2, maxLocals := 2, code := jdk_52_method_15_code, exceptionTable := #[], attributes := #[] }
def k8m1 : Method := { name := "coderFromArrayLen", desc := "([BI)B", sig := { parameters := [(.array .byte), .int], returnType := some .byte }, accessFlags := 8, code := some k8c1 }
def k8c2 : Code := { maxStack := 5, maxLocals := 6, code := jdk_52_method_16_code, exceptionTable := #[], attributes := #[] }
def k8m2 : Method := { name := "compress", desc := "([CII)[B", sig := { parameters := [(.array .char), .int, .int], returnType := some (.array .byte) }, accessFlags := 9, code := some k8c2 }
def k8c3 : Code := { maxStack := 3, maxLocals := 7, code := jdk_52_method_21_code, exceptionTable := #[], attributes := #[] }
def k8m3 : Method := { name := "compress", desc := "([CI[BII)I", sig := { parameters := [(.array .char), .int, (.array .byte), .int, .int], returnType := some .int }, accessFlags := 9, code := some k8c3 }
/-- java/lang/StringUTF16 -/
def k8 : Class := { plain "java/lang/StringUTF16" (some 0) with
  accessFlags := 48
  interfaces := #[]
  cf := some (fileOf pool8 12 #[.nestMembers #[627, 629, 369]] #[{ accessFlags := 0, nameIndex := 9, descriptorIndex := 10, attributes := #[] }, { accessFlags := 8, nameIndex := 261, descriptorIndex := 262, attributes := #[] }, { accessFlags := 9, nameIndex := 117, descriptorIndex := 122, attributes := #[] }, { accessFlags := 9, nameIndex := 117, descriptorIndex := 118, attributes := #[] }] 48 6 #[] #[{ accessFlags := 26, nameIndex := 61, descriptorIndex := 62, attributes := #[] }, { accessFlags := 26, nameIndex := 65, descriptorIndex := 62, attributes := #[] }, { accessFlags := 24, nameIndex := 430, descriptorIndex := 62, attributes := #[] }, { accessFlags := 4120, nameIndex := 46, descriptorIndex := 47, attributes := #[] }])
  fields := #[{ name := "HI_BYTE_SHIFT", type := .int, accessFlags := 26, slot := 0, constantValue := 0 }, { name := "LO_BYTE_SHIFT", type := .int, accessFlags := 26, slot := 1, constantValue := 0 }, { name := "MAX_LENGTH", type := .int, accessFlags := 24, slot := 2, constantValue := 0 }, { name := "$assertionsDisabled", type := .boolean, accessFlags := 4120, slot := 3, constantValue := 0 }]
  methods := #[k8m0, k8m1, k8m2, k8m3]
  instanceTypes := #[]
  staticTypes := #[.int, .int, .int, .boolean]
  resolved := Array.replicate 635 none
  statics := none }

def pool9 : Array CpInfo := pool [(4, .class_ 6), (1, u "java/lang/Object"), (0, u "<init>"), (0, u "()V"), (5, .class_ 16), (1, u "java/lang/StringLatin1"), (104, u "$assertionsDisabled"), (0, u "Z"), (98, .class_ 223), (1, u "java/lang/StringLatin1$LinesSpliterator"), (57, u "equals"), (0, u "([B[B)Z"), (107, .class_ 391), (0, u "java/lang/StringLatin1$CharsSpliterator")] 3

def k9m0 : Method := { name := "<init>", desc := "()V", sig := { parameters := [], returnType := none }, accessFlags := 0, code := none }
def k9c1 : Code := { maxStack := 3, maxLocals := 3, code := jdk_43_method_13_code, exceptionTable := #[], attributes := #[] }
def k9m1 : Method := { name := "equals", desc := "([B[B)Z", sig := { parameters := [(.array .byte), (.array .byte)], returnType := some .boolean }, accessFlags := 9, code := some k9c1 }
/-- java/lang/StringLatin1 -/
def k9 : Class := { plain "java/lang/StringLatin1" (some 0) with
  accessFlags := 48
  interfaces := #[]
  cf := some (fileOf pool9 14 #[.nestMembers #[390, 221]] #[{ accessFlags := 0, nameIndex := 7, descriptorIndex := 8, attributes := #[] }, { accessFlags := 9, nameIndex := 281, descriptorIndex := 282, attributes := #[] }] 48 4 #[] #[{ accessFlags := 4120, nameIndex := 121, descriptorIndex := 122, attributes := #[] }])
  fields := #[{ name := "$assertionsDisabled", type := .boolean, accessFlags := 4120, slot := 0, constantValue := 0 }]
  methods := #[k9m0, k9m1]
  instanceTypes := #[]
  staticTypes := #[.boolean]
  resolved := Array.replicate 395 none
  statics := none }

def pool10 : Array CpInfo := pool [(2, .class_ 4), (1, u "java/lang/Enum"), (0, u "name"), (0, u "Ljava/lang/String;"), (2, u "ordinal"), (0, u "I"), (1, .class_ 14), (1, u "java/lang/Object"), (4, u "hash"), (86, .class_ 108), (1, u "java/lang/Enum$EnumDesc"), (2, .class_ 112), (0, u "java/lang/constant/Constable"), (0, .class_ 114), (0, u "java/lang/Comparable"), (0, .class_ 116), (0, u "java/io/Serializable")] 87

/-- java/lang/Enum -/
def k10 : Class := { plain "java/lang/Enum" (some 0) with
  accessFlags := 1057
  interfaces := #[5, 3, 2]
  cf := some (fileOf pool10 2 #[.nestMembers #[106]] #[] 1057 12 #[111, 113, 115] #[{ accessFlags := 18, nameIndex := 5, descriptorIndex := 6, attributes := #[] }, { accessFlags := 18, nameIndex := 9, descriptorIndex := 10, attributes := #[] }, { accessFlags := 2, nameIndex := 19, descriptorIndex := 10, attributes := #[] }])
  fields := #[{ name := "name", type := (.object "java/lang/String"), accessFlags := 18, slot := 0, constantValue := 0 }, { name := "ordinal", type := .int, accessFlags := 18, slot := 1, constantValue := 0 }, { name := "hash", type := .int, accessFlags := 2, slot := 2, constantValue := 0 }]
  methods := #[]
  instanceTypes := #[(.object "java/lang/String"), .int, .int]
  staticTypes := #[]
  resolved := Array.replicate 204 none
  statics := none }

def pool11 : Array CpInfo := pool [(1, .class_ 2), (0, u "com/example/sober_repository/soberrepository/Dialect"), (2, u "H2"), (0, u "Lcom/example/sober_repository/soberrepository/Dialect;"), (2, u "POSTGRESQL"), (0, .fieldref 1 11), (0, .nameAndType 12 13), (0, u "$VALUES"), (0, u "[Lcom/example/sober_repository/soberrepository/Dialect;"), (0, .methodref 15 16), (0, .class_ 13), (0, .nameAndType 17 18), (0, u "clone"), (0, u "()Ljava/lang/Object;"), (1, .class_ 22), (1, u "java/lang/Enum"), (6, .fieldref 1 30), (0, .nameAndType 31 32), (0, u "_product"), (0, u "Ljava/lang/String;"), (0, .methodref 1 34), (0, .nameAndType 35 36), (0, u "values"), (0, u "()[Lcom/example/sober_repository/soberrepository/Dialect;"), (0, .methodref 38 39), (0, .class_ 40), (0, .nameAndType 41 42), (0, u "java/lang/String"), (0, u "equals"), (0, u "(Ljava/lang/Object;)Z"), (54, u "(Ljava/lang/String;)Lcom/example/sober_repository/soberrepository/Dialect;"), (3, u "of")] 41

def k11c0 : Code := { maxStack := 1, maxLocals := 0, code := prog_20_method_1_code, exceptionTable := #[], attributes := #[] }
def k11m0 : Method := { name := "values", desc := "()[Lcom/example/sober_repository/soberrepository/Dialect;", sig := { parameters := [], returnType := some (.array (.object "com/example/sober_repository/soberrepository/Dialect")) }, accessFlags := 9, code := some k11c0 }
def k11c1 : Code := { maxStack := 2, maxLocals := 5, code := prog_20_method_4_code, exceptionTable := #[], attributes := #[] }
def k11m1 : Method := { name := "of", desc := "(Ljava/lang/String;)Lcom/example/sober_repository/soberrepository/Dialect;", sig := { parameters := [(.object "java/lang/String")], returnType := some (.object "com/example/sober_repository/soberrepository/Dialect") }, accessFlags := 8, code := some k11c1 }
/-- com/example/sober_repository/soberrepository/Dialect -/
def k11 : Class := { plain "com/example/sober_repository/soberrepository/Dialect" (some 10) with
  accessFlags := 16432
  interfaces := #[]
  cf := some (fileOf pool11 1 #[] #[{ accessFlags := 9, nameIndex := 35, descriptorIndex := 36, attributes := #[] }, { accessFlags := 8, nameIndex := 101, descriptorIndex := 97, attributes := #[] }] 16432 20 #[] #[{ accessFlags := 16409, nameIndex := 5, descriptorIndex := 6, attributes := #[] }, { accessFlags := 16409, nameIndex := 9, descriptorIndex := 6, attributes := #[] }, { accessFlags := 18, nameIndex := 31, descriptorIndex := 32, attributes := #[] }, { accessFlags := 4122, nameIndex := 12, descriptorIndex := 13, attributes := #[] }])
  fields := #[{ name := "H2", type := (.object "com/example/sober_repository/soberrepository/Dialect"), accessFlags := 16409, slot := 0, constantValue := 0 }, { name := "POSTGRESQL", type := (.object "com/example/sober_repository/soberrepository/Dialect"), accessFlags := 16409, slot := 1, constantValue := 0 }, { name := "_product", type := (.object "java/lang/String"), accessFlags := 18, slot := 3, constantValue := 0 }, { name := "$VALUES", type := (.array (.object "com/example/sober_repository/soberrepository/Dialect")), accessFlags := 4122, slot := 2, constantValue := 0 }]
  methods := #[k11m0, k11m1]
  instanceTypes := #[(.object "java/lang/String"), .int, .int, (.object "java/lang/String")]
  staticTypes := #[(.object "com/example/sober_repository/soberrepository/Dialect"), (.object "com/example/sober_repository/soberrepository/Dialect"), (.array (.object "com/example/sober_repository/soberrepository/Dialect"))]
  resolved := Array.replicate 143 none
  statics := some 1 }

def pool12 : Array CpInfo := pool [(1, .class_ 2), (0, u "java/lang/Cloneable"), (0, .class_ 4), (0, u "java/lang/Object")] 2

/-- java/lang/Cloneable -/
def k12 : Class := { plain "java/lang/Cloneable" (some 0) with
  accessFlags := 1537
  interfaces := #[]
  cf := some (fileOf pool12 1 #[] #[] 1537 3 #[] #[])
  fields := #[]
  methods := #[]
  instanceTypes := #[]
  staticTypes := #[]
  resolved := Array.replicate 7 none
  statics := none }

def pool13 : Array CpInfo := pool [(2, .class_ 4), (1, u "java/lang/Object"), (0, u "<init>"), (0, u "()V"), (17, .class_ 26), (1, u "jdk/internal/util/Preconditions"), (28, .class_ 56), (0, u "jdk/internal/util/Preconditions$4"), (57, .class_ 115), (0, u "jdk/internal/util/Preconditions$1"), (7, u "SIOOBE_FORMATTER"), (0, u "Ljava/util/function/BiFunction;"), (0, .class_ 126), (0, u "jdk/internal/util/Preconditions$2"), (3, u "AIOOBE_FORMATTER"), (0, .class_ 132), (0, u "jdk/internal/util/Preconditions$3"), (3, u "IOOBE_FORMATTER")] 57

def k13m0 : Method := { name := "<init>", desc := "()V", sig := { parameters := [], returnType := none }, accessFlags := 1, code := none }
/-- jdk/internal/util/Preconditions -/
def k13 : Class := { plain "jdk/internal/util/Preconditions" (some 0) with
  accessFlags := 33
  interfaces := #[]
  cf := some (fileOf pool13 24 #[.nestMembers #[55, 131, 125, 114]] #[{ accessFlags := 1, nameIndex := 5, descriptorIndex := 6, attributes := #[] }] 33 2 #[] #[{ accessFlags := 25, nameIndex := 123, descriptorIndex := 124, attributes := #[] }, { accessFlags := 25, nameIndex := 130, descriptorIndex := 124, attributes := #[] }, { accessFlags := 25, nameIndex := 136, descriptorIndex := 124, attributes := #[] }])
  fields := #[{ name := "SIOOBE_FORMATTER", type := (.object "java/util/function/BiFunction"), accessFlags := 25, slot := 0, constantValue := 0 }, { name := "AIOOBE_FORMATTER", type := (.object "java/util/function/BiFunction"), accessFlags := 25, slot := 1, constantValue := 0 }, { name := "IOOBE_FORMATTER", type := (.object "java/util/function/BiFunction"), accessFlags := 25, slot := 2, constantValue := 0 }]
  methods := #[k13m0]
  instanceTypes := #[]
  staticTypes := #[(.object "java/util/function/BiFunction"), (.object "java/util/function/BiFunction"), (.object "java/util/function/BiFunction")]
  resolved := Array.replicate 194 none
  statics := some 2 }

def pool14 : Array CpInfo := pool [(9, u "<init>"), (6, .class_ 18), (1, u "java/lang/Object"), (0, u "()V"), (1, .class_ 23), (1, u "jdk/internal/util/ArraysSupport"), (0, u "LOG2_ARRAY_LONG_INDEX_SCALE"), (0, u "I"), (2, u "U"), (0, u "Ljdk/internal/misc/Unsafe;"), (8, u "BIG_ENDIAN"), (0, u "Z"), (8, u "LOG2_BYTE_BIT_SIZE"), (4, u "LOG2_ARRAY_INT_INDEX_SCALE"), (54, u "JLA"), (0, u "Ljdk/internal/access/JavaLangAccess;"), (11, u "LOG2_ARRAY_BOOLEAN_INDEX_SCALE"), (9, u "LOG2_ARRAY_BYTE_INDEX_SCALE"), (5, u "LOG2_ARRAY_CHAR_INDEX_SCALE"), (5, u "LOG2_ARRAY_SHORT_INDEX_SCALE"), (18, u "LOG2_ARRAY_FLOAT_INDEX_SCALE"), (24, u "LOG2_ARRAY_DOUBLE_INDEX_SCALE"), (89, u "T_BOOLEAN"), (2, u "T_CHAR"), (1, u "T_FLOAT"), (1, u "T_DOUBLE"), (1, u "T_BYTE"), (1, u "T_SHORT"), (1, u "T_INT"), (1, u "T_LONG"), (1, u "SOFT_MAX_ARRAY_LENGTH")] 83

def k14m0 : Method := { name := "<init>", desc := "()V", sig := { parameters := [], returnType := none }, accessFlags := 2, code := none }
/-- jdk/internal/util/ArraysSupport -/
def k14 : Class := { plain "jdk/internal/util/ArraysSupport" (some 0) with
  accessFlags := 33
  interfaces := #[]
  cf := some (fileOf pool14 21 #[] #[{ accessFlags := 2, nameIndex := 9, descriptorIndex := 19, attributes := #[] }] 33 16 #[] #[{ accessFlags := 24, nameIndex := 28, descriptorIndex := 29, attributes := #[] }, { accessFlags := 26, nameIndex := 38, descriptorIndex := 39, attributes := #[] }, { accessFlags := 25, nameIndex := 121, descriptorIndex := 25, attributes := #[] }, { accessFlags := 25, nameIndex := 131, descriptorIndex := 25, attributes := #[] }, { accessFlags := 25, nameIndex := 137, descriptorIndex := 25, attributes := #[] }, { accessFlags := 25, nameIndex := 143, descriptorIndex := 25, attributes := #[] }, { accessFlags := 25, nameIndex := 53, descriptorIndex := 25, attributes := #[] }, { accessFlags := 25, nameIndex := 24, descriptorIndex := 25, attributes := #[] }, { accessFlags := 25, nameIndex := 162, descriptorIndex := 25, attributes := #[] }, { accessFlags := 25, nameIndex := 187, descriptorIndex := 25, attributes := #[] }, { accessFlags := 26, nameIndex := 48, descriptorIndex := 25, attributes := #[] }, { accessFlags := 25, nameIndex := 277, descriptorIndex := 25, attributes := #[] }, { accessFlags := 25, nameIndex := 280, descriptorIndex := 25, attributes := #[] }, { accessFlags := 25, nameIndex := 282, descriptorIndex := 25, attributes := #[] }, { accessFlags := 25, nameIndex := 284, descriptorIndex := 25, attributes := #[] }, { accessFlags := 25, nameIndex := 286, descriptorIndex := 25, attributes := #[] }, { accessFlags := 25, nameIndex := 288, descriptorIndex := 25, attributes := #[] }, { accessFlags := 25, nameIndex := 290, descriptorIndex := 25, attributes := #[] }, { accessFlags := 25, nameIndex := 292, descriptorIndex := 25, attributes := #[] }, { accessFlags := 26, nameIndex := 108, descriptorIndex := 109, attributes := #[] }, { accessFlags := 25, nameIndex := 294, descriptorIndex := 25, attributes := #[] }])
  fields := #[{ name := "U", type := (.object "jdk/internal/misc/Unsafe"), accessFlags := 24, slot := 0, constantValue := 0 }, { name := "BIG_ENDIAN", type := .boolean, accessFlags := 26, slot := 1, constantValue := 0 }, { name := "LOG2_ARRAY_BOOLEAN_INDEX_SCALE", type := .int, accessFlags := 25, slot := 2, constantValue := 0 }, { name := "LOG2_ARRAY_BYTE_INDEX_SCALE", type := .int, accessFlags := 25, slot := 3, constantValue := 0 }, { name := "LOG2_ARRAY_CHAR_INDEX_SCALE", type := .int, accessFlags := 25, slot := 4, constantValue := 0 }, { name := "LOG2_ARRAY_SHORT_INDEX_SCALE", type := .int, accessFlags := 25, slot := 5, constantValue := 0 }, { name := "LOG2_ARRAY_INT_INDEX_SCALE", type := .int, accessFlags := 25, slot := 6, constantValue := 0 }, { name := "LOG2_ARRAY_LONG_INDEX_SCALE", type := .int, accessFlags := 25, slot := 7, constantValue := 0 }, { name := "LOG2_ARRAY_FLOAT_INDEX_SCALE", type := .int, accessFlags := 25, slot := 8, constantValue := 0 }, { name := "LOG2_ARRAY_DOUBLE_INDEX_SCALE", type := .int, accessFlags := 25, slot := 9, constantValue := 0 }, { name := "LOG2_BYTE_BIT_SIZE", type := .int, accessFlags := 26, slot := 10, constantValue := 0 }, { name := "T_BOOLEAN", type := .int, accessFlags := 25, slot := 11, constantValue := 0 }, { name := "T_CHAR", type := .int, accessFlags := 25, slot := 12, constantValue := 0 }, { name := "T_FLOAT", type := .int, accessFlags := 25, slot := 13, constantValue := 0 }, { name := "T_DOUBLE", type := .int, accessFlags := 25, slot := 14, constantValue := 0 }, { name := "T_BYTE", type := .int, accessFlags := 25, slot := 15, constantValue := 0 }, { name := "T_SHORT", type := .int, accessFlags := 25, slot := 16, constantValue := 0 }, { name := "T_INT", type := .int, accessFlags := 25, slot := 17, constantValue := 0 }, { name := "T_LONG", type := .int, accessFlags := 25, slot := 18, constantValue := 0 }, { name := "JLA", type := (.object "jdk/internal/access/JavaLangAccess"), accessFlags := 26, slot := 19, constantValue := 0 }, { name := "SOFT_MAX_ARRAY_LENGTH", type := .int, accessFlags := 25, slot := 20, constantValue := 0 }]
  methods := #[k14m0]
  instanceTypes := #[]
  staticTypes := #[(.object "jdk/internal/misc/Unsafe"), .boolean, .int, .int, .int, .int, .int, .int, .int, .int, .int, .int, .int, .int, .int, .int, .int, .int, .int, (.object "jdk/internal/access/JavaLangAccess"), .int]
  resolved := Array.replicate 378 none
  statics := none }

/-- the primitive byte -/
def k15 : Class := { plain "byte" none with kind := .primitive 'B', accessFlags := 0x411 }
/-- [B -/
def k16 : Class := { plain "[B" (some 0) with kind := .array 15 .byte, interfaces := #[12, 2], accessFlags := 1041 }

/-- the primitive char -/
def k17 : Class := { plain "char" none with kind := .primitive 'C', accessFlags := 0x411 }
/-- [C -/
def k18 : Class := { plain "[C" (some 0) with kind := .array 17 .char, interfaces := #[12, 2], accessFlags := 1041 }

/-- the primitive int -/
def k19 : Class := { plain "int" none with kind := .primitive 'I', accessFlags := 0x411 }
/-- [I -/
def k20 : Class := { plain "[I" (some 0) with kind := .array 19 .int, interfaces := #[12, 2], accessFlags := 1041 }

/-- [Lcom/example/sober_repository/soberrepository/Dialect; -/
def k21 : Class := { plain "[Lcom/example/sober_repository/soberrepository/Dialect;" (some 0) with kind := .array 11 (.object "com/example/sober_repository/soberrepository/Dialect"), interfaces := #[12, 2], accessFlags := 1041 }

def heap : Heap := #[{ cls := 7, slots := #[.long 0, .int 1, .null, .int 0, .null, .int 0, .int 0], vm := .statics 7 },
  { cls := 11, slots := #[.ref 4, .ref 5, .ref 3], vm := .statics 11 },
  { cls := 13, slots := #[.null, .null, .null], vm := .statics 13 },
  { cls := 21, slots := #[.ref 4, .ref 5], vm := .none },
  { cls := 11, slots := #[.null, .int 0, .int 0, .ref 6], vm := .none },
  { cls := 11, slots := #[.null, .int 0, .int 0, .ref 7], vm := .none },
  { cls := 7, slots := #[.ref 8, .int 0, .int 0, .int 0], vm := .none },
  { cls := 7, slots := #[.ref 9, .int 0, .int 0, .int 0], vm := .none },
  { cls := 16, slots := #[.int 72, .int 50], vm := .none },
  { cls := 16, slots := #[.int 80, .int 111, .int 115, .int 116, .int 103, .int 114, .int 101, .int 83, .int 81, .int 76], vm := .none }]
def classes : Array Class := #[k0, k1, k2, k3, k4, k5, k6, k7, k8, k9, k10, k11, k12, k13, k14, k15, k16, k17, k18, k19, k20, k21]
def interned : List (Array UInt16 × Addr) := []
def slotsUsed : Nat := 43
def theMethod : MethodId := ⟨1, 2⟩
def args0 : Array Value := #[.int 5, .int 5, .int 5, .int 5, .long 5]
def aboutOver (below : List Frame) : State where
  vm := { classes := classes, interned := interned.toArray }
  heap := heap
  slotsUsed := slotsUsed
  threads := #[{ frames := .invoking theMethod args0 :: below }]
def below0 : List Frame := [.native { method := ⟨0, 0⟩, args := #[] }]
def about1 : State := aboutOver below0
def p0 : Program := .bare "" "" ""
def e0 : Env := launch0.env 0 0 0
theorem w_frames : about1.frames = Frame.invoking theMethod args0 :: below0 := rfl
set_option maxRecDepth 65536 in
theorem w_args : argsFit about1.vm theMethod args0 = true := by decide +kernel
set_option maxRecDepth 65536 in
theorem w_heap : heapFits about1 = true := by decide +kernel
set_option maxRecDepth 65536 in
theorem w_runnable : about1.curStatus? = some .runnable := by decide +kernel
set_option maxRecDepth 65536 in
theorem w_alone : about1.alone = true := by decide +kernel
set_option maxRecDepth 65536 in
theorem w_named : about1.methodNamed? x = some theMethod := by decide +kernel
set_option maxRecDepth 65536 in
theorem w_hears : about1.hears theMethod below0 = true := by decide +kernel
set_option maxRecDepth 65536 in
theorem w_ripe : about1.ripe theMethod args0 below0 = true := by decide +kernel
theorem w_running : about1.status = .running := rfl
set_option maxRecDepth 65536 in
theorem w_room : about1.hasRoom e0.platform room_1 = true :=
  launch0.hasRoom_least _ room_1 (by decide +kernel) (by decide +kernel) (by decide +kernel) (by decide +kernel) (by decide +kernel) (by decide +kernel)
theorem allAtoms_all (ts : List Jvm.Cond) (a : Array Jvm.Value) (st : Jvm.State) : (allAtoms ts).before a st = ts.all (fun c => c.before a st) := by
  induction ts with
  | nil => rfl
  | cons c t ih =>
    show (Jvm.Cond.and c (allAtoms t)).before a st = _
    rw [Jvm.Cond.before_and, ih, List.all_cons]
def words1 : List Jvm.Cond := Jvm.Cond.code x code maxLocals ret :: tables_1
/-- a 'code' word, met by the world's own term for the bytes: nothing is compared byte by byte -/
theorem code_word {y : MethodName} {bytes : ByteArray} {mx : Nat} {rt : Option FieldType} {a : Array Value} {s : State} {m : MethodId} {meth : Method} {c : Code} (h1 : s.methodNamed? y = some m) (h2 : s.vm.method? m = some meth) (h3 : meth.code = some c) (h4 : c.code = bytes)
    (h5 : (c.maxLocals == mx && c.exceptionTable.isEmpty && decide (c.maxStack ≤ mostOperands) && decide (meth.sig.returnType = rt) && !meth.locks && decide (parseMethodDescriptor y.desc = some meth.sig)) = true) : (Jvm.Cond.code y bytes mx rt).before a s = true := by
  simp only [Bool.and_eq_true, beq_iff_eq, Bool.not_eq_true', decide_eq_true_eq] at h5
  obtain ⟨⟨⟨⟨⟨g1, g2⟩, g3⟩, g4⟩, g5⟩, g6⟩ := h5
  simp [Cond.before, Cond.holds, Cond.value, h1, h2, h3, h4, g1, g2, g3, g4, g5, g6]
def isCode : Jvm.Cond → Bool
  | .code _ _ _ _ => true
  | _ => false
theorem all_split {L : List Jvm.Cond} {P : Jvm.Cond → Bool} (h1 : L.all (fun c => isCode c || P c) = true) (h2 : ∀ c ∈ L.filter isCode, P c = true) : L.all P = true := by
  refine List.all_eq_true.mpr fun c hc => ?_
  have h := List.all_eq_true.mp h1 c hc
  rcases Bool.eq_false_or_eq_true (isCode c) with hi | hi
  · exact h2 c (List.mem_filter.mpr ⟨hc, hi⟩)
  · simpa [hi] using h
set_option maxRecDepth 65536 in
theorem w_c0 : (Jvm.Cond.code x code maxLocals ret).before args0 about1 = true := code_word (m := ⟨1, 2⟩) (meth := k1m2) (c := k1c2) (by decide +kernel) rfl rfl rfl (by decide +kernel)
set_option maxRecDepth 65536 in
theorem w_c1 : (Jvm.Cond.code ({ cls := "com/example/sober_repository/soberrepository/DialectOfPinLaw", name := "d", desc := "(JI)C" } : Jvm.MethodName) method_2_code (3 : Nat) (Option.some Jvm.ClassFile.FieldType.char)).before args0 about1 = true := code_word (m := ⟨1, 1⟩) (meth := k1m1) (c := k1c1) (by decide +kernel) rfl rfl rfl (by decide +kernel)
set_option maxRecDepth 65536 in
theorem w_c2 : (Jvm.Cond.code ({ cls := "java/lang/String", name := "<init>", desc := "([C)V" } : Jvm.MethodName) jdk_42_method_3_code (2 : Nat) (Option.none : Option Jvm.ClassFile.FieldType)).before args0 about1 = true := code_word (m := ⟨7, 1⟩) (meth := k7m1) (c := k7c1) (by decide +kernel) rfl rfl rfl (by decide +kernel)
set_option maxRecDepth 65536 in
theorem w_c3 : (Jvm.Cond.code ({ cls := "java/lang/String", name := "<init>", desc := "([CIILjava/lang/Void;)V" } : Jvm.MethodName) jdk_42_method_149_code (6 : Nat) (Option.none : Option Jvm.ClassFile.FieldType)).before args0 about1 = true := code_word (m := ⟨7, 3⟩) (meth := k7m3) (c := k7c3) (by decide +kernel) rfl rfl rfl (by decide +kernel)
set_option maxRecDepth 65536 in
theorem w_c4 : (Jvm.Cond.code ({ cls := "java/lang/Object", name := "<init>", desc := "()V" } : Jvm.MethodName) object_method_1_code (1 : Nat) (Option.none : Option Jvm.ClassFile.FieldType)).before args0 about1 = true := code_word (m := ⟨0, 0⟩) (meth := k0m0) (c := k0c0) (by decide +kernel) rfl rfl rfl (by decide +kernel)
set_option maxRecDepth 65536 in
theorem w_c5 : (Jvm.Cond.code ({ cls := "java/lang/StringUTF16", name := "compress", desc := "([CII)[B" } : Jvm.MethodName) jdk_52_method_16_code (6 : Nat) (Option.some (Jvm.ClassFile.FieldType.array Jvm.ClassFile.FieldType.byte))).before args0 about1 = true := code_word (m := ⟨8, 2⟩) (meth := k8m2) (c := k8c2) (by decide +kernel) rfl rfl rfl (by decide +kernel)
set_option maxRecDepth 65536 in
theorem w_c6 : (Jvm.Cond.code ({ cls := "java/lang/StringUTF16", name := "compress", desc := "([CI[BII)I" } : Jvm.MethodName) jdk_52_method_21_code (7 : Nat) (Option.some Jvm.ClassFile.FieldType.int)).before args0 about1 = true := code_word (m := ⟨8, 3⟩) (meth := k8m3) (c := k8c3) (by decide +kernel) rfl rfl rfl (by decide +kernel)
set_option maxRecDepth 65536 in
theorem w_c7 : (Jvm.Cond.code ({ cls := "java/lang/StringUTF16", name := "coderFromArrayLen", desc := "([BI)B" } : Jvm.MethodName) jdk_52_method_15_code (2 : Nat) (Option.some Jvm.ClassFile.FieldType.byte)).before args0 about1 = true := code_word (m := ⟨8, 1⟩) (meth := k8m1) (c := k8c1) (by decide +kernel) rfl rfl rfl (by decide +kernel)
set_option maxRecDepth 65536 in
theorem w_c8 : (Jvm.Cond.code ({ cls := "java/lang/String", name := "equals", desc := "(Ljava/lang/Object;)Z" } : Jvm.MethodName) jdk_42_method_66_code (3 : Nat) (Option.some Jvm.ClassFile.FieldType.boolean)).before args0 about1 = true := code_word (m := ⟨7, 2⟩) (meth := k7m2) (c := k7c2) (by decide +kernel) rfl rfl rfl (by decide +kernel)
set_option maxRecDepth 65536 in
theorem w_c9 : (Jvm.Cond.code ({ cls := "java/lang/StringLatin1", name := "equals", desc := "([B[B)Z" } : Jvm.MethodName) jdk_43_method_13_code (3 : Nat) (Option.some Jvm.ClassFile.FieldType.boolean)).before args0 about1 = true := code_word (m := ⟨9, 1⟩) (meth := k9m1) (c := k9c1) (by decide +kernel) rfl rfl rfl (by decide +kernel)
set_option maxRecDepth 65536 in
theorem w_c10 : (Jvm.Cond.code ({ cls := "com/example/sober_repository/soberrepository/Dialect", name := "of", desc := "(Ljava/lang/String;)Lcom/example/sober_repository/soberrepository/Dialect;" } : Jvm.MethodName) prog_20_method_4_code (5 : Nat) (Option.some (Jvm.ClassFile.FieldType.object "com/example/sober_repository/soberrepository/Dialect"))).before args0 about1 = true := code_word (m := ⟨11, 1⟩) (meth := k11m1) (c := k11c1) (by decide +kernel) rfl rfl rfl (by decide +kernel)
set_option maxRecDepth 65536 in
theorem w_c11 : (Jvm.Cond.code ({ cls := "com/example/sober_repository/soberrepository/Dialect", name := "values", desc := "()[Lcom/example/sober_repository/soberrepository/Dialect;" } : Jvm.MethodName) prog_20_method_1_code (0 : Nat) (Option.some (Jvm.ClassFile.FieldType.array (Jvm.ClassFile.FieldType.object "com/example/sober_repository/soberrepository/Dialect")))).before args0 about1 = true := code_word (m := ⟨11, 0⟩) (meth := k11m0) (c := k11c0) (by decide +kernel) rfl rfl rfl (by decide +kernel)
def codes1 : List Jvm.Cond := [Jvm.Cond.code x code maxLocals ret, Jvm.Cond.code ({ cls := "com/example/sober_repository/soberrepository/DialectOfPinLaw", name := "d", desc := "(JI)C" } : Jvm.MethodName) method_2_code (3 : Nat) (Option.some Jvm.ClassFile.FieldType.char), Jvm.Cond.code ({ cls := "java/lang/String", name := "<init>", desc := "([C)V" } : Jvm.MethodName) jdk_42_method_3_code (2 : Nat) (Option.none : Option Jvm.ClassFile.FieldType), Jvm.Cond.code ({ cls := "java/lang/String", name := "<init>", desc := "([CIILjava/lang/Void;)V" } : Jvm.MethodName) jdk_42_method_149_code (6 : Nat) (Option.none : Option Jvm.ClassFile.FieldType), Jvm.Cond.code ({ cls := "java/lang/Object", name := "<init>", desc := "()V" } : Jvm.MethodName) object_method_1_code (1 : Nat) (Option.none : Option Jvm.ClassFile.FieldType), Jvm.Cond.code ({ cls := "java/lang/StringUTF16", name := "compress", desc := "([CII)[B" } : Jvm.MethodName) jdk_52_method_16_code (6 : Nat) (Option.some (Jvm.ClassFile.FieldType.array Jvm.ClassFile.FieldType.byte)), Jvm.Cond.code ({ cls := "java/lang/StringUTF16", name := "compress", desc := "([CI[BII)I" } : Jvm.MethodName) jdk_52_method_21_code (7 : Nat) (Option.some Jvm.ClassFile.FieldType.int), Jvm.Cond.code ({ cls := "java/lang/StringUTF16", name := "coderFromArrayLen", desc := "([BI)B" } : Jvm.MethodName) jdk_52_method_15_code (2 : Nat) (Option.some Jvm.ClassFile.FieldType.byte), Jvm.Cond.code ({ cls := "java/lang/String", name := "equals", desc := "(Ljava/lang/Object;)Z" } : Jvm.MethodName) jdk_42_method_66_code (3 : Nat) (Option.some Jvm.ClassFile.FieldType.boolean), Jvm.Cond.code ({ cls := "java/lang/StringLatin1", name := "equals", desc := "([B[B)Z" } : Jvm.MethodName) jdk_43_method_13_code (3 : Nat) (Option.some Jvm.ClassFile.FieldType.boolean), Jvm.Cond.code ({ cls := "com/example/sober_repository/soberrepository/Dialect", name := "of", desc := "(Ljava/lang/String;)Lcom/example/sober_repository/soberrepository/Dialect;" } : Jvm.MethodName) prog_20_method_4_code (5 : Nat) (Option.some (Jvm.ClassFile.FieldType.object "com/example/sober_repository/soberrepository/Dialect")), Jvm.Cond.code ({ cls := "com/example/sober_repository/soberrepository/Dialect", name := "values", desc := "()[Lcom/example/sober_repository/soberrepository/Dialect;" } : Jvm.MethodName) prog_20_method_1_code (0 : Nat) (Option.some (Jvm.ClassFile.FieldType.array (Jvm.ClassFile.FieldType.object "com/example/sober_repository/soberrepository/Dialect")))]
set_option maxRecDepth 65536 in
theorem codes_eq : words1.filter isCode = codes1 := rfl
theorem w_codes : ∀ c ∈ words1.filter isCode, c.before args0 about1 = true := by
  rw [codes_eq]
  intro c hc
  simp only [codes1, List.mem_cons, List.not_mem_nil, or_false] at hc
  rcases hc with rfl | rfl | rfl | rfl | rfl | rfl | rfl | rfl | rfl | rfl | rfl | rfl
  · exact w_c0
  · exact w_c1
  · exact w_c2
  · exact w_c3
  · exact w_c4
  · exact w_c5
  · exact w_c6
  · exact w_c7
  · exact w_c8
  · exact w_c9
  · exact w_c10
  · exact w_c11
set_option maxRecDepth 65536 in
theorem w_t1 : (words1.take 24).all (fun c => isCode c || c.before args0 about1) = true := by decide +kernel
set_option maxRecDepth 65536 in
theorem w_t2 : ((words1.drop 24).take 24).all (fun c => isCode c || c.before args0 about1) = true := by decide +kernel
set_option maxRecDepth 65536 in
theorem w_t3 : (((words1.drop 24).drop 24).take 24).all (fun c => isCode c || c.before args0 about1) = true := by decide +kernel
set_option maxRecDepth 65536 in
theorem w_t4 : (((words1.drop 24).drop 24).drop 24).all (fun c => isCode c || c.before args0 about1) = true := by decide +kernel
theorem w_tables : (allAtoms (Jvm.Cond.code x code maxLocals ret :: tables_1)).before args0 about1 = true := by
  rw [allAtoms_all]
  show words1.all (fun c => c.before args0 about1) = true
  refine all_split ?_ w_codes
  rw [← List.take_append_drop 24 words1, List.all_append, w_t1, ← List.take_append_drop 24 (words1.drop 24), List.all_append, w_t2, ← List.take_append_drop 24 ((words1.drop 24).drop 24), List.all_append, w_t3, w_t4]
  rfl
set_option maxRecDepth 65536 in
theorem w_rest : rest_1_c.before args0 about1 = true := by decide +kernel
set_option maxRecDepth 65536 in
theorem w_case : (Jvm.Cond.and given_1 narrow_1).before args0 about1 = true := by decide +kernel
set_option maxRecDepth 65536 in
theorem w_consts : constsHeld consts_1 about1 := Jvm.Lit.constsHeldB_iff.mp (by decide +kernel)
theorem w_applies : (headSpec (Jvm.Cond.code x code maxLocals ret :: tables_1) room_1).applies x e0.platform about1 = true :=
  (Spec.applies_iff w_frames).mpr ⟨w_running, w_runnable, w_alone, w_named, w_hears, w_ripe, w_room, w_tables⟩
theorem atStart : AtStart classFile x code maxLocals ret World_1 tables_1 room_1 Calls_1 rest_1 Pre_1 launch0 p0 e0 about1 theMethod args0 below0 :=
  ⟨lists_1, trivial, launch0.admits_env _ _ _, launch0.least_env, fairChoices_fair.cas, fairChoices_fair.clock, w_frames, w_args, w_heap, w_applies, ⟨w_consts, trivial⟩, w_rest, w_case⟩
end start1
theorem witness_1 : WitnessClaimed_1 := ⟨start1.p0, start1.e0, start1.about1, start1.theMethod, start1.args0, start1.below0, start1.atStart⟩
end Jvm.Pilot.@@N@@
