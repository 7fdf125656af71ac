import JvmDerived
import JvmDerived.Pilot.@@N@@Statement
import JvmDerived.Pilot.@@N@@Code
set_option linter.unusedVariables false
set_option linter.unusedSimpArgs false
namespace Jvm.Pilot.@@N@@
open Jvm Jvm.ClassFile Sem Op Lib Jvm.Free Jvm.Stand Jvm.LawKit Jvm.RoadKit Bundle Jvm.Pilot.@@N@@.Jvm.D
section OwnKit
variable {p : Program} {l : Launch} {e : Env} {R : Room} {s : State} {m : MethodId} {args : Array Value} {below : List Frame} {meth : Method} {c : Code} {T : State} {Z : State} {own mn : String} {bytes : ByteArray} {ml n0 k n : Nat} {rt : Option FieldType} {h : Heap} {G : Outcome → State → Prop} {pc q : Nat} {L : Array Slot} {st rest : List Value} {a0 : Array Value}
/-- the run from S comes to an end of which G speaks -/
def Goes (p : Program) (e : Env) (below : List Frame) (G : Outcome → State → Prop) (S : State) : Prop := ∃ s₂ o, Steps p.tables e below S s₂ ∧ s₂.status = .running ∧ Ended s₂ below o ∧ G o s₂
theorem go_st {S S' : State} (f : ∀ t, Steps p.tables e below S' t → Steps p.tables e below S t) (r : Goes p e below G S') : Goes p e below G S := by
  obtain ⟨s₂, o, a, b⟩ := r; exact ⟨s₂, o, f _ a, b⟩
theorem go_tr {S S' : State} (f : Steps p.tables e below S S') (r : Goes p e below G S') : Goes p e below G S := by
  obtain ⟨s₂, o, a, b⟩ := r; exact ⟨s₂, o, f.trans a, b⟩
/-- what a body's walk knows from its start on -/
def Cx (p : Program) (s : State) (m : MethodId) (meth : Method) (c : Code) (Z : State) (own : String) (bytes : ByteArray) (ml : Nat) (rt : Option FieldType) (mn : String) : Prop :=
  p.tables.exec = Jvm.exec ∧ Z.Warmed39 s.vm ∧ s.vm.findClass own = some m.cls ∧ c.code = bytes ∧ c.maxLocals = ml ∧ meth.sig.returnType = rt ∧ meth.locks = false ∧ meth.name = mn
/-- where it stands: the heap is h; all that was written lies at n0 or above; at most k cells and n slots are new -/
def St (p : Program) (l : Launch) (e : Env) (R : Room) (s : State) (m : MethodId) (args : Array Value) (below : List Frame) (meth : Method) (c : Code) (n0 : Nat) (T : State) (h : Heap) (k n : Nat) : Prop :=
  ∃ locs cells slots, Stand p l e R s m args below meth c T locs cells slots ∧ Fr n0 locs ∧ T.heap = h ∧ cells ≤ k ∧ slots ≤ n
def FinN (Q : Option Value → Heap → Prop) (s : State) (n0 k n : Nat) (o : Outcome) (U : State) : Prop := ∃ v L, o = .returned v ∧ (Fr n0 L ∧ Q v U.heap) ∧ FrameEnd s o U L k n
def Met (l : Launch) (Z : State) (y : MethodName) (bytes : ByteArray) (ml : Nat) (rt : Option FieldType) (rm : Room) (as' : Array Value) (h0 : Heap) (n0 : Nat) (Q : Option Value → Heap → Prop) : Prop :=
  ∀ ws : List Jvm.Cond, MetFree l y (head1 (Jvm.Cond.code y bytes ml rt :: ws) rm) (fun a U => a = as' ∧ Z.Warmed39 U.vm ∧ U.heap = h0) (fun _ _ _ _ _ => True) (fun _ U o U' => ∃ v L, o = .returned v ∧ (Fr n0 L ∧ Q v U'.heap) ∧ FrameEnd U o U' L rm.cells rm.slots)
abbrev Met1 (l : Launch) (Z : State) (y : MethodName) (bytes : ByteArray) (ml : Nat) (rt : Option FieldType) (rm : Room) (as' : Array Value) (h0 : Heap) (n0 : Nat) (Q : Value → Heap → Prop) : Prop := Met l Z y bytes ml rt rm as' h0 n0 (fun v h => ∃ w, v = some w ∧ Q w h)
abbrev Met0 (l : Launch) (Z : State) (y : MethodName) (bytes : ByteArray) (ml : Nat) (rt : Option FieldType) (rm : Room) (as' : Array Value) (h0 : Heap) (n0 : Nat) (Q : Heap → Prop) : Prop := Met l Z y bytes ml rt rm as' h0 n0 (fun v h => v = none ∧ Q h)
theorem met_of {y : MethodName} {rm : Room} {as' : Array Value} {Q : Option Value → Heap → Prop} (hp : plainFor y = true) (hef : ∀ m, entryFrame m as' ml = mkF m 0 L [])
    (body : ∀ (p : Program) (e : Env) (s : State) (m : MethodId) (below : List Frame) (meth : Method) (c : Code) (T : State), Cx p s m meth c Z y.cls bytes ml rt y.name → St p l e rm s m as' below meth c n0 T h 0 0 → Goes p e below (FinN Q s n0 rm.cells rm.slots) (T.setTop (mkF m 0 L []))) :
    Met l Z y bytes ml rt rm as' h n0 Q := by
  intro ws
  refine MetFree.of_bodySF hp hisR ?_
  intro p e s m args below meth c s₁ Bd hml hP hK
  obtain ⟨rfl, hZ, hh⟩ := hP
  have e0 : s₁.heap = h := by rw [← hh, Bd.state]; rfl
  have b := body p e s m below meth c s₁ ⟨Bd.exec, hZ, findClass_of_methodNamed Bd.named, Bd.bytes, hml, Bd.returns, BodyLoose.notSynchronized Bd, (name_of_methodNamed Bd.named Bd.method).1⟩ ⟨[], 0, 0, Stand.of_body Bd, Fr.nil _, e0, Nat.le_refl _, Nat.le_refl _⟩
  rw [hef m]
  exact b
theorem St.mono {k' n' : Nat} (X : St p l e R s m args below meth c n0 T h k n) (hk : k ≤ k') (hn : n ≤ n') : St p l e R s m args below meth c n0 T h k' n' := by
  obtain ⟨a, b, d, x, y, z, u, v⟩ := X; exact ⟨a, b, d, x, y, z, Nat.le_trans u hk, Nat.le_trans v hn⟩
theorem g_aloadN (C : Cx p s m meth c Z own bytes ml rt mn) (X : St p l e R s m args below meth c n0 T h k n) {j : Fin 4} {v : Value} (hd : decode bytes pc = .ok (.aload_n j, 1)) (hq : pc + 1 = q) (hl : L[j.val]? = some (.val v)) (hv : v.isRef = true) (r : Goes p e below G (T.setTop (mkF m q L (v :: st)))) : Goes p e below G (T.setTop (mkF m pc L (st))) := by
  obtain ⟨hx, -, -, hby, -⟩ := C
  obtain ⟨_, _, _, X, -⟩ := X
  subst hq 
  exact go_st (fun t k => XS.aloadN X.here hx rfl (hb hby hd) hl hv k) r
theorem g_aload (C : Cx p s m meth c Z own bytes ml rt mn) (X : St p l e R s m args below meth c n0 T h k n) {j : Nat} {v : Value} (hd : decode bytes pc = .ok (.aload j, 2)) (hq : pc + 2 = q) (hl : L[j]? = some (.val v)) (hv : v.isRef = true) (r : Goes p e below G (T.setTop (mkF m q L (v :: st)))) : Goes p e below G (T.setTop (mkF m pc L (st))) := by
  obtain ⟨hx, -, -, hby, -⟩ := C
  obtain ⟨_, _, _, X, -⟩ := X
  subst hq 
  exact go_st (fun t k => XS.aload X.here hx rfl (hb hby hd) hl hv k) r
theorem g_iloadN (C : Cx p s m meth c Z own bytes ml rt mn) (X : St p l e R s m args below meth c n0 T h k n) {j : Fin 4} {v : Int32} (hd : decode bytes pc = .ok (.iload_n j, 1)) (hq : pc + 1 = q) (hl : L[j.val]? = some (.val (.int v))) (r : Goes p e below G (T.setTop (mkF m q L (.int v :: st)))) : Goes p e below G (T.setTop (mkF m pc L (st))) := by
  obtain ⟨hx, -, -, hby, -⟩ := C
  obtain ⟨_, _, _, X, -⟩ := X
  subst hq 
  exact go_st (fun t k => XS.iloadN X.here hx rfl (hb hby hd) hl k) r
theorem g_iload (C : Cx p s m meth c Z own bytes ml rt mn) (X : St p l e R s m args below meth c n0 T h k n) {j : Nat} {v : Int32} (hd : decode bytes pc = .ok (.iload j, 2)) (hq : pc + 2 = q) (hl : L[j]? = some (.val (.int v))) (r : Goes p e below G (T.setTop (mkF m q L (.int v :: st)))) : Goes p e below G (T.setTop (mkF m pc L (st))) := by
  obtain ⟨hx, -, -, hby, -⟩ := C
  obtain ⟨_, _, _, X, -⟩ := X
  subst hq 
  exact go_st (fun t k => XS.iload X.here hx rfl (hb hby hd) hl k) r
theorem g_lloadN (C : Cx p s m meth c Z own bytes ml rt mn) (X : St p l e R s m args below meth c n0 T h k n) {j : Fin 4} {v : Int64} (hd : decode bytes pc = .ok (.lload_n j, 1)) (hq : pc + 1 = q) (hl : L[j.val]? = some (.val (.long v))) (r : Goes p e below G (T.setTop (mkF m q L (.long v :: st)))) : Goes p e below G (T.setTop (mkF m pc L (st))) := by
  obtain ⟨hx, -, -, hby, -⟩ := C
  obtain ⟨_, _, _, X, -⟩ := X
  subst hq 
  exact go_st (fun t k => XS.lloadN X.here hx rfl (hb hby hd) hl k) r
theorem g_lload (C : Cx p s m meth c Z own bytes ml rt mn) (X : St p l e R s m args below meth c n0 T h k n) {j : Nat} {v : Int64} (hd : decode bytes pc = .ok (.lload j, 2)) (hq : pc + 2 = q) (hl : L[j]? = some (.val (.long v))) (r : Goes p e below G (T.setTop (mkF m q L (.long v :: st)))) : Goes p e below G (T.setTop (mkF m pc L (st))) := by
  obtain ⟨hx, -, -, hby, -⟩ := C
  obtain ⟨_, _, _, X, -⟩ := X
  subst hq 
  exact go_st (fun t k => XS.lload X.here hx rfl (hb hby hd) hl k) r
theorem g_iconst (C : Cx p s m meth c Z own bytes ml rt mn) (X : St p l e R s m args below meth c n0 T h k n) {i : Int} {z : Int32} (hd : decode bytes pc = .ok (.iconst i, 1)) (hq : pc + 1 = q) (hz : Int32.ofInt i = z) (r : Goes p e below G (T.setTop (mkF m q L (.int z :: st)))) : Goes p e below G (T.setTop (mkF m pc L (st))) := by
  obtain ⟨hx, -, -, hby, -⟩ := C
  obtain ⟨_, _, _, X, -⟩ := X
  subst hq hz
  exact go_st (fun t k => XS.iconst X.here hx rfl (hb hby hd)  k) r
theorem g_bipush (C : Cx p s m meth c Z own bytes ml rt mn) (X : St p l e R s m args below meth c n0 T h k n) {i : Int} {z : Int32} (hd : decode bytes pc = .ok (.bipush i, 2)) (hq : pc + 2 = q) (hz : (Int8.ofInt i).toInt32 = z) (r : Goes p e below G (T.setTop (mkF m q L (.int z :: st)))) : Goes p e below G (T.setTop (mkF m pc L (st))) := by
  obtain ⟨hx, -, -, hby, -⟩ := C
  obtain ⟨_, _, _, X, -⟩ := X
  subst hq hz
  exact go_st (fun t k => XS.bipush X.here hx rfl (hb hby hd)  k) r
theorem g_sipush (C : Cx p s m meth c Z own bytes ml rt mn) (X : St p l e R s m args below meth c n0 T h k n) {i : Int} {z : Int32} (hd : decode bytes pc = .ok (.sipush i, 3)) (hq : pc + 3 = q) (hz : (Int16.ofInt i).toInt32 = z) (r : Goes p e below G (T.setTop (mkF m q L (.int z :: st)))) : Goes p e below G (T.setTop (mkF m pc L (st))) := by
  obtain ⟨hx, -, -, hby, -⟩ := C
  obtain ⟨_, _, _, X, -⟩ := X
  subst hq hz
  exact go_st (fun t k => XS.sipush X.here hx rfl (hb hby hd)  k) r
theorem g_aconstNull (C : Cx p s m meth c Z own bytes ml rt mn) (X : St p l e R s m args below meth c n0 T h k n)  (hd : decode bytes pc = .ok (.aconst_null, 1)) (hq : pc + 1 = q)  (r : Goes p e below G (T.setTop (mkF m q L (.null :: st)))) : Goes p e below G (T.setTop (mkF m pc L (st))) := by
  obtain ⟨hx, -, -, hby, -⟩ := C
  obtain ⟨_, _, _, X, -⟩ := X
  subst hq 
  exact go_st (fun t k => XS.aconstNull X.here hx rfl (hb hby hd)  k) r
theorem g_iadd (C : Cx p s m meth c Z own bytes ml rt mn) (X : St p l e R s m args below meth c n0 T h k n) {x y z : Int32} (hd : decode bytes pc = .ok (.iadd, 1)) (hq : pc + 1 = q) (hz : x + y = z) (r : Goes p e below G (T.setTop (mkF m q L (.int z :: st)))) : Goes p e below G (T.setTop (mkF m pc L (.int y :: .int x :: st))) := by
  obtain ⟨hx, -, -, hby, -⟩ := C
  obtain ⟨_, _, _, X, -⟩ := X
  subst hq hz
  exact go_st (fun t k => XS.iadd X.here hx rfl (hb hby hd) rfl k) r
theorem g_isub (C : Cx p s m meth c Z own bytes ml rt mn) (X : St p l e R s m args below meth c n0 T h k n) {x y z : Int32} (hd : decode bytes pc = .ok (.isub, 1)) (hq : pc + 1 = q) (hz : x - y = z) (r : Goes p e below G (T.setTop (mkF m q L (.int z :: st)))) : Goes p e below G (T.setTop (mkF m pc L (.int y :: .int x :: st))) := by
  obtain ⟨hx, -, -, hby, -⟩ := C
  obtain ⟨_, _, _, X, -⟩ := X
  subst hq hz
  exact go_st (fun t k => XS.isub X.here hx rfl (hb hby hd) rfl k) r
theorem g_imul (C : Cx p s m meth c Z own bytes ml rt mn) (X : St p l e R s m args below meth c n0 T h k n) {x y z : Int32} (hd : decode bytes pc = .ok (.imul, 1)) (hq : pc + 1 = q) (hz : x * y = z) (r : Goes p e below G (T.setTop (mkF m q L (.int z :: st)))) : Goes p e below G (T.setTop (mkF m pc L (.int y :: .int x :: st))) := by
  obtain ⟨hx, -, -, hby, -⟩ := C
  obtain ⟨_, _, _, X, -⟩ := X
  subst hq hz
  exact go_st (fun t k => XS.imul X.here hx rfl (hb hby hd) rfl k) r
theorem g_iand (C : Cx p s m meth c Z own bytes ml rt mn) (X : St p l e R s m args below meth c n0 T h k n) {x y z : Int32} (hd : decode bytes pc = .ok (.iand, 1)) (hq : pc + 1 = q) (hz : x &&& y = z) (r : Goes p e below G (T.setTop (mkF m q L (.int z :: st)))) : Goes p e below G (T.setTop (mkF m pc L (.int y :: .int x :: st))) := by
  obtain ⟨hx, -, -, hby, -⟩ := C
  obtain ⟨_, _, _, X, -⟩ := X
  subst hq hz
  exact go_st (fun t k => XS.iand X.here hx rfl (hb hby hd) rfl k) r
theorem g_ior (C : Cx p s m meth c Z own bytes ml rt mn) (X : St p l e R s m args below meth c n0 T h k n) {x y z : Int32} (hd : decode bytes pc = .ok (.ior, 1)) (hq : pc + 1 = q) (hz : x ||| y = z) (r : Goes p e below G (T.setTop (mkF m q L (.int z :: st)))) : Goes p e below G (T.setTop (mkF m pc L (.int y :: .int x :: st))) := by
  obtain ⟨hx, -, -, hby, -⟩ := C
  obtain ⟨_, _, _, X, -⟩ := X
  subst hq hz
  exact go_st (fun t k => XS.ior X.here hx rfl (hb hby hd) rfl k) r
theorem g_ixor (C : Cx p s m meth c Z own bytes ml rt mn) (X : St p l e R s m args below meth c n0 T h k n) {x y z : Int32} (hd : decode bytes pc = .ok (.ixor, 1)) (hq : pc + 1 = q) (hz : x ^^^ y = z) (r : Goes p e below G (T.setTop (mkF m q L (.int z :: st)))) : Goes p e below G (T.setTop (mkF m pc L (.int y :: .int x :: st))) := by
  obtain ⟨hx, -, -, hby, -⟩ := C
  obtain ⟨_, _, _, X, -⟩ := X
  subst hq hz
  exact go_st (fun t k => XS.ixor X.here hx rfl (hb hby hd) rfl k) r
theorem g_ishl (C : Cx p s m meth c Z own bytes ml rt mn) (X : St p l e R s m args below meth c n0 T h k n) {x y z : Int32} (hd : decode bytes pc = .ok (.ishl, 1)) (hq : pc + 1 = q) (hz : x <<< (y &&& 31) = z) (r : Goes p e below G (T.setTop (mkF m q L (.int z :: st)))) : Goes p e below G (T.setTop (mkF m pc L (.int y :: .int x :: st))) := by
  obtain ⟨hx, -, -, hby, -⟩ := C
  obtain ⟨_, _, _, X, -⟩ := X
  subst hq hz
  exact go_st (fun t k => XS.ishl X.here hx rfl (hb hby hd) rfl k) r
theorem g_ishr (C : Cx p s m meth c Z own bytes ml rt mn) (X : St p l e R s m args below meth c n0 T h k n) {x y z : Int32} (hd : decode bytes pc = .ok (.ishr, 1)) (hq : pc + 1 = q) (hz : x >>> (y &&& 31) = z) (r : Goes p e below G (T.setTop (mkF m q L (.int z :: st)))) : Goes p e below G (T.setTop (mkF m pc L (.int y :: .int x :: st))) := by
  obtain ⟨hx, -, -, hby, -⟩ := C
  obtain ⟨_, _, _, X, -⟩ := X
  subst hq hz
  exact go_st (fun t k => XS.ishr X.here hx rfl (hb hby hd) rfl k) r
theorem g_iushr (C : Cx p s m meth c Z own bytes ml rt mn) (X : St p l e R s m args below meth c n0 T h k n) {x y z : Int32} (hd : decode bytes pc = .ok (.iushr, 1)) (hq : pc + 1 = q) (hz : (x.toUInt32 >>> (y &&& 31).toUInt32).toInt32 = z) (r : Goes p e below G (T.setTop (mkF m q L (.int z :: st)))) : Goes p e below G (T.setTop (mkF m pc L (.int y :: .int x :: st))) := by
  obtain ⟨hx, -, -, hby, -⟩ := C
  obtain ⟨_, _, _, X, -⟩ := X
  subst hq hz
  exact go_st (fun t k => XS.iushr X.here hx rfl (hb hby hd) rfl k) r
theorem g_idiv (C : Cx p s m meth c Z own bytes ml rt mn) (X : St p l e R s m args below meth c n0 T h k n) {x y z : Int32} (hd : decode bytes pc = .ok (.idiv, 1)) (hq : pc + 1 = q) (hy : y ≠ 0) (hz : x / y = z) (r : Goes p e below G (T.setTop (mkF m q L (.int z :: st)))) : Goes p e below G (T.setTop (mkF m pc L (.int y :: .int x :: st))) := by
  obtain ⟨hx, -, -, hby, -⟩ := C
  obtain ⟨_, _, _, X, -⟩ := X
  subst hq hz
  exact go_st (fun t k => XS.idiv X.here hx rfl (hb hby hd) rfl hy k) r
theorem g_irem (C : Cx p s m meth c Z own bytes ml rt mn) (X : St p l e R s m args below meth c n0 T h k n) {x y z : Int32} (hd : decode bytes pc = .ok (.irem, 1)) (hq : pc + 1 = q) (hy : y ≠ 0) (hz : x % y = z) (r : Goes p e below G (T.setTop (mkF m q L (.int z :: st)))) : Goes p e below G (T.setTop (mkF m pc L (.int y :: .int x :: st))) := by
  obtain ⟨hx, -, -, hby, -⟩ := C
  obtain ⟨_, _, _, X, -⟩ := X
  subst hq hz
  exact go_st (fun t k => iremM X hx rfl (hb hby hd) rfl hy k) r
theorem g_ineg (C : Cx p s m meth c Z own bytes ml rt mn) (X : St p l e R s m args below meth c n0 T h k n) {x z : Int32} (hd : decode bytes pc = .ok (.ineg, 1)) (hq : pc + 1 = q) (hz : -x = z) (r : Goes p e below G (T.setTop (mkF m q L (.int z :: st)))) : Goes p e below G (T.setTop (mkF m pc L (.int x :: st))) := by
  obtain ⟨hx, -, -, hby, -⟩ := C
  obtain ⟨_, _, _, X, -⟩ := X
  subst hq hz
  exact go_st (fun t k => XS.ineg X.here hx rfl (hb hby hd) rfl k) r
theorem g_ladd (C : Cx p s m meth c Z own bytes ml rt mn) (X : St p l e R s m args below meth c n0 T h k n) {x y z : Int64} (hd : decode bytes pc = .ok (.ladd, 1)) (hq : pc + 1 = q) (hz : x + y = z) (r : Goes p e below G (T.setTop (mkF m q L (.long z :: st)))) : Goes p e below G (T.setTop (mkF m pc L (.long y :: .long x :: st))) := by
  obtain ⟨hx, -, -, hby, -⟩ := C
  obtain ⟨_, _, _, X, -⟩ := X
  subst hq hz
  exact go_st (fun t k => XS.ladd X.here hx rfl (hb hby hd) rfl k) r
theorem g_lsub (C : Cx p s m meth c Z own bytes ml rt mn) (X : St p l e R s m args below meth c n0 T h k n) {x y z : Int64} (hd : decode bytes pc = .ok (.lsub, 1)) (hq : pc + 1 = q) (hz : x - y = z) (r : Goes p e below G (T.setTop (mkF m q L (.long z :: st)))) : Goes p e below G (T.setTop (mkF m pc L (.long y :: .long x :: st))) := by
  obtain ⟨hx, -, -, hby, -⟩ := C
  obtain ⟨_, _, _, X, -⟩ := X
  subst hq hz
  exact go_st (fun t k => XS.lsub X.here hx rfl (hb hby hd) rfl k) r
theorem g_lmul (C : Cx p s m meth c Z own bytes ml rt mn) (X : St p l e R s m args below meth c n0 T h k n) {x y z : Int64} (hd : decode bytes pc = .ok (.lmul, 1)) (hq : pc + 1 = q) (hz : x * y = z) (r : Goes p e below G (T.setTop (mkF m q L (.long z :: st)))) : Goes p e below G (T.setTop (mkF m pc L (.long y :: .long x :: st))) := by
  obtain ⟨hx, -, -, hby, -⟩ := C
  obtain ⟨_, _, _, X, -⟩ := X
  subst hq hz
  exact go_st (fun t k => XS.lmul X.here hx rfl (hb hby hd) rfl k) r
theorem g_land (C : Cx p s m meth c Z own bytes ml rt mn) (X : St p l e R s m args below meth c n0 T h k n) {x y z : Int64} (hd : decode bytes pc = .ok (.land, 1)) (hq : pc + 1 = q) (hz : x &&& y = z) (r : Goes p e below G (T.setTop (mkF m q L (.long z :: st)))) : Goes p e below G (T.setTop (mkF m pc L (.long y :: .long x :: st))) := by
  obtain ⟨hx, -, -, hby, -⟩ := C
  obtain ⟨_, _, _, X, -⟩ := X
  subst hq hz
  exact go_st (fun t k => XS.land X.here hx rfl (hb hby hd) rfl k) r
theorem g_lor (C : Cx p s m meth c Z own bytes ml rt mn) (X : St p l e R s m args below meth c n0 T h k n) {x y z : Int64} (hd : decode bytes pc = .ok (.lor, 1)) (hq : pc + 1 = q) (hz : x ||| y = z) (r : Goes p e below G (T.setTop (mkF m q L (.long z :: st)))) : Goes p e below G (T.setTop (mkF m pc L (.long y :: .long x :: st))) := by
  obtain ⟨hx, -, -, hby, -⟩ := C
  obtain ⟨_, _, _, X, -⟩ := X
  subst hq hz
  exact go_st (fun t k => XS.lor X.here hx rfl (hb hby hd) rfl k) r
theorem g_lxor (C : Cx p s m meth c Z own bytes ml rt mn) (X : St p l e R s m args below meth c n0 T h k n) {x y z : Int64} (hd : decode bytes pc = .ok (.lxor, 1)) (hq : pc + 1 = q) (hz : x ^^^ y = z) (r : Goes p e below G (T.setTop (mkF m q L (.long z :: st)))) : Goes p e below G (T.setTop (mkF m pc L (.long y :: .long x :: st))) := by
  obtain ⟨hx, -, -, hby, -⟩ := C
  obtain ⟨_, _, _, X, -⟩ := X
  subst hq hz
  exact go_st (fun t k => XS.lxor X.here hx rfl (hb hby hd) rfl k) r
theorem g_lshl (C : Cx p s m meth c Z own bytes ml rt mn) (X : St p l e R s m args below meth c n0 T h k n) {x z : Int64} {y : Int32} (hd : decode bytes pc = .ok (.lshl, 1)) (hq : pc + 1 = q) (hz : x <<< (y &&& 0x3f).toInt64 = z) (r : Goes p e below G (T.setTop (mkF m q L (.long z :: st)))) : Goes p e below G (T.setTop (mkF m pc L (.int y :: .long x :: st))) := by
  obtain ⟨hx, -, -, hby, -⟩ := C
  obtain ⟨_, _, _, X, -⟩ := X
  subst hq hz
  exact go_st (fun t k => XS.lshl X.here hx rfl (hb hby hd) rfl k) r
theorem g_lshr (C : Cx p s m meth c Z own bytes ml rt mn) (X : St p l e R s m args below meth c n0 T h k n) {x z : Int64} {y : Int32} (hd : decode bytes pc = .ok (.lshr, 1)) (hq : pc + 1 = q) (hz : x >>> (y &&& 0x3f).toInt64 = z) (r : Goes p e below G (T.setTop (mkF m q L (.long z :: st)))) : Goes p e below G (T.setTop (mkF m pc L (.int y :: .long x :: st))) := by
  obtain ⟨hx, -, -, hby, -⟩ := C
  obtain ⟨_, _, _, X, -⟩ := X
  subst hq hz
  exact go_st (fun t k => XS.lshr X.here hx rfl (hb hby hd) rfl k) r
theorem g_lushr (C : Cx p s m meth c Z own bytes ml rt mn) (X : St p l e R s m args below meth c n0 T h k n) {x z : Int64} {y : Int32} (hd : decode bytes pc = .ok (.lushr, 1)) (hq : pc + 1 = q) (hz : (x.toUInt64 >>> (y &&& 0x3f).toInt64.toUInt64).toInt64 = z) (r : Goes p e below G (T.setTop (mkF m q L (.long z :: st)))) : Goes p e below G (T.setTop (mkF m pc L (.int y :: .long x :: st))) := by
  obtain ⟨hx, -, -, hby, -⟩ := C
  obtain ⟨_, _, _, X, -⟩ := X
  subst hq hz
  exact go_st (fun t k => XS.lushr X.here hx rfl (hb hby hd) rfl k) r
theorem g_ldiv (C : Cx p s m meth c Z own bytes ml rt mn) (X : St p l e R s m args below meth c n0 T h k n) {x y z : Int64} (hd : decode bytes pc = .ok (.ldiv, 1)) (hq : pc + 1 = q) (hy : y ≠ 0) (hz : x / y = z) (r : Goes p e below G (T.setTop (mkF m q L (.long z :: st)))) : Goes p e below G (T.setTop (mkF m pc L (.long y :: .long x :: st))) := by
  obtain ⟨hx, -, -, hby, -⟩ := C
  obtain ⟨_, _, _, X, -⟩ := X
  subst hq hz
  exact go_st (fun t k => XS.ldiv X.here hx rfl (hb hby hd) rfl hy k) r
theorem g_lrem (C : Cx p s m meth c Z own bytes ml rt mn) (X : St p l e R s m args below meth c n0 T h k n) {x y z : Int64} (hd : decode bytes pc = .ok (.lrem, 1)) (hq : pc + 1 = q) (hy : y ≠ 0) (hz : x % y = z) (r : Goes p e below G (T.setTop (mkF m q L (.long z :: st)))) : Goes p e below G (T.setTop (mkF m pc L (.long y :: .long x :: st))) := by
  obtain ⟨hx, -, -, hby, -⟩ := C
  obtain ⟨_, _, _, X, -⟩ := X
  subst hq hz
  have w := lrem_mod x y
  exact go_st (fun t k => XS.lrem X.here hx rfl (hb hby hd) rfl hy (by rw [w]; exact k)) r
theorem g_lneg (C : Cx p s m meth c Z own bytes ml rt mn) (X : St p l e R s m args below meth c n0 T h k n) {x z : Int64} (hd : decode bytes pc = .ok (.lneg, 1)) (hq : pc + 1 = q) (hz : -x = z) (r : Goes p e below G (T.setTop (mkF m q L (.long z :: st)))) : Goes p e below G (T.setTop (mkF m pc L (.long x :: st))) := by
  obtain ⟨hx, -, -, hby, -⟩ := C
  obtain ⟨_, _, _, X, -⟩ := X
  subst hq hz
  exact go_st (fun t k => XS.lneg X.here hx rfl (hb hby hd) rfl k) r
theorem g_i2l (C : Cx p s m meth c Z own bytes ml rt mn) (X : St p l e R s m args below meth c n0 T h k n) {x : Int32} {z : Int64} (hd : decode bytes pc = .ok (.i2l, 1)) (hq : pc + 1 = q) (hz : x.toInt64 = z) (r : Goes p e below G (T.setTop (mkF m q L (.long z :: st)))) : Goes p e below G (T.setTop (mkF m pc L (.int x :: st))) := by
  obtain ⟨hx, -, -, hby, -⟩ := C
  obtain ⟨_, _, _, X, -⟩ := X
  subst hq hz
  exact go_st (fun t k => XS.i2l X.here hx rfl (hb hby hd) rfl k) r
theorem g_l2i (C : Cx p s m meth c Z own bytes ml rt mn) (X : St p l e R s m args below meth c n0 T h k n) {x : Int64} {z : Int32} (hd : decode bytes pc = .ok (.l2i, 1)) (hq : pc + 1 = q) (hz : x.toInt32 = z) (r : Goes p e below G (T.setTop (mkF m q L (.int z :: st)))) : Goes p e below G (T.setTop (mkF m pc L (.long x :: st))) := by
  obtain ⟨hx, -, -, hby, -⟩ := C
  obtain ⟨_, _, _, X, -⟩ := X
  subst hq hz
  exact go_st (fun t k => XS.l2i X.here hx rfl (hb hby hd) rfl k) r
theorem g_i2b (C : Cx p s m meth c Z own bytes ml rt mn) (X : St p l e R s m args below meth c n0 T h k n) {x z : Int32} (hd : decode bytes pc = .ok (.i2b, 1)) (hq : pc + 1 = q) (hz : x.toInt8.toInt32 = z) (r : Goes p e below G (T.setTop (mkF m q L (.int z :: st)))) : Goes p e below G (T.setTop (mkF m pc L (.int x :: st))) := by
  obtain ⟨hx, -, -, hby, -⟩ := C
  obtain ⟨_, _, _, X, -⟩ := X
  subst hq hz
  exact go_st (fun t k => XS.i2b X.here hx rfl (hb hby hd) rfl k) r
theorem g_i2s (C : Cx p s m meth c Z own bytes ml rt mn) (X : St p l e R s m args below meth c n0 T h k n) {x z : Int32} (hd : decode bytes pc = .ok (.i2s, 1)) (hq : pc + 1 = q) (hz : x.toInt16.toInt32 = z) (r : Goes p e below G (T.setTop (mkF m q L (.int z :: st)))) : Goes p e below G (T.setTop (mkF m pc L (.int x :: st))) := by
  obtain ⟨hx, -, -, hby, -⟩ := C
  obtain ⟨_, _, _, X, -⟩ := X
  subst hq hz
  exact go_st (fun t k => XS.i2s X.here hx rfl (hb hby hd) rfl k) r
theorem g_i2c (C : Cx p s m meth c Z own bytes ml rt mn) (X : St p l e R s m args below meth c n0 T h k n) {x z : Int32} (hd : decode bytes pc = .ok (.i2c, 1)) (hq : pc + 1 = q) (hz : x.toUInt32.toUInt16.toUInt32.toInt32 = z) (r : Goes p e below G (T.setTop (mkF m q L (.int z :: st)))) : Goes p e below G (T.setTop (mkF m pc L (.int x :: st))) := by
  obtain ⟨hx, -, -, hby, -⟩ := C
  obtain ⟨_, _, _, X, -⟩ := X
  subst hq hz
  exact go_st (fun t k => XS.i2c X.here hx rfl (hb hby hd) rfl k) r
theorem g_lconst (C : Cx p s m meth c Z own bytes ml rt mn) (X : St p l e R s m args below meth c n0 T h k n) {i : Fin 2} {z : Int64} (hd : decode bytes pc = .ok (.lconst i, 1)) (hq : pc + 1 = q) (hz : (i.val.toInt64) = z) (r : Goes p e below G (T.setTop (mkF m q L (.long z :: st)))) : Goes p e below G (T.setTop (mkF m pc L (st))) := by
  obtain ⟨hx, -, -, hby, -⟩ := C
  obtain ⟨_, _, _, X, -⟩ := X
  subst hq hz
  exact go_st (fun t k => XS.lconst X.here hx rfl (hb hby hd) k) r
theorem own_lcW (x y : Int64) : (if x > y then (1 : Int32) else if x = y then 0 else -1) = lcmpW x y := rfl
theorem g_lcmp (C : Cx p s m meth c Z own bytes ml rt mn) (X : St p l e R s m args below meth c n0 T h k n) {x y : Int64} {z : Int32} (hd : decode bytes pc = .ok (.lcmp, 1)) (hq : pc + 1 = q) (hz : lcmpW x y = z) (r : Goes p e below G (T.setTop (mkF m q L (.int z :: st)))) : Goes p e below G (T.setTop (mkF m pc L (.long y :: .long x :: st))) := by
  obtain ⟨hx, -, -, hby, -⟩ := C
  obtain ⟨_, _, _, X, -⟩ := X
  subst hq hz
  exact go_st (fun t k => XS.lcmp X.here hx rfl (hb hby hd) rfl k) r
theorem g_dup (C : Cx p s m meth c Z own bytes ml rt mn) (X : St p l e R s m args below meth c n0 T h k n) {x : Value} (hd : decode bytes pc = .ok (.dup, 1)) (hq : pc + 1 = q) (hc : x.category = 1) (r : Goes p e below G (T.setTop (mkF m q L (x :: x :: st)))) : Goes p e below G (T.setTop (mkF m pc L (x :: st))) := by
  obtain ⟨hx, -, -, hby, -⟩ := C
  obtain ⟨_, _, _, X, -⟩ := X
  subst hq 
  exact go_st (fun t k => XS.dup X.here hx rfl (hb hby hd) rfl hc k) r
theorem g_pop (C : Cx p s m meth c Z own bytes ml rt mn) (X : St p l e R s m args below meth c n0 T h k n) {x : Value} (hd : decode bytes pc = .ok (.pop, 1)) (hq : pc + 1 = q) (hc : x.category = 1) (r : Goes p e below G (T.setTop (mkF m q L (st)))) : Goes p e below G (T.setTop (mkF m pc L (x :: st))) := by
  obtain ⟨hx, -, -, hby, -⟩ := C
  obtain ⟨_, _, _, X, -⟩ := X
  subst hq 
  exact go_st (fun t k => XS.pop X.here hx rfl (hb hby hd) rfl hc k) r
theorem g_dupX1 (C : Cx p s m meth c Z own bytes ml rt mn) (X : St p l e R s m args below meth c n0 T h k n) {x y : Value} (hd : decode bytes pc = .ok (.dup_x1, 1)) (hq : pc + 1 = q) (hc : x.category = 1) (hc' : y.category = 1) (r : Goes p e below G (T.setTop (mkF m q L (x :: y :: x :: st)))) : Goes p e below G (T.setTop (mkF m pc L (x :: y :: st))) := by
  obtain ⟨hx, -, -, hby, -⟩ := C
  obtain ⟨_, _, _, X, -⟩ := X
  subst hq 
  exact go_st (fun t k => XS.dupX1 X.here hx rfl (hb hby hd) rfl hc hc' k) r
theorem g_dup2 (C : Cx p s m meth c Z own bytes ml rt mn) (X : St p l e R s m args below meth c n0 T h k n) {x y : Value} (hd : decode bytes pc = .ok (.dup2, 1)) (hq : pc + 1 = q) (hc : x.category = 1) (hc' : y.category = 1) (r : Goes p e below G (T.setTop (mkF m q L (x :: y :: x :: y :: st)))) : Goes p e below G (T.setTop (mkF m pc L (x :: y :: st))) := by
  obtain ⟨hx, -, -, hby, -⟩ := C
  obtain ⟨_, _, _, X, -⟩ := X
  subst hq 
  exact go_st (fun t k => Jvm.Free.XT.dup2 X.here hx rfl (hb hby hd) rfl hc hc' k) r
theorem g_istoreN (C : Cx p s m meth c Z own bytes ml rt mn) (X : St p l e R s m args below meth c n0 T h k n) {j : Fin 4} {x : Int32} {L' : Array Slot} (hd : decode bytes pc = .ok (.istore_n j, 1)) (hq : pc + 1 = q) (hl : storeLocals L j.val (.int x) = some L') (r : Goes p e below G (T.setTop (mkF m q L' (st)))) : Goes p e below G (T.setTop (mkF m pc L (.int x :: st))) := by
  obtain ⟨hx, -, -, hby, -⟩ := C
  obtain ⟨_, _, _, X, -⟩ := X
  subst hq 
  exact go_st (fun t k => XS.istoreN X.here hx rfl (hb hby hd) rfl hl k) r
theorem g_istore (C : Cx p s m meth c Z own bytes ml rt mn) (X : St p l e R s m args below meth c n0 T h k n) {j : Nat} {x : Int32} {L' : Array Slot} (hd : decode bytes pc = .ok (.istore j, 2)) (hq : pc + 2 = q) (hl : storeLocals L j (.int x) = some L') (r : Goes p e below G (T.setTop (mkF m q L' (st)))) : Goes p e below G (T.setTop (mkF m pc L (.int x :: st))) := by
  obtain ⟨hx, -, -, hby, -⟩ := C
  obtain ⟨_, _, _, X, -⟩ := X
  subst hq 
  exact go_st (fun t k => XS.istore X.here hx rfl (hb hby hd) rfl hl k) r
theorem g_lstoreN (C : Cx p s m meth c Z own bytes ml rt mn) (X : St p l e R s m args below meth c n0 T h k n) {j : Fin 4} {x : Int64} {L' : Array Slot} (hd : decode bytes pc = .ok (.lstore_n j, 1)) (hq : pc + 1 = q) (hl : storeLocals L j.val (.long x) = some L') (r : Goes p e below G (T.setTop (mkF m q L' (st)))) : Goes p e below G (T.setTop (mkF m pc L (.long x :: st))) := by
  obtain ⟨hx, -, -, hby, -⟩ := C
  obtain ⟨_, _, _, X, -⟩ := X
  subst hq 
  exact go_st (fun t k => XS.lstoreN X.here hx rfl (hb hby hd) rfl hl k) r
theorem g_lstore (C : Cx p s m meth c Z own bytes ml rt mn) (X : St p l e R s m args below meth c n0 T h k n) {j : Nat} {x : Int64} {L' : Array Slot} (hd : decode bytes pc = .ok (.lstore j, 2)) (hq : pc + 2 = q) (hl : storeLocals L j (.long x) = some L') (r : Goes p e below G (T.setTop (mkF m q L' (st)))) : Goes p e below G (T.setTop (mkF m pc L (.long x :: st))) := by
  obtain ⟨hx, -, -, hby, -⟩ := C
  obtain ⟨_, _, _, X, -⟩ := X
  subst hq 
  exact go_st (fun t k => XS.lstore X.here hx rfl (hb hby hd) rfl hl k) r
theorem g_astoreN (C : Cx p s m meth c Z own bytes ml rt mn) (X : St p l e R s m args below meth c n0 T h k n) {j : Fin 4} {x : Value} {L' : Array Slot} (hd : decode bytes pc = .ok (.astore_n j, 1)) (hq : pc + 1 = q) (hv : x.isRef = true) (hl : storeLocals L j.val x = some L') (r : Goes p e below G (T.setTop (mkF m q L' (st)))) : Goes p e below G (T.setTop (mkF m pc L (x :: st))) := by
  obtain ⟨hx, -, -, hby, -⟩ := C
  obtain ⟨_, _, _, X, -⟩ := X
  subst hq 
  exact go_st (fun t k => XS.astoreN X.here hx rfl (hb hby hd) rfl hv hl k) r
theorem g_astore (C : Cx p s m meth c Z own bytes ml rt mn) (X : St p l e R s m args below meth c n0 T h k n) {j : Nat} {x : Value} {L' : Array Slot} (hd : decode bytes pc = .ok (.astore j, 2)) (hq : pc + 2 = q) (hv : x.isRef = true) (hl : storeLocals L j x = some L') (r : Goes p e below G (T.setTop (mkF m q L' (st)))) : Goes p e below G (T.setTop (mkF m pc L (x :: st))) := by
  obtain ⟨hx, -, -, hby, -⟩ := C
  obtain ⟨_, _, _, X, -⟩ := X
  subst hq 
  exact go_st (fun t k => XS.astore X.here hx rfl (hb hby hd) rfl hv hl k) r
theorem g_iinc (C : Cx p s m meth c Z own bytes ml rt mn) (X : St p l e R s m args below meth c n0 T h k n) {j : Nat} {i : Int} {x z : Int32} {L' : Array Slot} (hd : decode bytes pc = .ok (.iinc j i, 3)) (hq : pc + 3 = q) (hl : L[j]? = some (.val (.int x))) (hz : x + Int32.ofInt i = z) (hl' : storeLocals L j (.int z) = some L') (r : Goes p e below G (T.setTop (mkF m q L' (st)))) : Goes p e below G (T.setTop (mkF m pc L (st))) := by
  obtain ⟨hx, -, -, hby, -⟩ := C
  obtain ⟨_, _, _, X, -⟩ := X
  subst hq hz
  exact go_st (fun t k => XS.iinc X.here hx rfl (hb hby hd) hl hl' k) r
theorem g_goto (C : Cx p s m meth c Z own bytes ml rt mn) (X : St p l e R s m args below meth c n0 T h k n)  {o : Int} (hd : decode bytes pc = .ok (.goto o, 3)) (ho : 0 ≤ (pc : Int) + o) (hq : ((pc : Int) + o).toNat = q)  (r : Goes p e below G (T.setTop (mkF m q L st))) : Goes p e below G (T.setTop (mkF m pc L (st))) := by
  obtain ⟨hx, -, -, hby, -⟩ := C
  obtain ⟨_, _, _, X, -⟩ := X
  exact go_st (fun t k => XS.goto X.here hx rfl rfl (hb hby hd) ho hq k) r
theorem g_ifY (C : Cx p s m meth c Z own bytes ml rt mn) (X : St p l e R s m args below meth c n0 T h k n) {cd : ClassFile.Cond} {x : Int32} {o : Int} (hd : decode bytes pc = .ok (.ifCond cd o, 3)) (ho : 0 ≤ (pc : Int) + o) (hq : ((pc : Int) + o).toNat = q) (hc : if_icmp.holds cd x 0 = true) (r : Goes p e below G (T.setTop (mkF m q L st))) : Goes p e below G (T.setTop (mkF m pc L (.int x :: st))) := by
  obtain ⟨hx, -, -, hby, -⟩ := C
  obtain ⟨_, _, _, X, -⟩ := X
  exact go_st (fun t k => XS.ifYes X.here hx rfl rfl (hb hby hd) rfl ((if0 _ _).trans hc) ho hq k) r
theorem g_ifN (C : Cx p s m meth c Z own bytes ml rt mn) (X : St p l e R s m args below meth c n0 T h k n) {cd : ClassFile.Cond} {x : Int32} {o : Int} (hd : decode bytes pc = .ok (.ifCond cd o, 3)) (hq : pc + 3 = q) (hc : if_icmp.holds cd x 0 = false) (r : Goes p e below G (T.setTop (mkF m q L st))) : Goes p e below G (T.setTop (mkF m pc L (.int x :: st))) := by
  obtain ⟨hx, -, -, hby, -⟩ := C
  obtain ⟨_, _, _, X, -⟩ := X
  subst hq
  exact go_st (fun t k => XS.ifNo X.here hx rfl (hb hby hd) rfl ((if0 _ _).trans hc) k) r
theorem g_icY (C : Cx p s m meth c Z own bytes ml rt mn) (X : St p l e R s m args below meth c n0 T h k n) {cd : ClassFile.Cond} {x y : Int32} {o : Int} (hd : decode bytes pc = .ok (.if_icmp cd o, 3)) (ho : 0 ≤ (pc : Int) + o) (hq : ((pc : Int) + o).toNat = q) (hc : if_icmp.holds cd x y = true) (r : Goes p e below G (T.setTop (mkF m q L st))) : Goes p e below G (T.setTop (mkF m pc L (.int y :: .int x :: st))) := by
  obtain ⟨hx, -, -, hby, -⟩ := C
  obtain ⟨_, _, _, X, -⟩ := X
  exact go_st (fun t k => XS.icmpYes X.here hx rfl rfl (hb hby hd) rfl hc ho hq k) r
theorem g_icN (C : Cx p s m meth c Z own bytes ml rt mn) (X : St p l e R s m args below meth c n0 T h k n) {cd : ClassFile.Cond} {x y : Int32} {o : Int} (hd : decode bytes pc = .ok (.if_icmp cd o, 3)) (hq : pc + 3 = q) (hc : if_icmp.holds cd x y = false) (r : Goes p e below G (T.setTop (mkF m q L st))) : Goes p e below G (T.setTop (mkF m pc L (.int y :: .int x :: st))) := by
  obtain ⟨hx, -, -, hby, -⟩ := C
  obtain ⟨_, _, _, X, -⟩ := X
  subst hq
  exact go_st (fun t k => XS.icmpNo X.here hx rfl (hb hby hd) rfl hc k) r
theorem g_nulY (C : Cx p s m meth c Z own bytes ml rt mn) (X : St p l e R s m args below meth c n0 T h k n)  {o : Int} (hd : decode bytes pc = .ok (.ifnull o, 3)) (ho : 0 ≤ (pc : Int) + o) (hq : ((pc : Int) + o).toNat = q)  (r : Goes p e below G (T.setTop (mkF m q L st))) : Goes p e below G (T.setTop (mkF m pc L (.null :: st))) := by
  obtain ⟨hx, -, -, hby, -⟩ := C
  obtain ⟨_, _, _, X, -⟩ := X
  exact go_st (fun t k => XS.ifnullYes X.here hx rfl rfl (hb hby hd) rfl ho hq k) r
theorem g_nulN (C : Cx p s m meth c Z own bytes ml rt mn) (X : St p l e R s m args below meth c n0 T h k n) {b : Addr} {o : Int} (hd : decode bytes pc = .ok (.ifnull o, 3)) (hq : pc + 3 = q)  (r : Goes p e below G (T.setTop (mkF m q L st))) : Goes p e below G (T.setTop (mkF m pc L (.ref b :: st))) := by
  obtain ⟨hx, -, -, hby, -⟩ := C
  obtain ⟨_, _, _, X, -⟩ := X
  subst hq
  exact go_st (fun t k => XS.ifnullNo X.here hx rfl (hb hby hd) rfl k) r
theorem g_nonY (C : Cx p s m meth c Z own bytes ml rt mn) (X : St p l e R s m args below meth c n0 T h k n) {b : Addr} {o : Int} (hd : decode bytes pc = .ok (.ifnonnull o, 3)) (ho : 0 ≤ (pc : Int) + o) (hq : ((pc : Int) + o).toNat = q)  (r : Goes p e below G (T.setTop (mkF m q L st))) : Goes p e below G (T.setTop (mkF m pc L (.ref b :: st))) := by
  obtain ⟨hx, -, -, hby, -⟩ := C
  obtain ⟨_, _, _, X, -⟩ := X
  exact go_st (fun t k => XS.ifnonnullYes X.here hx rfl rfl (hb hby hd) rfl ho hq k) r
theorem g_nonN (C : Cx p s m meth c Z own bytes ml rt mn) (X : St p l e R s m args below meth c n0 T h k n)  {o : Int} (hd : decode bytes pc = .ok (.ifnonnull o, 3)) (hq : pc + 3 = q)  (r : Goes p e below G (T.setTop (mkF m q L st))) : Goes p e below G (T.setTop (mkF m pc L (.null :: st))) := by
  obtain ⟨hx, -, -, hby, -⟩ := C
  obtain ⟨_, _, _, X, -⟩ := X
  subst hq
  exact go_st (fun t k => XS.ifnonnullNo X.here hx rfl (hb hby hd) rfl k) r
theorem g_boolF (C : Cx p s m meth c Z own bytes ml rt mn) (X : St p l e R s m args below meth c n0 T h k n) {cd : ClassFile.Cond} {x : Int32} (hd : decode bytes pc = .ok (.ifCond cd 7, 3)) (hd1 : decode bytes (pc + 3) = .ok (.iconst 1, 1)) (hd2 : decode bytes (pc + 4) = .ok (.goto 4, 3)) (hd3 : decode bytes (pc + 7) = .ok (.iconst 0, 1)) (hq : pc + 8 = q) (r : ∀ b : Int32, (if_icmp.holds cd x 0 = true → b = 0) → (if_icmp.holds cd x 0 = false → b = 1) → Goes p e below G (T.setTop (mkF m q L (.int b :: st)))) : Goes p e below G (T.setTop (mkF m pc L (.int x :: st))) := by
  subst hq
  cases hc : if_icmp.holds cd x 0
  · refine g_ifN C X hd (q := pc + 3) rfl hc ?_
    refine g_iconst C X hd1 (q := pc + 4) rfl (z := 1) rfl ?_
    refine g_goto C X hd2 (by omega) (q := pc + 8) (by omega) ?_
    exact r 1 (fun z => by rw [hc] at z; cases z) (fun _ => rfl)
  · refine g_ifY C X hd (by omega) (q := pc + 7) (by omega) hc ?_
    refine g_iconst C X hd3 (q := pc + 8) rfl (z := 0) rfl ?_
    exact r 0 (fun _ => rfl) (fun z => by rw [hc] at z; cases z)
theorem g_boolC (C : Cx p s m meth c Z own bytes ml rt mn) (X : St p l e R s m args below meth c n0 T h k n) {cd : ClassFile.Cond} {x y : Int32} (hd : decode bytes pc = .ok (.if_icmp cd 7, 3)) (hd1 : decode bytes (pc + 3) = .ok (.iconst 1, 1)) (hd2 : decode bytes (pc + 4) = .ok (.goto 4, 3)) (hd3 : decode bytes (pc + 7) = .ok (.iconst 0, 1)) (hq : pc + 8 = q) (r : ∀ b : Int32, (if_icmp.holds cd x y = true → b = 0) → (if_icmp.holds cd x y = false → b = 1) → Goes p e below G (T.setTop (mkF m q L (.int b :: st)))) : Goes p e below G (T.setTop (mkF m pc L (.int y :: .int x :: st))) := by
  subst hq
  cases hc : if_icmp.holds cd x y
  · refine g_icN C X hd (q := pc + 3) rfl hc ?_
    refine g_iconst C X hd1 (q := pc + 4) rfl (z := 1) rfl ?_
    refine g_goto C X hd2 (by omega) (q := pc + 8) (by omega) ?_
    exact r 1 (fun z => by rw [hc] at z; cases z) (fun _ => rfl)
  · refine g_icY C X hd (by omega) (q := pc + 7) (by omega) hc ?_
    refine g_iconst C X hd3 (q := pc + 8) rfl (z := 0) rfl ?_
    exact r 0 (fun _ => rfl) (fun z => by rw [hc] at z; cases z)
theorem g_acmp (C : Cx p s m meth c Z own bytes ml rt mn) (X : St p l e R s m args below meth c n0 T h k n) {cd : ACond} {x y : Value} {o : Int} {same : Bool} (hd : decode bytes pc = .ok (.if_acmp cd o, 3)) (h1 : x.isRef = true) (h2 : y.isRef = true) (hs : decide (x = y) = same) (ho : 0 ≤ (pc : Int) + o) (hq : q = if acV cd same = true then ((pc : Int) + o).toNat else pc + 3) (r : Goes p e below G (T.setTop (mkF m q L st))) : Goes p e below G (T.setTop (mkF m pc L (y :: x :: st))) := by
  obtain ⟨hx, -, -, hby, -⟩ := C
  obtain ⟨_, _, _, X, -⟩ := X
  exact go_st (fun t k => Jvm.RoadKit.acmp (g := mkF m pc L (y :: x :: st)) X hx rfl h1 h2 rfl (hb hby hd) rfl hs ho hq k) r
theorem g_lsw (C : Cx p s m meth c Z own bytes ml rt mn) (X : St p l e R s m args below meth c n0 T h k n) {d o : Int} {ps : Array (Int × Int)} {i : Int32} {len : Nat} (hd : decode bytes pc = .ok (.lookupswitch d ps, len)) (hinc : (ps.toList.zip (ps.toList.drop 1)).all (fun (a, next) => a.1 < next.1) = true) (hoff : lookupswitch.offset ps.toList d i.toInt = o) (ho : 0 ≤ (pc : Int) + o) (hq : ((pc : Int) + o).toNat = q) (r : Goes p e below G (T.setTop (mkF m q L st))) : Goes p e below G (T.setTop (mkF m pc L (.int i :: st))) := by
  obtain ⟨hx, -, -, hby, -⟩ := C
  obtain ⟨_, _, _, X, -⟩ := X
  subst hq
  refine go_st (fun t k => ?_) r
  have hd' := hb hby hd
  show Steps p.tables e below (T.setTop { method := m, pc := pc, locals := L, stack := .int i :: st, locked := none }) _
  jvm_step X.here [X.here.top, hx, hd', lookupswitch.wp_chain, hoff, ho]
  refine ⟨?_, k⟩
  intro a b a1 b1 hm
  simpa using List.all_eq_true.mp hinc ((a, b), a1, b1) (by simpa using hm)
theorem g_tswI (C : Cx p s m meth c Z own bytes ml rt mn) (X : St p l e R s m args below meth c n0 T h k n) {d lo hi o : Int} {offs : Array Int} {i : Int32} {len : Nat} (hd : decode bytes pc = .ok (.tableswitch d lo hi offs, len)) (hin : ¬ (i.toInt < lo ∨ i.toInt > hi)) (hoff : offs[(i.toInt - lo).toNat]? = some o) (ho : 0 ≤ (pc : Int) + o) (hq : ((pc : Int) + o).toNat = q) (r : Goes p e below G (T.setTop (mkF m q L st))) : Goes p e below G (T.setTop (mkF m pc L (.int i :: st))) := by
  obtain ⟨hx, -, -, hby, -⟩ := C
  obtain ⟨_, _, _, X, -⟩ := X
  exact go_st (fun t k => XS.tswIn X.here hx rfl rfl (hb hby hd) rfl hin hoff ho hq k) r
theorem g_tswO (C : Cx p s m meth c Z own bytes ml rt mn) (X : St p l e R s m args below meth c n0 T h k n) {d lo hi : Int} {offs : Array Int} {i : Int32} {len : Nat} (hd : decode bytes pc = .ok (.tableswitch d lo hi offs, len)) (hin : i.toInt < lo ∨ i.toInt > hi) (ho : 0 ≤ (pc : Int) + d) (hq : ((pc : Int) + d).toNat = q) (r : Goes p e below G (T.setTop (mkF m q L st))) : Goes p e below G (T.setTop (mkF m pc L (.int i :: st))) := by
  obtain ⟨hx, -, -, hby, -⟩ := C
  obtain ⟨_, _, _, X, -⟩ := X
  exact go_st (fun t k => XS.tswOut X.here hx rfl rfl (hb hby hd) rfl hin ho hq k) r
theorem g_ldcI (C : Cx p s m meth c Z own bytes ml rt mn) (X : St p l e R s m args below meth c n0 T h k n) {i : Nat} {v : Int32} (w : (Cond.constant own i v).before a0 Z = true) (hd : decode bytes pc = .ok (.ldc i, 2)) (hq : pc + 2 = q) (r : Goes p e below G (T.setTop (mkF m q L (.int v :: st)))) : Goes p e below G (T.setTop (mkF m pc L st)) := by
  obtain ⟨hx, hZ, hown, hby, -⟩ := C
  obtain ⟨_, _, _, X, -⟩ := X
  subst hq
  exact go_st (fun t k => X.ldcInt hx hown (mvT hZ w) (g := mkF m pc L st) rfl (hb hby hd) t k) r
theorem g_ldcJ (C : Cx p s m meth c Z own bytes ml rt mn) (X : St p l e R s m args below meth c n0 T h k n) {i : Nat} {v : Int64} (w : (Cond.constantLong own i v).before a0 Z = true) (hd : decode bytes pc = .ok (.ldc2_w i, 3)) (hq : pc + 3 = q) (r : Goes p e below G (T.setTop (mkF m q L (.long v :: st)))) : Goes p e below G (T.setTop (mkF m pc L st)) := by
  obtain ⟨hx, hZ, hown, hby, -⟩ := C
  obtain ⟨_, _, _, X, -⟩ := X
  subst hq
  exact go_st (fun t k => X.ldc2Long hx hown (mvT hZ w) (g := mkF m pc L st) rfl (hb hby hd) t k) r
theorem own_end (C : Cx p s m meth c Z own bytes ml rt mn) (X : St p l e R s m args below meth c n0 T h k n) {Q : Option Value → Heap → Prop} {K N : Nat} {S : State} {v : Option Value} (hv : rt = none → v = none) (hk : k ≤ K) (hn : n ≤ N) (hQ : Q v h)
    (f : ∀ locs cells slots fs, Stand p l e R s m args below meth c T locs cells slots → (∀ (f : JFrame) (acts : List Action), f.method = m → f.locked = none → f.entered = [] → (doReturn e (T.setTop f) acts v).1 = T.setFrames fs) → Steps p.tables e below S (T.setFrames fs)) : Goes p e below (FinN Q s n0 K N) S := by
  obtain ⟨hx, -, -, hby, -, hret, hlk, -⟩ := C
  obtain ⟨locs, cells, slots, X, hF, rfl, h1, h2⟩ := X
  obtain ⟨fs, hr, hrun, hended, hW, hsame⟩ := X.leave (v := v) (fun h => hv (hret.symm.trans h)) hlk
  exact ⟨_, _, f _ _ _ fs X hr, hrun, hended, _, _, rfl, ⟨hF, hQ⟩, ⟨_, rfl⟩, hW, hsame.mono (Nat.le_trans h1 hk) (Nat.le_trans h2 hn)⟩
theorem g_retI (C : Cx p s m meth c Z own bytes ml (some .int) mn) (X : St p l e R s m args below meth c n0 T h k n) {Q : Option Value → Heap → Prop} {K N : Nat} {z : Int32} (hd : decode bytes pc = .ok (.ireturn, 1)) (hk : k ≤ K) (hn : n ≤ N) (hQ : Q (some (.int z)) h) : Goes p e below (FinN Q s n0 K N) (T.setTop (mkF m pc L (.int z :: st))) := by
  refine own_end C X (by simp) hk hn hQ fun locs cells slots fs X hr => ?_
  obtain ⟨hx, -, -, hby, -, hret, hlk, -⟩ := C
  exact retOut X hx hret rfl (Or.inl ⟨rfl, Or.inl rfl, _, rfl⟩) (hb hby hd) hr
theorem g_retN {t : FieldType} (C : Cx p s m meth c Z own bytes ml (some t) mn) (X : St p l e R s m args below meth c n0 T h k n) {Q : Option Value → Heap → Prop} {K N : Nat} {z z' : Int32} (ht : t = .boolean ∨ t = .byte ∨ t = .char ∨ t = .short) (hz : nar t z = z') (hd : decode bytes pc = .ok (.ireturn, 1)) (hk : k ≤ K) (hn : n ≤ N) (hQ : Q (some (.int z')) h) : Goes p e below (FinN Q s n0 K N) (T.setTop (mkF m pc L (.int z :: st))) := by
  subst hz
  refine own_end C X (by simp) hk hn hQ fun locs cells slots fs X hr => ?_
  obtain ⟨hx, -, -, hby, -, hret, hlk, -⟩ := C
  exact retN X hx hret ht (hb hby hd) hr
theorem g_retA {t : FieldType} (C : Cx p s m meth c Z own bytes ml (some t) mn) (X : St p l e R s m args below meth c n0 T h k n) {Q : Option Value → Heap → Prop} {K N : Nat} {v : Value} (ht : t.isReference = true) (hv : v.isRef = true) (hd : decode bytes pc = .ok (.areturn, 1)) (hk : k ≤ K) (hn : n ≤ N) (hQ : Q (some v) h) : Goes p e below (FinN Q s n0 K N) (T.setTop (mkF m pc L (v :: st))) := by
  refine own_end C X (by simp) hk hn hQ fun locs cells slots fs X hr => ?_
  obtain ⟨hx, -, -, hby, -, hret, hlk, -⟩ := C
  have hn' : narrow t v = v := by rcases ref_cases hv with rfl | ⟨b, rfl⟩ <;> cases t <;> first | rfl | (cases ht)
  exact retOut X hx hret hn' (Or.inr (Or.inr (Or.inr (Or.inr ⟨rfl, ht, hv⟩)))) (hb hby hd) hr
theorem g_retJ (C : Cx p s m meth c Z own bytes ml (some .long) mn) (X : St p l e R s m args below meth c n0 T h k n) {Q : Option Value → Heap → Prop} {K N : Nat} {z : Int64} (hd : decode bytes pc = .ok (.lreturn, 1)) (hk : k ≤ K) (hn : n ≤ N) (hQ : Q (some (.long z)) h) : Goes p e below (FinN Q s n0 K N) (T.setTop (mkF m pc L (.long z :: st))) := by
  refine own_end C X (by simp) hk hn hQ fun locs cells slots fs X hr => ?_
  obtain ⟨hx, -, -, hby, -, hret, hlk, -⟩ := C
  exact retOut X hx hret rfl (Or.inr (Or.inl ⟨rfl, rfl, _, rfl⟩)) (hb hby hd) hr
theorem g_retV (C : Cx p s m meth c Z own bytes ml none mn) (X : St p l e R s m args below meth c n0 T h k n) {Q : Option Value → Heap → Prop} {K N : Nat} (hd : decode bytes pc = .ok (.return_, 1)) (hk : k ≤ K) (hn : n ≤ N) (hQ : Q none h) : Goes p e below (FinN Q s n0 K N) (T.setTop (mkF m pc L [])) := by
  refine own_end C X (fun _ => rfl) hk hn hQ fun locs cells slots fs X hr => ?_
  obtain ⟨hx, -, -, hby, -, hret, hlk, -⟩ := C
  exact X.returnOut hx hret (hb hby hd) hr
theorem g_dloadN (C : Cx p s m meth c Z own bytes ml rt mn) (X : St p l e R s m args below meth c n0 T h k n) {j : Fin 4} {v : UInt64} (hd : decode bytes pc = .ok (.dload_n j, 1)) (hq : pc + 1 = q) (hl : L[j.val]? = some (.val (.double v))) (r : Goes p e below G (T.setTop (mkF m q L (.double v :: st)))) : Goes p e below G (T.setTop (mkF m pc L (st))) := by
  obtain ⟨hx, -, -, hby, -⟩ := C
  obtain ⟨_, _, _, X, -⟩ := X
  subst hq 
  exact go_st (fun t k => XS.dloadN X.here hx rfl (hb hby hd) hl k) r
theorem g_dload (C : Cx p s m meth c Z own bytes ml rt mn) (X : St p l e R s m args below meth c n0 T h k n) {j : Nat} {v : UInt64} (hd : decode bytes pc = .ok (.dload j, 2)) (hq : pc + 2 = q) (hl : L[j]? = some (.val (.double v))) (r : Goes p e below G (T.setTop (mkF m q L (.double v :: st)))) : Goes p e below G (T.setTop (mkF m pc L (st))) := by
  obtain ⟨hx, -, -, hby, -⟩ := C
  obtain ⟨_, _, _, X, -⟩ := X
  subst hq 
  exact go_st (fun t k => XS.dload X.here hx rfl (hb hby hd) hl k) r
theorem g_dstoreN (C : Cx p s m meth c Z own bytes ml rt mn) (X : St p l e R s m args below meth c n0 T h k n) {j : Fin 4} {x : UInt64} {L' : Array Slot} (hd : decode bytes pc = .ok (.dstore_n j, 1)) (hq : pc + 1 = q) (hl : storeLocals L j.val (.double x) = some L') (r : Goes p e below G (T.setTop (mkF m q L' (st)))) : Goes p e below G (T.setTop (mkF m pc L (.double x :: st))) := by
  obtain ⟨hx, -, -, hby, -⟩ := C
  obtain ⟨_, _, _, X, -⟩ := X
  subst hq 
  exact go_st (fun t k => XS.dstoreN X.here hx rfl (hb hby hd) rfl hl k) r
theorem g_dstore (C : Cx p s m meth c Z own bytes ml rt mn) (X : St p l e R s m args below meth c n0 T h k n) {j : Nat} {x : UInt64} {L' : Array Slot} (hd : decode bytes pc = .ok (.dstore j, 2)) (hq : pc + 2 = q) (hl : storeLocals L j (.double x) = some L') (r : Goes p e below G (T.setTop (mkF m q L' (st)))) : Goes p e below G (T.setTop (mkF m pc L (.double x :: st))) := by
  obtain ⟨hx, -, -, hby, -⟩ := C
  obtain ⟨_, _, _, X, -⟩ := X
  subst hq 
  exact go_st (fun t k => XS.dstore X.here hx rfl (hb hby hd) rfl hl k) r
theorem g_i2d (C : Cx p s m meth c Z own bytes ml rt mn) (X : St p l e R s m args below meth c n0 T h k n) {x : Int32} {z : UInt64} (hd : decode bytes pc = .ok (.i2d, 1)) (hq : pc + 1 = q) (hz : FP.i2d x = z) (r : Goes p e below G (T.setTop (mkF m q L (.double z :: st)))) : Goes p e below G (T.setTop (mkF m pc L (.int x :: st))) := by
  obtain ⟨hx, -, -, hby, -⟩ := C
  obtain ⟨_, _, _, X, -⟩ := X
  subst hq 
  exact go_st (fun t k => XS.i2dS X.here hx rfl (hb hby hd) rfl hz k) r
theorem g_dcmp (C : Cx p s m meth c Z own bytes ml rt mn) (X : St p l e R s m args below meth c n0 T h k n) {o : CmpOp} {x y : UInt64} {z : Int32} (hd : decode bytes pc = .ok (.dcmp o, 1)) (hq : pc + 1 = q) (hz : cmpValue (FP.dcmp x y) o = z) (r : Goes p e below G (T.setTop (mkF m q L (.int z :: st)))) : Goes p e below G (T.setTop (mkF m pc L (.double y :: .double x :: st))) := by
  obtain ⟨hx, -, -, hby, -⟩ := C
  obtain ⟨_, _, _, X, -⟩ := X
  subst hq 
  exact go_st (fun t k => XS.dcmpS X.here hx rfl (hb hby hd) rfl hz k) r
theorem g_pop2 (C : Cx p s m meth c Z own bytes ml rt mn) (X : St p l e R s m args below meth c n0 T h k n) {x : Value} (hd : decode bytes pc = .ok (.pop2, 1)) (hq : pc + 1 = q) (hc : x.category = 2) (r : Goes p e below G (T.setTop (mkF m q L st))) : Goes p e below G (T.setTop (mkF m pc L (x :: st))) := by
  obtain ⟨hx, -, -, hby, -⟩ := C
  obtain ⟨_, _, _, X, -⟩ := X
  subst hq
  refine go_st (fun t k => ?_) r
  have hd' := hb hby hd
  show Steps p.tables e below (T.setTop { method := m, pc := pc, locals := L, stack := x :: st, locked := none }) _
  jvm_step X.here [X.here.top, hx, hd', hc]
  exact k
theorem g_dconst0 (C : Cx p s m meth c Z own bytes ml rt mn) (X : St p l e R s m args below meth c n0 T h k n) {z : UInt64} (hd : decode bytes pc = .ok (.dconst 0, 1)) (hq : pc + 1 = q) (hz : FP.dconst0 = z) (r : Goes p e below G (T.setTop (mkF m q L (.double z :: st)))) : Goes p e below G (T.setTop (mkF m pc L (st))) := by
  obtain ⟨hx, -, -, hby, -⟩ := C
  obtain ⟨_, _, _, X, -⟩ := X
  subst hq 
  exact go_st (fun t k => XS.dconst0 X.here hx rfl (hb hby hd) hz k) r
theorem g_dconst1 (C : Cx p s m meth c Z own bytes ml rt mn) (X : St p l e R s m args below meth c n0 T h k n) {z : UInt64} (hd : decode bytes pc = .ok (.dconst 1, 1)) (hq : pc + 1 = q) (hz : FP.dconst1 = z) (r : Goes p e below G (T.setTop (mkF m q L (.double z :: st)))) : Goes p e below G (T.setTop (mkF m pc L (st))) := by
  obtain ⟨hx, -, -, hby, -⟩ := C
  obtain ⟨_, _, _, X, -⟩ := X
  subst hq 
  exact go_st (fun t k => XS.dconst1 X.here hx rfl (hb hby hd) hz k) r
theorem g_retD (C : Cx p s m meth c Z own bytes ml (some .double) mn) (X : St p l e R s m args below meth c n0 T h k n) {Q : Option Value → Heap → Prop} {K N : Nat} {z : UInt64} (hd : decode bytes pc = .ok (.dreturn, 1)) (hk : k ≤ K) (hn : n ≤ N) (hQ : Q (some (.double z)) h) : Goes p e below (FinN Q s n0 K N) (T.setTop (mkF m pc L (.double z :: st))) := by
  refine own_end C X (by simp) hk hn hQ fun locs cells slots fs X hr => ?_
  obtain ⟨hx, -, -, hby, -, hret, hlk, -⟩ := C
  exact retOut X hx hret rfl (Or.inr (Or.inr (Or.inl ⟨rfl, rfl, _, rfl⟩))) (hb hby hd) hr
theorem g_getS (C : Cx p s m meth c Z own bytes ml rt mn) (X : St p l e R s m args below meth c n0 T h k n) {R0 O f d host : String} {i : Nat} {v : Value} (w : (Cond.fieldLink own i R0 f d).before a0 Z = true ∨ (Cond.fieldLinkNest own i R0 f d host).before a0 Z = true) (via : Via Z R0 O f d) (F : Sta Z h O f d v) (hd : decode bytes pc = .ok (.getstatic i, 3)) (hq : pc + 3 = q) (r : ∀ T', St p l e R s m args below meth c n0 T' h k n → Goes p e below G (T'.setTop (mkF m q L (v :: st)))) : Goes p e below G (T.setTop (mkF m pc L st)) := by
  obtain ⟨hx, hZ, hown, hby, -⟩ := C
  obtain ⟨_, _, _, X, hF, eT, h1, h2⟩ := X
  subst hq
  obtain ⟨T', X', e', st'⟩ := getS2 X hx hZ hown w via eT F (g := mkF m pc L st) rfl (hb hby hd)
  exact go_st st' (r T' ⟨_, _, _, X', hF, e', h1, h2⟩)
theorem g_getF (C : Cx p s m meth c Z own bytes ml rt mn) (X : St p l e R s m args below meth c n0 T h k n) {R0 O f d host : String} {i : Nat} {a : Addr} {v : Value} (w : (Cond.fieldLink own i R0 f d).before a0 Z = true ∨ (Cond.fieldLinkNest own i R0 f d host).before a0 Z = true) (via : Via Z R0 O f d) (F : Fld Z h a O f d v) (hd : decode bytes pc = .ok (.getfield i, 3)) (hq : pc + 3 = q) (r : ∀ T', St p l e R s m args below meth c n0 T' h k n → Goes p e below G (T'.setTop (mkF m q L (v :: st)))) : Goes p e below G (T.setTop (mkF m pc L (.ref a :: st))) := by
  obtain ⟨hx, hZ, hown, hby, -⟩ := C
  obtain ⟨_, _, _, X, hF, eT, h1, h2⟩ := X
  subst hq
  obtain ⟨T', X', e', st'⟩ := getF X hx hZ hown w via eT F (g := mkF m pc L (.ref a :: st)) rfl rfl (hb hby hd)
  exact go_st st' (r T' ⟨_, _, _, X', hF, e', h1, h2⟩)
theorem g_putF (C : Cx p s m meth c Z own bytes ml rt mn) (X : St p l e R s m args below meth c n0 T h k n) {R0 O f d host K : String} {i kk : Nat} {ty : FieldType} {a : Addr} {v old : Value} (w : (Cond.fieldLink own i R0 f d).before a0 Z = true ∨ (Cond.fieldLinkNest own i R0 f d host).before a0 Z = true) (via : Via Z R0 O f d) (F : Fld Z h a O f d old) (E : Exa Z h a K) (Ly : (Cond.lays K O f d).before a0 Z = true ∨ ((Cond.laysFinal K O f d).before a0 Z = true ∧ own = O ∧ mn = "<init>")) (wi : (Cond.instantiable K kk).before a0 Z = true)
    (hty : parseFieldDescriptor d = some ty) (hnn : narrow ty v = v) (hff : fits ty v = true) (hd : decode bytes pc = .ok (.putfield i, 3)) (hq : pc + 3 = q) (ha : n0 ≤ a) (r : ∀ T' h', St p l e R s m args below meth c n0 T' h' k n → Wr h h' a (Jvm.RoadKit.slotOf Z O f d) v → Goes p e below G (T'.setTop (mkF m q L st))) : Goes p e below G (T.setTop (mkF m pc L (v :: .ref a :: st))) := by
  obtain ⟨hx, hZ, hown, hby, -, -, -, hnm⟩ := C
  obtain ⟨_, _, _, X, hF, eT, h1, h2⟩ := X
  subst hq
  obtain ⟨T', h', X', e', W', st'⟩ := putF X hx hZ hown w via eT F E (Ly.imp id fun z => ⟨z.1, z.2.1, hnm.trans z.2.2⟩) wi hty hnn hff (g := mkF m pc L (v :: .ref a :: st)) rfl rfl (hb hby hd)
  exact go_st st' (r T' h' ⟨_, _, _, X', Fr.snoc X' hF ha, e', h1, h2⟩ W')
theorem g_putFN (C : Cx p s m meth c Z own bytes ml rt mn) (X : St p l e R s m args below meth c n0 T h k n) {R0 O f d K : String} {i kk : Nat} {ty : FieldType} {a : Addr} {v v' old : Value} (w : (Cond.fieldLink own i R0 f d).before a0 Z = true) (via : Via Z R0 O f d) (F : Fld Z h a O f d old) (E : Exa Z h a K) (Ly : (Cond.lays K O f d).before a0 Z = true ∨ ((Cond.laysFinal K O f d).before a0 Z = true ∧ own = O ∧ mn = "<init>")) (wi : (Cond.instantiable K kk).before a0 Z = true)
    (hty : parseFieldDescriptor d = some ty) (hnn : narrow ty v = v') (hff : fits ty v' = true) (hd : decode bytes pc = .ok (.putfield i, 3)) (hq : pc + 3 = q) (ha : n0 ≤ a) (r : ∀ T' h', St p l e R s m args below meth c n0 T' h' k n → Wr h h' a (Jvm.RoadKit.slotOf Z O f d) v' → Goes p e below G (T'.setTop (mkF m q L st))) : Goes p e below G (T.setTop (mkF m pc L (v :: .ref a :: st))) := by
  obtain ⟨hx, hZ, hown, hby, -, -, -, hnm⟩ := C
  obtain ⟨_, _, _, X, hF, eT, h1, h2⟩ := X
  subst hq
  obtain ⟨T', h', X', e', W', st'⟩ := putFN X hx hZ hown w via eT F E (Ly.imp id fun z => ⟨z.1, z.2.1, hnm.trans z.2.2⟩) wi hty hnn hff (g := mkF m pc L (v :: .ref a :: st)) rfl rfl (hb hby hd)
  exact go_st st' (r T' h' ⟨_, _, _, X', Fr.snoc X' hF ha, e', h1, h2⟩ W')
theorem g_new (C : Cx p s m meth c Z own bytes ml rt mn) (X : St p l e R s m args below meth c n0 T h k n) {K : String} {i z k' n' : Nat} (w : (Cond.classLink own i K).before a0 Z = true) (wi : (Cond.instantiable K z).before a0 Z = true) (wz : (Cond.initialized K).before a0 Z = true) (hd : decode bytes pc = .ok (.new i, 3)) (hq : pc + 3 = q) (hk : k + 1 = k') (hn : n + z = n') (hkR : k' ≤ R.cells) (hnR : n' ≤ R.slots)
    (r : ∀ T' h' a, a = h.size → St p l e R s m args below meth c n0 T' h' k' n' → Ext h h' → Exa Z h' a K → (∀ {O nm d : String} {ty : FieldType}, Laid Z a0 K O nm d → parseFieldDescriptor d = some ty → Fld Z h' a O nm d (defaultValue ty)) → Goes p e below G (T'.setTop (mkF m q L (.ref a :: st)))) : Goes p e below G (T.setTop (mkF m pc L st)) := by
  obtain ⟨hx, hZ, hown, hby, -⟩ := C
  obtain ⟨_, _, _, X, hF, eT, h1, h2⟩ := X
  subst hq hk hn
  obtain ⟨T', h', X', e', E', A', D', -, st'⟩ := newO X hx hZ hown w wi wz eT (g := mkF m pc L st) rfl (hb hby hd) (Nat.le_trans (Nat.add_le_add_right h1 1) hkR) (Nat.le_trans (Nat.add_le_add_right h2 z) hnR)
  exact go_st st' (r T' h' _ rfl ⟨_, _, _, X', hF, e', Nat.add_le_add_right h1 1, Nat.add_le_add_right h2 z⟩ E' A' D')
theorem g_newP (C : Cx p s m meth c Z own bytes ml rt mn) (X : St p l e R s m args below meth c n0 T h k n) {aty : ArrayType} {ty : FieldType} {z : Int32} {cap k' n' : Nat} (w : (Cond.arrayClass ty).before a0 Z = true) (hty : newarray.typeOf aty = ty) (hd : decode bytes pc = .ok (.newarray aty, 2)) (hq : pc + 2 = q) (hz : ¬ z < 0) (hcap : z.toNatClampNeg ≤ cap) (hcb : cap * 8 ≤ 536870912) (hk : k + 1 = k') (hn : n + cap = n') (hkR : k' ≤ R.cells) (hnR : n' ≤ R.slots)
    (r : ∀ T' h' cA a, a = h.size → St p l e R s m args below meth c n0 T' h' k' n' → Ext h h' → Arv Z h' a cA ty z [] (defaultValue ty) → Goes p e below G (T'.setTop (mkF m q L (.ref a :: st)))) : Goes p e below G (T.setTop (mkF m pc L (.int z :: st))) := by
  obtain ⟨hx, hZ, hown, hby, -⟩ := C
  obtain ⟨_, _, _, X, hF, eT, h1, h2⟩ := X
  subst hq hk hn hty
  obtain ⟨T', h', cA, X', e', E', A', st'⟩ := newP X hx hZ w eT (g := mkF m pc L (.int z :: st)) rfl (hb hby hd) rfl hz (cap := cap) hcap hcb (Nat.le_trans (Nat.add_le_add_right h1 1) hkR) (Nat.le_trans (Nat.add_le_add_right h2 cap) hnR)
  exact go_st st' (r T' h' cA _ rfl ⟨_, _, _, X', hF, e', Nat.add_le_add_right h1 1, Nat.add_le_add_right h2 cap⟩ E' (Arv.new A' hz))
theorem g_initO (C : Cx p s m meth c Z own bytes ml rt mn) (X : St p l e R s m args below meth c n0 T h k n) {i : Nat} {a : Addr} (w1 : (Cond.methodLink own i Lib.objectInit).before a0 Z = true) (w2 : (Cond.instanceMethod Lib.objectInit).before a0 Z = true) (w3 : (Cond.code Lib.objectInit ⟨#[0xb1]⟩ 1 none).before a0 Z = true) (hsz : L.size = ml) (hd : decode bytes pc = .ok (.invokespecial i, 3)) (hq : pc + 3 = q) (hf : 1 ≤ R.frames) (hW : (st.map fun v => v.category).sum + 12 ≤ R.locals)
    (r : ∀ T', St p l e R s m args below meth c n0 T' h k n → Goes p e below G (T'.setTop (mkF m q L st))) : Goes p e below G (T.setTop (mkF m pc L (.ref a :: st))) := by
  obtain ⟨hx, hZ, hown, hby, hml, -⟩ := C
  obtain ⟨_, _, _, X, hF, eT, h1, h2⟩ := X
  subst hq
  obtain ⟨T', X', e', st'⟩ := initO X hx hZ hown w1 w2 w3 eT (g := mkF m pc L (.ref a :: st)) rfl (hsz.trans hml.symm) rfl (hb hby hd) hf (W := (st.map fun v => v.category).sum) (by show 2 * 0 + _ ≤ _; omega) hW
  exact go_st st' (r T' ⟨_, _, _, X', hF, e', h1, h2⟩)
theorem g_iastore (C : Cx p s m meth c Z own bytes ml rt mn) (X : St p l e R s m args below meth c n0 T h k n) {a : Addr} {cA : ClassId} {z j : Int32} {vs vs' : List Value} {dv : Value} {i : Nat} {v : Int32} (V : Arv Z h a cA .int z vs dv) (hj : ¬ j < 0 ∧ j < z) (hi : j.toNatClampNeg = i) (hlt : i < vs.length) (hvs : vs.set i (.int v) = vs') (ha : n0 ≤ a) (hd : decode bytes pc = .ok (.iastore, 1)) (hq : pc + 1 = q)
    (r : ∀ T' h', St p l e R s m args below meth c n0 T' h' k n → Wr h h' a i (.int v) → Arv Z h' a cA .int z vs' dv → Goes p e below G (T'.setTop (mkF m q L st))) : Goes p e below G (T.setTop (mkF m pc L (.int v :: .int j :: .ref a :: st))) := by
  obtain ⟨hx, hZ, hown, hby, -⟩ := C
  obtain ⟨_, _, _, X, hF, eT, h1, h2⟩ := X
  subst hq hi hvs
  obtain ⟨cl, A, q1, Sz, q3, H, Gf⟩ := V
  obtain ⟨T', h', X', e', W', st'⟩ := stI X hx hZ eT A (j := j) (inb_of Sz hj) (g := mkF m pc L (.int v :: .int j :: .ref a :: st)) rfl rfl (hb hby hd)
  exact go_st st' (r T' h' ⟨_, _, _, X', Fr.snoc X' hF ha, e', h1, h2⟩ W' (Arv.set A q1 Sz q3 H Gf rfl W' _ rfl hlt))
theorem g_castore (C : Cx p s m meth c Z own bytes ml rt mn) (X : St p l e R s m args below meth c n0 T h k n) {a : Addr} {cA : ClassId} {z j : Int32} {vs vs' : List Value} {dv : Value} {i : Nat} {v : Int32} (V : Arv Z h a cA .char z vs dv) (hj : ¬ j < 0 ∧ j < z) (hi : j.toNatClampNeg = i) (hlt : i < vs.length) (hvs : vs.set i (.int (nar .char v)) = vs') (ha : n0 ≤ a) (hd : decode bytes pc = .ok (.castore, 1)) (hq : pc + 1 = q)
    (r : ∀ T' h', St p l e R s m args below meth c n0 T' h' k n → Wr h h' a i (.int (nar .char v)) → Arv Z h' a cA .char z vs' dv → Goes p e below G (T'.setTop (mkF m q L st))) : Goes p e below G (T.setTop (mkF m pc L (.int v :: .int j :: .ref a :: st))) := by
  obtain ⟨hx, hZ, hown, hby, -⟩ := C
  obtain ⟨_, _, _, X, hF, eT, h1, h2⟩ := X
  subst hq hi hvs
  obtain ⟨cl, A, q1, Sz, q3, H, Gf⟩ := V
  obtain ⟨T', h', X', e', W', st'⟩ := stC X hx hZ eT A (j := j) (inb_of Sz hj) (g := mkF m pc L (.int v :: .int j :: .ref a :: st)) rfl rfl (hb hby hd)
  exact go_st st' (r T' h' ⟨_, _, _, X', Fr.snoc X' hF ha, e', h1, h2⟩ W' (Arv.set A q1 Sz q3 H Gf (fits_nar_char _) W' _ rfl hlt))
theorem g_bastore (C : Cx p s m meth c Z own bytes ml rt mn) (X : St p l e R s m args below meth c n0 T h k n) {a : Addr} {cA : ClassId} {z j : Int32} {vs vs' : List Value} {dv : Value} {i : Nat} {v : Int32} (V : Arv Z h a cA .byte z vs dv) (hj : ¬ j < 0 ∧ j < z) (hi : j.toNatClampNeg = i) (hlt : i < vs.length) (hvs : vs.set i (.int (nar .byte v)) = vs') (ha : n0 ≤ a) (hd : decode bytes pc = .ok (.bastore, 1)) (hq : pc + 1 = q)
    (r : ∀ T' h', St p l e R s m args below meth c n0 T' h' k n → Wr h h' a i (.int (nar .byte v)) → Arv Z h' a cA .byte z vs' dv → Goes p e below G (T'.setTop (mkF m q L st))) : Goes p e below G (T.setTop (mkF m pc L (.int v :: .int j :: .ref a :: st))) := by
  obtain ⟨hx, hZ, hown, hby, -⟩ := C
  obtain ⟨_, _, _, X, hF, eT, h1, h2⟩ := X
  subst hq hi hvs
  obtain ⟨cl, A, q1, Sz, q3, H, Gf⟩ := V
  obtain ⟨T', h', X', e', W', st'⟩ := stB X hx hZ eT A (j := j) (inb_of Sz hj) (g := mkF m pc L (.int v :: .int j :: .ref a :: st)) rfl rfl (hb hby hd)
  exact go_st st' (r T' h' ⟨_, _, _, X', Fr.snoc X' hF ha, e', h1, h2⟩ W' (Arv.set A q1 Sz q3 H Gf (fits_nar_byte _) W' _ rfl hlt))
theorem g_zastore (C : Cx p s m meth c Z own bytes ml rt mn) (X : St p l e R s m args below meth c n0 T h k n) {a : Addr} {cA : ClassId} {z j : Int32} {vs vs' : List Value} {dv : Value} {i : Nat} {v : Int32} (V : Arv Z h a cA .boolean z vs dv) (hj : ¬ j < 0 ∧ j < z) (hi : j.toNatClampNeg = i) (hlt : i < vs.length) (hvs : vs.set i (.int (nar .boolean v)) = vs') (ha : n0 ≤ a) (hd : decode bytes pc = .ok (.bastore, 1)) (hq : pc + 1 = q)
    (r : ∀ T' h', St p l e R s m args below meth c n0 T' h' k n → Wr h h' a i (.int (nar .boolean v)) → Arv Z h' a cA .boolean z vs' dv → Goes p e below G (T'.setTop (mkF m q L st))) : Goes p e below G (T.setTop (mkF m pc L (.int v :: .int j :: .ref a :: st))) := by
  obtain ⟨hx, hZ, hown, hby, -⟩ := C
  obtain ⟨_, _, _, X, hF, eT, h1, h2⟩ := X
  subst hq hi hvs
  obtain ⟨cl, A, q1, Sz, q3, H, Gf⟩ := V
  obtain ⟨T', h', X', e', W', st'⟩ := stZ X hx hZ eT A (j := j) (inb_of Sz hj) (g := mkF m pc L (.int v :: .int j :: .ref a :: st)) rfl rfl (hb hby hd)
  exact go_st st' (r T' h' ⟨_, _, _, X', Fr.snoc X' hF ha, e', h1, h2⟩ W' (Arv.set A q1 Sz q3 H Gf (fits_nar_bool _) W' _ rfl hlt))
theorem g_lastore (C : Cx p s m meth c Z own bytes ml rt mn) (X : St p l e R s m args below meth c n0 T h k n) {a : Addr} {cA : ClassId} {z j : Int32} {vs vs' : List Value} {dv : Value} {i : Nat} {v : Int64} (V : Arv Z h a cA .long z vs dv) (hj : ¬ j < 0 ∧ j < z) (hi : j.toNatClampNeg = i) (hlt : i < vs.length) (hvs : vs.set i (.long v) = vs') (ha : n0 ≤ a) (hd : decode bytes pc = .ok (.lastore, 1)) (hq : pc + 1 = q)
    (r : ∀ T' h', St p l e R s m args below meth c n0 T' h' k n → Wr h h' a i (.long v) → Arv Z h' a cA .long z vs' dv → Goes p e below G (T'.setTop (mkF m q L st))) : Goes p e below G (T.setTop (mkF m pc L (.long v :: .int j :: .ref a :: st))) := by
  obtain ⟨hx, hZ, hown, hby, -⟩ := C
  obtain ⟨_, _, _, X, hF, eT, h1, h2⟩ := X
  subst hq hi hvs
  obtain ⟨cl, A, q1, Sz, q3, H, Gf⟩ := V
  obtain ⟨T', h', X', e', W', st'⟩ := stJ X hx hZ eT A (j := j) (inb_of Sz hj) (g := mkF m pc L (.long v :: .int j :: .ref a :: st)) rfl rfl (hb hby hd)
  exact go_st st' (r T' h' ⟨_, _, _, X', Fr.snoc X' hF ha, e', h1, h2⟩ W' (Arv.set A q1 Sz q3 H Gf rfl W' _ rfl hlt))
theorem g_dastore (C : Cx p s m meth c Z own bytes ml rt mn) (X : St p l e R s m args below meth c n0 T h k n) {a : Addr} {cA : ClassId} {z j : Int32} {vs vs' : List Value} {dv : Value} {i : Nat} {v : UInt64} (V : Arv Z h a cA .double z vs dv) (hj : ¬ j < 0 ∧ j < z) (hi : j.toNatClampNeg = i) (hlt : i < vs.length) (hvs : vs.set i (.double v) = vs') (ha : n0 ≤ a) (hd : decode bytes pc = .ok (.dastore, 1)) (hq : pc + 1 = q)
    (r : ∀ T' h', St p l e R s m args below meth c n0 T' h' k n → Wr h h' a i (.double v) → Arv Z h' a cA .double z vs' dv → Goes p e below G (T'.setTop (mkF m q L st))) : Goes p e below G (T.setTop (mkF m pc L (.double v :: .int j :: .ref a :: st))) := by
  obtain ⟨hx, hZ, hown, hby, -⟩ := C
  obtain ⟨_, _, _, X, hF, eT, h1, h2⟩ := X
  subst hq hi hvs
  obtain ⟨cl, A, q1, Sz, q3, H, Gf⟩ := V
  obtain ⟨T', h', X', e', W', st'⟩ := stD X hx hZ eT A (j := j) (inb_of Sz hj) (g := mkF m pc L (.double v :: .int j :: .ref a :: st)) rfl rfl (hb hby hd)
  exact go_st st' (r T' h' ⟨_, _, _, X', Fr.snoc X' hF ha, e', h1, h2⟩ W' (Arv.set A q1 Sz q3 H Gf rfl W' _ rfl hlt))
theorem g_aastore (C : Cx p s m meth c Z own bytes ml rt mn) (X : St p l e R s m args below meth c n0 T h k n) {a : Addr} {cA : ClassId} {z j : Int32} {vs vs' : List Value} {dv v : Value} {ty : FieldType} {i : Nat} (V : Arv Z h a cA ty z vs dv) (hty : ty.isReference = true) (F : Sto Z h a v) (hfv : fits ty v = true) (hj : ¬ j < 0 ∧ j < z) (hi : j.toNatClampNeg = i) (hlt : i < vs.length) (hvs : vs.set i v = vs') (ha : n0 ≤ a) (hd : decode bytes pc = .ok (.aastore, 1)) (hq : pc + 1 = q)
    (r : ∀ T' h', St p l e R s m args below meth c n0 T' h' k n → Wr h h' a i v → Arv Z h' a cA ty z vs' dv → Goes p e below G (T'.setTop (mkF m q L st))) : Goes p e below G (T.setTop (mkF m pc L (v :: .int j :: .ref a :: st))) := by
  obtain ⟨hx, hZ, hown, hby, -⟩ := C
  obtain ⟨_, _, _, X, hF, eT, h1, h2⟩ := X
  subst hq hi hvs
  obtain ⟨cl, A, q1, Sz, q3, H, Gf⟩ := V
  obtain ⟨T', h', X', e', W', st'⟩ := stR X hx hZ eT A (j := j) (inb_of Sz hj) hty F (g := mkF m pc L (v :: .int j :: .ref a :: st)) rfl rfl (hb hby hd)
  exact go_st st' (r T' h' ⟨_, _, _, X', Fr.snoc X' hF ha, e', h1, h2⟩ W' (Arv.set A q1 Sz q3 H Gf hfv W' _ rfl hlt))
theorem g_iaload (C : Cx p s m meth c Z own bytes ml rt mn) (X : St p l e R s m args below meth c n0 T h k n) {a : Addr} {cA : ClassId} {z j : Int32} {vs : List Value} {dv w : Value}  (V : Arv Z h a cA .int z vs dv) (hj : ¬ j < 0 ∧ j < z) (hv : vs.getD j.toNatClampNeg dv = w) (hd : decode bytes pc = .ok (.iaload, 1)) (hq : pc + 1 = q) (r : Goes p e below G (T.setTop (mkF m q L (w :: st)))) : Goes p e below G (T.setTop (mkF m pc L (.int j :: .ref a :: st))) := by
  obtain ⟨hx, hZ, hown, hby, -⟩ := C
  obtain ⟨_, _, _, X, hF, eT, h1, h2⟩ := X
  subst hq
  obtain ⟨cl, A, q1, Sz, q3, H, Gf⟩ := V
  exact go_st (fun t k => X.iaload hx (j := j) (v := w) (by rw [eT]; exact A.1) (State.isArrayOf_alike hZ.alike A.2.1) A.2.2 (inb_of Sz hj) (H.at (inb_of Sz hj) hv) (g := mkF m pc L (.int j :: .ref a :: st)) rfl rfl (hb hby hd) t k) r
theorem g_caload (C : Cx p s m meth c Z own bytes ml rt mn) (X : St p l e R s m args below meth c n0 T h k n) {a : Addr} {cA : ClassId} {z j : Int32} {vs : List Value} {dv w : Value}  (V : Arv Z h a cA .char z vs dv) (hj : ¬ j < 0 ∧ j < z) (hv : vs.getD j.toNatClampNeg dv = w) (hd : decode bytes pc = .ok (.caload, 1)) (hq : pc + 1 = q) (r : Goes p e below G (T.setTop (mkF m q L (w :: st)))) : Goes p e below G (T.setTop (mkF m pc L (.int j :: .ref a :: st))) := by
  obtain ⟨hx, hZ, hown, hby, -⟩ := C
  obtain ⟨_, _, _, X, hF, eT, h1, h2⟩ := X
  subst hq
  obtain ⟨cl, A, q1, Sz, q3, H, Gf⟩ := V
  exact go_st (fun t k => X.caload hx (j := j) (v := w) (by rw [eT]; exact A.1) (State.isArrayOf_alike hZ.alike A.2.1) A.2.2 (inb_of Sz hj) (H.at (inb_of Sz hj) hv) (g := mkF m pc L (.int j :: .ref a :: st)) rfl rfl (hb hby hd) t k) r
theorem g_baload (C : Cx p s m meth c Z own bytes ml rt mn) (X : St p l e R s m args below meth c n0 T h k n) {a : Addr} {cA : ClassId} {z j : Int32} {vs : List Value} {dv w : Value}  (V : Arv Z h a cA .byte z vs dv) (hj : ¬ j < 0 ∧ j < z) (hv : vs.getD j.toNatClampNeg dv = w) (hd : decode bytes pc = .ok (.baload, 1)) (hq : pc + 1 = q) (r : Goes p e below G (T.setTop (mkF m q L (w :: st)))) : Goes p e below G (T.setTop (mkF m pc L (.int j :: .ref a :: st))) := by
  obtain ⟨hx, hZ, hown, hby, -⟩ := C
  obtain ⟨_, _, _, X, hF, eT, h1, h2⟩ := X
  subst hq
  obtain ⟨cl, A, q1, Sz, q3, H, Gf⟩ := V
  exact go_st (fun t k => X.baloadBytes hx (j := j) (v := w) (by rw [eT]; exact A.1) (State.isArrayOf_alike hZ.alike A.2.1) A.2.2 (inb_of Sz hj) (H.at (inb_of Sz hj) hv) (g := mkF m pc L (.int j :: .ref a :: st)) rfl rfl (hb hby hd) t k) r
theorem g_zaload (C : Cx p s m meth c Z own bytes ml rt mn) (X : St p l e R s m args below meth c n0 T h k n) {a : Addr} {cA : ClassId} {z j : Int32} {vs : List Value} {dv w : Value}  (V : Arv Z h a cA .boolean z vs dv) (hj : ¬ j < 0 ∧ j < z) (hv : vs.getD j.toNatClampNeg dv = w) (hd : decode bytes pc = .ok (.baload, 1)) (hq : pc + 1 = q) (r : Goes p e below G (T.setTop (mkF m q L (w :: st)))) : Goes p e below G (T.setTop (mkF m pc L (.int j :: .ref a :: st))) := by
  obtain ⟨hx, hZ, hown, hby, -⟩ := C
  obtain ⟨_, _, _, X, hF, eT, h1, h2⟩ := X
  subst hq
  obtain ⟨cl, A, q1, Sz, q3, H, Gf⟩ := V
  exact go_st (fun t k => X.baloadBooleans hx (j := j) (v := w) (by rw [eT]; exact A.1) (State.isArrayOf_alike hZ.alike A.2.1) A.2.2 (inb_of Sz hj) (H.at (inb_of Sz hj) hv) (g := mkF m pc L (.int j :: .ref a :: st)) rfl rfl (hb hby hd) t k) r
theorem g_laload (C : Cx p s m meth c Z own bytes ml rt mn) (X : St p l e R s m args below meth c n0 T h k n) {a : Addr} {cA : ClassId} {z j : Int32} {vs : List Value} {dv w : Value}  (V : Arv Z h a cA .long z vs dv) (hj : ¬ j < 0 ∧ j < z) (hv : vs.getD j.toNatClampNeg dv = w) (hd : decode bytes pc = .ok (.laload, 1)) (hq : pc + 1 = q) (r : Goes p e below G (T.setTop (mkF m q L (w :: st)))) : Goes p e below G (T.setTop (mkF m pc L (.int j :: .ref a :: st))) := by
  obtain ⟨hx, hZ, hown, hby, -⟩ := C
  obtain ⟨_, _, _, X, hF, eT, h1, h2⟩ := X
  subst hq
  obtain ⟨cl, A, q1, Sz, q3, H, Gf⟩ := V
  exact go_st (fun t k => X.laload hx (j := j) (v := w) (by rw [eT]; exact A.1) (State.isArrayOf_alike hZ.alike A.2.1) A.2.2 (inb_of Sz hj) (H.at (inb_of Sz hj) hv) (g := mkF m pc L (.int j :: .ref a :: st)) rfl rfl (hb hby hd) t k) r
theorem g_daload (C : Cx p s m meth c Z own bytes ml rt mn) (X : St p l e R s m args below meth c n0 T h k n) {a : Addr} {cA : ClassId} {z j : Int32} {vs : List Value} {dv w : Value}  (V : Arv Z h a cA .double z vs dv) (hj : ¬ j < 0 ∧ j < z) (hv : vs.getD j.toNatClampNeg dv = w) (hd : decode bytes pc = .ok (.daload, 1)) (hq : pc + 1 = q) (r : Goes p e below G (T.setTop (mkF m q L (w :: st)))) : Goes p e below G (T.setTop (mkF m pc L (.int j :: .ref a :: st))) := by
  obtain ⟨hx, hZ, hown, hby, -⟩ := C
  obtain ⟨_, _, _, X, hF, eT, h1, h2⟩ := X
  subst hq
  obtain ⟨cl, A, q1, Sz, q3, H, Gf⟩ := V
  exact go_st (fun t k => X.daload hx (j := j) (v := w) (by rw [eT]; exact A.1) (State.isArrayOf_alike hZ.alike A.2.1) A.2.2 (inb_of Sz hj) (H.at (inb_of Sz hj) hv) (g := mkF m pc L (.int j :: .ref a :: st)) rfl rfl (hb hby hd) t k) r
theorem g_aaload (C : Cx p s m meth c Z own bytes ml rt mn) (X : St p l e R s m args below meth c n0 T h k n) {a : Addr} {cA : ClassId} {z j : Int32} {vs : List Value} {dv w : Value} {ty : FieldType} (hty : ty.isReference = true) (V : Arv Z h a cA ty z vs dv) (hj : ¬ j < 0 ∧ j < z) (hv : vs.getD j.toNatClampNeg dv = w) (hd : decode bytes pc = .ok (.aaload, 1)) (hq : pc + 1 = q) (r : Goes p e below G (T.setTop (mkF m q L (w :: st)))) : Goes p e below G (T.setTop (mkF m pc L (.int j :: .ref a :: st))) := by
  obtain ⟨hx, hZ, hown, hby, -⟩ := C
  obtain ⟨_, _, _, X, hF, eT, h1, h2⟩ := X
  subst hq
  obtain ⟨cl, A, q1, Sz, q3, H, Gf⟩ := V
  exact go_st (fun t k => X.aaload hx (j := j) (v := w) (by rw [eT]; exact A.1) (State.isArrayOf_alike hZ.alike A.2.1) hty A.2.2 (inb_of Sz hj) (H.at (inb_of Sz hj) hv) (g := mkF m pc L (.int j :: .ref a :: st)) rfl rfl (hb hby hd) t k) r
theorem g_alen (C : Cx p s m meth c Z own bytes ml rt mn) (X : St p l e R s m args below meth c n0 T h k n) {a : Addr} {cA : ClassId} {z : Int32} {vs : List Value} {dv : Value} {ty : FieldType} (V : Arv Z h a cA ty z vs dv) (hd : decode bytes pc = .ok (.arraylength, 1)) (hq : pc + 1 = q) (r : Goes p e below G (T.setTop (mkF m q L (.int z :: st)))) : Goes p e below G (T.setTop (mkF m pc L (.ref a :: st))) := by
  obtain ⟨hx, hZ, hown, hby, -⟩ := C
  obtain ⟨_, _, _, X, hF, eT, h1, h2⟩ := X
  subst hq
  obtain ⟨cl, A, q1, Sz, q3, H, Gf⟩ := V
  exact go_st (fun t k => X.arraylength hx (by rw [eT]; exact A.1) (State.isArrayOf_alike hZ.alike A.2.1) (g := mkF m pc L (.ref a :: st)) rfl rfl (hb hby hd) t (by rw [len_of Sz q3]; exact k)) r
theorem g_newR (C : Cx p s m meth c Z own bytes ml rt mn) (X : St p l e R s m args below meth c n0 T h k n) {K : String} {i cap k' n' : Nat} {z : Int32} (w1 : (Cond.classLink own i K).before a0 Z = true) (w2 : (Cond.arrayOver (.object K)).before a0 Z = true) (hd : decode bytes pc = .ok (.anewarray i, 3)) (hq : pc + 3 = q) (hz : ¬ z < 0) (hcap : z.toNatClampNeg ≤ cap) (hcb : cap * 8 ≤ 536870912) (hk : k + 1 = k') (hn : n + cap = n') (hkR : k' ≤ R.cells) (hnR : n' ≤ R.slots)
    (r : ∀ T' h' cA a, a = h.size → St p l e R s m args below meth c n0 T' h' k' n' → Ext h h' → Arv Z h' a cA (.object K) z [] .null → Ovr Z cA K → Goes p e below G (T'.setTop (mkF m q L (.ref a :: st)))) : Goes p e below G (T.setTop (mkF m pc L (.int z :: st))) := by
  obtain ⟨hx, hZ, hown, hby, -⟩ := C
  obtain ⟨_, _, _, X, hF, eT, h1, h2⟩ := X
  subst hq hk hn
  obtain ⟨T', h', cA, X', e', E', A', O', st'⟩ := newR X hx hZ hown w1 w2 eT (g := mkF m pc L (.int z :: st)) rfl (hb hby hd) rfl hz (cap := cap) hcap hcb (Nat.le_trans (Nat.add_le_add_right h1 1) hkR) (Nat.le_trans (Nat.add_le_add_right h2 cap) hnR)
  exact go_st st' (r T' h' cA _ rfl ⟨_, _, _, X', hF, e', Nat.add_le_add_right h1 1, Nat.add_le_add_right h2 cap⟩ E' (Arv.new A' hz) O')
theorem g_castY (C : Cx p s m meth c Z own bytes ml rt mn) (X : St p l e R s m args below meth c n0 T h k n) {K : String} {i : Nat} {a : Addr} (w : (Cond.classLink own i K).before a0 Z = true) (I : Ins Z h a K true) (hd : decode bytes pc = .ok (.checkcast i, 3)) (hq : pc + 3 = q) (r : ∀ T', St p l e R s m args below meth c n0 T' h k n → Goes p e below G (T'.setTop (mkF m q L (.ref a :: st)))) : Goes p e below G (T.setTop (mkF m pc L (.ref a :: st))) := by
  obtain ⟨hx, hZ, hown, hby, -⟩ := C
  obtain ⟨_, _, _, X, hF, eT, h1, h2⟩ := X
  subst hq
  obtain ⟨T', X', e', st'⟩ := castY X hx hZ hown w eT I (g := mkF m pc L (.ref a :: st)) rfl rfl (hb hby hd)
  exact go_st st' (r T' ⟨_, _, _, X', hF, e', h1, h2⟩)
theorem g_instY (C : Cx p s m meth c Z own bytes ml rt mn) (X : St p l e R s m args below meth c n0 T h k n) {K : String} {i : Nat} {a : Addr} (w : (Cond.classLink own i K).before a0 Z = true) (I : Ins Z h a K true) (hd : decode bytes pc = .ok (.instanceof i, 3)) (hq : pc + 3 = q) (r : ∀ T', St p l e R s m args below meth c n0 T' h k n → Goes p e below G (T'.setTop (mkF m q L (.int 1 :: st)))) : Goes p e below G (T.setTop (mkF m pc L (.ref a :: st))) := by
  obtain ⟨hx, hZ, hown, hby, -⟩ := C
  obtain ⟨_, _, _, X, hF, eT, h1, h2⟩ := X
  subst hq
  obtain ⟨T', X', e', st'⟩ := instY X hx hZ hown w eT I (g := mkF m pc L (.ref a :: st)) rfl rfl (hb hby hd)
  exact go_st st' (r T' ⟨_, _, _, X', hF, e', h1, h2⟩)
theorem g_instNo (C : Cx p s m meth c Z own bytes ml rt mn) (X : St p l e R s m args below meth c n0 T h k n) {K K' : String} {i : Nat} {a : Addr} (w : (Cond.classLink own i K).before a0 Z = true) (E : Exa Z h a K') (F : ∃ c t, Z.vm.findClass K' = some c ∧ Z.vm.findClass K = some t ∧ Z.vm.assignable c t = false) (hd : decode bytes pc = .ok (.instanceof i, 3)) (hq : pc + 3 = q) (r : ∀ T', St p l e R s m args below meth c n0 T' h k n → Goes p e below G (T'.setTop (mkF m q L (.int 0 :: st)))) : Goes p e below G (T.setTop (mkF m pc L (.ref a :: st))) := by
  obtain ⟨hx, hZ, hown, hby, -⟩ := C
  obtain ⟨_, _, _, X, hF, eT, h1, h2⟩ := X
  subst hq
  obtain ⟨T', X', e', st'⟩ := instNo X hx hZ hown w eT E F (g := mkF m pc L (.ref a :: st)) rfl rfl (hb hby hd)
  exact go_st st' (r T' ⟨_, _, _, X', hF, e', h1, h2⟩)
theorem g_instNull (C : Cx p s m meth c Z own bytes ml rt mn) (X : St p l e R s m args below meth c n0 T h k n) {i : Nat} (hd : decode bytes pc = .ok (.instanceof i, 3)) (hq : pc + 3 = q) (r : Goes p e below G (T.setTop (mkF m q L (.int 0 :: st)))) : Goes p e below G (T.setTop (mkF m pc L (.null :: st))) := by
  obtain ⟨hx, hZ, hown, hby, -⟩ := C
  obtain ⟨_, _, _, X, hF, eT, h1, h2⟩ := X
  subst hq
  exact go_st (fun t k => X.instanceofNull hx (g := mkF m pc L (.null :: st)) rfl rfl (hb hby hd) t k) r
theorem g_castNull (C : Cx p s m meth c Z own bytes ml rt mn) (X : St p l e R s m args below meth c n0 T h k n) {i : Nat} (hd : decode bytes pc = .ok (.checkcast i, 3)) (hq : pc + 3 = q) (r : Goes p e below G (T.setTop (mkF m q L (.null :: st)))) : Goes p e below G (T.setTop (mkF m pc L (.null :: st))) := by
  obtain ⟨hx, hZ, hown, hby, -⟩ := C
  obtain ⟨_, _, _, X, hF, eT, h1, h2⟩ := X
  subst hq
  exact go_st (fun t k => X.checkcastNull hx (g := mkF m pc L (.null :: st)) rfl rfl (hb hby hd) t k) r
theorem g_getClass (C : Cx p s m meth c Z own bytes ml rt mn) (X : St p l e R s m args below meth c n0 T h k n) {K : String} {i : Nat} {a mr : Addr} (w1 : (Cond.methodLink own i ⟨"java/lang/Object", "getClass", "()Ljava/lang/Class;"⟩).before a0 Z = true) (w2 : (Cond.declares ⟨"java/lang/Object", "getClass", "()Ljava/lang/Class;"⟩).before a0 Z = true) (w4 : (Cond.selects K ⟨"java/lang/Object", "getClass", "()Ljava/lang/Class;"⟩ ⟨"java/lang/Object", "getClass", "()Ljava/lang/Class;"⟩).before a0 Z = true)
    (w5 : (Cond.instanceMethod ⟨"java/lang/Object", "getClass", "()Ljava/lang/Class;"⟩).before a0 Z = true) (w6 : (Cond.native ⟨"java/lang/Object", "getClass", "()Ljava/lang/Class;"⟩).before a0 Z = true) (E : Exa Z h a K) (M : ∃ c k, Z.vm.findClass K = some c ∧ Z.vm.classes[c]? = some k ∧ k.mirror = some mr) (hsz : L.size = ml) (hd : decode bytes pc = .ok (.invokevirtual i, 3)) (hq : pc + 3 = q) (hf : 1 ≤ R.frames) (hl : (st.map fun v => v.category).sum + (nativeFrameWords "java/lang/Object" "getClass" 1 + 11) ≤ R.locals)
    (r : ∀ T', St p l e R s m args below meth c n0 T' h k n → Goes p e below G (T'.setTop (mkF m q L (.ref mr :: st)))) : Goes p e below G (T.setTop (mkF m pc L (.ref a :: st))) := by
  obtain ⟨hx, hZ, hown, hby, hml, -⟩ := C
  obtain ⟨_, _, _, X, hF, eT, h1, h2⟩ := X
  subst hq
  obtain ⟨cB, kB, i1, i2, i3⟩ := isOf hZ eT E
  obtain ⟨cc, kc, m1, m2, m3⟩ := M
  rw [hZ.alike.findClass] at i1
  cases i1.symm.trans m1
  obtain ⟨k', q, ek⟩ := hZ.alike.2.2 _ _ m2
  obtain ⟨vm', X', st'⟩ := X.getClassOf hx hown (mvT hZ w1) (mvT hZ w2) (notFace_of_selects (args := #[]) (mvT hZ w4)) (mvT hZ w4) (mvT hZ w5) (mvT hZ w6) (by rw [hZ.alike.findClass]; exact m1) i3 q (by rw [ek]; exact m3) (g := mkF m pc L (.ref a :: st)) rfl (hsz.trans hml.symm) rfl (hb hby hd) hf (by show 2 * 0 + _ + _ ≤ _; omega)
  exact go_st st' (r _ ⟨_, _, _, X', hF, eT, h1, h2⟩)
theorem g_callSb (C : Cx p s m meth c Z own bytes ml rt mn) (X : St p l e R s m args below meth c n0 T h k n) {as' : Array Value} {argsL : List Value} {ps : List FieldType} {rt' : Option FieldType} {k' n' W kc ks : Nat} {QL : Option Value → Heap → List Loc → Prop} {y : MethodName} {i : Nat} (hy : y.cls ≠ "java/lang/invoke/MethodHandle" ∧ y.cls ≠ "java/lang/invoke/VarHandle") (w1 : (Cond.methodLink own i y).before a0 Z = true) (w2 : (Cond.static y).before a0 Z = true) {bts : ByteArray} {mxl : Nat} {rty : Option FieldType} (w8 : (Cond.code y bts mxl rty).before a0 Z = true) (w9 : (Cond.initialized y.cls).before a0 Z = true) (bk : Back l R p e below s args y 3 W (fun A a => a = as' ∧ A.U.heap = h ∧ A.cells + kc ≤ R.cells ∧ A.slots + ks ≤ R.slots) (fun A _ v B => ∃ L, QL v B.U.heap L ∧ B.locs = A.locs ++ L ∧ B.cells = A.cells + kc ∧ B.slots = A.slots + ks)) (hk : k + kc = k') (hn : n + ks = n') (hkR : k' ≤ R.cells) (hnR : n' ≤ R.slots) (hsz : L.size = ml) (hdd : parseMethodDescriptor y.desc = some ⟨ps, rt'⟩) (hlen : argsL.length = ps.length) (hst : st = argsL.reverse ++ rest) (has : argsL.toArray = as') (hW : (rest.map fun v => v.category).sum = W) (hd : decode bytes pc = .ok (.invokestatic i, 3)) (hq : pc + 3 = q)
    (r : ∀ v T' h' L', St p l e R s m args below meth c n0 T' h' k' n' ∨ ¬ Fr n0 L' → QL v h' L' → Goes p e below G (T'.setTop (mkF m q L (v.toList ++ rest)))) : Goes p e below G (T.setTop (mkF m pc L st)) := by
  obtain ⟨hx, hZ, hown, hby, hml, -⟩ := C
  obtain ⟨_, cells, slots, X, hF, eT, h1, h2⟩ := X
  subst hq hk hn has hst hW
  obtain ⟨_, _, ⟨T', Lo, kk, nn⟩, -, X', ⟨Lc, hQ, q1, q2, q3⟩, st'⟩ := Jvm.LawKit.callS X hx hown (mvT hZ w1) (mvT hZ w2) (mvT hZ w9) (mvT hZ w8) hy bk (g := mkF m pc L (argsL.reverse ++ rest)) rfl (hsz.trans hml.symm) (argsL := argsL) (rest := rest) (lenOf hdd hlen) rfl (by show 2 * 0 + _ ≤ _; omega) (hb hby hd) (fun _ _ => ⟨rfl, eT, Nat.le_trans (Nat.add_le_add_right h1 _) hkR, Nat.le_trans (Nat.add_le_add_right h2 _) hnR⟩)
  dsimp only [Pt.U, Pt.locs, Pt.cells, Pt.slots] at X' q1 q2 q3 st' hQ
  subst q1 q2 q3
  refine go_st st' (r _ T' _ Lc ?_ hQ)
  by_cases hFr : Fr n0 Lc
  · exact Or.inl ⟨_, _, _, X', Fr.app hF hFr, rfl, Nat.add_le_add_right h1 _, Nat.add_le_add_right h2 _⟩
  · exact Or.inr hFr
theorem g_callS1 (C : Cx p s m meth c Z own bytes ml rt mn) (X : St p l e R s m args below meth c n0 T h k n) {rm : Room} {as' : Array Value} {bts : ByteArray} {mxl : Nat} {rty : Option FieldType} {argsL : List Value} {ps : List FieldType} {rt' : Option FieldType} {k' n' W : Nat} {Q : Value → Heap → Prop} {y : MethodName} {i : Nat} (hy : y.cls ≠ "java/lang/invoke/MethodHandle" ∧ y.cls ≠ "java/lang/invoke/VarHandle") (w1 : (Cond.methodLink own i y).before a0 Z = true) (w2 : (Cond.static y).before a0 Z = true) (w8 : (Cond.code y bts mxl rty).before a0 Z = true) (w9 : (Cond.initialized y.cls).before a0 Z = true) (hM : Met1 l Z y bts mxl rty rm as' h n0 Q) (hf : rm.frames + 1 ≤ R.frames) (hl : W + (mxl + 11) + rm.locals ≤ R.locals) (hk : k + rm.cells = k') (hn : n + rm.slots = n') (hkR : k' ≤ R.cells) (hnR : n' ≤ R.slots) (hsz : L.size = ml) (hdd : parseMethodDescriptor y.desc = some ⟨ps, rt'⟩) (hlen : argsL.length = ps.length) (hst : st = argsL.reverse ++ rest) (has : argsL.toArray = as') (hW : (rest.map fun v => v.category).sum = W) (hd : decode bytes pc = .ok (.invokestatic i, 3)) (hq : pc + 3 = q)
    (r : ∀ w T' h', St p l e R s m args below meth c n0 T' h' k' n' → Q w h' → Goes p e below G (T'.setTop (mkF m q L (w :: rest)))) : Goes p e below G (T.setTop (mkF m pc L st)) := by
  have bk := backOf (Q := fun v h L => Fr n0 L ∧ (∃ w, v = some w ∧ Q w h)) (R := R) (p := p) (e := e) (below := below) (s := s) (args := args) (len := 3) (W := W) (hM []) C.2.1 w8 w9 hf hl
  refine g_callSb C X (QL := fun v h L => Fr n0 L ∧ (∃ w, v = some w ∧ Q w h)) hy w1 w2 w8 w9 bk hk hn hkR hnR hsz hdd hlen hst has hW hd hq ?_
  rintro v T' h' L' hX ⟨hFr, hQ⟩
  obtain ⟨w, rfl, hQ⟩ := hQ
  exact r w T' h' (hX.resolve_right fun z => z hFr) hQ
theorem g_callS0 (C : Cx p s m meth c Z own bytes ml rt mn) (X : St p l e R s m args below meth c n0 T h k n) {rm : Room} {as' : Array Value} {bts : ByteArray} {mxl : Nat} {rty : Option FieldType} {argsL : List Value} {ps : List FieldType} {rt' : Option FieldType} {k' n' W : Nat} {Q : Heap → Prop} {y : MethodName} {i : Nat} (hy : y.cls ≠ "java/lang/invoke/MethodHandle" ∧ y.cls ≠ "java/lang/invoke/VarHandle") (w1 : (Cond.methodLink own i y).before a0 Z = true) (w2 : (Cond.static y).before a0 Z = true) (w8 : (Cond.code y bts mxl rty).before a0 Z = true) (w9 : (Cond.initialized y.cls).before a0 Z = true) (hM : Met0 l Z y bts mxl rty rm as' h n0 Q) (hf : rm.frames + 1 ≤ R.frames) (hl : W + (mxl + 11) + rm.locals ≤ R.locals) (hk : k + rm.cells = k') (hn : n + rm.slots = n') (hkR : k' ≤ R.cells) (hnR : n' ≤ R.slots) (hsz : L.size = ml) (hdd : parseMethodDescriptor y.desc = some ⟨ps, rt'⟩) (hlen : argsL.length = ps.length) (hst : st = argsL.reverse ++ rest) (has : argsL.toArray = as') (hW : (rest.map fun v => v.category).sum = W) (hd : decode bytes pc = .ok (.invokestatic i, 3)) (hq : pc + 3 = q)
    (r : ∀ T' h', St p l e R s m args below meth c n0 T' h' k' n' → Q h' → Goes p e below G (T'.setTop (mkF m q L rest))) : Goes p e below G (T.setTop (mkF m pc L st)) := by
  have bk := backOf (Q := fun v h L => Fr n0 L ∧ (v = none ∧ Q h)) (R := R) (p := p) (e := e) (below := below) (s := s) (args := args) (len := 3) (W := W) (hM []) C.2.1 w8 w9 hf hl
  refine g_callSb C X (QL := fun v h L => Fr n0 L ∧ (v = none ∧ Q h)) hy w1 w2 w8 w9 bk hk hn hkR hnR hsz hdd hlen hst has hW hd hq ?_
  rintro v T' h' L' hX ⟨hFr, hQ⟩
  obtain ⟨rfl, hQ⟩ := hQ
  exact r T' h' (hX.resolve_right fun z => z hFr) hQ
theorem g_callIb (C : Cx p s m meth c Z own bytes ml rt mn) (X : St p l e R s m args below meth c n0 T h k n) {as' : Array Value} {argsL : List Value} {ps : List FieldType} {rt' : Option FieldType} {k' n' W kc ks : Nat} {QL : Option Value → Heap → List Loc → Prop} {y : MethodName} {i : Nat} {a : Addr} (hy : y.cls ≠ "java/lang/invoke/MethodHandle" ∧ y.cls ≠ "java/lang/invoke/VarHandle") (hy1 : y.name = "<init>") (w1 : (Cond.methodLink own i y).before a0 Z = true) (w2 : (Cond.instanceMethod y).before a0 Z = true) {bts : ByteArray} {mxl : Nat} (w8 : (Cond.code y bts mxl none).before a0 Z = true) (bk : Back l R p e below s args y 3 W (fun A a => a = as' ∧ A.U.heap = h ∧ A.cells + kc ≤ R.cells ∧ A.slots + ks ≤ R.slots) (fun A _ v B => ∃ L, QL v B.U.heap L ∧ B.locs = A.locs ++ L ∧ B.cells = A.cells + kc ∧ B.slots = A.slots + ks)) (hk : k + kc = k') (hn : n + ks = n') (hkR : k' ≤ R.cells) (hnR : n' ≤ R.slots) (hsz : L.size = ml) (hdd : parseMethodDescriptor y.desc = some ⟨ps, rt'⟩) (hlen : argsL.length = ps.length) (hst : st = argsL.reverse ++ .ref a :: rest) (has : (.ref a :: argsL).toArray = as') (hW : (rest.map fun v => v.category).sum = W) (hd : decode bytes pc = .ok (.invokespecial i, 3)) (hq : pc + 3 = q)
    (r : ∀ v T' h' L', St p l e R s m args below meth c n0 T' h' k' n' ∨ ¬ Fr n0 L' → QL v h' L' → Goes p e below G (T'.setTop (mkF m q L (v.toList ++ rest)))) : Goes p e below G (T.setTop (mkF m pc L st)) := by
  obtain ⟨hx, hZ, hown, hby, hml, -⟩ := C
  obtain ⟨_, cells, slots, X, hF, eT, h1, h2⟩ := X
  subst hq hk hn has hst hW
  obtain ⟨_, _, ⟨T', Lo, kk, nn⟩, -, X', ⟨Lc, hQ, q1, q2, q3⟩, st'⟩ := X.specialBack hx hy1 hown (mvT hZ w1) (mvT hZ w2) (mvT hZ w8) hy bk (g := mkF m pc L (argsL.reverse ++ .ref a :: rest)) rfl (hsz.trans hml.symm) (Steps.refl _) (a := a) (argsL := argsL) (rest := rest) (lenOf hdd hlen) rfl (by show 2 * 0 + _ ≤ _; omega) (hb hby hd) (fun _ _ => ⟨rfl, eT, Nat.le_trans (Nat.add_le_add_right h1 _) hkR, Nat.le_trans (Nat.add_le_add_right h2 _) hnR⟩)
  dsimp only [Pt.U, Pt.locs, Pt.cells, Pt.slots] at X' q1 q2 q3 st' hQ
  subst q1 q2 q3
  refine go_tr st' (r _ T' _ Lc ?_ hQ)
  by_cases hFr : Fr n0 Lc
  · exact Or.inl ⟨_, _, _, X', Fr.app hF hFr, rfl, Nat.add_le_add_right h1 _, Nat.add_le_add_right h2 _⟩
  · exact Or.inr hFr
theorem g_callI0 (C : Cx p s m meth c Z own bytes ml rt mn) (X : St p l e R s m args below meth c n0 T h k n) {rm : Room} {as' : Array Value} {bts : ByteArray} {mxl : Nat} {argsL : List Value} {ps : List FieldType} {rt' : Option FieldType} {k' n' W : Nat} {Q : Heap → Prop} {y : MethodName} {i : Nat} {a : Addr} (hy : y.cls ≠ "java/lang/invoke/MethodHandle" ∧ y.cls ≠ "java/lang/invoke/VarHandle") (hy1 : y.name = "<init>") (w1 : (Cond.methodLink own i y).before a0 Z = true) (w2 : (Cond.instanceMethod y).before a0 Z = true) (w8 : (Cond.code y bts mxl none).before a0 Z = true) (w9 : (Cond.initialized y.cls).before a0 Z = true) (hM : Met0 l Z y bts mxl none rm as' h n0 Q) (hf : rm.frames + 1 ≤ R.frames) (hl : W + (mxl + 11) + rm.locals ≤ R.locals) (hk : k + rm.cells = k') (hn : n + rm.slots = n') (hkR : k' ≤ R.cells) (hnR : n' ≤ R.slots) (hsz : L.size = ml) (hdd : parseMethodDescriptor y.desc = some ⟨ps, rt'⟩) (hlen : argsL.length = ps.length) (hst : st = argsL.reverse ++ .ref a :: rest) (has : (.ref a :: argsL).toArray = as') (hW : (rest.map fun v => v.category).sum = W) (hd : decode bytes pc = .ok (.invokespecial i, 3)) (hq : pc + 3 = q)
    (r : ∀ T' h', St p l e R s m args below meth c n0 T' h' k' n' → Q h' → Goes p e below G (T'.setTop (mkF m q L rest))) : Goes p e below G (T.setTop (mkF m pc L st)) := by
  have bk := backOf (Q := fun v h L => Fr n0 L ∧ (v = none ∧ Q h)) (R := R) (p := p) (e := e) (below := below) (s := s) (args := args) (len := 3) (W := W) (hM []) C.2.1 w8 w9 hf hl
  refine g_callIb C X (QL := fun v h L => Fr n0 L ∧ (v = none ∧ Q h)) hy hy1 w1 w2 w8 bk hk hn hkR hnR hsz hdd hlen hst has hW hd hq ?_
  rintro v T' h' L' hX ⟨hFr, hQ⟩
  obtain ⟨rfl, hQ⟩ := hQ
  exact r T' h' (hX.resolve_right fun z => z hFr) hQ
theorem g_callVb (C : Cx p s m meth c Z own bytes ml rt mn) (X : St p l e R s m args below meth c n0 T h k n) {as' : Array Value} {argsL : List Value} {ps : List FieldType} {rt' : Option FieldType} {k' n' W kc ks : Nat} {QL : Option Value → Heap → List Loc → Prop} {y z : MethodName} {i : Nat} {a : Addr} {K : String} (hy : y.cls ≠ "java/lang/invoke/MethodHandle" ∧ y.cls ≠ "java/lang/invoke/VarHandle") (w1 : (Cond.methodLink own i y).before a0 Z = true) (w2 : (Cond.declares y).before a0 Z = true) (w3 : (Cond.selects K y z).before a0 Z = true) (w4 : (Cond.instanceMethod z).before a0 Z = true) (hnf : ∀ s' : State, Z.Warmed39 s'.vm → NotFace s' y) (E : Exa Z h a K) (bk : Back l R p e below s args z 3 W (fun A a => a = as' ∧ A.U.heap = h ∧ A.cells + kc ≤ R.cells ∧ A.slots + ks ≤ R.slots) (fun A _ v B => ∃ L, QL v B.U.heap L ∧ B.locs = A.locs ++ L ∧ B.cells = A.cells + kc ∧ B.slots = A.slots + ks)) (hk : k + kc = k') (hn : n + ks = n') (hkR : k' ≤ R.cells) (hnR : n' ≤ R.slots) (hsz : L.size = ml) (hdd : parseMethodDescriptor y.desc = some ⟨ps, rt'⟩) (hlen : argsL.length = ps.length) (hst : st = argsL.reverse ++ .ref a :: rest) (has : (.ref a :: argsL).toArray = as') (hW : (rest.map fun v => v.category).sum = W) (hd : decode bytes pc = .ok (.invokevirtual i, 3)) (hq : pc + 3 = q)
    (r : ∀ v T' h' L', St p l e R s m args below meth c n0 T' h' k' n' ∨ ¬ Fr n0 L' → QL v h' L' → Goes p e below G (T'.setTop (mkF m q L (v.toList ++ rest)))) : Goes p e below G (T.setTop (mkF m pc L st)) := by
  obtain ⟨hx, hZ, hown, hby, hml, -⟩ := C
  obtain ⟨_, cells, slots, X, hF, eT, h1, h2⟩ := X
  subst hq hk hn has hst hW
  obtain ⟨cB, kB, qa, qb, qc⟩ := isOf hZ eT E
  obtain ⟨_, _, ⟨T', Lo, kk, nn⟩, -, X', ⟨Lc, hQ, q1, q2, q3⟩, st'⟩ := X.virtualBack hx hown (mvT hZ w1) (mvT hZ w2) (hnf s hZ) (mvT hZ w3) (mvT hZ w4) hy bk qa qc (g := mkF m pc L (argsL.reverse ++ .ref a :: rest)) rfl (hsz.trans hml.symm) (Steps.refl _) (argsL := argsL) (rest := rest) (lenOf hdd hlen) rfl (by show 2 * 0 + _ ≤ _; omega) (hb hby hd) (fun _ _ => ⟨rfl, eT, Nat.le_trans (Nat.add_le_add_right h1 _) hkR, Nat.le_trans (Nat.add_le_add_right h2 _) hnR⟩)
  dsimp only [Pt.U, Pt.locs, Pt.cells, Pt.slots] at X' q1 q2 q3 st' hQ
  subst q1 q2 q3
  refine go_tr st' (r _ T' _ Lc ?_ hQ)
  by_cases hFr : Fr n0 Lc
  · exact Or.inl ⟨_, _, _, X', Fr.app hF hFr, rfl, Nat.add_le_add_right h1 _, Nat.add_le_add_right h2 _⟩
  · exact Or.inr hFr
theorem g_callV1 (C : Cx p s m meth c Z own bytes ml rt mn) (X : St p l e R s m args below meth c n0 T h k n) {rm : Room} {as' : Array Value} {bts : ByteArray} {mxl : Nat} {rty : Option FieldType} {argsL : List Value} {ps : List FieldType} {rt' : Option FieldType} {k' n' W : Nat} {Q : Value → Heap → Prop} {y z : MethodName} {i : Nat} {a : Addr} {K : String} (hy : y.cls ≠ "java/lang/invoke/MethodHandle" ∧ y.cls ≠ "java/lang/invoke/VarHandle") (w1 : (Cond.methodLink own i y).before a0 Z = true) (w2 : (Cond.declares y).before a0 Z = true) (w3 : (Cond.selects K y z).before a0 Z = true) (w4 : (Cond.instanceMethod z).before a0 Z = true) (hnf : ∀ s' : State, Z.Warmed39 s'.vm → NotFace s' y) (E : Exa Z h a K) (w8 : (Cond.code z bts mxl rty).before a0 Z = true) (w9 : (Cond.initialized z.cls).before a0 Z = true) (hM : Met1 l Z z bts mxl rty rm as' h n0 Q) (hf : rm.frames + 1 ≤ R.frames) (hl : W + (mxl + 11) + rm.locals ≤ R.locals) (hk : k + rm.cells = k') (hn : n + rm.slots = n') (hkR : k' ≤ R.cells) (hnR : n' ≤ R.slots) (hsz : L.size = ml) (hdd : parseMethodDescriptor y.desc = some ⟨ps, rt'⟩) (hlen : argsL.length = ps.length) (hst : st = argsL.reverse ++ .ref a :: rest) (has : (.ref a :: argsL).toArray = as') (hW : (rest.map fun v => v.category).sum = W) (hd : decode bytes pc = .ok (.invokevirtual i, 3)) (hq : pc + 3 = q)
    (r : ∀ w T' h', St p l e R s m args below meth c n0 T' h' k' n' → Q w h' → Goes p e below G (T'.setTop (mkF m q L (w :: rest)))) : Goes p e below G (T.setTop (mkF m pc L st)) := by
  have bk := backOf (Q := fun v h L => Fr n0 L ∧ (∃ w, v = some w ∧ Q w h)) (R := R) (p := p) (e := e) (below := below) (s := s) (args := args) (len := 3) (W := W) (hM []) C.2.1 w8 w9 hf hl
  refine g_callVb C X (QL := fun v h L => Fr n0 L ∧ (∃ w, v = some w ∧ Q w h)) hy w1 w2 w3 w4 hnf E bk hk hn hkR hnR hsz hdd hlen hst has hW hd hq ?_
  rintro v T' h' L' hX ⟨hFr, hQ⟩
  obtain ⟨w, rfl, hQ⟩ := hQ
  exact r w T' h' (hX.resolve_right fun z => z hFr) hQ
theorem g_callV0 (C : Cx p s m meth c Z own bytes ml rt mn) (X : St p l e R s m args below meth c n0 T h k n) {rm : Room} {as' : Array Value} {bts : ByteArray} {mxl : Nat} {rty : Option FieldType} {argsL : List Value} {ps : List FieldType} {rt' : Option FieldType} {k' n' W : Nat} {Q : Heap → Prop} {y z : MethodName} {i : Nat} {a : Addr} {K : String} (hy : y.cls ≠ "java/lang/invoke/MethodHandle" ∧ y.cls ≠ "java/lang/invoke/VarHandle") (w1 : (Cond.methodLink own i y).before a0 Z = true) (w2 : (Cond.declares y).before a0 Z = true) (w3 : (Cond.selects K y z).before a0 Z = true) (w4 : (Cond.instanceMethod z).before a0 Z = true) (hnf : ∀ s' : State, Z.Warmed39 s'.vm → NotFace s' y) (E : Exa Z h a K) (w8 : (Cond.code z bts mxl rty).before a0 Z = true) (w9 : (Cond.initialized z.cls).before a0 Z = true) (hM : Met0 l Z z bts mxl rty rm as' h n0 Q) (hf : rm.frames + 1 ≤ R.frames) (hl : W + (mxl + 11) + rm.locals ≤ R.locals) (hk : k + rm.cells = k') (hn : n + rm.slots = n') (hkR : k' ≤ R.cells) (hnR : n' ≤ R.slots) (hsz : L.size = ml) (hdd : parseMethodDescriptor y.desc = some ⟨ps, rt'⟩) (hlen : argsL.length = ps.length) (hst : st = argsL.reverse ++ .ref a :: rest) (has : (.ref a :: argsL).toArray = as') (hW : (rest.map fun v => v.category).sum = W) (hd : decode bytes pc = .ok (.invokevirtual i, 3)) (hq : pc + 3 = q)
    (r : ∀ T' h', St p l e R s m args below meth c n0 T' h' k' n' → Q h' → Goes p e below G (T'.setTop (mkF m q L rest))) : Goes p e below G (T.setTop (mkF m pc L st)) := by
  have bk := backOf (Q := fun v h L => Fr n0 L ∧ (v = none ∧ Q h)) (R := R) (p := p) (e := e) (below := below) (s := s) (args := args) (len := 3) (W := W) (hM []) C.2.1 w8 w9 hf hl
  refine g_callVb C X (QL := fun v h L => Fr n0 L ∧ (v = none ∧ Q h)) hy w1 w2 w3 w4 hnf E bk hk hn hkR hnR hsz hdd hlen hst has hW hd hq ?_
  rintro v T' h' L' hX ⟨hFr, hQ⟩
  obtain ⟨rfl, hQ⟩ := hQ
  exact r T' h' (hX.resolve_right fun z => z hFr) hQ
theorem g_callUb (C : Cx p s m meth c Z own bytes ml rt mn) (X : St p l e R s m args below meth c n0 T h k n) {as' : Array Value} {argsL : List Value} {ps : List FieldType} {rt' : Option FieldType} {k' n' W kc ks : Nat} {QL : Option Value → Heap → List Loc → Prop} {y z : MethodName} {i : Nat} {a : Addr} {K owner : String} (hy : owner ≠ "java/lang/invoke/MethodHandle" ∧ owner ≠ "java/lang/invoke/VarHandle") (w1 : (Cond.methodLink own i y).before a0 Z = true) (w2 : (Cond.sameMethod y.cls owner y.name y.desc).before a0 Z = true) (w2' : (Cond.declares ⟨owner, y.name, y.desc⟩).before a0 Z = true) (w3 : (Cond.selects K y z).before a0 Z = true) (w4 : (Cond.instanceMethod z).before a0 Z = true) (E : Exa Z h a K) (bk : Back l R p e below s args z 3 W (fun A a => a = as' ∧ A.U.heap = h ∧ A.cells + kc ≤ R.cells ∧ A.slots + ks ≤ R.slots) (fun A _ v B => ∃ L, QL v B.U.heap L ∧ B.locs = A.locs ++ L ∧ B.cells = A.cells + kc ∧ B.slots = A.slots + ks)) (hk : k + kc = k') (hn : n + ks = n') (hkR : k' ≤ R.cells) (hnR : n' ≤ R.slots) (hsz : L.size = ml) (hdd : parseMethodDescriptor y.desc = some ⟨ps, rt'⟩) (hlen : argsL.length = ps.length) (hst : st = argsL.reverse ++ .ref a :: rest) (has : (.ref a :: argsL).toArray = as') (hW : (rest.map fun v => v.category).sum = W) (hd : decode bytes pc = .ok (.invokevirtual i, 3)) (hq : pc + 3 = q)
    (r : ∀ v T' h' L', St p l e R s m args below meth c n0 T' h' k' n' ∨ ¬ Fr n0 L' → QL v h' L' → Goes p e below G (T'.setTop (mkF m q L (v.toList ++ rest)))) : Goes p e below G (T.setTop (mkF m pc L st)) := by
  obtain ⟨hx, hZ, hown, hby, hml, -⟩ := C
  obtain ⟨_, cells, slots, X, hF, eT, h1, h2⟩ := X
  subst hq hk hn has hst hW
  obtain ⟨cB, kB, qa, qb, qc⟩ := isOf hZ eT E
  obtain ⟨_, _, ⟨T', Lo, kk, nn⟩, -, X', ⟨Lc, hQ, q1, q2, q3⟩, st'⟩ := X.virtualBackUp hx hown (mvT hZ w1) (mvT hZ w2) (mvT hZ w2') hy (mvT hZ w3) (mvT hZ w4) bk qa qc (g := mkF m pc L (argsL.reverse ++ .ref a :: rest)) rfl (hsz.trans hml.symm) (Steps.refl _) (argsL := argsL) (rest := rest) (lenOf hdd hlen) rfl (by show 2 * 0 + _ ≤ _; omega) (hb hby hd) (fun _ _ => ⟨rfl, eT, Nat.le_trans (Nat.add_le_add_right h1 _) hkR, Nat.le_trans (Nat.add_le_add_right h2 _) hnR⟩)
  dsimp only [Pt.U, Pt.locs, Pt.cells, Pt.slots] at X' q1 q2 q3 st' hQ
  subst q1 q2 q3
  refine go_tr st' (r _ T' _ Lc ?_ hQ)
  by_cases hFr : Fr n0 Lc
  · exact Or.inl ⟨_, _, _, X', Fr.app hF hFr, rfl, Nat.add_le_add_right h1 _, Nat.add_le_add_right h2 _⟩
  · exact Or.inr hFr
theorem g_callU1 (C : Cx p s m meth c Z own bytes ml rt mn) (X : St p l e R s m args below meth c n0 T h k n) {rm : Room} {as' : Array Value} {bts : ByteArray} {mxl : Nat} {rty : Option FieldType} {argsL : List Value} {ps : List FieldType} {rt' : Option FieldType} {k' n' W : Nat} {Q : Value → Heap → Prop} {y z : MethodName} {i : Nat} {a : Addr} {K owner : String} (hy : owner ≠ "java/lang/invoke/MethodHandle" ∧ owner ≠ "java/lang/invoke/VarHandle") (w1 : (Cond.methodLink own i y).before a0 Z = true) (w2 : (Cond.sameMethod y.cls owner y.name y.desc).before a0 Z = true) (w2' : (Cond.declares ⟨owner, y.name, y.desc⟩).before a0 Z = true) (w3 : (Cond.selects K y z).before a0 Z = true) (w4 : (Cond.instanceMethod z).before a0 Z = true) (E : Exa Z h a K) (w8 : (Cond.code z bts mxl rty).before a0 Z = true) (w9 : (Cond.initialized z.cls).before a0 Z = true) (hM : Met1 l Z z bts mxl rty rm as' h n0 Q) (hf : rm.frames + 1 ≤ R.frames) (hl : W + (mxl + 11) + rm.locals ≤ R.locals) (hk : k + rm.cells = k') (hn : n + rm.slots = n') (hkR : k' ≤ R.cells) (hnR : n' ≤ R.slots) (hsz : L.size = ml) (hdd : parseMethodDescriptor y.desc = some ⟨ps, rt'⟩) (hlen : argsL.length = ps.length) (hst : st = argsL.reverse ++ .ref a :: rest) (has : (.ref a :: argsL).toArray = as') (hW : (rest.map fun v => v.category).sum = W) (hd : decode bytes pc = .ok (.invokevirtual i, 3)) (hq : pc + 3 = q)
    (r : ∀ w T' h', St p l e R s m args below meth c n0 T' h' k' n' → Q w h' → Goes p e below G (T'.setTop (mkF m q L (w :: rest)))) : Goes p e below G (T.setTop (mkF m pc L st)) := by
  have bk := backOf (Q := fun v h L => Fr n0 L ∧ (∃ w, v = some w ∧ Q w h)) (R := R) (p := p) (e := e) (below := below) (s := s) (args := args) (len := 3) (W := W) (hM []) C.2.1 w8 w9 hf hl
  refine g_callUb C X (QL := fun v h L => Fr n0 L ∧ (∃ w, v = some w ∧ Q w h)) hy w1 w2 w2' w3 w4 E bk hk hn hkR hnR hsz hdd hlen hst has hW hd hq ?_
  rintro v T' h' L' hX ⟨hFr, hQ⟩
  obtain ⟨w, rfl, hQ⟩ := hQ
  exact r w T' h' (hX.resolve_right fun z => z hFr) hQ
theorem g_callU0 (C : Cx p s m meth c Z own bytes ml rt mn) (X : St p l e R s m args below meth c n0 T h k n) {rm : Room} {as' : Array Value} {bts : ByteArray} {mxl : Nat} {rty : Option FieldType} {argsL : List Value} {ps : List FieldType} {rt' : Option FieldType} {k' n' W : Nat} {Q : Heap → Prop} {y z : MethodName} {i : Nat} {a : Addr} {K owner : String} (hy : owner ≠ "java/lang/invoke/MethodHandle" ∧ owner ≠ "java/lang/invoke/VarHandle") (w1 : (Cond.methodLink own i y).before a0 Z = true) (w2 : (Cond.sameMethod y.cls owner y.name y.desc).before a0 Z = true) (w2' : (Cond.declares ⟨owner, y.name, y.desc⟩).before a0 Z = true) (w3 : (Cond.selects K y z).before a0 Z = true) (w4 : (Cond.instanceMethod z).before a0 Z = true) (E : Exa Z h a K) (w8 : (Cond.code z bts mxl rty).before a0 Z = true) (w9 : (Cond.initialized z.cls).before a0 Z = true) (hM : Met0 l Z z bts mxl rty rm as' h n0 Q) (hf : rm.frames + 1 ≤ R.frames) (hl : W + (mxl + 11) + rm.locals ≤ R.locals) (hk : k + rm.cells = k') (hn : n + rm.slots = n') (hkR : k' ≤ R.cells) (hnR : n' ≤ R.slots) (hsz : L.size = ml) (hdd : parseMethodDescriptor y.desc = some ⟨ps, rt'⟩) (hlen : argsL.length = ps.length) (hst : st = argsL.reverse ++ .ref a :: rest) (has : (.ref a :: argsL).toArray = as') (hW : (rest.map fun v => v.category).sum = W) (hd : decode bytes pc = .ok (.invokevirtual i, 3)) (hq : pc + 3 = q)
    (r : ∀ T' h', St p l e R s m args below meth c n0 T' h' k' n' → Q h' → Goes p e below G (T'.setTop (mkF m q L rest))) : Goes p e below G (T.setTop (mkF m pc L st)) := by
  have bk := backOf (Q := fun v h L => Fr n0 L ∧ (v = none ∧ Q h)) (R := R) (p := p) (e := e) (below := below) (s := s) (args := args) (len := 3) (W := W) (hM []) C.2.1 w8 w9 hf hl
  refine g_callUb C X (QL := fun v h L => Fr n0 L ∧ (v = none ∧ Q h)) hy w1 w2 w2' w3 w4 E bk hk hn hkR hnR hsz hdd hlen hst has hW hd hq ?_
  rintro v T' h' L' hX ⟨hFr, hQ⟩
  obtain ⟨rfl, hQ⟩ := hQ
  exact r T' h' (hX.resolve_right fun z => z hFr) hQ
theorem g_callPb (C : Cx p s m meth c Z own bytes ml rt mn) (X : St p l e R s m args below meth c n0 T h k n) {as' : Array Value} {argsL : List Value} {ps : List FieldType} {rt' : Option FieldType} {k' n' W kc ks : Nat} {QL : Option Value → Heap → List Loc → Prop} {y : MethodName} {i : Nat} {a : Addr} {K : String} (hy : y.cls ≠ "java/lang/invoke/MethodHandle" ∧ y.cls ≠ "java/lang/invoke/VarHandle") (w1 : (Cond.methodLink own i y).before a0 Z = true) (w3 : (Cond.selects y.cls y y).before a0 Z = true) (w4 : (Cond.instanceMethod y).before a0 Z = true) (w5 : (Cond.privateMethod y).before a0 Z = true) (E : Exa Z h a K) {bts : ByteArray} {mxl : Nat} {rty : Option FieldType} (w8 : (Cond.code y bts mxl rty).before a0 Z = true) (bk : Back l R p e below s args y 3 W (fun A a => a = as' ∧ A.U.heap = h ∧ A.cells + kc ≤ R.cells ∧ A.slots + ks ≤ R.slots) (fun A _ v B => ∃ L, QL v B.U.heap L ∧ B.locs = A.locs ++ L ∧ B.cells = A.cells + kc ∧ B.slots = A.slots + ks)) (hk : k + kc = k') (hn : n + ks = n') (hkR : k' ≤ R.cells) (hnR : n' ≤ R.slots) (hsz : L.size = ml) (hdd : parseMethodDescriptor y.desc = some ⟨ps, rt'⟩) (hlen : argsL.length = ps.length) (hst : st = argsL.reverse ++ .ref a :: rest) (has : (.ref a :: argsL).toArray = as') (hW : (rest.map fun v => v.category).sum = W) (hd : decode bytes pc = .ok (.invokevirtual i, 3)) (hq : pc + 3 = q)
    (r : ∀ v T' h' L', St p l e R s m args below meth c n0 T' h' k' n' ∨ ¬ Fr n0 L' → QL v h' L' → Goes p e below G (T'.setTop (mkF m q L (v.toList ++ rest)))) : Goes p e below G (T.setTop (mkF m pc L st)) := by
  obtain ⟨hx, hZ, hown, hby, hml, -⟩ := C
  obtain ⟨_, cells, slots, X, hF, eT, h1, h2⟩ := X
  subst hq hk hn has hst hW
  obtain ⟨cq, qa, qb⟩ := E.cell
  obtain ⟨_, _, ⟨T', Lo, kk, nn⟩, -, X', ⟨Lc, hQ, q1, q2, q3⟩, st'⟩ := X.privateBack hx hown (mvT hZ w1) (mvT hZ w4) (mvT hZ w3) (Cond.privateMethod_at (mvP hZ w5 (args := #[]))) (mvT hZ w8) hy bk (g := mkF m pc L (argsL.reverse ++ .ref a :: rest)) rfl (hsz.trans hml.symm) (Steps.refl _) (a := a) (by rw [eT]; exact qa) qb (argsL := argsL) (rest := rest) (lenOf hdd hlen) rfl (by show 2 * 0 + _ ≤ _; omega) (hb hby hd) (fun _ _ => ⟨rfl, eT, Nat.le_trans (Nat.add_le_add_right h1 _) hkR, Nat.le_trans (Nat.add_le_add_right h2 _) hnR⟩)
  dsimp only [Pt.U, Pt.locs, Pt.cells, Pt.slots] at X' q1 q2 q3 st' hQ
  subst q1 q2 q3
  refine go_tr st' (r _ T' _ Lc ?_ hQ)
  by_cases hFr : Fr n0 Lc
  · exact Or.inl ⟨_, _, _, X', Fr.app hF hFr, rfl, Nat.add_le_add_right h1 _, Nat.add_le_add_right h2 _⟩
  · exact Or.inr hFr
theorem g_callP1 (C : Cx p s m meth c Z own bytes ml rt mn) (X : St p l e R s m args below meth c n0 T h k n) {rm : Room} {as' : Array Value} {bts : ByteArray} {mxl : Nat} {rty : Option FieldType} {argsL : List Value} {ps : List FieldType} {rt' : Option FieldType} {k' n' W : Nat} {Q : Value → Heap → Prop} {y : MethodName} {i : Nat} {a : Addr} {K : String} (hy : y.cls ≠ "java/lang/invoke/MethodHandle" ∧ y.cls ≠ "java/lang/invoke/VarHandle") (w1 : (Cond.methodLink own i y).before a0 Z = true) (w3 : (Cond.selects y.cls y y).before a0 Z = true) (w4 : (Cond.instanceMethod y).before a0 Z = true) (w5 : (Cond.privateMethod y).before a0 Z = true) (E : Exa Z h a K) (w8 : (Cond.code y bts mxl rty).before a0 Z = true) (w9 : (Cond.initialized y.cls).before a0 Z = true) (hM : Met1 l Z y bts mxl rty rm as' h n0 Q) (hf : rm.frames + 1 ≤ R.frames) (hl : W + (mxl + 11) + rm.locals ≤ R.locals) (hk : k + rm.cells = k') (hn : n + rm.slots = n') (hkR : k' ≤ R.cells) (hnR : n' ≤ R.slots) (hsz : L.size = ml) (hdd : parseMethodDescriptor y.desc = some ⟨ps, rt'⟩) (hlen : argsL.length = ps.length) (hst : st = argsL.reverse ++ .ref a :: rest) (has : (.ref a :: argsL).toArray = as') (hW : (rest.map fun v => v.category).sum = W) (hd : decode bytes pc = .ok (.invokevirtual i, 3)) (hq : pc + 3 = q)
    (r : ∀ w T' h', St p l e R s m args below meth c n0 T' h' k' n' → Q w h' → Goes p e below G (T'.setTop (mkF m q L (w :: rest)))) : Goes p e below G (T.setTop (mkF m pc L st)) := by
  have bk := backOf (Q := fun v h L => Fr n0 L ∧ (∃ w, v = some w ∧ Q w h)) (R := R) (p := p) (e := e) (below := below) (s := s) (args := args) (len := 3) (W := W) (hM []) C.2.1 w8 w9 hf hl
  refine g_callPb C X (QL := fun v h L => Fr n0 L ∧ (∃ w, v = some w ∧ Q w h)) hy w1 w3 w4 w5 E w8 bk hk hn hkR hnR hsz hdd hlen hst has hW hd hq ?_
  rintro v T' h' L' hX ⟨hFr, hQ⟩
  obtain ⟨w, rfl, hQ⟩ := hQ
  exact r w T' h' (hX.resolve_right fun z => z hFr) hQ
theorem g_callP0 (C : Cx p s m meth c Z own bytes ml rt mn) (X : St p l e R s m args below meth c n0 T h k n) {rm : Room} {as' : Array Value} {bts : ByteArray} {mxl : Nat} {rty : Option FieldType} {argsL : List Value} {ps : List FieldType} {rt' : Option FieldType} {k' n' W : Nat} {Q : Heap → Prop} {y : MethodName} {i : Nat} {a : Addr} {K : String} (hy : y.cls ≠ "java/lang/invoke/MethodHandle" ∧ y.cls ≠ "java/lang/invoke/VarHandle") (w1 : (Cond.methodLink own i y).before a0 Z = true) (w3 : (Cond.selects y.cls y y).before a0 Z = true) (w4 : (Cond.instanceMethod y).before a0 Z = true) (w5 : (Cond.privateMethod y).before a0 Z = true) (E : Exa Z h a K) (w8 : (Cond.code y bts mxl rty).before a0 Z = true) (w9 : (Cond.initialized y.cls).before a0 Z = true) (hM : Met0 l Z y bts mxl rty rm as' h n0 Q) (hf : rm.frames + 1 ≤ R.frames) (hl : W + (mxl + 11) + rm.locals ≤ R.locals) (hk : k + rm.cells = k') (hn : n + rm.slots = n') (hkR : k' ≤ R.cells) (hnR : n' ≤ R.slots) (hsz : L.size = ml) (hdd : parseMethodDescriptor y.desc = some ⟨ps, rt'⟩) (hlen : argsL.length = ps.length) (hst : st = argsL.reverse ++ .ref a :: rest) (has : (.ref a :: argsL).toArray = as') (hW : (rest.map fun v => v.category).sum = W) (hd : decode bytes pc = .ok (.invokevirtual i, 3)) (hq : pc + 3 = q)
    (r : ∀ T' h', St p l e R s m args below meth c n0 T' h' k' n' → Q h' → Goes p e below G (T'.setTop (mkF m q L rest))) : Goes p e below G (T.setTop (mkF m pc L st)) := by
  have bk := backOf (Q := fun v h L => Fr n0 L ∧ (v = none ∧ Q h)) (R := R) (p := p) (e := e) (below := below) (s := s) (args := args) (len := 3) (W := W) (hM []) C.2.1 w8 w9 hf hl
  refine g_callPb C X (QL := fun v h L => Fr n0 L ∧ (v = none ∧ Q h)) hy w1 w3 w4 w5 E w8 bk hk hn hkR hnR hsz hdd hlen hst has hW hd hq ?_
  rintro v T' h' L' hX ⟨hFr, hQ⟩
  obtain ⟨rfl, hQ⟩ := hQ
  exact r T' h' (hX.resolve_right fun z => z hFr) hQ
theorem sel_priv {y : MethodName} {kk : Nat} (wi : (Cond.instantiable y.cls kk).before a0 Z = true) (w4 : (Cond.instanceMethod y).before a0 Z = true) (w5 : (Cond.privateMethod y).before a0 Z = true) (hy : y.cls ≠ "java/lang/invoke/MethodHandle" ∧ y.cls ≠ "java/lang/invoke/VarHandle") : (Cond.selects y.cls y y).before a0 Z = true := by
  obtain ⟨c1, k1, i1, i2, -, i4, -⟩ := Cond.instantiable_spec wi
  exact Stand.selects_self_of_private i1 i2 (by simp only [Bool.or_eq_false_iff] at i4; exact i4.1) (Cond.privateMethod_at w5) w4 hy
theorem own_nb {b : Int32} {t : Bool} (h1 : t = true → b = 0) (h2 : t = false → b = 1) : nar .boolean b = b := by
  cases t
  · rw [h2 rfl]; decide
  · rw [h1 rfl]; decide
theorem nf_sel {y : MethodName} {K : String} (w : (Cond.selects K y y).before a0 Z = true) : ∀ s' : State, Z.Warmed39 s'.vm → NotFace s' y := fun s' hZ => notFace_of_selects (args := #[]) (mvT hZ w)
end OwnKit
theorem own_i32 {x y : Int32} (h : x.toInt = y.toInt) : x = y := Int32.toInt_inj.mp h
theorem own_r1 {u w : Int32} {hi : Int} (h : u.toInt ≤ hi) (hw : hi < w.toInt) : u < w := Int32.lt_iff_toInt_lt.mpr (Int.lt_of_le_of_lt h hw)
theorem own_r2 {u w : Int32} {lo : Int} (h : lo ≤ u.toInt) (hw : w.toInt ≤ lo) : ¬ u < w := fun q => by have := Int32.lt_iff_toInt_lt.mp q; omega
theorem own_r3 {u w : Int32} {lo : Int} (h : lo ≤ w.toInt) (hu : u.toInt < lo) : u < w := Int32.lt_iff_toInt_lt.mpr (by omega)
theorem own_r4 {u w : Int32} {hi : Int} (h : w.toInt ≤ hi) (hu : hi ≤ u.toInt) : ¬ u < w := fun q => by have := Int32.lt_iff_toInt_lt.mp q; omega
theorem own_r5 {u w : Int32} {lo : Int} (h : lo ≤ u.toInt) (hw : w.toInt < lo) : ¬ u = w := fun q => by subst q; omega
theorem own_r6 {u w : Int32} {hi : Int} (h : u.toInt ≤ hi) (hw : hi < w.toInt) : ¬ u = w := fun q => by subst q; omega
theorem own_f0 {u w : Int32} {z : Int} (h1 : z ≤ u.toInt) (h2 : u.toInt ≤ z) (hz : w.toInt = z) : u = w := own_i32 (by omega)
theorem own_f1 {u w : Int32} {z : Int} (h : u < w) (hz : w.toInt = z + 1) : u.toInt ≤ z := by have := Int32.lt_iff_toInt_lt.mp h; omega
theorem own_f2 {u w : Int32} {z : Int} (h : ¬ u < w) (hz : w.toInt = z) : z ≤ u.toInt := by rw [Int32.lt_iff_toInt_lt] at h; omega
theorem own_f3 {u w : Int32} {z : Int} (h : w < u) (hz : w.toInt + 1 = z) : z ≤ u.toInt := by have := Int32.lt_iff_toInt_lt.mp h; omega
theorem own_f4 {u w : Int32} {z : Int} (h : ¬ w < u) (hz : w.toInt = z) : u.toInt ≤ z := by rw [Int32.lt_iff_toInt_lt] at h; omega
theorem own_f5 {u w : Int32} {z lo : Int} (h : ¬ u = w) (hl : lo ≤ u.toInt) (hz : w.toInt = lo ∧ z = lo + 1) : z ≤ u.toInt := by
  have : u.toInt ≠ w.toInt := fun q => h (own_i32 q)
  omega
theorem own_f6 {u w : Int32} {z hi : Int} (h : ¬ u = w) (hl : u.toInt ≤ hi) (hz : w.toInt = hi ∧ z = hi - 1) : u.toInt ≤ z := by
  have : u.toInt ≠ w.toInt := fun q => h (own_i32 q)
  omega
theorem own_i2c {v : Int32} {lo hi : Int} (h1 : lo ≤ v.toInt) (h2 : v.toInt ≤ hi) (h3 : 0 ≤ lo) (h4 : hi ≤ 65535) : v.toUInt32.toUInt16.toUInt32.toInt32 = v := by
  have h := c_i2c v
  apply own_i32
  omega
theorem own_narC {v : Int32} {lo hi : Int} (h1 : lo ≤ v.toInt) (h2 : v.toInt ≤ hi) (h3 : 0 ≤ lo) (h4 : hi ≤ 65535) : nar .char v = v := own_i2c h1 h2 h3 h4
theorem own_ch {v : Int32} {lo hi : Int} (h1 : lo ≤ v.toInt) (h2 : v.toInt ≤ hi) (h3 : 0 ≤ lo) (h4 : hi ≤ 255) : ¬ v < 0 ∧ ¬ (255 : Int32) < v := ⟨own_r2 h1 h3, own_r4 h2 h4⟩
theorem own_rem {x y : Int32} {d : Int} (hy : y.toInt = d + 1) (hd : 0 < d + 1) (hx : 0 ≤ x.toInt) : 0 ≤ (x % y).toInt ∧ (x % y).toInt ≤ d := by
  have h := (c_irem x y (d + 1) hy).1 hx
  rw [h]
  have := Int.emod_nonneg x.toInt (show d + 1 ≠ 0 by omega)
  have := Int.emod_lt_of_pos x.toInt hd
  omega
theorem own_ne {a b : Addr} {h : Heap} (h1 : a < h.size) (h2 : b = h.size) : a ≠ b := fun q => by subst q; subst h2; exact Nat.lt_irrefl _ h1
theorem own_ge {Z : State} {n0 : Nat} {h : Heap} {a : Addr} (O : Old Z n0 h) (g : a = h.size) : n0 ≤ a := by rw [g, ← O.1]; exact O.2.1
theorem own_szO {Z : State} {n0 : Nat} {h : Heap} (O : Old Z n0 h) : n0 ≤ h.size := by rw [← O.1]; exact O.2.1
theorem own_sz {h h' : Heap} {a : Addr} (q : h.size ≤ h'.size) (g : a = h'.size) : h.size ≤ a := g ▸ q
theorem own_neO {Z : State} {n0 : Nat} {h : Heap} {a b : Addr} (q : a < Z.heap.size) (O : Old Z n0 h) (r : n0 ≤ b) : a ≠ b := O.ne q r
theorem own_sta {s : State} {args : Array Value} {C n d K : String} (h : (Jvm.Cond.exactly (.static C n d) K).value args s none s [] = some true) (hi : (Jvm.Cond.initializedFor C n d).before args s = true ∨ ((Jvm.Cond.initialized C).before args s = true ∧ (Jvm.Cond.laysStatic C n d).before args s = true)) : ∃ a, (Term.static C n d).eval args s none [] s = some (.ref a) ∧ Sta s s.heap C n d (.ref a) ∧ Exa s s.heap a K := by
  obtain ⟨a, ev⟩ := exa_v h
  exact ⟨a, ev, Sta.start ev hi, Exa.start ev h⟩
theorem own_fldI {s : State} {args : Array Value} {t : Term} {C n d : String} {v : Int32} {a : Addr} (ev : t.eval args s none [] s = some (.ref a)) (h : (Jvm.Cond.eq (.field t C n d) (.int v)).value args s none s [] = some true) : Fld s s.heap a C n d (.int v) := by
  apply Fld.start
  cases hf : s.fieldOf? a C n d with
  | none => simp [Cond.value, Term.eval, ev, hf] at h
  | some x => cases x <;> simp [Cond.value, Term.eval, ev, hf] at h; subst h; rfl
theorem own_fldN {s : State} {args : Array Value} {t : Term} {C n d : String} {a : Addr} (ev : t.eval args s none [] s = some (.ref a)) (h : (Jvm.Cond.eq (.field t C n d) .null).value args s none s [] = some true) : Fld s s.heap a C n d .null := by
  apply Fld.start
  have := null_v h
  rw [fld_at ev] at this
  exact this
theorem own_fldR {s : State} {args : Array Value} {t : Term} {C n d K : String} {a : Addr} (ev : t.eval args s none [] s = some (.ref a)) (h : (Jvm.Cond.exactly (.field t C n d) K).value args s none s [] = some true) : ∃ b, (Term.field t C n d).eval args s none [] s = some (.ref b) ∧ Fld s s.heap a C n d (.ref b) ∧ Exa s s.heap b K := by
  obtain ⟨b, e2⟩ := exa_v h
  refine ⟨b, e2, Fld.start ?_, Exa.start e2 h⟩
  rw [← fld_at ev]; exact e2
theorem own_split3 {v : Int32} (h1 : 0 ≤ v.toInt) (h2 : v.toInt < 3) : v = 0 ∨ v = 1 ∨ v = 2 := by
  have h : v.toInt = 0 ∨ v.toInt = 1 ∨ v.toInt = 2 := by omega
  rcases h with h | h | h
  · exact Or.inl (own_i32 h)
  · exact Or.inr (Or.inl (own_i32 h))
  · exact Or.inr (Or.inr (own_i32 h))
theorem own_m3 (x : Int32) : (x &&& 2147483647) % 3 = 0 ∨ (x &&& 2147483647) % 3 = 1 ∨ (x &&& 2147483647) % 3 = 2 := by
  have h := c_and x 2147483647 (by decide)
  have h2 := (c_irem (x &&& 2147483647) 3 3 (by decide)).1 h.1
  exact own_split3 (by omega) (by omega)
theorem own_nn {a : Int32} {x : UInt64} (h : FP.i2d a = x) : Jvm.Free.Fl.NoNaN64 x := nn_w (h.symm.trans (i2d_w a))
theorem w0 {Z : State} {a0 : Array Value} (hw : ∀ d ∈ tables_1, d.before a0 Z = true) : (Jvm.Cond.constant "com/example/rondel/rondel/primitive/DoubleRingBufferClearPinLaw" (7 : Nat) (2147483647 : Int32)).before a0 Z = true := hw _ (List.mem_of_getElem? (i := 0) rfl)
theorem w1 {Z : State} {a0 : Array Value} (hw : ∀ d ∈ tables_1, d.before a0 Z = true) : (Jvm.Cond.classLink "com/example/rondel/rondel/primitive/DoubleRingBufferClearPinLaw" (8 : Nat) "com/example/rondel/rondel/primitive/DoubleRingBuffer").before a0 Z = true := hw _ (List.mem_of_getElem? (i := 1) rfl)
theorem w2 {Z : State} {a0 : Array Value} (hw : ∀ d ∈ tables_1, d.before a0 Z = true) : (Jvm.Cond.instantiable "com/example/rondel/rondel/primitive/DoubleRingBuffer" (4 : Nat)).before a0 Z = true := hw _ (List.mem_of_getElem? (i := 2) rfl)
theorem w3 {Z : State} {a0 : Array Value} (hw : ∀ d ∈ tables_1, d.before a0 Z = true) : (Jvm.Cond.initialized "com/example/rondel/rondel/primitive/DoubleRingBuffer").before a0 Z = true := hw _ (List.mem_of_getElem? (i := 3) rfl)
theorem w12 {Z : State} {a0 : Array Value} (hw : ∀ d ∈ tables_1, d.before a0 Z = true) : (Jvm.Cond.laysFinal "com/example/rondel/rondel/primitive/DoubleRingBuffer" "com/example/rondel/rondel/primitive/DoubleRingBuffer" "readings" "[D").before a0 Z = true := hw _ (List.mem_of_getElem? (i := 12) rfl)
theorem w19 {Z : State} {a0 : Array Value} (hw : ∀ d ∈ tables_1, d.before a0 Z = true) : (Jvm.Cond.lays "com/example/rondel/rondel/primitive/DoubleRingBuffer" "com/example/rondel/rondel/primitive/DoubleRingBuffer" "size" "I").before a0 Z = true := hw _ (List.mem_of_getElem? (i := 19) rfl)
theorem w25 {Z : State} {a0 : Array Value} (hw : ∀ d ∈ tables_1, d.before a0 Z = true) : (Jvm.Cond.lays "com/example/rondel/rondel/primitive/DoubleRingBuffer" "com/example/rondel/rondel/primitive/DoubleRingBuffer" "head" "I").before a0 Z = true := hw _ (List.mem_of_getElem? (i := 25) rfl)
theorem w27 {Z : State} {a0 : Array Value} (hw : ∀ d ∈ tables_1, d.before a0 Z = true) : (Jvm.Cond.lays "com/example/rondel/rondel/primitive/DoubleRingBuffer" "com/example/rondel/rondel/primitive/DoubleRingBuffer" "modCount" "I").before a0 Z = true := hw _ (List.mem_of_getElem? (i := 27) rfl)
theorem w4 {Z : State} {a0 : Array Value} (hw : ∀ d ∈ tables_1, d.before a0 Z = true) : (Jvm.Cond.methodLink "com/example/rondel/rondel/primitive/DoubleRingBufferClearPinLaw" (10 : Nat) ({ cls := "com/example/rondel/rondel/primitive/DoubleRingBuffer", name := "<init>", desc := "(I)V" } : Jvm.MethodName)).before a0 Z = true := hw _ (List.mem_of_getElem? (i := 4) rfl)
theorem d1_0 : decode prog_11_method_1_code 0 = .ok (.aload_n 0, 1) := by decide +kernel
theorem d1_1 : decode prog_11_method_1_code 1 = .ok (.invokespecial 3, 3) := by decide +kernel
theorem w7 {Z : State} {a0 : Array Value} (hw : ∀ d ∈ tables_1, d.before a0 Z = true) : (Jvm.Cond.methodLink "com/example/rondel/rondel/primitive/DoubleRingBuffer" (3 : Nat) ({ cls := "java/lang/Object", name := "<init>", desc := "()V" } : Jvm.MethodName)).before a0 Z = true := hw _ (List.mem_of_getElem? (i := 7) rfl)
theorem w8 {Z : State} {a0 : Array Value} (hw : ∀ d ∈ tables_1, d.before a0 Z = true) : (Jvm.Cond.instanceMethod ({ cls := "java/lang/Object", name := "<init>", desc := "()V" } : Jvm.MethodName)).before a0 Z = true := hw _ (List.mem_of_getElem? (i := 8) rfl)
theorem w9 {Z : State} {a0 : Array Value} (hw : ∀ d ∈ tables_1, d.before a0 Z = true) : (Jvm.Cond.code ({ cls := "java/lang/Object", name := "<init>", desc := "()V" } : Jvm.MethodName) object_method_1_code (1 : Nat) (Option.none : Option Jvm.ClassFile.FieldType)).before a0 Z = true := hw _ (List.mem_of_getElem? (i := 9) rfl)
theorem d1_4 : decode prog_11_method_1_code 4 = .ok (.iload_n 1, 1) := by decide +kernel
theorem d1_5 : decode prog_11_method_1_code 5 = .ok (.iconst 1, 1) := by decide +kernel
theorem d1_6 : decode prog_11_method_1_code 6 = .ok (.if_icmp .ge 17, 3) := by decide +kernel
theorem d1_23 : decode prog_11_method_1_code 23 = .ok (.aload_n 0, 1) := by decide +kernel
theorem d1_24 : decode prog_11_method_1_code 24 = .ok (.iload_n 1, 1) := by decide +kernel
theorem d1_25 : decode prog_11_method_1_code 25 = .ok (.newarray .double, 2) := by decide +kernel
theorem w10 {Z : State} {a0 : Array Value} (hw : ∀ d ∈ tables_1, d.before a0 Z = true) : (Jvm.Cond.arrayClass Jvm.ClassFile.FieldType.double).before a0 Z = true := hw _ (List.mem_of_getElem? (i := 10) rfl)
theorem d1_27 : decode prog_11_method_1_code 27 = .ok (.putfield 18, 3) := by decide +kernel
theorem w11 {Z : State} {a0 : Array Value} (hw : ∀ d ∈ tables_1, d.before a0 Z = true) : (Jvm.Cond.fieldLink "com/example/rondel/rondel/primitive/DoubleRingBuffer" (18 : Nat) "com/example/rondel/rondel/primitive/DoubleRingBuffer" "readings" "[D").before a0 Z = true := hw _ (List.mem_of_getElem? (i := 11) rfl)
theorem d1_30 : decode prog_11_method_1_code 30 = .ok (.return_, 1) := by decide +kernel
theorem pn_10 : plainName "com/example/rondel/rondel/primitive/DoubleRingBuffer" = true := by first | (simp [plainName, overriddenIn]; done) | decide +kernel
theorem w6 {Z : State} {a0 : Array Value} (hw : ∀ d ∈ tables_1, d.before a0 Z = true) : (Jvm.Cond.code ({ cls := "com/example/rondel/rondel/primitive/DoubleRingBuffer", name := "<init>", desc := "(I)V" } : Jvm.MethodName) prog_11_method_1_code (2 : Nat) (Option.none : Option Jvm.ClassFile.FieldType)).before a0 Z = true := hw _ (List.mem_of_getElem? (i := 6) rfl)
theorem pd_11 : parseMethodDescriptor "(I)V" = some ⟨[.int], none⟩ := by decide +kernel
theorem w5 {Z : State} {a0 : Array Value} (hw : ∀ d ∈ tables_1, d.before a0 Z = true) : (Jvm.Cond.instanceMethod ({ cls := "com/example/rondel/rondel/primitive/DoubleRingBuffer", name := "<init>", desc := "(I)V" } : Jvm.MethodName)).before a0 Z = true := hw _ (List.mem_of_getElem? (i := 5) rfl)
theorem w13 {Z : State} {a0 : Array Value} (hw : ∀ d ∈ tables_1, d.before a0 Z = true) : (Jvm.Cond.methodLink "com/example/rondel/rondel/primitive/DoubleRingBufferClearPinLaw" (13 : Nat) ({ cls := "com/example/rondel/rondel/primitive/DoubleRingBuffer", name := "add", desc := "(D)V" } : Jvm.MethodName)).before a0 Z = true := hw _ (List.mem_of_getElem? (i := 13) rfl)
theorem d3_0 : decode prog_11_method_6_code 0 = .ok (.aload_n 0, 1) := by decide +kernel
theorem d3_1 : decode prog_11_method_6_code 1 = .ok (.getfield 24, 3) := by decide +kernel
theorem w18 {Z : State} {a0 : Array Value} (hw : ∀ d ∈ tables_1, d.before a0 Z = true) : (Jvm.Cond.fieldLink "com/example/rondel/rondel/primitive/DoubleRingBuffer" (24 : Nat) "com/example/rondel/rondel/primitive/DoubleRingBuffer" "size" "I").before a0 Z = true := hw _ (List.mem_of_getElem? (i := 18) rfl)
theorem d3_4 : decode prog_11_method_6_code 4 = .ok (.aload_n 0, 1) := by decide +kernel
theorem d3_5 : decode prog_11_method_6_code 5 = .ok (.getfield 18, 3) := by decide +kernel
theorem d3_8 : decode prog_11_method_6_code 8 = .ok (.arraylength, 1) := by decide +kernel
theorem d3_9 : decode prog_11_method_6_code 9 = .ok (.if_icmp .ne 28, 3) := by decide +kernel
theorem d3_37 : decode prog_11_method_6_code 37 = .ok (.aload_n 0, 1) := by decide +kernel
theorem d3_38 : decode prog_11_method_6_code 38 = .ok (.getfield 18, 3) := by decide +kernel
theorem d3_41 : decode prog_11_method_6_code 41 = .ok (.aload_n 0, 1) := by decide +kernel
theorem d3_42 : decode prog_11_method_6_code 42 = .ok (.aload_n 0, 1) := by decide +kernel
theorem d3_43 : decode prog_11_method_6_code 43 = .ok (.getfield 24, 3) := by decide +kernel
theorem d3_46 : decode prog_11_method_6_code 46 = .ok (.invokevirtual 35, 3) := by decide +kernel
theorem w20 {Z : State} {a0 : Array Value} (hw : ∀ d ∈ tables_1, d.before a0 Z = true) : (Jvm.Cond.methodLink "com/example/rondel/rondel/primitive/DoubleRingBuffer" (35 : Nat) ({ cls := "com/example/rondel/rondel/primitive/DoubleRingBuffer", name := "slot", desc := "(I)I" } : Jvm.MethodName)).before a0 Z = true := hw _ (List.mem_of_getElem? (i := 20) rfl)
theorem d4_0 : decode prog_11_method_18_code 0 = .ok (.aload_n 0, 1) := by decide +kernel
theorem d4_1 : decode prog_11_method_18_code 1 = .ok (.getfield 18, 3) := by decide +kernel
theorem d4_4 : decode prog_11_method_18_code 4 = .ok (.arraylength, 1) := by decide +kernel
theorem d4_5 : decode prog_11_method_18_code 5 = .ok (.aload_n 0, 1) := by decide +kernel
theorem d4_6 : decode prog_11_method_18_code 6 = .ok (.getfield 28, 3) := by decide +kernel
theorem w24 {Z : State} {a0 : Array Value} (hw : ∀ d ∈ tables_1, d.before a0 Z = true) : (Jvm.Cond.fieldLink "com/example/rondel/rondel/primitive/DoubleRingBuffer" (28 : Nat) "com/example/rondel/rondel/primitive/DoubleRingBuffer" "head" "I").before a0 Z = true := hw _ (List.mem_of_getElem? (i := 24) rfl)
theorem d4_9 : decode prog_11_method_18_code 9 = .ok (.isub, 1) := by decide +kernel
theorem d4_10 : decode prog_11_method_18_code 10 = .ok (.istore_n 2, 1) := by decide +kernel
theorem d4_11 : decode prog_11_method_18_code 11 = .ok (.iload_n 1, 1) := by decide +kernel
theorem d4_12 : decode prog_11_method_18_code 12 = .ok (.iload_n 2, 1) := by decide +kernel
theorem d4_13 : decode prog_11_method_18_code 13 = .ok (.if_icmp .ge 12, 3) := by decide +kernel
theorem d4_16 : decode prog_11_method_18_code 16 = .ok (.aload_n 0, 1) := by decide +kernel
theorem d4_17 : decode prog_11_method_18_code 17 = .ok (.getfield 28, 3) := by decide +kernel
theorem d4_20 : decode prog_11_method_18_code 20 = .ok (.iload_n 1, 1) := by decide +kernel
theorem d4_21 : decode prog_11_method_18_code 21 = .ok (.iadd, 1) := by decide +kernel
theorem d4_22 : decode prog_11_method_18_code 22 = .ok (.goto 6, 3) := by decide +kernel
theorem d4_28 : decode prog_11_method_18_code 28 = .ok (.ireturn, 1) := by decide +kernel
theorem w23 {Z : State} {a0 : Array Value} (hw : ∀ d ∈ tables_1, d.before a0 Z = true) : (Jvm.Cond.code ({ cls := "com/example/rondel/rondel/primitive/DoubleRingBuffer", name := "slot", desc := "(I)I" } : Jvm.MethodName) prog_11_method_18_code (3 : Nat) (Option.some Jvm.ClassFile.FieldType.int)).before a0 Z = true := hw _ (List.mem_of_getElem? (i := 23) rfl)
theorem pd_40 : parseMethodDescriptor "(I)I" = some ⟨[.int], some .int⟩ := by decide +kernel
theorem w21 {Z : State} {a0 : Array Value} (hw : ∀ d ∈ tables_1, d.before a0 Z = true) : (Jvm.Cond.instanceMethod ({ cls := "com/example/rondel/rondel/primitive/DoubleRingBuffer", name := "slot", desc := "(I)I" } : Jvm.MethodName)).before a0 Z = true := hw _ (List.mem_of_getElem? (i := 21) rfl)
theorem w22 {Z : State} {a0 : Array Value} (hw : ∀ d ∈ tables_1, d.before a0 Z = true) : (Jvm.Cond.privateMethod ({ cls := "com/example/rondel/rondel/primitive/DoubleRingBuffer", name := "slot", desc := "(I)I" } : Jvm.MethodName)).before a0 Z = true := hw _ (List.mem_of_getElem? (i := 22) rfl)
theorem d3_49 : decode prog_11_method_6_code 49 = .ok (.dload_n 1, 1) := by decide +kernel
theorem d3_50 : decode prog_11_method_6_code 50 = .ok (.dastore, 1) := by decide +kernel
theorem d3_51 : decode prog_11_method_6_code 51 = .ok (.aload_n 0, 1) := by decide +kernel
theorem d3_52 : decode prog_11_method_6_code 52 = .ok (.dup, 1) := by decide +kernel
theorem d3_53 : decode prog_11_method_6_code 53 = .ok (.getfield 24, 3) := by decide +kernel
theorem d3_56 : decode prog_11_method_6_code 56 = .ok (.iconst 1, 1) := by decide +kernel
theorem d3_57 : decode prog_11_method_6_code 57 = .ok (.iadd, 1) := by decide +kernel
theorem d3_58 : decode prog_11_method_6_code 58 = .ok (.putfield 24, 3) := by decide +kernel
theorem d3_61 : decode prog_11_method_6_code 61 = .ok (.aload_n 0, 1) := by decide +kernel
theorem d3_62 : decode prog_11_method_6_code 62 = .ok (.dup, 1) := by decide +kernel
theorem d3_63 : decode prog_11_method_6_code 63 = .ok (.getfield 38, 3) := by decide +kernel
theorem w26 {Z : State} {a0 : Array Value} (hw : ∀ d ∈ tables_1, d.before a0 Z = true) : (Jvm.Cond.fieldLink "com/example/rondel/rondel/primitive/DoubleRingBuffer" (38 : Nat) "com/example/rondel/rondel/primitive/DoubleRingBuffer" "modCount" "I").before a0 Z = true := hw _ (List.mem_of_getElem? (i := 26) rfl)
theorem d3_66 : decode prog_11_method_6_code 66 = .ok (.iconst 1, 1) := by decide +kernel
theorem d3_67 : decode prog_11_method_6_code 67 = .ok (.iadd, 1) := by decide +kernel
theorem d3_68 : decode prog_11_method_6_code 68 = .ok (.putfield 38, 3) := by decide +kernel
theorem d3_71 : decode prog_11_method_6_code 71 = .ok (.return_, 1) := by decide +kernel
theorem w17 {Z : State} {a0 : Array Value} (hw : ∀ d ∈ tables_1, d.before a0 Z = true) : (Jvm.Cond.code ({ cls := "com/example/rondel/rondel/primitive/DoubleRingBuffer", name := "add", desc := "(D)V" } : Jvm.MethodName) prog_11_method_6_code (3 : Nat) (Option.none : Option Jvm.ClassFile.FieldType)).before a0 Z = true := hw _ (List.mem_of_getElem? (i := 17) rfl)
theorem pd_56 : parseMethodDescriptor "(D)V" = some ⟨[.double], none⟩ := by decide +kernel
theorem w14 {Z : State} {a0 : Array Value} (hw : ∀ d ∈ tables_1, d.before a0 Z = true) : (Jvm.Cond.declares ({ cls := "com/example/rondel/rondel/primitive/DoubleRingBuffer", name := "add", desc := "(D)V" } : Jvm.MethodName)).before a0 Z = true := hw _ (List.mem_of_getElem? (i := 14) rfl)
theorem w16 {Z : State} {a0 : Array Value} (hw : ∀ d ∈ tables_1, d.before a0 Z = true) : (Jvm.Cond.selects "com/example/rondel/rondel/primitive/DoubleRingBuffer" ({ cls := "com/example/rondel/rondel/primitive/DoubleRingBuffer", name := "add", desc := "(D)V" } : Jvm.MethodName) ({ cls := "com/example/rondel/rondel/primitive/DoubleRingBuffer", name := "add", desc := "(D)V" } : Jvm.MethodName)).before a0 Z = true := hw _ (List.mem_of_getElem? (i := 16) rfl)
theorem w15 {Z : State} {a0 : Array Value} (hw : ∀ d ∈ tables_1, d.before a0 Z = true) : (Jvm.Cond.instanceMethod ({ cls := "com/example/rondel/rondel/primitive/DoubleRingBuffer", name := "add", desc := "(D)V" } : Jvm.MethodName)).before a0 Z = true := hw _ (List.mem_of_getElem? (i := 15) rfl)
theorem d3_12 : decode prog_11_method_6_code 12 = .ok (.aload_n 0, 1) := by decide +kernel
theorem d3_13 : decode prog_11_method_6_code 13 = .ok (.getfield 18, 3) := by decide +kernel
theorem d3_16 : decode prog_11_method_6_code 16 = .ok (.aload_n 0, 1) := by decide +kernel
theorem d3_17 : decode prog_11_method_6_code 17 = .ok (.getfield 28, 3) := by decide +kernel
theorem d3_20 : decode prog_11_method_6_code 20 = .ok (.dload_n 1, 1) := by decide +kernel
theorem d3_21 : decode prog_11_method_6_code 21 = .ok (.dastore, 1) := by decide +kernel
theorem d3_22 : decode prog_11_method_6_code 22 = .ok (.aload_n 0, 1) := by decide +kernel
theorem d3_23 : decode prog_11_method_6_code 23 = .ok (.aload_n 0, 1) := by decide +kernel
theorem d3_24 : decode prog_11_method_6_code 24 = .ok (.aload_n 0, 1) := by decide +kernel
theorem d3_25 : decode prog_11_method_6_code 25 = .ok (.getfield 28, 3) := by decide +kernel
theorem d3_28 : decode prog_11_method_6_code 28 = .ok (.invokevirtual 31, 3) := by decide +kernel
theorem w28 {Z : State} {a0 : Array Value} (hw : ∀ d ∈ tables_1, d.before a0 Z = true) : (Jvm.Cond.methodLink "com/example/rondel/rondel/primitive/DoubleRingBuffer" (31 : Nat) ({ cls := "com/example/rondel/rondel/primitive/DoubleRingBuffer", name := "next", desc := "(I)I" } : Jvm.MethodName)).before a0 Z = true := hw _ (List.mem_of_getElem? (i := 28) rfl)
theorem d5_0 : decode prog_11_method_19_code 0 = .ok (.iload_n 1, 1) := by decide +kernel
theorem d5_1 : decode prog_11_method_19_code 1 = .ok (.aload_n 0, 1) := by decide +kernel
theorem d5_2 : decode prog_11_method_19_code 2 = .ok (.getfield 18, 3) := by decide +kernel
theorem d5_5 : decode prog_11_method_19_code 5 = .ok (.arraylength, 1) := by decide +kernel
theorem d5_6 : decode prog_11_method_19_code 6 = .ok (.iconst 1, 1) := by decide +kernel
theorem d5_7 : decode prog_11_method_19_code 7 = .ok (.isub, 1) := by decide +kernel
theorem d5_8 : decode prog_11_method_19_code 8 = .ok (.if_icmp .ne 7, 3) := by decide +kernel
theorem d5_11 : decode prog_11_method_19_code 11 = .ok (.iconst 0, 1) := by decide +kernel
theorem d5_12 : decode prog_11_method_19_code 12 = .ok (.goto 6, 3) := by decide +kernel
theorem d5_18 : decode prog_11_method_19_code 18 = .ok (.ireturn, 1) := by decide +kernel
theorem w31 {Z : State} {a0 : Array Value} (hw : ∀ d ∈ tables_1, d.before a0 Z = true) : (Jvm.Cond.code ({ cls := "com/example/rondel/rondel/primitive/DoubleRingBuffer", name := "next", desc := "(I)I" } : Jvm.MethodName) prog_11_method_19_code (2 : Nat) (Option.some Jvm.ClassFile.FieldType.int)).before a0 Z = true := hw _ (List.mem_of_getElem? (i := 31) rfl)
theorem w29 {Z : State} {a0 : Array Value} (hw : ∀ d ∈ tables_1, d.before a0 Z = true) : (Jvm.Cond.instanceMethod ({ cls := "com/example/rondel/rondel/primitive/DoubleRingBuffer", name := "next", desc := "(I)I" } : Jvm.MethodName)).before a0 Z = true := hw _ (List.mem_of_getElem? (i := 29) rfl)
theorem w30 {Z : State} {a0 : Array Value} (hw : ∀ d ∈ tables_1, d.before a0 Z = true) : (Jvm.Cond.privateMethod ({ cls := "com/example/rondel/rondel/primitive/DoubleRingBuffer", name := "next", desc := "(I)I" } : Jvm.MethodName)).before a0 Z = true := hw _ (List.mem_of_getElem? (i := 30) rfl)
theorem d3_31 : decode prog_11_method_6_code 31 = .ok (.putfield 28, 3) := by decide +kernel
theorem d3_34 : decode prog_11_method_6_code 34 = .ok (.goto 27, 3) := by decide +kernel
theorem w32 {Z : State} {a0 : Array Value} (hw : ∀ d ∈ tables_1, d.before a0 Z = true) : (Jvm.Cond.methodLink "com/example/rondel/rondel/primitive/DoubleRingBufferClearPinLaw" (17 : Nat) ({ cls := "com/example/rondel/rondel/primitive/DoubleRingBuffer", name := "clear", desc := "()V" } : Jvm.MethodName)).before a0 Z = true := hw _ (List.mem_of_getElem? (i := 32) rfl)
theorem d6_0 : decode prog_11_method_12_code 0 = .ok (.aload_n 0, 1) := by decide +kernel
theorem d6_1 : decode prog_11_method_12_code 1 = .ok (.iconst 0, 1) := by decide +kernel
theorem d6_2 : decode prog_11_method_12_code 2 = .ok (.putfield 24, 3) := by decide +kernel
theorem d6_5 : decode prog_11_method_12_code 5 = .ok (.aload_n 0, 1) := by decide +kernel
theorem d6_6 : decode prog_11_method_12_code 6 = .ok (.dup, 1) := by decide +kernel
theorem d6_7 : decode prog_11_method_12_code 7 = .ok (.getfield 38, 3) := by decide +kernel
theorem d6_10 : decode prog_11_method_12_code 10 = .ok (.iconst 1, 1) := by decide +kernel
theorem d6_11 : decode prog_11_method_12_code 11 = .ok (.iadd, 1) := by decide +kernel
theorem d6_12 : decode prog_11_method_12_code 12 = .ok (.putfield 38, 3) := by decide +kernel
theorem d6_15 : decode prog_11_method_12_code 15 = .ok (.return_, 1) := by decide +kernel
theorem w36 {Z : State} {a0 : Array Value} (hw : ∀ d ∈ tables_1, d.before a0 Z = true) : (Jvm.Cond.code ({ cls := "com/example/rondel/rondel/primitive/DoubleRingBuffer", name := "clear", desc := "()V" } : Jvm.MethodName) prog_11_method_12_code (1 : Nat) (Option.none : Option Jvm.ClassFile.FieldType)).before a0 Z = true := hw _ (List.mem_of_getElem? (i := 36) rfl)
theorem pd_90 : parseMethodDescriptor "()V" = some ⟨[], none⟩ := by decide +kernel
theorem w33 {Z : State} {a0 : Array Value} (hw : ∀ d ∈ tables_1, d.before a0 Z = true) : (Jvm.Cond.declares ({ cls := "com/example/rondel/rondel/primitive/DoubleRingBuffer", name := "clear", desc := "()V" } : Jvm.MethodName)).before a0 Z = true := hw _ (List.mem_of_getElem? (i := 33) rfl)
theorem w35 {Z : State} {a0 : Array Value} (hw : ∀ d ∈ tables_1, d.before a0 Z = true) : (Jvm.Cond.selects "com/example/rondel/rondel/primitive/DoubleRingBuffer" ({ cls := "com/example/rondel/rondel/primitive/DoubleRingBuffer", name := "clear", desc := "()V" } : Jvm.MethodName) ({ cls := "com/example/rondel/rondel/primitive/DoubleRingBuffer", name := "clear", desc := "()V" } : Jvm.MethodName)).before a0 Z = true := hw _ (List.mem_of_getElem? (i := 35) rfl)
theorem w34 {Z : State} {a0 : Array Value} (hw : ∀ d ∈ tables_1, d.before a0 Z = true) : (Jvm.Cond.instanceMethod ({ cls := "com/example/rondel/rondel/primitive/DoubleRingBuffer", name := "clear", desc := "()V" } : Jvm.MethodName)).before a0 Z = true := hw _ (List.mem_of_getElem? (i := 34) rfl)
theorem w37 {Z : State} {a0 : Array Value} (hw : ∀ d ∈ tables_1, d.before a0 Z = true) : (Jvm.Cond.methodLink "com/example/rondel/rondel/primitive/DoubleRingBufferClearPinLaw" (20 : Nat) ({ cls := "com/example/rondel/rondel/primitive/DoubleRingBuffer", name := "size", desc := "()I" } : Jvm.MethodName)).before a0 Z = true := hw _ (List.mem_of_getElem? (i := 37) rfl)
theorem d7_0 : decode prog_11_method_3_code 0 = .ok (.aload_n 0, 1) := by decide +kernel
theorem d7_1 : decode prog_11_method_3_code 1 = .ok (.getfield 24, 3) := by decide +kernel
theorem d7_4 : decode prog_11_method_3_code 4 = .ok (.ireturn, 1) := by decide +kernel
theorem w41 {Z : State} {a0 : Array Value} (hw : ∀ d ∈ tables_1, d.before a0 Z = true) : (Jvm.Cond.code ({ cls := "com/example/rondel/rondel/primitive/DoubleRingBuffer", name := "size", desc := "()I" } : Jvm.MethodName) prog_11_method_3_code (1 : Nat) (Option.some Jvm.ClassFile.FieldType.int)).before a0 Z = true := hw _ (List.mem_of_getElem? (i := 41) rfl)
theorem pd_94 : parseMethodDescriptor "()I" = some ⟨[], some .int⟩ := by decide +kernel
theorem w38 {Z : State} {a0 : Array Value} (hw : ∀ d ∈ tables_1, d.before a0 Z = true) : (Jvm.Cond.declares ({ cls := "com/example/rondel/rondel/primitive/DoubleRingBuffer", name := "size", desc := "()I" } : Jvm.MethodName)).before a0 Z = true := hw _ (List.mem_of_getElem? (i := 38) rfl)
theorem w40 {Z : State} {a0 : Array Value} (hw : ∀ d ∈ tables_1, d.before a0 Z = true) : (Jvm.Cond.selects "com/example/rondel/rondel/primitive/DoubleRingBuffer" ({ cls := "com/example/rondel/rondel/primitive/DoubleRingBuffer", name := "size", desc := "()I" } : Jvm.MethodName) ({ cls := "com/example/rondel/rondel/primitive/DoubleRingBuffer", name := "size", desc := "()I" } : Jvm.MethodName)).before a0 Z = true := hw _ (List.mem_of_getElem? (i := 40) rfl)
theorem w39 {Z : State} {a0 : Array Value} (hw : ∀ d ∈ tables_1, d.before a0 Z = true) : (Jvm.Cond.instanceMethod ({ cls := "com/example/rondel/rondel/primitive/DoubleRingBuffer", name := "size", desc := "()I" } : Jvm.MethodName)).before a0 Z = true := hw _ (List.mem_of_getElem? (i := 39) rfl)
theorem w42 {Z : State} {a0 : Array Value} (hw : ∀ d ∈ tables_1, d.before a0 Z = true) : (Jvm.Cond.methodLink "com/example/rondel/rondel/primitive/DoubleRingBufferClearPinLaw" (24 : Nat) ({ cls := "com/example/rondel/rondel/primitive/DoubleRingBuffer", name := "getFirst", desc := "()D" } : Jvm.MethodName)).before a0 Z = true := hw _ (List.mem_of_getElem? (i := 42) rfl)
theorem d8_0 : decode prog_11_method_9_code 0 = .ok (.aload_n 0, 1) := by decide +kernel
theorem d8_1 : decode prog_11_method_9_code 1 = .ok (.invokevirtual 48, 3) := by decide +kernel
theorem w47 {Z : State} {a0 : Array Value} (hw : ∀ d ∈ tables_1, d.before a0 Z = true) : (Jvm.Cond.methodLink "com/example/rondel/rondel/primitive/DoubleRingBuffer" (48 : Nat) ({ cls := "com/example/rondel/rondel/primitive/DoubleRingBuffer", name := "checkNotEmpty", desc := "()V" } : Jvm.MethodName)).before a0 Z = true := hw _ (List.mem_of_getElem? (i := 47) rfl)
theorem d9_0 : decode prog_11_method_17_code 0 = .ok (.aload_n 0, 1) := by decide +kernel
theorem d9_1 : decode prog_11_method_17_code 1 = .ok (.getfield 24, 3) := by decide +kernel
theorem d9_4 : decode prog_11_method_17_code 4 = .ok (.ifCond .ne 13, 3) := by decide +kernel
theorem d9_17 : decode prog_11_method_17_code 17 = .ok (.return_, 1) := by decide +kernel
theorem w50 {Z : State} {a0 : Array Value} (hw : ∀ d ∈ tables_1, d.before a0 Z = true) : (Jvm.Cond.code ({ cls := "com/example/rondel/rondel/primitive/DoubleRingBuffer", name := "checkNotEmpty", desc := "()V" } : Jvm.MethodName) prog_11_method_17_code (1 : Nat) (Option.none : Option Jvm.ClassFile.FieldType)).before a0 Z = true := hw _ (List.mem_of_getElem? (i := 50) rfl)
theorem w48 {Z : State} {a0 : Array Value} (hw : ∀ d ∈ tables_1, d.before a0 Z = true) : (Jvm.Cond.instanceMethod ({ cls := "com/example/rondel/rondel/primitive/DoubleRingBuffer", name := "checkNotEmpty", desc := "()V" } : Jvm.MethodName)).before a0 Z = true := hw _ (List.mem_of_getElem? (i := 48) rfl)
theorem w49 {Z : State} {a0 : Array Value} (hw : ∀ d ∈ tables_1, d.before a0 Z = true) : (Jvm.Cond.privateMethod ({ cls := "com/example/rondel/rondel/primitive/DoubleRingBuffer", name := "checkNotEmpty", desc := "()V" } : Jvm.MethodName)).before a0 Z = true := hw _ (List.mem_of_getElem? (i := 49) rfl)
theorem d8_4 : decode prog_11_method_9_code 4 = .ok (.aload_n 0, 1) := by decide +kernel
theorem d8_5 : decode prog_11_method_9_code 5 = .ok (.getfield 18, 3) := by decide +kernel
theorem d8_8 : decode prog_11_method_9_code 8 = .ok (.aload_n 0, 1) := by decide +kernel
theorem d8_9 : decode prog_11_method_9_code 9 = .ok (.getfield 28, 3) := by decide +kernel
theorem d8_12 : decode prog_11_method_9_code 12 = .ok (.daload, 1) := by decide +kernel
theorem d8_13 : decode prog_11_method_9_code 13 = .ok (.dreturn, 1) := by decide +kernel
theorem w46 {Z : State} {a0 : Array Value} (hw : ∀ d ∈ tables_1, d.before a0 Z = true) : (Jvm.Cond.code ({ cls := "com/example/rondel/rondel/primitive/DoubleRingBuffer", name := "getFirst", desc := "()D" } : Jvm.MethodName) prog_11_method_9_code (1 : Nat) (Option.some Jvm.ClassFile.FieldType.double)).before a0 Z = true := hw _ (List.mem_of_getElem? (i := 46) rfl)
theorem pd_107 : parseMethodDescriptor "()D" = some ⟨[], some .double⟩ := by decide +kernel
theorem w43 {Z : State} {a0 : Array Value} (hw : ∀ d ∈ tables_1, d.before a0 Z = true) : (Jvm.Cond.declares ({ cls := "com/example/rondel/rondel/primitive/DoubleRingBuffer", name := "getFirst", desc := "()D" } : Jvm.MethodName)).before a0 Z = true := hw _ (List.mem_of_getElem? (i := 43) rfl)
theorem w45 {Z : State} {a0 : Array Value} (hw : ∀ d ∈ tables_1, d.before a0 Z = true) : (Jvm.Cond.selects "com/example/rondel/rondel/primitive/DoubleRingBuffer" ({ cls := "com/example/rondel/rondel/primitive/DoubleRingBuffer", name := "getFirst", desc := "()D" } : Jvm.MethodName) ({ cls := "com/example/rondel/rondel/primitive/DoubleRingBuffer", name := "getFirst", desc := "()D" } : Jvm.MethodName)).before a0 Z = true := hw _ (List.mem_of_getElem? (i := 45) rfl)
theorem w44 {Z : State} {a0 : Array Value} (hw : ∀ d ∈ tables_1, d.before a0 Z = true) : (Jvm.Cond.instanceMethod ({ cls := "com/example/rondel/rondel/primitive/DoubleRingBuffer", name := "getFirst", desc := "()D" } : Jvm.MethodName)).before a0 Z = true := hw _ (List.mem_of_getElem? (i := 44) rfl)
theorem w51 {Z : State} {a0 : Array Value} (hw : ∀ d ∈ tables_1, d.before a0 Z = true) : (Jvm.Cond.methodLink "com/example/rondel/rondel/primitive/DoubleRingBufferClearPinLaw" (28 : Nat) ({ cls := "com/example/rondel/rondel/primitive/DoubleRingBuffer", name := "getLast", desc := "()D" } : Jvm.MethodName)).before a0 Z = true := hw _ (List.mem_of_getElem? (i := 51) rfl)
theorem d10_0 : decode prog_11_method_10_code 0 = .ok (.aload_n 0, 1) := by decide +kernel
theorem d10_1 : decode prog_11_method_10_code 1 = .ok (.invokevirtual 48, 3) := by decide +kernel
theorem d10_4 : decode prog_11_method_10_code 4 = .ok (.aload_n 0, 1) := by decide +kernel
theorem d10_5 : decode prog_11_method_10_code 5 = .ok (.getfield 18, 3) := by decide +kernel
theorem d10_8 : decode prog_11_method_10_code 8 = .ok (.aload_n 0, 1) := by decide +kernel
theorem d10_9 : decode prog_11_method_10_code 9 = .ok (.aload_n 0, 1) := by decide +kernel
theorem d10_10 : decode prog_11_method_10_code 10 = .ok (.getfield 24, 3) := by decide +kernel
theorem d10_13 : decode prog_11_method_10_code 13 = .ok (.iconst 1, 1) := by decide +kernel
theorem d10_14 : decode prog_11_method_10_code 14 = .ok (.isub, 1) := by decide +kernel
theorem d10_15 : decode prog_11_method_10_code 15 = .ok (.invokevirtual 35, 3) := by decide +kernel
theorem d10_18 : decode prog_11_method_10_code 18 = .ok (.daload, 1) := by decide +kernel
theorem d10_19 : decode prog_11_method_10_code 19 = .ok (.dreturn, 1) := by decide +kernel
theorem w55 {Z : State} {a0 : Array Value} (hw : ∀ d ∈ tables_1, d.before a0 Z = true) : (Jvm.Cond.code ({ cls := "com/example/rondel/rondel/primitive/DoubleRingBuffer", name := "getLast", desc := "()D" } : Jvm.MethodName) prog_11_method_10_code (1 : Nat) (Option.some Jvm.ClassFile.FieldType.double)).before a0 Z = true := hw _ (List.mem_of_getElem? (i := 55) rfl)
theorem w52 {Z : State} {a0 : Array Value} (hw : ∀ d ∈ tables_1, d.before a0 Z = true) : (Jvm.Cond.declares ({ cls := "com/example/rondel/rondel/primitive/DoubleRingBuffer", name := "getLast", desc := "()D" } : Jvm.MethodName)).before a0 Z = true := hw _ (List.mem_of_getElem? (i := 52) rfl)
theorem w54 {Z : State} {a0 : Array Value} (hw : ∀ d ∈ tables_1, d.before a0 Z = true) : (Jvm.Cond.selects "com/example/rondel/rondel/primitive/DoubleRingBuffer" ({ cls := "com/example/rondel/rondel/primitive/DoubleRingBuffer", name := "getLast", desc := "()D" } : Jvm.MethodName) ({ cls := "com/example/rondel/rondel/primitive/DoubleRingBuffer", name := "getLast", desc := "()D" } : Jvm.MethodName)).before a0 Z = true := hw _ (List.mem_of_getElem? (i := 54) rfl)
theorem w53 {Z : State} {a0 : Array Value} (hw : ∀ d ∈ tables_1, d.before a0 Z = true) : (Jvm.Cond.instanceMethod ({ cls := "com/example/rondel/rondel/primitive/DoubleRingBuffer", name := "getLast", desc := "()D" } : Jvm.MethodName)).before a0 Z = true := hw _ (List.mem_of_getElem? (i := 53) rfl)
theorem d5_15 : decode prog_11_method_19_code 15 = .ok (.iload_n 1, 1) := by decide +kernel
theorem d5_16 : decode prog_11_method_19_code 16 = .ok (.iconst 1, 1) := by decide +kernel
theorem d5_17 : decode prog_11_method_19_code 17 = .ok (.iadd, 1) := by decide +kernel
theorem d4_25 : decode prog_11_method_18_code 25 = .ok (.iload_n 1, 1) := by decide +kernel
theorem d4_26 : decode prog_11_method_18_code 26 = .ok (.iload_n 2, 1) := by decide +kernel
theorem d4_27 : decode prog_11_method_18_code 27 = .ok (.isub, 1) := by decide +kernel
theorem pn_126 : plainName "com/example/rondel/rondel/primitive/DoubleRingBufferClearPinLaw" = true := by first | (simp [plainName, overriddenIn]; done) | decide +kernel
set_option maxRecDepth 65536 in
set_option maxHeartbeats 40000000 in
theorem rm_init_0 {l : Launch} {Z : State} {a0 : Array Value} (hw : ∀ d ∈ tables_1, d.before a0 Z = true) {o0 : Addr} {i1 : Int32} {h0 : Heap} {n0 : Nat} (O : Old Z n0 h0)  (P0 : Exa Z h0 o0 "com/example/rondel/rondel/primitive/DoubleRingBuffer") (P1 : Fld Z h0 o0 "com/example/rondel/rondel/primitive/DoubleRingBuffer" "readings" "[D" .null) (P2 : Fld Z h0 o0 "com/example/rondel/rondel/primitive/DoubleRingBuffer" "size" "I" (.int (0 : Int32))) (P3 : Fld Z h0 o0 "com/example/rondel/rondel/primitive/DoubleRingBuffer" "head" "I" (.int (0 : Int32))) (P4 : Fld Z h0 o0 "com/example/rondel/rondel/primitive/DoubleRingBuffer" "modCount" "I" (.int i1)) (G0 : n0 ≤ o0) :
    Met0 l Z (⟨"com/example/rondel/rondel/primitive/DoubleRingBuffer", "<init>", "(I)V"⟩ : MethodName) prog_11_method_1_code 2 none ({ frames := 1, cells := 1, slots := 1, locals := 12 } : Room) #[(.ref o0), (.int (1 : Int32))] h0 n0 (fun h => ∃ b3 : Addr, ∃ kA6 : ClassId, Keep h0 h [o0] ∧ n0 ≤ b3 ∧ h0.size ≤ b3 ∧ Exa Z h o0 "com/example/rondel/rondel/primitive/DoubleRingBuffer" ∧ Fld Z h o0 "com/example/rondel/rondel/primitive/DoubleRingBuffer" "readings" "[D" (.ref b3) ∧ Fld Z h o0 "com/example/rondel/rondel/primitive/DoubleRingBuffer" "size" "I" (.int (0 : Int32)) ∧ Fld Z h o0 "com/example/rondel/rondel/primitive/DoubleRingBuffer" "head" "I" (.int (0 : Int32)) ∧ Fld Z h o0 "com/example/rondel/rondel/primitive/DoubleRingBuffer" "modCount" "I" (.int i1) ∧ Arv Z h b3 kA6 .double (1 : Int32) [(.double 0)] (.double 0)) := by
  refine met_of (L := #[.val (.ref o0), .val (.int (1 : Int32))]) (plainFor_of_name pn_10) (fun m => by first | (simp [entryFrame, mkF, argsToLocals, Value.category]; done) | rfl) ?_
  intro p e s m below meth c T C X
  change Cx p s m meth c Z "com/example/rondel/rondel/primitive/DoubleRingBuffer" prog_11_method_1_code 2 none "<init>" at C
  refine g_aloadN C X d1_0 (q := 1) rfl rfl rfl ?_
  refine g_initO C X (w7 hw) (w8 hw) (w9 hw) rfl d1_1 (q := 4) rfl (by decide) (by decide) ?_
  intro T1 X2
  refine g_iloadN C X2 d1_4 (q := 5) rfl rfl ?_
  refine g_iconst C X2 d1_5 (q := 6) rfl (z := (1 : Int32)) rfl ?_
  refine g_icY C X2 d1_6 (by decide) (q := 23) (by decide) (by decide) ?_
  refine g_aloadN C X2 d1_23 (q := 24) rfl rfl rfl ?_
  refine g_iloadN C X2 d1_24 (q := 25) rfl rfl ?_
  refine g_newP C X2 (w10 hw) rfl d1_25 (q := 27) rfl (by decide) (cap := 1) (by decide) (by decide) (k' := 1) rfl (n' := 1) rfl (by decide) (by decide) ?_
  intro T4 h5 kA6 b3 g8 X7 E9 V10
  have ge11 : n0 ≤ b3 := own_ge O g8
  have O12 := O.ext E9
  have V13 : Arv Z h5 b3 kA6 .double (1 : Int32) [(.double 0)] (.double 0) := Arv.pad V10 (pad_rep [] _ 1)
  have f14 := (P1.ext E9)
  have f15 := (P0.ext E9)
  refine g_putF C X7 (host := "") (Or.inl (w11 hw)) Via.refl f14 f15 (Or.inr ⟨(w12 hw), rfl, rfl⟩) (w2 hw) (ty := (.array .double)) (by decide) rfl rfl d1_27 (q := 30) rfl G0 ?_
  intro T16 h18 X17 W19
  have FW19 := Fld.same W19 f14
  have O20 := O12.wr W19 G0
  exact g_retV C X17 d1_30 (by decide) (by decide) ⟨rfl, b3, kA6, (((Keep.refl h0 [o0]).ext E9).wr W19 (Or.inl (List.mem_of_getElem? (i := 0) rfl))), ge11, (own_sz (Keep.refl h0 [o0]).1 g8), (f15.wr W19), FW19, ((P2.ext E9).other W19 (Or.inr (slot_ne (Or.inl (w19 hw)) (Or.inr (w12 hw)) (by decide) (t := .int) (t' := (.array .double)) (by decide) (by decide)))), ((P3.ext E9).other W19 (Or.inr (slot_ne (Or.inl (w25 hw)) (Or.inr (w12 hw)) (by decide) (t := .int) (t' := (.array .double)) (by decide) (by decide)))), ((P4.ext E9).other W19 (Or.inr (slot_ne (Or.inl (w27 hw)) (Or.inr (w12 hw)) (by decide) (t := .int) (t' := (.array .double)) (by decide) (by decide)))), (V13.other W19 (Ne.symm (own_ne P0.lt g8)))⟩
set_option maxRecDepth 65536 in
set_option maxHeartbeats 40000000 in
theorem rm_slot_0 {l : Launch} {Z : State} {a0 : Array Value} (hw : ∀ d ∈ tables_1, d.before a0 Z = true) {o0 : Addr} {o1 : Addr} {i2 : Int32} {kc3 : ClassId} {x4 : UInt64} {h0 : Heap} {n0 : Nat} (O : Old Z n0 h0)  (P0 : Exa Z h0 o0 "com/example/rondel/rondel/primitive/DoubleRingBuffer") (P1 : Fld Z h0 o0 "com/example/rondel/rondel/primitive/DoubleRingBuffer" "readings" "[D" (.ref o1)) (P2 : Fld Z h0 o0 "com/example/rondel/rondel/primitive/DoubleRingBuffer" "size" "I" (.int (0 : Int32))) (P3 : Fld Z h0 o0 "com/example/rondel/rondel/primitive/DoubleRingBuffer" "head" "I" (.int (0 : Int32))) (P4 : Fld Z h0 o0 "com/example/rondel/rondel/primitive/DoubleRingBuffer" "modCount" "I" (.int i2)) (P5 : Arv Z h0 o1 kc3 .double (1 : Int32) [(.double x4)] (.double 0)) (G0 : n0 ≤ o0) (G1 : n0 ≤ o1) (N0_1 : o0 ≠ o1) :
    Met1 l Z (⟨"com/example/rondel/rondel/primitive/DoubleRingBuffer", "slot", "(I)I"⟩ : MethodName) prog_11_method_18_code 3 (some .int) ({ frames := 0, cells := 0, slots := 0, locals := 0 } : Room) #[(.ref o0), (.int (0 : Int32))] h0 n0 (fun v h => v = (.int (0 : Int32)) ∧ h0 = h) := by
  refine met_of (L := #[.val (.ref o0), .val (.int (0 : Int32)), .unset]) (plainFor_of_name pn_10) (fun m => by first | (simp [entryFrame, mkF, argsToLocals, Value.category]; done) | rfl) ?_
  intro p e s m below meth c T C X
  change Cx p s m meth c Z "com/example/rondel/rondel/primitive/DoubleRingBuffer" prog_11_method_18_code 3 (some .int) "slot" at C
  refine g_aloadN C X d4_0 (q := 1) rfl rfl rfl ?_
  refine g_getF C X (host := "") (Or.inl (w11 hw)) Via.refl P1 d4_1 (q := 4) rfl ?_
  intro T1 X2
  refine g_alen C X2 P5 d4_4 (q := 5) rfl ?_
  refine g_aloadN C X2 d4_5 (q := 6) rfl rfl rfl ?_
  refine g_getF C X2 (host := "") (Or.inl (w24 hw)) Via.refl P3 d4_6 (q := 9) rfl ?_
  intro T3 X4
  refine g_isub C X4 d4_9 (q := 10) rfl (z := (1 : Int32)) (by decide) ?_
  refine g_istoreN C X4 d4_10 (q := 11) rfl (L' := #[.val (.ref o0), .val (.int (0 : Int32)), .val (.int (1 : Int32))]) rfl ?_
  refine g_iloadN C X4 d4_11 (q := 12) rfl rfl ?_
  refine g_iloadN C X4 d4_12 (q := 13) rfl rfl ?_
  refine g_icN C X4 d4_13 (q := 16) rfl (by decide) ?_
  refine g_aloadN C X4 d4_16 (q := 17) rfl rfl rfl ?_
  refine g_getF C X4 (host := "") (Or.inl (w24 hw)) Via.refl P3 d4_17 (q := 20) rfl ?_
  intro T5 X6
  refine g_iloadN C X6 d4_20 (q := 21) rfl rfl ?_
  refine g_iadd C X6 d4_21 (q := 22) rfl (z := (0 : Int32)) (by decide) ?_
  refine g_goto C X6 d4_22 (by decide) (q := 28) (by decide) ?_
  exact g_retI C X6 d4_28 (by decide) (by decide) ⟨_, rfl, rfl, rfl⟩
set_option maxRecDepth 65536 in
set_option maxHeartbeats 40000000 in
theorem rm_add_0 {l : Launch} {Z : State} {a0 : Array Value} (hw : ∀ d ∈ tables_1, d.before a0 Z = true) {o0 : Addr} {o1 : Addr} {i2 : Int32} {kc3 : ClassId} {x4 : UInt64} {x5 : UInt64} {h0 : Heap} {n0 : Nat} (O : Old Z n0 h0)  (P0 : Exa Z h0 o0 "com/example/rondel/rondel/primitive/DoubleRingBuffer") (P1 : Fld Z h0 o0 "com/example/rondel/rondel/primitive/DoubleRingBuffer" "readings" "[D" (.ref o1)) (P2 : Fld Z h0 o0 "com/example/rondel/rondel/primitive/DoubleRingBuffer" "size" "I" (.int (0 : Int32))) (P3 : Fld Z h0 o0 "com/example/rondel/rondel/primitive/DoubleRingBuffer" "head" "I" (.int (0 : Int32))) (P4 : Fld Z h0 o0 "com/example/rondel/rondel/primitive/DoubleRingBuffer" "modCount" "I" (.int i2)) (P5 : Arv Z h0 o1 kc3 .double (1 : Int32) [(.double x4)] (.double 0)) (G0 : n0 ≤ o0) (G1 : n0 ≤ o1) (N0_1 : o0 ≠ o1) :
    Met0 l Z (⟨"com/example/rondel/rondel/primitive/DoubleRingBuffer", "add", "(D)V"⟩ : MethodName) prog_11_method_6_code 3 none ({ frames := 1, cells := 0, slots := 0, locals := 15 } : Room) #[(.ref o0), (.double x5)] h0 n0 (fun h => Keep h0 h [o1, o0] ∧ Exa Z h o0 "com/example/rondel/rondel/primitive/DoubleRingBuffer" ∧ Fld Z h o0 "com/example/rondel/rondel/primitive/DoubleRingBuffer" "readings" "[D" (.ref o1) ∧ Fld Z h o0 "com/example/rondel/rondel/primitive/DoubleRingBuffer" "size" "I" (.int (1 : Int32)) ∧ Fld Z h o0 "com/example/rondel/rondel/primitive/DoubleRingBuffer" "head" "I" (.int (0 : Int32)) ∧ Fld Z h o0 "com/example/rondel/rondel/primitive/DoubleRingBuffer" "modCount" "I" (.int (i2 + (1 : Int32))) ∧ Arv Z h o1 kc3 .double (1 : Int32) [(.double x5)] (.double 0)) := by
  refine met_of (L := #[.val (.ref o0), .val (.double x5), .second]) (plainFor_of_name pn_10) (fun m => by first | (simp [entryFrame, mkF, argsToLocals, Value.category]; done) | rfl) ?_
  intro p e s m below meth c T C X
  change Cx p s m meth c Z "com/example/rondel/rondel/primitive/DoubleRingBuffer" prog_11_method_6_code 3 none "add" at C
  refine g_aloadN C X d3_0 (q := 1) rfl rfl rfl ?_
  refine g_getF C X (host := "") (Or.inl (w18 hw)) Via.refl P2 d3_1 (q := 4) rfl ?_
  intro T1 X2
  refine g_aloadN C X2 d3_4 (q := 5) rfl rfl rfl ?_
  refine g_getF C X2 (host := "") (Or.inl (w11 hw)) Via.refl P1 d3_5 (q := 8) rfl ?_
  intro T3 X4
  refine g_alen C X4 P5 d3_8 (q := 9) rfl ?_
  refine g_icY C X4 d3_9 (by decide) (q := 37) (by decide) (by decide) ?_
  refine g_aloadN C X4 d3_37 (q := 38) rfl rfl rfl ?_
  refine g_getF C X4 (host := "") (Or.inl (w11 hw)) Via.refl P1 d3_38 (q := 41) rfl ?_
  intro T5 X6
  refine g_aloadN C X6 d3_41 (q := 42) rfl rfl rfl ?_
  refine g_aloadN C X6 d3_42 (q := 43) rfl rfl rfl ?_
  refine g_getF C X6 (host := "") (Or.inl (w18 hw)) Via.refl P2 d3_43 (q := 46) rfl ?_
  intro T7 X8
  refine g_callP1 C X8 (y := (⟨"com/example/rondel/rondel/primitive/DoubleRingBuffer", "slot", "(I)I"⟩ : MethodName)) (a := o0) (by decide) (w20 hw) (sel_priv (w2 hw) (w21 hw) (w22 hw) (by decide)) (w21 hw) (w22 hw) P0 (w23 hw) (w3 hw) (rm_slot_0 hw (o0 := o0) (o1 := o1) (i2 := i2) (kc3 := kc3) (x4 := x4) O P0 P1 P2 P3 P4 P5 G0 G1 N0_1) (W := 1) (by decide) (by decide) (k' := 0) rfl (n' := 0) rfl (by decide) (by decide) rfl pd_40 (argsL := [(.int (0 : Int32))]) rfl (rest := [(.ref o1)]) rfl rfl rfl d3_46 (q := 49) rfl ?_
  rintro _ T9 _ X10 ⟨rfl, rfl⟩
  refine g_dloadN C X10 d3_49 (q := 50) rfl rfl ?_
  refine g_dastore C X10 P5 (by decide) (i := 0) (by decide) (Nat.le_of_ble_eq_true rfl) (vs' := [(.double x5)]) rfl G1 d3_50 (q := 51) rfl ?_
  intro T11 h12 X13 W14 V15
  have O16 := O.wr W14 G1
  refine g_aloadN C X13 d3_51 (q := 52) rfl rfl rfl ?_
  refine g_dup C X13 d3_52 (q := 53) rfl rfl ?_
  have f17 := (P2.other W14 (Or.inl N0_1))
  refine g_getF C X13 (host := "") (Or.inl (w18 hw)) Via.refl f17 d3_53 (q := 56) rfl ?_
  intro T18 X19
  refine g_iconst C X19 d3_56 (q := 57) rfl (z := (1 : Int32)) rfl ?_
  refine g_iadd C X19 d3_57 (q := 58) rfl (z := (1 : Int32)) (by decide) ?_
  have f20 := (P0.wr W14)
  refine g_putF C X19 (host := "") (Or.inl (w18 hw)) Via.refl f17 f20 (Or.inl (w19 hw)) (w2 hw) (ty := .int) (by decide) rfl rfl d3_58 (q := 61) rfl G0 ?_
  intro T21 h23 X22 W24
  have FW24 := Fld.same W24 f17
  have O25 := O16.wr W24 G0
  refine g_aloadN C X22 d3_61 (q := 62) rfl rfl rfl ?_
  refine g_dup C X22 d3_62 (q := 63) rfl rfl ?_
  have f26 := ((P4.other W14 (Or.inl N0_1)).other W24 (Or.inr (slot_ne (Or.inl (w27 hw)) (Or.inl (w19 hw)) (by decide) (t := .int) (t' := .int) (by decide) (by decide))))
  refine g_getF C X22 (host := "") (Or.inl (w26 hw)) Via.refl f26 d3_63 (q := 66) rfl ?_
  intro T27 X28
  refine g_iconst C X28 d3_66 (q := 67) rfl (z := (1 : Int32)) rfl ?_
  refine g_iadd C X28 d3_67 (q := 68) rfl (z := (i2 + (1 : Int32))) rfl ?_
  have f29 := (f20.wr W24)
  refine g_putF C X28 (host := "") (Or.inl (w26 hw)) Via.refl f26 f29 (Or.inl (w27 hw)) (w2 hw) (ty := .int) (by decide) rfl rfl d3_68 (q := 71) rfl G0 ?_
  intro T30 h32 X31 W33
  have FW33 := Fld.same W33 f26
  have O34 := O25.wr W33 G0
  exact g_retV C X31 d3_71 (by decide) (by decide) ⟨rfl, ((((Keep.refl h0 [o1, o0]).wr W14 (Or.inl (List.mem_of_getElem? (i := 0) rfl))).wr W24 (Or.inl (List.mem_of_getElem? (i := 1) rfl))).wr W33 (Or.inl (List.mem_of_getElem? (i := 1) rfl))), (f29.wr W33), (((P1.other W14 (Or.inl N0_1)).other W24 (Or.inr (slot_ne (Or.inr (w12 hw)) (Or.inl (w19 hw)) (by decide) (t := (.array .double)) (t' := .int) (by decide) (by decide)))).other W33 (Or.inr (slot_ne (Or.inr (w12 hw)) (Or.inl (w27 hw)) (by decide) (t := (.array .double)) (t' := .int) (by decide) (by decide)))), (FW24.other W33 (Or.inr (slot_ne (Or.inl (w19 hw)) (Or.inl (w27 hw)) (by decide) (t := .int) (t' := .int) (by decide) (by decide)))), (((P3.other W14 (Or.inl N0_1)).other W24 (Or.inr (slot_ne (Or.inl (w25 hw)) (Or.inl (w19 hw)) (by decide) (t := .int) (t' := .int) (by decide) (by decide)))).other W33 (Or.inr (slot_ne (Or.inl (w25 hw)) (Or.inl (w27 hw)) (by decide) (t := .int) (t' := .int) (by decide) (by decide)))), FW33, ((V15.other W24 (Ne.symm N0_1)).other W33 (Ne.symm N0_1))⟩
set_option maxRecDepth 65536 in
set_option maxHeartbeats 40000000 in
theorem rm_next_0 {l : Launch} {Z : State} {a0 : Array Value} (hw : ∀ d ∈ tables_1, d.before a0 Z = true) {o0 : Addr} {o1 : Addr} {i2 : Int32} {kc3 : ClassId} {x4 : UInt64} {h0 : Heap} {n0 : Nat} (O : Old Z n0 h0)  (P0 : Exa Z h0 o0 "com/example/rondel/rondel/primitive/DoubleRingBuffer") (P1 : Fld Z h0 o0 "com/example/rondel/rondel/primitive/DoubleRingBuffer" "readings" "[D" (.ref o1)) (P2 : Fld Z h0 o0 "com/example/rondel/rondel/primitive/DoubleRingBuffer" "size" "I" (.int (1 : Int32))) (P3 : Fld Z h0 o0 "com/example/rondel/rondel/primitive/DoubleRingBuffer" "head" "I" (.int (0 : Int32))) (P4 : Fld Z h0 o0 "com/example/rondel/rondel/primitive/DoubleRingBuffer" "modCount" "I" (.int i2)) (P5 : Arv Z h0 o1 kc3 .double (1 : Int32) [(.double x4)] (.double 0)) (G0 : n0 ≤ o0) (G1 : n0 ≤ o1) (N0_1 : o0 ≠ o1) :
    Met1 l Z (⟨"com/example/rondel/rondel/primitive/DoubleRingBuffer", "next", "(I)I"⟩ : MethodName) prog_11_method_19_code 2 (some .int) ({ frames := 0, cells := 0, slots := 0, locals := 0 } : Room) #[(.ref o0), (.int (0 : Int32))] h0 n0 (fun v h => v = (.int (0 : Int32)) ∧ h0 = h) := by
  refine met_of (L := #[.val (.ref o0), .val (.int (0 : Int32))]) (plainFor_of_name pn_10) (fun m => by first | (simp [entryFrame, mkF, argsToLocals, Value.category]; done) | rfl) ?_
  intro p e s m below meth c T C X
  change Cx p s m meth c Z "com/example/rondel/rondel/primitive/DoubleRingBuffer" prog_11_method_19_code 2 (some .int) "next" at C
  refine g_iloadN C X d5_0 (q := 1) rfl rfl ?_
  refine g_aloadN C X d5_1 (q := 2) rfl rfl rfl ?_
  refine g_getF C X (host := "") (Or.inl (w11 hw)) Via.refl P1 d5_2 (q := 5) rfl ?_
  intro T1 X2
  refine g_alen C X2 P5 d5_5 (q := 6) rfl ?_
  refine g_iconst C X2 d5_6 (q := 7) rfl (z := (1 : Int32)) rfl ?_
  refine g_isub C X2 d5_7 (q := 8) rfl (z := (0 : Int32)) (by decide) ?_
  refine g_icN C X2 d5_8 (q := 11) rfl (by decide) ?_
  refine g_iconst C X2 d5_11 (q := 12) rfl (z := (0 : Int32)) rfl ?_
  refine g_goto C X2 d5_12 (by decide) (q := 18) (by decide) ?_
  exact g_retI C X2 d5_18 (by decide) (by decide) ⟨_, rfl, rfl, rfl⟩
set_option maxRecDepth 65536 in
set_option maxHeartbeats 40000000 in
theorem rm_add_1 {l : Launch} {Z : State} {a0 : Array Value} (hw : ∀ d ∈ tables_1, d.before a0 Z = true) {o0 : Addr} {o1 : Addr} {i2 : Int32} {kc3 : ClassId} {x4 : UInt64} {x5 : UInt64} {h0 : Heap} {n0 : Nat} (O : Old Z n0 h0)  (P0 : Exa Z h0 o0 "com/example/rondel/rondel/primitive/DoubleRingBuffer") (P1 : Fld Z h0 o0 "com/example/rondel/rondel/primitive/DoubleRingBuffer" "readings" "[D" (.ref o1)) (P2 : Fld Z h0 o0 "com/example/rondel/rondel/primitive/DoubleRingBuffer" "size" "I" (.int (1 : Int32))) (P3 : Fld Z h0 o0 "com/example/rondel/rondel/primitive/DoubleRingBuffer" "head" "I" (.int (0 : Int32))) (P4 : Fld Z h0 o0 "com/example/rondel/rondel/primitive/DoubleRingBuffer" "modCount" "I" (.int i2)) (P5 : Arv Z h0 o1 kc3 .double (1 : Int32) [(.double x4)] (.double 0)) (G0 : n0 ≤ o0) (G1 : n0 ≤ o1) (N0_1 : o0 ≠ o1) :
    Met0 l Z (⟨"com/example/rondel/rondel/primitive/DoubleRingBuffer", "add", "(D)V"⟩ : MethodName) prog_11_method_6_code 3 none ({ frames := 1, cells := 0, slots := 0, locals := 14 } : Room) #[(.ref o0), (.double x5)] h0 n0 (fun h => Keep h0 h [o1, o0] ∧ Exa Z h o0 "com/example/rondel/rondel/primitive/DoubleRingBuffer" ∧ Fld Z h o0 "com/example/rondel/rondel/primitive/DoubleRingBuffer" "readings" "[D" (.ref o1) ∧ Fld Z h o0 "com/example/rondel/rondel/primitive/DoubleRingBuffer" "size" "I" (.int (1 : Int32)) ∧ Fld Z h o0 "com/example/rondel/rondel/primitive/DoubleRingBuffer" "head" "I" (.int (0 : Int32)) ∧ Fld Z h o0 "com/example/rondel/rondel/primitive/DoubleRingBuffer" "modCount" "I" (.int (i2 + (1 : Int32))) ∧ Arv Z h o1 kc3 .double (1 : Int32) [(.double x5)] (.double 0)) := by
  refine met_of (L := #[.val (.ref o0), .val (.double x5), .second]) (plainFor_of_name pn_10) (fun m => by first | (simp [entryFrame, mkF, argsToLocals, Value.category]; done) | rfl) ?_
  intro p e s m below meth c T C X
  change Cx p s m meth c Z "com/example/rondel/rondel/primitive/DoubleRingBuffer" prog_11_method_6_code 3 none "add" at C
  refine g_aloadN C X d3_0 (q := 1) rfl rfl rfl ?_
  refine g_getF C X (host := "") (Or.inl (w18 hw)) Via.refl P2 d3_1 (q := 4) rfl ?_
  intro T1 X2
  refine g_aloadN C X2 d3_4 (q := 5) rfl rfl rfl ?_
  refine g_getF C X2 (host := "") (Or.inl (w11 hw)) Via.refl P1 d3_5 (q := 8) rfl ?_
  intro T3 X4
  refine g_alen C X4 P5 d3_8 (q := 9) rfl ?_
  refine g_icN C X4 d3_9 (q := 12) rfl (by decide) ?_
  refine g_aloadN C X4 d3_12 (q := 13) rfl rfl rfl ?_
  refine g_getF C X4 (host := "") (Or.inl (w11 hw)) Via.refl P1 d3_13 (q := 16) rfl ?_
  intro T5 X6
  refine g_aloadN C X6 d3_16 (q := 17) rfl rfl rfl ?_
  refine g_getF C X6 (host := "") (Or.inl (w24 hw)) Via.refl P3 d3_17 (q := 20) rfl ?_
  intro T7 X8
  refine g_dloadN C X8 d3_20 (q := 21) rfl rfl ?_
  refine g_dastore C X8 P5 (by decide) (i := 0) (by decide) (Nat.le_of_ble_eq_true rfl) (vs' := [(.double x5)]) rfl G1 d3_21 (q := 22) rfl ?_
  intro T9 h10 X11 W12 V13
  have O14 := O.wr W12 G1
  refine g_aloadN C X11 d3_22 (q := 23) rfl rfl rfl ?_
  refine g_aloadN C X11 d3_23 (q := 24) rfl rfl rfl ?_
  refine g_aloadN C X11 d3_24 (q := 25) rfl rfl rfl ?_
  have f15 := (P3.other W12 (Or.inl N0_1))
  refine g_getF C X11 (host := "") (Or.inl (w24 hw)) Via.refl f15 d3_25 (q := 28) rfl ?_
  intro T16 X17
  have f18 := (P0.wr W12)
  have f19 := (P1.other W12 (Or.inl N0_1))
  have f20 := (P2.other W12 (Or.inl N0_1))
  have f21 := (P4.other W12 (Or.inl N0_1))
  refine g_callP1 C X17 (y := (⟨"com/example/rondel/rondel/primitive/DoubleRingBuffer", "next", "(I)I"⟩ : MethodName)) (a := o0) (by decide) (w28 hw) (sel_priv (w2 hw) (w29 hw) (w30 hw) (by decide)) (w29 hw) (w30 hw) f18 (w31 hw) (w3 hw) (rm_next_0 hw (o0 := o0) (o1 := o1) (i2 := i2) (kc3 := kc3) (x4 := x5) O14 f18 f19 f20 f15 f21 V13 G0 G1 N0_1) (W := 1) (by decide) (by decide) (k' := 0) rfl (n' := 0) rfl (by decide) (by decide) rfl pd_40 (argsL := [(.int (0 : Int32))]) rfl (rest := [(.ref o0)]) rfl rfl rfl d3_28 (q := 31) rfl ?_
  rintro _ T22 _ X23 ⟨rfl, rfl⟩
  refine g_putF C X23 (host := "") (Or.inl (w24 hw)) Via.refl f15 f18 (Or.inl (w25 hw)) (w2 hw) (ty := .int) (by decide) rfl rfl d3_31 (q := 34) rfl G0 ?_
  intro T24 h26 X25 W27
  have FW27 := Fld.same W27 f15
  have O28 := O14.wr W27 G0
  refine g_goto C X25 d3_34 (by decide) (q := 61) (by decide) ?_
  refine g_aloadN C X25 d3_61 (q := 62) rfl rfl rfl ?_
  refine g_dup C X25 d3_62 (q := 63) rfl rfl ?_
  have f29 := (f21.other W27 (Or.inr (slot_ne (Or.inl (w27 hw)) (Or.inl (w25 hw)) (by decide) (t := .int) (t' := .int) (by decide) (by decide))))
  refine g_getF C X25 (host := "") (Or.inl (w26 hw)) Via.refl f29 d3_63 (q := 66) rfl ?_
  intro T30 X31
  refine g_iconst C X31 d3_66 (q := 67) rfl (z := (1 : Int32)) rfl ?_
  refine g_iadd C X31 d3_67 (q := 68) rfl (z := (i2 + (1 : Int32))) rfl ?_
  have f32 := (f18.wr W27)
  refine g_putF C X31 (host := "") (Or.inl (w26 hw)) Via.refl f29 f32 (Or.inl (w27 hw)) (w2 hw) (ty := .int) (by decide) rfl rfl d3_68 (q := 71) rfl G0 ?_
  intro T33 h35 X34 W36
  have FW36 := Fld.same W36 f29
  have O37 := O28.wr W36 G0
  exact g_retV C X34 d3_71 (by decide) (by decide) ⟨rfl, ((((Keep.refl h0 [o1, o0]).wr W12 (Or.inl (List.mem_of_getElem? (i := 0) rfl))).wr W27 (Or.inl (List.mem_of_getElem? (i := 1) rfl))).wr W36 (Or.inl (List.mem_of_getElem? (i := 1) rfl))), (f32.wr W36), ((f19.other W27 (Or.inr (slot_ne (Or.inr (w12 hw)) (Or.inl (w25 hw)) (by decide) (t := (.array .double)) (t' := .int) (by decide) (by decide)))).other W36 (Or.inr (slot_ne (Or.inr (w12 hw)) (Or.inl (w27 hw)) (by decide) (t := (.array .double)) (t' := .int) (by decide) (by decide)))), ((f20.other W27 (Or.inr (slot_ne (Or.inl (w19 hw)) (Or.inl (w25 hw)) (by decide) (t := .int) (t' := .int) (by decide) (by decide)))).other W36 (Or.inr (slot_ne (Or.inl (w19 hw)) (Or.inl (w27 hw)) (by decide) (t := .int) (t' := .int) (by decide) (by decide)))), (FW27.other W36 (Or.inr (slot_ne (Or.inl (w25 hw)) (Or.inl (w27 hw)) (by decide) (t := .int) (t' := .int) (by decide) (by decide)))), FW36, ((V13.other W27 (Ne.symm N0_1)).other W36 (Ne.symm N0_1))⟩
set_option maxRecDepth 65536 in
set_option maxHeartbeats 40000000 in
theorem rm_clear_0 {l : Launch} {Z : State} {a0 : Array Value} (hw : ∀ d ∈ tables_1, d.before a0 Z = true) {o0 : Addr} {o1 : Addr} {i2 : Int32} {kc3 : ClassId} {x4 : UInt64} {h0 : Heap} {n0 : Nat} (O : Old Z n0 h0)  (P0 : Exa Z h0 o0 "com/example/rondel/rondel/primitive/DoubleRingBuffer") (P1 : Fld Z h0 o0 "com/example/rondel/rondel/primitive/DoubleRingBuffer" "readings" "[D" (.ref o1)) (P2 : Fld Z h0 o0 "com/example/rondel/rondel/primitive/DoubleRingBuffer" "size" "I" (.int (1 : Int32))) (P3 : Fld Z h0 o0 "com/example/rondel/rondel/primitive/DoubleRingBuffer" "head" "I" (.int (0 : Int32))) (P4 : Fld Z h0 o0 "com/example/rondel/rondel/primitive/DoubleRingBuffer" "modCount" "I" (.int i2)) (P5 : Arv Z h0 o1 kc3 .double (1 : Int32) [(.double x4)] (.double 0)) (G0 : n0 ≤ o0) (G1 : n0 ≤ o1) (N0_1 : o0 ≠ o1) :
    Met0 l Z (⟨"com/example/rondel/rondel/primitive/DoubleRingBuffer", "clear", "()V"⟩ : MethodName) prog_11_method_12_code 1 none ({ frames := 0, cells := 0, slots := 0, locals := 0 } : Room) #[(.ref o0)] h0 n0 (fun h => Keep h0 h [o0] ∧ Exa Z h o0 "com/example/rondel/rondel/primitive/DoubleRingBuffer" ∧ Fld Z h o0 "com/example/rondel/rondel/primitive/DoubleRingBuffer" "readings" "[D" (.ref o1) ∧ Fld Z h o0 "com/example/rondel/rondel/primitive/DoubleRingBuffer" "size" "I" (.int (0 : Int32)) ∧ Fld Z h o0 "com/example/rondel/rondel/primitive/DoubleRingBuffer" "head" "I" (.int (0 : Int32)) ∧ Fld Z h o0 "com/example/rondel/rondel/primitive/DoubleRingBuffer" "modCount" "I" (.int (i2 + (1 : Int32)))) := by
  refine met_of (L := #[.val (.ref o0)]) (plainFor_of_name pn_10) (fun m => by first | (simp [entryFrame, mkF, argsToLocals, Value.category]; done) | rfl) ?_
  intro p e s m below meth c T C X
  change Cx p s m meth c Z "com/example/rondel/rondel/primitive/DoubleRingBuffer" prog_11_method_12_code 1 none "clear" at C
  refine g_aloadN C X d6_0 (q := 1) rfl rfl rfl ?_
  refine g_iconst C X d6_1 (q := 2) rfl (z := (0 : Int32)) rfl ?_
  refine g_putF C X (host := "") (Or.inl (w18 hw)) Via.refl P2 P0 (Or.inl (w19 hw)) (w2 hw) (ty := .int) (by decide) rfl rfl d6_2 (q := 5) rfl G0 ?_
  intro T1 h3 X2 W4
  have FW4 := Fld.same W4 P2
  have O5 := O.wr W4 G0
  refine g_aloadN C X2 d6_5 (q := 6) rfl rfl rfl ?_
  refine g_dup C X2 d6_6 (q := 7) rfl rfl ?_
  have f6 := (P4.other W4 (Or.inr (slot_ne (Or.inl (w27 hw)) (Or.inl (w19 hw)) (by decide) (t := .int) (t' := .int) (by decide) (by decide))))
  refine g_getF C X2 (host := "") (Or.inl (w26 hw)) Via.refl f6 d6_7 (q := 10) rfl ?_
  intro T7 X8
  refine g_iconst C X8 d6_10 (q := 11) rfl (z := (1 : Int32)) rfl ?_
  refine g_iadd C X8 d6_11 (q := 12) rfl (z := (i2 + (1 : Int32))) rfl ?_
  have f9 := (P0.wr W4)
  refine g_putF C X8 (host := "") (Or.inl (w26 hw)) Via.refl f6 f9 (Or.inl (w27 hw)) (w2 hw) (ty := .int) (by decide) rfl rfl d6_12 (q := 15) rfl G0 ?_
  intro T10 h12 X11 W13
  have FW13 := Fld.same W13 f6
  have O14 := O5.wr W13 G0
  exact g_retV C X11 d6_15 (by decide) (by decide) ⟨rfl, (((Keep.refl h0 [o0]).wr W4 (Or.inl (List.mem_of_getElem? (i := 0) rfl))).wr W13 (Or.inl (List.mem_of_getElem? (i := 0) rfl))), (f9.wr W13), ((P1.other W4 (Or.inr (slot_ne (Or.inr (w12 hw)) (Or.inl (w19 hw)) (by decide) (t := (.array .double)) (t' := .int) (by decide) (by decide)))).other W13 (Or.inr (slot_ne (Or.inr (w12 hw)) (Or.inl (w27 hw)) (by decide) (t := (.array .double)) (t' := .int) (by decide) (by decide)))), (FW4.other W13 (Or.inr (slot_ne (Or.inl (w19 hw)) (Or.inl (w27 hw)) (by decide) (t := .int) (t' := .int) (by decide) (by decide)))), ((P3.other W4 (Or.inr (slot_ne (Or.inl (w25 hw)) (Or.inl (w19 hw)) (by decide) (t := .int) (t' := .int) (by decide) (by decide)))).other W13 (Or.inr (slot_ne (Or.inl (w25 hw)) (Or.inl (w27 hw)) (by decide) (t := .int) (t' := .int) (by decide) (by decide)))), FW13⟩
set_option maxRecDepth 65536 in
set_option maxHeartbeats 40000000 in
theorem rm_size_0 {l : Launch} {Z : State} {a0 : Array Value} (hw : ∀ d ∈ tables_1, d.before a0 Z = true) {o0 : Addr} {o1 : Addr} {i2 : Int32} {kc3 : ClassId} {x4 : UInt64} {h0 : Heap} {n0 : Nat} (O : Old Z n0 h0)  (P0 : Exa Z h0 o0 "com/example/rondel/rondel/primitive/DoubleRingBuffer") (P1 : Fld Z h0 o0 "com/example/rondel/rondel/primitive/DoubleRingBuffer" "readings" "[D" (.ref o1)) (P2 : Fld Z h0 o0 "com/example/rondel/rondel/primitive/DoubleRingBuffer" "size" "I" (.int (0 : Int32))) (P3 : Fld Z h0 o0 "com/example/rondel/rondel/primitive/DoubleRingBuffer" "head" "I" (.int (0 : Int32))) (P4 : Fld Z h0 o0 "com/example/rondel/rondel/primitive/DoubleRingBuffer" "modCount" "I" (.int i2)) (P5 : Arv Z h0 o1 kc3 .double (1 : Int32) [(.double x4)] (.double 0)) (G0 : n0 ≤ o0) (G1 : n0 ≤ o1) (N0_1 : o0 ≠ o1) :
    Met1 l Z (⟨"com/example/rondel/rondel/primitive/DoubleRingBuffer", "size", "()I"⟩ : MethodName) prog_11_method_3_code 1 (some .int) ({ frames := 0, cells := 0, slots := 0, locals := 0 } : Room) #[(.ref o0)] h0 n0 (fun v h => v = (.int (0 : Int32)) ∧ h0 = h) := by
  refine met_of (L := #[.val (.ref o0)]) (plainFor_of_name pn_10) (fun m => by first | (simp [entryFrame, mkF, argsToLocals, Value.category]; done) | rfl) ?_
  intro p e s m below meth c T C X
  change Cx p s m meth c Z "com/example/rondel/rondel/primitive/DoubleRingBuffer" prog_11_method_3_code 1 (some .int) "size" at C
  refine g_aloadN C X d7_0 (q := 1) rfl rfl rfl ?_
  refine g_getF C X (host := "") (Or.inl (w18 hw)) Via.refl P2 d7_1 (q := 4) rfl ?_
  intro T1 X2
  exact g_retI C X2 d7_4 (by decide) (by decide) ⟨_, rfl, rfl, rfl⟩
set_option maxRecDepth 65536 in
set_option maxHeartbeats 40000000 in
theorem rm_checkNotEmpty_0 {l : Launch} {Z : State} {a0 : Array Value} (hw : ∀ d ∈ tables_1, d.before a0 Z = true) {o0 : Addr} {o1 : Addr} {i2 : Int32} {kc3 : ClassId} {x4 : UInt64} {h0 : Heap} {n0 : Nat} (O : Old Z n0 h0)  (P0 : Exa Z h0 o0 "com/example/rondel/rondel/primitive/DoubleRingBuffer") (P1 : Fld Z h0 o0 "com/example/rondel/rondel/primitive/DoubleRingBuffer" "readings" "[D" (.ref o1)) (P2 : Fld Z h0 o0 "com/example/rondel/rondel/primitive/DoubleRingBuffer" "size" "I" (.int (1 : Int32))) (P3 : Fld Z h0 o0 "com/example/rondel/rondel/primitive/DoubleRingBuffer" "head" "I" (.int (0 : Int32))) (P4 : Fld Z h0 o0 "com/example/rondel/rondel/primitive/DoubleRingBuffer" "modCount" "I" (.int i2)) (P5 : Arv Z h0 o1 kc3 .double (1 : Int32) [(.double x4)] (.double 0)) (G0 : n0 ≤ o0) (G1 : n0 ≤ o1) (N0_1 : o0 ≠ o1) :
    Met0 l Z (⟨"com/example/rondel/rondel/primitive/DoubleRingBuffer", "checkNotEmpty", "()V"⟩ : MethodName) prog_11_method_17_code 1 none ({ frames := 0, cells := 0, slots := 0, locals := 0 } : Room) #[(.ref o0)] h0 n0 (fun h => h0 = h) := by
  refine met_of (L := #[.val (.ref o0)]) (plainFor_of_name pn_10) (fun m => by first | (simp [entryFrame, mkF, argsToLocals, Value.category]; done) | rfl) ?_
  intro p e s m below meth c T C X
  change Cx p s m meth c Z "com/example/rondel/rondel/primitive/DoubleRingBuffer" prog_11_method_17_code 1 none "checkNotEmpty" at C
  refine g_aloadN C X d9_0 (q := 1) rfl rfl rfl ?_
  refine g_getF C X (host := "") (Or.inl (w18 hw)) Via.refl P2 d9_1 (q := 4) rfl ?_
  intro T1 X2
  refine g_ifY C X2 d9_4 (by decide) (q := 17) (by decide) (by decide) ?_
  exact g_retV C X2 d9_17 (by decide) (by decide) ⟨rfl, rfl⟩
set_option maxRecDepth 65536 in
set_option maxHeartbeats 40000000 in
theorem rm_getFirst_0 {l : Launch} {Z : State} {a0 : Array Value} (hw : ∀ d ∈ tables_1, d.before a0 Z = true) {o0 : Addr} {o1 : Addr} {i2 : Int32} {kc3 : ClassId} {x4 : UInt64} {h0 : Heap} {n0 : Nat} (O : Old Z n0 h0)  (P0 : Exa Z h0 o0 "com/example/rondel/rondel/primitive/DoubleRingBuffer") (P1 : Fld Z h0 o0 "com/example/rondel/rondel/primitive/DoubleRingBuffer" "readings" "[D" (.ref o1)) (P2 : Fld Z h0 o0 "com/example/rondel/rondel/primitive/DoubleRingBuffer" "size" "I" (.int (1 : Int32))) (P3 : Fld Z h0 o0 "com/example/rondel/rondel/primitive/DoubleRingBuffer" "head" "I" (.int (0 : Int32))) (P4 : Fld Z h0 o0 "com/example/rondel/rondel/primitive/DoubleRingBuffer" "modCount" "I" (.int i2)) (P5 : Arv Z h0 o1 kc3 .double (1 : Int32) [(.double x4)] (.double 0)) (G0 : n0 ≤ o0) (G1 : n0 ≤ o1) (N0_1 : o0 ≠ o1) :
    Met1 l Z (⟨"com/example/rondel/rondel/primitive/DoubleRingBuffer", "getFirst", "()D"⟩ : MethodName) prog_11_method_9_code 1 (some .double) ({ frames := 1, cells := 0, slots := 0, locals := 12 } : Room) #[(.ref o0)] h0 n0 (fun v h => v = (.double x4) ∧ h0 = h) := by
  refine met_of (L := #[.val (.ref o0)]) (plainFor_of_name pn_10) (fun m => by first | (simp [entryFrame, mkF, argsToLocals, Value.category]; done) | rfl) ?_
  intro p e s m below meth c T C X
  change Cx p s m meth c Z "com/example/rondel/rondel/primitive/DoubleRingBuffer" prog_11_method_9_code 1 (some .double) "getFirst" at C
  refine g_aloadN C X d8_0 (q := 1) rfl rfl rfl ?_
  refine g_callP0 C X (y := (⟨"com/example/rondel/rondel/primitive/DoubleRingBuffer", "checkNotEmpty", "()V"⟩ : MethodName)) (a := o0) (by decide) (w47 hw) (sel_priv (w2 hw) (w48 hw) (w49 hw) (by decide)) (w48 hw) (w49 hw) P0 (w50 hw) (w3 hw) (rm_checkNotEmpty_0 hw (o0 := o0) (o1 := o1) (i2 := i2) (kc3 := kc3) (x4 := x4) O P0 P1 P2 P3 P4 P5 G0 G1 N0_1) (W := 0) (by decide) (by decide) (k' := 0) rfl (n' := 0) rfl (by decide) (by decide) rfl pd_90 (argsL := []) rfl (rest := []) rfl rfl rfl d8_1 (q := 4) rfl ?_
  rintro T1 _ X2 rfl
  refine g_aloadN C X2 d8_4 (q := 5) rfl rfl rfl ?_
  refine g_getF C X2 (host := "") (Or.inl (w11 hw)) Via.refl P1 d8_5 (q := 8) rfl ?_
  intro T3 X4
  refine g_aloadN C X4 d8_8 (q := 9) rfl rfl rfl ?_
  refine g_getF C X4 (host := "") (Or.inl (w24 hw)) Via.refl P3 d8_9 (q := 12) rfl ?_
  intro T5 X6
  refine g_daload C X6 P5 (by decide) (w := (.double x4)) rfl d8_12 (q := 13) rfl ?_
  exact g_retD C X6 d8_13 (by decide) (by decide) ⟨_, rfl, rfl, rfl⟩
set_option maxRecDepth 65536 in
set_option maxHeartbeats 40000000 in
theorem rm_slot_1 {l : Launch} {Z : State} {a0 : Array Value} (hw : ∀ d ∈ tables_1, d.before a0 Z = true) {o0 : Addr} {o1 : Addr} {i2 : Int32} {kc3 : ClassId} {x4 : UInt64} {h0 : Heap} {n0 : Nat} (O : Old Z n0 h0)  (P0 : Exa Z h0 o0 "com/example/rondel/rondel/primitive/DoubleRingBuffer") (P1 : Fld Z h0 o0 "com/example/rondel/rondel/primitive/DoubleRingBuffer" "readings" "[D" (.ref o1)) (P2 : Fld Z h0 o0 "com/example/rondel/rondel/primitive/DoubleRingBuffer" "size" "I" (.int (1 : Int32))) (P3 : Fld Z h0 o0 "com/example/rondel/rondel/primitive/DoubleRingBuffer" "head" "I" (.int (0 : Int32))) (P4 : Fld Z h0 o0 "com/example/rondel/rondel/primitive/DoubleRingBuffer" "modCount" "I" (.int i2)) (P5 : Arv Z h0 o1 kc3 .double (1 : Int32) [(.double x4)] (.double 0)) (G0 : n0 ≤ o0) (G1 : n0 ≤ o1) (N0_1 : o0 ≠ o1) :
    Met1 l Z (⟨"com/example/rondel/rondel/primitive/DoubleRingBuffer", "slot", "(I)I"⟩ : MethodName) prog_11_method_18_code 3 (some .int) ({ frames := 0, cells := 0, slots := 0, locals := 0 } : Room) #[(.ref o0), (.int (0 : Int32))] h0 n0 (fun v h => v = (.int (0 : Int32)) ∧ h0 = h) := by
  refine met_of (L := #[.val (.ref o0), .val (.int (0 : Int32)), .unset]) (plainFor_of_name pn_10) (fun m => by first | (simp [entryFrame, mkF, argsToLocals, Value.category]; done) | rfl) ?_
  intro p e s m below meth c T C X
  change Cx p s m meth c Z "com/example/rondel/rondel/primitive/DoubleRingBuffer" prog_11_method_18_code 3 (some .int) "slot" at C
  refine g_aloadN C X d4_0 (q := 1) rfl rfl rfl ?_
  refine g_getF C X (host := "") (Or.inl (w11 hw)) Via.refl P1 d4_1 (q := 4) rfl ?_
  intro T1 X2
  refine g_alen C X2 P5 d4_4 (q := 5) rfl ?_
  refine g_aloadN C X2 d4_5 (q := 6) rfl rfl rfl ?_
  refine g_getF C X2 (host := "") (Or.inl (w24 hw)) Via.refl P3 d4_6 (q := 9) rfl ?_
  intro T3 X4
  refine g_isub C X4 d4_9 (q := 10) rfl (z := (1 : Int32)) (by decide) ?_
  refine g_istoreN C X4 d4_10 (q := 11) rfl (L' := #[.val (.ref o0), .val (.int (0 : Int32)), .val (.int (1 : Int32))]) rfl ?_
  refine g_iloadN C X4 d4_11 (q := 12) rfl rfl ?_
  refine g_iloadN C X4 d4_12 (q := 13) rfl rfl ?_
  refine g_icN C X4 d4_13 (q := 16) rfl (by decide) ?_
  refine g_aloadN C X4 d4_16 (q := 17) rfl rfl rfl ?_
  refine g_getF C X4 (host := "") (Or.inl (w24 hw)) Via.refl P3 d4_17 (q := 20) rfl ?_
  intro T5 X6
  refine g_iloadN C X6 d4_20 (q := 21) rfl rfl ?_
  refine g_iadd C X6 d4_21 (q := 22) rfl (z := (0 : Int32)) (by decide) ?_
  refine g_goto C X6 d4_22 (by decide) (q := 28) (by decide) ?_
  exact g_retI C X6 d4_28 (by decide) (by decide) ⟨_, rfl, rfl, rfl⟩
set_option maxRecDepth 65536 in
set_option maxHeartbeats 40000000 in
theorem rm_getLast_0 {l : Launch} {Z : State} {a0 : Array Value} (hw : ∀ d ∈ tables_1, d.before a0 Z = true) {o0 : Addr} {o1 : Addr} {i2 : Int32} {kc3 : ClassId} {x4 : UInt64} {h0 : Heap} {n0 : Nat} (O : Old Z n0 h0)  (P0 : Exa Z h0 o0 "com/example/rondel/rondel/primitive/DoubleRingBuffer") (P1 : Fld Z h0 o0 "com/example/rondel/rondel/primitive/DoubleRingBuffer" "readings" "[D" (.ref o1)) (P2 : Fld Z h0 o0 "com/example/rondel/rondel/primitive/DoubleRingBuffer" "size" "I" (.int (1 : Int32))) (P3 : Fld Z h0 o0 "com/example/rondel/rondel/primitive/DoubleRingBuffer" "head" "I" (.int (0 : Int32))) (P4 : Fld Z h0 o0 "com/example/rondel/rondel/primitive/DoubleRingBuffer" "modCount" "I" (.int i2)) (P5 : Arv Z h0 o1 kc3 .double (1 : Int32) [(.double x4)] (.double 0)) (G0 : n0 ≤ o0) (G1 : n0 ≤ o1) (N0_1 : o0 ≠ o1) :
    Met1 l Z (⟨"com/example/rondel/rondel/primitive/DoubleRingBuffer", "getLast", "()D"⟩ : MethodName) prog_11_method_10_code 1 (some .double) ({ frames := 1, cells := 0, slots := 0, locals := 15 } : Room) #[(.ref o0)] h0 n0 (fun v h => v = (.double x4) ∧ h0 = h) := by
  refine met_of (L := #[.val (.ref o0)]) (plainFor_of_name pn_10) (fun m => by first | (simp [entryFrame, mkF, argsToLocals, Value.category]; done) | rfl) ?_
  intro p e s m below meth c T C X
  change Cx p s m meth c Z "com/example/rondel/rondel/primitive/DoubleRingBuffer" prog_11_method_10_code 1 (some .double) "getLast" at C
  refine g_aloadN C X d10_0 (q := 1) rfl rfl rfl ?_
  refine g_callP0 C X (y := (⟨"com/example/rondel/rondel/primitive/DoubleRingBuffer", "checkNotEmpty", "()V"⟩ : MethodName)) (a := o0) (by decide) (w47 hw) (sel_priv (w2 hw) (w48 hw) (w49 hw) (by decide)) (w48 hw) (w49 hw) P0 (w50 hw) (w3 hw) (rm_checkNotEmpty_0 hw (o0 := o0) (o1 := o1) (i2 := i2) (kc3 := kc3) (x4 := x4) O P0 P1 P2 P3 P4 P5 G0 G1 N0_1) (W := 0) (by decide) (by decide) (k' := 0) rfl (n' := 0) rfl (by decide) (by decide) rfl pd_90 (argsL := []) rfl (rest := []) rfl rfl rfl d10_1 (q := 4) rfl ?_
  rintro T1 _ X2 rfl
  refine g_aloadN C X2 d10_4 (q := 5) rfl rfl rfl ?_
  refine g_getF C X2 (host := "") (Or.inl (w11 hw)) Via.refl P1 d10_5 (q := 8) rfl ?_
  intro T3 X4
  refine g_aloadN C X4 d10_8 (q := 9) rfl rfl rfl ?_
  refine g_aloadN C X4 d10_9 (q := 10) rfl rfl rfl ?_
  refine g_getF C X4 (host := "") (Or.inl (w18 hw)) Via.refl P2 d10_10 (q := 13) rfl ?_
  intro T5 X6
  refine g_iconst C X6 d10_13 (q := 14) rfl (z := (1 : Int32)) rfl ?_
  refine g_isub C X6 d10_14 (q := 15) rfl (z := (0 : Int32)) (by decide) ?_
  refine g_callP1 C X6 (y := (⟨"com/example/rondel/rondel/primitive/DoubleRingBuffer", "slot", "(I)I"⟩ : MethodName)) (a := o0) (by decide) (w20 hw) (sel_priv (w2 hw) (w21 hw) (w22 hw) (by decide)) (w21 hw) (w22 hw) P0 (w23 hw) (w3 hw) (rm_slot_1 hw (o0 := o0) (o1 := o1) (i2 := i2) (kc3 := kc3) (x4 := x4) O P0 P1 P2 P3 P4 P5 G0 G1 N0_1) (W := 1) (by decide) (by decide) (k' := 0) rfl (n' := 0) rfl (by decide) (by decide) rfl pd_40 (argsL := [(.int (0 : Int32))]) rfl (rest := [(.ref o1)]) rfl rfl rfl d10_15 (q := 18) rfl ?_
  rintro _ T7 _ X8 ⟨rfl, rfl⟩
  refine g_daload C X8 P5 (by decide) (w := (.double x4)) rfl d10_18 (q := 19) rfl ?_
  exact g_retD C X8 d10_19 (by decide) (by decide) ⟨_, rfl, rfl, rfl⟩
set_option maxRecDepth 65536 in
set_option maxHeartbeats 40000000 in
theorem rm_size_1 {l : Launch} {Z : State} {a0 : Array Value} (hw : ∀ d ∈ tables_1, d.before a0 Z = true) {o0 : Addr} {o1 : Addr} {i2 : Int32} {kc3 : ClassId} {x4 : UInt64} {h0 : Heap} {n0 : Nat} (O : Old Z n0 h0)  (P0 : Exa Z h0 o0 "com/example/rondel/rondel/primitive/DoubleRingBuffer") (P1 : Fld Z h0 o0 "com/example/rondel/rondel/primitive/DoubleRingBuffer" "readings" "[D" (.ref o1)) (P2 : Fld Z h0 o0 "com/example/rondel/rondel/primitive/DoubleRingBuffer" "size" "I" (.int (1 : Int32))) (P3 : Fld Z h0 o0 "com/example/rondel/rondel/primitive/DoubleRingBuffer" "head" "I" (.int (0 : Int32))) (P4 : Fld Z h0 o0 "com/example/rondel/rondel/primitive/DoubleRingBuffer" "modCount" "I" (.int i2)) (P5 : Arv Z h0 o1 kc3 .double (1 : Int32) [(.double x4)] (.double 0)) (G0 : n0 ≤ o0) (G1 : n0 ≤ o1) (N0_1 : o0 ≠ o1) :
    Met1 l Z (⟨"com/example/rondel/rondel/primitive/DoubleRingBuffer", "size", "()I"⟩ : MethodName) prog_11_method_3_code 1 (some .int) ({ frames := 0, cells := 0, slots := 0, locals := 0 } : Room) #[(.ref o0)] h0 n0 (fun v h => v = (.int (1 : Int32)) ∧ h0 = h) := by
  refine met_of (L := #[.val (.ref o0)]) (plainFor_of_name pn_10) (fun m => by first | (simp [entryFrame, mkF, argsToLocals, Value.category]; done) | rfl) ?_
  intro p e s m below meth c T C X
  change Cx p s m meth c Z "com/example/rondel/rondel/primitive/DoubleRingBuffer" prog_11_method_3_code 1 (some .int) "size" at C
  refine g_aloadN C X d7_0 (q := 1) rfl rfl rfl ?_
  refine g_getF C X (host := "") (Or.inl (w18 hw)) Via.refl P2 d7_1 (q := 4) rfl ?_
  intro T1 X2
  exact g_retI C X2 d7_4 (by decide) (by decide) ⟨_, rfl, rfl, rfl⟩
set_option maxRecDepth 65536 in
set_option maxHeartbeats 40000000 in
theorem rm_clear_1 {l : Launch} {Z : State} {a0 : Array Value} (hw : ∀ d ∈ tables_1, d.before a0 Z = true) {o0 : Addr} {o1 : Addr} {i2 : Int32} {kc3 : ClassId} {x4 : UInt64} {h0 : Heap} {n0 : Nat} (O : Old Z n0 h0)  (P0 : Exa Z h0 o0 "com/example/rondel/rondel/primitive/DoubleRingBuffer") (P1 : Fld Z h0 o0 "com/example/rondel/rondel/primitive/DoubleRingBuffer" "readings" "[D" (.ref o1)) (P2 : Fld Z h0 o0 "com/example/rondel/rondel/primitive/DoubleRingBuffer" "size" "I" (.int (0 : Int32))) (P3 : Fld Z h0 o0 "com/example/rondel/rondel/primitive/DoubleRingBuffer" "head" "I" (.int (0 : Int32))) (P4 : Fld Z h0 o0 "com/example/rondel/rondel/primitive/DoubleRingBuffer" "modCount" "I" (.int i2)) (P5 : Arv Z h0 o1 kc3 .double (1 : Int32) [(.double x4)] (.double 0)) (G0 : n0 ≤ o0) (G1 : n0 ≤ o1) (N0_1 : o0 ≠ o1) :
    Met0 l Z (⟨"com/example/rondel/rondel/primitive/DoubleRingBuffer", "clear", "()V"⟩ : MethodName) prog_11_method_12_code 1 none ({ frames := 0, cells := 0, slots := 0, locals := 0 } : Room) #[(.ref o0)] h0 n0 (fun h => Keep h0 h [o0] ∧ Exa Z h o0 "com/example/rondel/rondel/primitive/DoubleRingBuffer" ∧ Fld Z h o0 "com/example/rondel/rondel/primitive/DoubleRingBuffer" "readings" "[D" (.ref o1) ∧ Fld Z h o0 "com/example/rondel/rondel/primitive/DoubleRingBuffer" "size" "I" (.int (0 : Int32)) ∧ Fld Z h o0 "com/example/rondel/rondel/primitive/DoubleRingBuffer" "head" "I" (.int (0 : Int32)) ∧ Fld Z h o0 "com/example/rondel/rondel/primitive/DoubleRingBuffer" "modCount" "I" (.int (i2 + (1 : Int32)))) := by
  refine met_of (L := #[.val (.ref o0)]) (plainFor_of_name pn_10) (fun m => by first | (simp [entryFrame, mkF, argsToLocals, Value.category]; done) | rfl) ?_
  intro p e s m below meth c T C X
  change Cx p s m meth c Z "com/example/rondel/rondel/primitive/DoubleRingBuffer" prog_11_method_12_code 1 none "clear" at C
  refine g_aloadN C X d6_0 (q := 1) rfl rfl rfl ?_
  refine g_iconst C X d6_1 (q := 2) rfl (z := (0 : Int32)) rfl ?_
  refine g_putF C X (host := "") (Or.inl (w18 hw)) Via.refl P2 P0 (Or.inl (w19 hw)) (w2 hw) (ty := .int) (by decide) rfl rfl d6_2 (q := 5) rfl G0 ?_
  intro T1 h3 X2 W4
  have FW4 := Fld.same W4 P2
  have O5 := O.wr W4 G0
  refine g_aloadN C X2 d6_5 (q := 6) rfl rfl rfl ?_
  refine g_dup C X2 d6_6 (q := 7) rfl rfl ?_
  have f6 := (P4.other W4 (Or.inr (slot_ne (Or.inl (w27 hw)) (Or.inl (w19 hw)) (by decide) (t := .int) (t' := .int) (by decide) (by decide))))
  refine g_getF C X2 (host := "") (Or.inl (w26 hw)) Via.refl f6 d6_7 (q := 10) rfl ?_
  intro T7 X8
  refine g_iconst C X8 d6_10 (q := 11) rfl (z := (1 : Int32)) rfl ?_
  refine g_iadd C X8 d6_11 (q := 12) rfl (z := (i2 + (1 : Int32))) rfl ?_
  have f9 := (P0.wr W4)
  refine g_putF C X8 (host := "") (Or.inl (w26 hw)) Via.refl f6 f9 (Or.inl (w27 hw)) (w2 hw) (ty := .int) (by decide) rfl rfl d6_12 (q := 15) rfl G0 ?_
  intro T10 h12 X11 W13
  have FW13 := Fld.same W13 f6
  have O14 := O5.wr W13 G0
  exact g_retV C X11 d6_15 (by decide) (by decide) ⟨rfl, (((Keep.refl h0 [o0]).wr W4 (Or.inl (List.mem_of_getElem? (i := 0) rfl))).wr W13 (Or.inl (List.mem_of_getElem? (i := 0) rfl))), (f9.wr W13), ((P1.other W4 (Or.inr (slot_ne (Or.inr (w12 hw)) (Or.inl (w19 hw)) (by decide) (t := (.array .double)) (t' := .int) (by decide) (by decide)))).other W13 (Or.inr (slot_ne (Or.inr (w12 hw)) (Or.inl (w27 hw)) (by decide) (t := (.array .double)) (t' := .int) (by decide) (by decide)))), (FW4.other W13 (Or.inr (slot_ne (Or.inl (w19 hw)) (Or.inl (w27 hw)) (by decide) (t := .int) (t' := .int) (by decide) (by decide)))), ((P3.other W4 (Or.inr (slot_ne (Or.inl (w25 hw)) (Or.inl (w19 hw)) (by decide) (t := .int) (t' := .int) (by decide) (by decide)))).other W13 (Or.inr (slot_ne (Or.inl (w25 hw)) (Or.inl (w27 hw)) (by decide) (t := .int) (t' := .int) (by decide) (by decide)))), FW13⟩
set_option maxRecDepth 65536 in
set_option maxHeartbeats 40000000 in
theorem rm_init_1 {l : Launch} {Z : State} {a0 : Array Value} (hw : ∀ d ∈ tables_1, d.before a0 Z = true) {o0 : Addr} {i1 : Int32} {h0 : Heap} {n0 : Nat} (O : Old Z n0 h0)  (P0 : Exa Z h0 o0 "com/example/rondel/rondel/primitive/DoubleRingBuffer") (P1 : Fld Z h0 o0 "com/example/rondel/rondel/primitive/DoubleRingBuffer" "readings" "[D" .null) (P2 : Fld Z h0 o0 "com/example/rondel/rondel/primitive/DoubleRingBuffer" "size" "I" (.int (0 : Int32))) (P3 : Fld Z h0 o0 "com/example/rondel/rondel/primitive/DoubleRingBuffer" "head" "I" (.int (0 : Int32))) (P4 : Fld Z h0 o0 "com/example/rondel/rondel/primitive/DoubleRingBuffer" "modCount" "I" (.int i1)) (G0 : n0 ≤ o0) :
    Met0 l Z (⟨"com/example/rondel/rondel/primitive/DoubleRingBuffer", "<init>", "(I)V"⟩ : MethodName) prog_11_method_1_code 2 none ({ frames := 1, cells := 1, slots := 2, locals := 12 } : Room) #[(.ref o0), (.int (2 : Int32))] h0 n0 (fun h => ∃ b3 : Addr, ∃ kA6 : ClassId, Keep h0 h [o0] ∧ n0 ≤ b3 ∧ h0.size ≤ b3 ∧ Exa Z h o0 "com/example/rondel/rondel/primitive/DoubleRingBuffer" ∧ Fld Z h o0 "com/example/rondel/rondel/primitive/DoubleRingBuffer" "readings" "[D" (.ref b3) ∧ Fld Z h o0 "com/example/rondel/rondel/primitive/DoubleRingBuffer" "size" "I" (.int (0 : Int32)) ∧ Fld Z h o0 "com/example/rondel/rondel/primitive/DoubleRingBuffer" "head" "I" (.int (0 : Int32)) ∧ Fld Z h o0 "com/example/rondel/rondel/primitive/DoubleRingBuffer" "modCount" "I" (.int i1) ∧ Arv Z h b3 kA6 .double (2 : Int32) [(.double 0), (.double 0)] (.double 0)) := by
  refine met_of (L := #[.val (.ref o0), .val (.int (2 : Int32))]) (plainFor_of_name pn_10) (fun m => by first | (simp [entryFrame, mkF, argsToLocals, Value.category]; done) | rfl) ?_
  intro p e s m below meth c T C X
  change Cx p s m meth c Z "com/example/rondel/rondel/primitive/DoubleRingBuffer" prog_11_method_1_code 2 none "<init>" at C
  refine g_aloadN C X d1_0 (q := 1) rfl rfl rfl ?_
  refine g_initO C X (w7 hw) (w8 hw) (w9 hw) rfl d1_1 (q := 4) rfl (by decide) (by decide) ?_
  intro T1 X2
  refine g_iloadN C X2 d1_4 (q := 5) rfl rfl ?_
  refine g_iconst C X2 d1_5 (q := 6) rfl (z := (1 : Int32)) rfl ?_
  refine g_icY C X2 d1_6 (by decide) (q := 23) (by decide) (by decide) ?_
  refine g_aloadN C X2 d1_23 (q := 24) rfl rfl rfl ?_
  refine g_iloadN C X2 d1_24 (q := 25) rfl rfl ?_
  refine g_newP C X2 (w10 hw) rfl d1_25 (q := 27) rfl (by decide) (cap := 2) (by decide) (by decide) (k' := 1) rfl (n' := 2) rfl (by decide) (by decide) ?_
  intro T4 h5 kA6 b3 g8 X7 E9 V10
  have ge11 : n0 ≤ b3 := own_ge O g8
  have O12 := O.ext E9
  have V13 : Arv Z h5 b3 kA6 .double (2 : Int32) [(.double 0), (.double 0)] (.double 0) := Arv.pad V10 (pad_rep [] _ 2)
  have f14 := (P1.ext E9)
  have f15 := (P0.ext E9)
  refine g_putF C X7 (host := "") (Or.inl (w11 hw)) Via.refl f14 f15 (Or.inr ⟨(w12 hw), rfl, rfl⟩) (w2 hw) (ty := (.array .double)) (by decide) rfl rfl d1_27 (q := 30) rfl G0 ?_
  intro T16 h18 X17 W19
  have FW19 := Fld.same W19 f14
  have O20 := O12.wr W19 G0
  exact g_retV C X17 d1_30 (by decide) (by decide) ⟨rfl, b3, kA6, (((Keep.refl h0 [o0]).ext E9).wr W19 (Or.inl (List.mem_of_getElem? (i := 0) rfl))), ge11, (own_sz (Keep.refl h0 [o0]).1 g8), (f15.wr W19), FW19, ((P2.ext E9).other W19 (Or.inr (slot_ne (Or.inl (w19 hw)) (Or.inr (w12 hw)) (by decide) (t := .int) (t' := (.array .double)) (by decide) (by decide)))), ((P3.ext E9).other W19 (Or.inr (slot_ne (Or.inl (w25 hw)) (Or.inr (w12 hw)) (by decide) (t := .int) (t' := (.array .double)) (by decide) (by decide)))), ((P4.ext E9).other W19 (Or.inr (slot_ne (Or.inl (w27 hw)) (Or.inr (w12 hw)) (by decide) (t := .int) (t' := (.array .double)) (by decide) (by decide)))), (V13.other W19 (Ne.symm (own_ne P0.lt g8)))⟩
set_option maxRecDepth 65536 in
set_option maxHeartbeats 40000000 in
theorem rm_slot_2 {l : Launch} {Z : State} {a0 : Array Value} (hw : ∀ d ∈ tables_1, d.before a0 Z = true) {o0 : Addr} {o1 : Addr} {i2 : Int32} {kc3 : ClassId} {x4 : UInt64} {x5 : UInt64} {h0 : Heap} {n0 : Nat} (O : Old Z n0 h0)  (P0 : Exa Z h0 o0 "com/example/rondel/rondel/primitive/DoubleRingBuffer") (P1 : Fld Z h0 o0 "com/example/rondel/rondel/primitive/DoubleRingBuffer" "readings" "[D" (.ref o1)) (P2 : Fld Z h0 o0 "com/example/rondel/rondel/primitive/DoubleRingBuffer" "size" "I" (.int (0 : Int32))) (P3 : Fld Z h0 o0 "com/example/rondel/rondel/primitive/DoubleRingBuffer" "head" "I" (.int (0 : Int32))) (P4 : Fld Z h0 o0 "com/example/rondel/rondel/primitive/DoubleRingBuffer" "modCount" "I" (.int i2)) (P5 : Arv Z h0 o1 kc3 .double (2 : Int32) [(.double x4), (.double x5)] (.double 0)) (G0 : n0 ≤ o0) (G1 : n0 ≤ o1) (N0_1 : o0 ≠ o1) :
    Met1 l Z (⟨"com/example/rondel/rondel/primitive/DoubleRingBuffer", "slot", "(I)I"⟩ : MethodName) prog_11_method_18_code 3 (some .int) ({ frames := 0, cells := 0, slots := 0, locals := 0 } : Room) #[(.ref o0), (.int (0 : Int32))] h0 n0 (fun v h => v = (.int (0 : Int32)) ∧ h0 = h) := by
  refine met_of (L := #[.val (.ref o0), .val (.int (0 : Int32)), .unset]) (plainFor_of_name pn_10) (fun m => by first | (simp [entryFrame, mkF, argsToLocals, Value.category]; done) | rfl) ?_
  intro p e s m below meth c T C X
  change Cx p s m meth c Z "com/example/rondel/rondel/primitive/DoubleRingBuffer" prog_11_method_18_code 3 (some .int) "slot" at C
  refine g_aloadN C X d4_0 (q := 1) rfl rfl rfl ?_
  refine g_getF C X (host := "") (Or.inl (w11 hw)) Via.refl P1 d4_1 (q := 4) rfl ?_
  intro T1 X2
  refine g_alen C X2 P5 d4_4 (q := 5) rfl ?_
  refine g_aloadN C X2 d4_5 (q := 6) rfl rfl rfl ?_
  refine g_getF C X2 (host := "") (Or.inl (w24 hw)) Via.refl P3 d4_6 (q := 9) rfl ?_
  intro T3 X4
  refine g_isub C X4 d4_9 (q := 10) rfl (z := (2 : Int32)) (by decide) ?_
  refine g_istoreN C X4 d4_10 (q := 11) rfl (L' := #[.val (.ref o0), .val (.int (0 : Int32)), .val (.int (2 : Int32))]) rfl ?_
  refine g_iloadN C X4 d4_11 (q := 12) rfl rfl ?_
  refine g_iloadN C X4 d4_12 (q := 13) rfl rfl ?_
  refine g_icN C X4 d4_13 (q := 16) rfl (by decide) ?_
  refine g_aloadN C X4 d4_16 (q := 17) rfl rfl rfl ?_
  refine g_getF C X4 (host := "") (Or.inl (w24 hw)) Via.refl P3 d4_17 (q := 20) rfl ?_
  intro T5 X6
  refine g_iloadN C X6 d4_20 (q := 21) rfl rfl ?_
  refine g_iadd C X6 d4_21 (q := 22) rfl (z := (0 : Int32)) (by decide) ?_
  refine g_goto C X6 d4_22 (by decide) (q := 28) (by decide) ?_
  exact g_retI C X6 d4_28 (by decide) (by decide) ⟨_, rfl, rfl, rfl⟩
set_option maxRecDepth 65536 in
set_option maxHeartbeats 40000000 in
theorem rm_add_2 {l : Launch} {Z : State} {a0 : Array Value} (hw : ∀ d ∈ tables_1, d.before a0 Z = true) {o0 : Addr} {o1 : Addr} {i2 : Int32} {kc3 : ClassId} {x4 : UInt64} {x5 : UInt64} {x6 : UInt64} {h0 : Heap} {n0 : Nat} (O : Old Z n0 h0)  (P0 : Exa Z h0 o0 "com/example/rondel/rondel/primitive/DoubleRingBuffer") (P1 : Fld Z h0 o0 "com/example/rondel/rondel/primitive/DoubleRingBuffer" "readings" "[D" (.ref o1)) (P2 : Fld Z h0 o0 "com/example/rondel/rondel/primitive/DoubleRingBuffer" "size" "I" (.int (0 : Int32))) (P3 : Fld Z h0 o0 "com/example/rondel/rondel/primitive/DoubleRingBuffer" "head" "I" (.int (0 : Int32))) (P4 : Fld Z h0 o0 "com/example/rondel/rondel/primitive/DoubleRingBuffer" "modCount" "I" (.int i2)) (P5 : Arv Z h0 o1 kc3 .double (2 : Int32) [(.double x4), (.double x5)] (.double 0)) (G0 : n0 ≤ o0) (G1 : n0 ≤ o1) (N0_1 : o0 ≠ o1) :
    Met0 l Z (⟨"com/example/rondel/rondel/primitive/DoubleRingBuffer", "add", "(D)V"⟩ : MethodName) prog_11_method_6_code 3 none ({ frames := 1, cells := 0, slots := 0, locals := 15 } : Room) #[(.ref o0), (.double x6)] h0 n0 (fun h => Keep h0 h [o1, o0] ∧ Exa Z h o0 "com/example/rondel/rondel/primitive/DoubleRingBuffer" ∧ Fld Z h o0 "com/example/rondel/rondel/primitive/DoubleRingBuffer" "readings" "[D" (.ref o1) ∧ Fld Z h o0 "com/example/rondel/rondel/primitive/DoubleRingBuffer" "size" "I" (.int (1 : Int32)) ∧ Fld Z h o0 "com/example/rondel/rondel/primitive/DoubleRingBuffer" "head" "I" (.int (0 : Int32)) ∧ Fld Z h o0 "com/example/rondel/rondel/primitive/DoubleRingBuffer" "modCount" "I" (.int (i2 + (1 : Int32))) ∧ Arv Z h o1 kc3 .double (2 : Int32) [(.double x6), (.double x5)] (.double 0)) := by
  refine met_of (L := #[.val (.ref o0), .val (.double x6), .second]) (plainFor_of_name pn_10) (fun m => by first | (simp [entryFrame, mkF, argsToLocals, Value.category]; done) | rfl) ?_
  intro p e s m below meth c T C X
  change Cx p s m meth c Z "com/example/rondel/rondel/primitive/DoubleRingBuffer" prog_11_method_6_code 3 none "add" at C
  refine g_aloadN C X d3_0 (q := 1) rfl rfl rfl ?_
  refine g_getF C X (host := "") (Or.inl (w18 hw)) Via.refl P2 d3_1 (q := 4) rfl ?_
  intro T1 X2
  refine g_aloadN C X2 d3_4 (q := 5) rfl rfl rfl ?_
  refine g_getF C X2 (host := "") (Or.inl (w11 hw)) Via.refl P1 d3_5 (q := 8) rfl ?_
  intro T3 X4
  refine g_alen C X4 P5 d3_8 (q := 9) rfl ?_
  refine g_icY C X4 d3_9 (by decide) (q := 37) (by decide) (by decide) ?_
  refine g_aloadN C X4 d3_37 (q := 38) rfl rfl rfl ?_
  refine g_getF C X4 (host := "") (Or.inl (w11 hw)) Via.refl P1 d3_38 (q := 41) rfl ?_
  intro T5 X6
  refine g_aloadN C X6 d3_41 (q := 42) rfl rfl rfl ?_
  refine g_aloadN C X6 d3_42 (q := 43) rfl rfl rfl ?_
  refine g_getF C X6 (host := "") (Or.inl (w18 hw)) Via.refl P2 d3_43 (q := 46) rfl ?_
  intro T7 X8
  refine g_callP1 C X8 (y := (⟨"com/example/rondel/rondel/primitive/DoubleRingBuffer", "slot", "(I)I"⟩ : MethodName)) (a := o0) (by decide) (w20 hw) (sel_priv (w2 hw) (w21 hw) (w22 hw) (by decide)) (w21 hw) (w22 hw) P0 (w23 hw) (w3 hw) (rm_slot_2 hw (o0 := o0) (o1 := o1) (i2 := i2) (kc3 := kc3) (x4 := x4) (x5 := x5) O P0 P1 P2 P3 P4 P5 G0 G1 N0_1) (W := 1) (by decide) (by decide) (k' := 0) rfl (n' := 0) rfl (by decide) (by decide) rfl pd_40 (argsL := [(.int (0 : Int32))]) rfl (rest := [(.ref o1)]) rfl rfl rfl d3_46 (q := 49) rfl ?_
  rintro _ T9 _ X10 ⟨rfl, rfl⟩
  refine g_dloadN C X10 d3_49 (q := 50) rfl rfl ?_
  refine g_dastore C X10 P5 (by decide) (i := 0) (by decide) (Nat.le_of_ble_eq_true rfl) (vs' := [(.double x6), (.double x5)]) rfl G1 d3_50 (q := 51) rfl ?_
  intro T11 h12 X13 W14 V15
  have O16 := O.wr W14 G1
  refine g_aloadN C X13 d3_51 (q := 52) rfl rfl rfl ?_
  refine g_dup C X13 d3_52 (q := 53) rfl rfl ?_
  have f17 := (P2.other W14 (Or.inl N0_1))
  refine g_getF C X13 (host := "") (Or.inl (w18 hw)) Via.refl f17 d3_53 (q := 56) rfl ?_
  intro T18 X19
  refine g_iconst C X19 d3_56 (q := 57) rfl (z := (1 : Int32)) rfl ?_
  refine g_iadd C X19 d3_57 (q := 58) rfl (z := (1 : Int32)) (by decide) ?_
  have f20 := (P0.wr W14)
  refine g_putF C X19 (host := "") (Or.inl (w18 hw)) Via.refl f17 f20 (Or.inl (w19 hw)) (w2 hw) (ty := .int) (by decide) rfl rfl d3_58 (q := 61) rfl G0 ?_
  intro T21 h23 X22 W24
  have FW24 := Fld.same W24 f17
  have O25 := O16.wr W24 G0
  refine g_aloadN C X22 d3_61 (q := 62) rfl rfl rfl ?_
  refine g_dup C X22 d3_62 (q := 63) rfl rfl ?_
  have f26 := ((P4.other W14 (Or.inl N0_1)).other W24 (Or.inr (slot_ne (Or.inl (w27 hw)) (Or.inl (w19 hw)) (by decide) (t := .int) (t' := .int) (by decide) (by decide))))
  refine g_getF C X22 (host := "") (Or.inl (w26 hw)) Via.refl f26 d3_63 (q := 66) rfl ?_
  intro T27 X28
  refine g_iconst C X28 d3_66 (q := 67) rfl (z := (1 : Int32)) rfl ?_
  refine g_iadd C X28 d3_67 (q := 68) rfl (z := (i2 + (1 : Int32))) rfl ?_
  have f29 := (f20.wr W24)
  refine g_putF C X28 (host := "") (Or.inl (w26 hw)) Via.refl f26 f29 (Or.inl (w27 hw)) (w2 hw) (ty := .int) (by decide) rfl rfl d3_68 (q := 71) rfl G0 ?_
  intro T30 h32 X31 W33
  have FW33 := Fld.same W33 f26
  have O34 := O25.wr W33 G0
  exact g_retV C X31 d3_71 (by decide) (by decide) ⟨rfl, ((((Keep.refl h0 [o1, o0]).wr W14 (Or.inl (List.mem_of_getElem? (i := 0) rfl))).wr W24 (Or.inl (List.mem_of_getElem? (i := 1) rfl))).wr W33 (Or.inl (List.mem_of_getElem? (i := 1) rfl))), (f29.wr W33), (((P1.other W14 (Or.inl N0_1)).other W24 (Or.inr (slot_ne (Or.inr (w12 hw)) (Or.inl (w19 hw)) (by decide) (t := (.array .double)) (t' := .int) (by decide) (by decide)))).other W33 (Or.inr (slot_ne (Or.inr (w12 hw)) (Or.inl (w27 hw)) (by decide) (t := (.array .double)) (t' := .int) (by decide) (by decide)))), (FW24.other W33 (Or.inr (slot_ne (Or.inl (w19 hw)) (Or.inl (w27 hw)) (by decide) (t := .int) (t' := .int) (by decide) (by decide)))), (((P3.other W14 (Or.inl N0_1)).other W24 (Or.inr (slot_ne (Or.inl (w25 hw)) (Or.inl (w19 hw)) (by decide) (t := .int) (t' := .int) (by decide) (by decide)))).other W33 (Or.inr (slot_ne (Or.inl (w25 hw)) (Or.inl (w27 hw)) (by decide) (t := .int) (t' := .int) (by decide) (by decide)))), FW33, ((V15.other W24 (Ne.symm N0_1)).other W33 (Ne.symm N0_1))⟩
set_option maxRecDepth 65536 in
set_option maxHeartbeats 40000000 in
theorem rm_slot_3 {l : Launch} {Z : State} {a0 : Array Value} (hw : ∀ d ∈ tables_1, d.before a0 Z = true) {o0 : Addr} {o1 : Addr} {i2 : Int32} {kc3 : ClassId} {x4 : UInt64} {x5 : UInt64} {h0 : Heap} {n0 : Nat} (O : Old Z n0 h0)  (P0 : Exa Z h0 o0 "com/example/rondel/rondel/primitive/DoubleRingBuffer") (P1 : Fld Z h0 o0 "com/example/rondel/rondel/primitive/DoubleRingBuffer" "readings" "[D" (.ref o1)) (P2 : Fld Z h0 o0 "com/example/rondel/rondel/primitive/DoubleRingBuffer" "size" "I" (.int (1 : Int32))) (P3 : Fld Z h0 o0 "com/example/rondel/rondel/primitive/DoubleRingBuffer" "head" "I" (.int (0 : Int32))) (P4 : Fld Z h0 o0 "com/example/rondel/rondel/primitive/DoubleRingBuffer" "modCount" "I" (.int i2)) (P5 : Arv Z h0 o1 kc3 .double (2 : Int32) [(.double x4), (.double x5)] (.double 0)) (G0 : n0 ≤ o0) (G1 : n0 ≤ o1) (N0_1 : o0 ≠ o1) :
    Met1 l Z (⟨"com/example/rondel/rondel/primitive/DoubleRingBuffer", "slot", "(I)I"⟩ : MethodName) prog_11_method_18_code 3 (some .int) ({ frames := 0, cells := 0, slots := 0, locals := 0 } : Room) #[(.ref o0), (.int (1 : Int32))] h0 n0 (fun v h => v = (.int (1 : Int32)) ∧ h0 = h) := by
  refine met_of (L := #[.val (.ref o0), .val (.int (1 : Int32)), .unset]) (plainFor_of_name pn_10) (fun m => by first | (simp [entryFrame, mkF, argsToLocals, Value.category]; done) | rfl) ?_
  intro p e s m below meth c T C X
  change Cx p s m meth c Z "com/example/rondel/rondel/primitive/DoubleRingBuffer" prog_11_method_18_code 3 (some .int) "slot" at C
  refine g_aloadN C X d4_0 (q := 1) rfl rfl rfl ?_
  refine g_getF C X (host := "") (Or.inl (w11 hw)) Via.refl P1 d4_1 (q := 4) rfl ?_
  intro T1 X2
  refine g_alen C X2 P5 d4_4 (q := 5) rfl ?_
  refine g_aloadN C X2 d4_5 (q := 6) rfl rfl rfl ?_
  refine g_getF C X2 (host := "") (Or.inl (w24 hw)) Via.refl P3 d4_6 (q := 9) rfl ?_
  intro T3 X4
  refine g_isub C X4 d4_9 (q := 10) rfl (z := (2 : Int32)) (by decide) ?_
  refine g_istoreN C X4 d4_10 (q := 11) rfl (L' := #[.val (.ref o0), .val (.int (1 : Int32)), .val (.int (2 : Int32))]) rfl ?_
  refine g_iloadN C X4 d4_11 (q := 12) rfl rfl ?_
  refine g_iloadN C X4 d4_12 (q := 13) rfl rfl ?_
  refine g_icN C X4 d4_13 (q := 16) rfl (by decide) ?_
  refine g_aloadN C X4 d4_16 (q := 17) rfl rfl rfl ?_
  refine g_getF C X4 (host := "") (Or.inl (w24 hw)) Via.refl P3 d4_17 (q := 20) rfl ?_
  intro T5 X6
  refine g_iloadN C X6 d4_20 (q := 21) rfl rfl ?_
  refine g_iadd C X6 d4_21 (q := 22) rfl (z := (1 : Int32)) (by decide) ?_
  refine g_goto C X6 d4_22 (by decide) (q := 28) (by decide) ?_
  exact g_retI C X6 d4_28 (by decide) (by decide) ⟨_, rfl, rfl, rfl⟩
set_option maxRecDepth 65536 in
set_option maxHeartbeats 40000000 in
theorem rm_add_3 {l : Launch} {Z : State} {a0 : Array Value} (hw : ∀ d ∈ tables_1, d.before a0 Z = true) {o0 : Addr} {o1 : Addr} {i2 : Int32} {kc3 : ClassId} {x4 : UInt64} {x5 : UInt64} {x6 : UInt64} {h0 : Heap} {n0 : Nat} (O : Old Z n0 h0)  (P0 : Exa Z h0 o0 "com/example/rondel/rondel/primitive/DoubleRingBuffer") (P1 : Fld Z h0 o0 "com/example/rondel/rondel/primitive/DoubleRingBuffer" "readings" "[D" (.ref o1)) (P2 : Fld Z h0 o0 "com/example/rondel/rondel/primitive/DoubleRingBuffer" "size" "I" (.int (1 : Int32))) (P3 : Fld Z h0 o0 "com/example/rondel/rondel/primitive/DoubleRingBuffer" "head" "I" (.int (0 : Int32))) (P4 : Fld Z h0 o0 "com/example/rondel/rondel/primitive/DoubleRingBuffer" "modCount" "I" (.int i2)) (P5 : Arv Z h0 o1 kc3 .double (2 : Int32) [(.double x4), (.double x5)] (.double 0)) (G0 : n0 ≤ o0) (G1 : n0 ≤ o1) (N0_1 : o0 ≠ o1) :
    Met0 l Z (⟨"com/example/rondel/rondel/primitive/DoubleRingBuffer", "add", "(D)V"⟩ : MethodName) prog_11_method_6_code 3 none ({ frames := 1, cells := 0, slots := 0, locals := 15 } : Room) #[(.ref o0), (.double x6)] h0 n0 (fun h => Keep h0 h [o1, o0] ∧ Exa Z h o0 "com/example/rondel/rondel/primitive/DoubleRingBuffer" ∧ Fld Z h o0 "com/example/rondel/rondel/primitive/DoubleRingBuffer" "readings" "[D" (.ref o1) ∧ Fld Z h o0 "com/example/rondel/rondel/primitive/DoubleRingBuffer" "size" "I" (.int (2 : Int32)) ∧ Fld Z h o0 "com/example/rondel/rondel/primitive/DoubleRingBuffer" "head" "I" (.int (0 : Int32)) ∧ Fld Z h o0 "com/example/rondel/rondel/primitive/DoubleRingBuffer" "modCount" "I" (.int (i2 + (1 : Int32))) ∧ Arv Z h o1 kc3 .double (2 : Int32) [(.double x4), (.double x6)] (.double 0)) := by
  refine met_of (L := #[.val (.ref o0), .val (.double x6), .second]) (plainFor_of_name pn_10) (fun m => by first | (simp [entryFrame, mkF, argsToLocals, Value.category]; done) | rfl) ?_
  intro p e s m below meth c T C X
  change Cx p s m meth c Z "com/example/rondel/rondel/primitive/DoubleRingBuffer" prog_11_method_6_code 3 none "add" at C
  refine g_aloadN C X d3_0 (q := 1) rfl rfl rfl ?_
  refine g_getF C X (host := "") (Or.inl (w18 hw)) Via.refl P2 d3_1 (q := 4) rfl ?_
  intro T1 X2
  refine g_aloadN C X2 d3_4 (q := 5) rfl rfl rfl ?_
  refine g_getF C X2 (host := "") (Or.inl (w11 hw)) Via.refl P1 d3_5 (q := 8) rfl ?_
  intro T3 X4
  refine g_alen C X4 P5 d3_8 (q := 9) rfl ?_
  refine g_icY C X4 d3_9 (by decide) (q := 37) (by decide) (by decide) ?_
  refine g_aloadN C X4 d3_37 (q := 38) rfl rfl rfl ?_
  refine g_getF C X4 (host := "") (Or.inl (w11 hw)) Via.refl P1 d3_38 (q := 41) rfl ?_
  intro T5 X6
  refine g_aloadN C X6 d3_41 (q := 42) rfl rfl rfl ?_
  refine g_aloadN C X6 d3_42 (q := 43) rfl rfl rfl ?_
  refine g_getF C X6 (host := "") (Or.inl (w18 hw)) Via.refl P2 d3_43 (q := 46) rfl ?_
  intro T7 X8
  refine g_callP1 C X8 (y := (⟨"com/example/rondel/rondel/primitive/DoubleRingBuffer", "slot", "(I)I"⟩ : MethodName)) (a := o0) (by decide) (w20 hw) (sel_priv (w2 hw) (w21 hw) (w22 hw) (by decide)) (w21 hw) (w22 hw) P0 (w23 hw) (w3 hw) (rm_slot_3 hw (o0 := o0) (o1 := o1) (i2 := i2) (kc3 := kc3) (x4 := x4) (x5 := x5) O P0 P1 P2 P3 P4 P5 G0 G1 N0_1) (W := 1) (by decide) (by decide) (k' := 0) rfl (n' := 0) rfl (by decide) (by decide) rfl pd_40 (argsL := [(.int (1 : Int32))]) rfl (rest := [(.ref o1)]) rfl rfl rfl d3_46 (q := 49) rfl ?_
  rintro _ T9 _ X10 ⟨rfl, rfl⟩
  refine g_dloadN C X10 d3_49 (q := 50) rfl rfl ?_
  refine g_dastore C X10 P5 (by decide) (i := 1) (by decide) (Nat.le_of_ble_eq_true rfl) (vs' := [(.double x4), (.double x6)]) rfl G1 d3_50 (q := 51) rfl ?_
  intro T11 h12 X13 W14 V15
  have O16 := O.wr W14 G1
  refine g_aloadN C X13 d3_51 (q := 52) rfl rfl rfl ?_
  refine g_dup C X13 d3_52 (q := 53) rfl rfl ?_
  have f17 := (P2.other W14 (Or.inl N0_1))
  refine g_getF C X13 (host := "") (Or.inl (w18 hw)) Via.refl f17 d3_53 (q := 56) rfl ?_
  intro T18 X19
  refine g_iconst C X19 d3_56 (q := 57) rfl (z := (1 : Int32)) rfl ?_
  refine g_iadd C X19 d3_57 (q := 58) rfl (z := (2 : Int32)) (by decide) ?_
  have f20 := (P0.wr W14)
  refine g_putF C X19 (host := "") (Or.inl (w18 hw)) Via.refl f17 f20 (Or.inl (w19 hw)) (w2 hw) (ty := .int) (by decide) rfl rfl d3_58 (q := 61) rfl G0 ?_
  intro T21 h23 X22 W24
  have FW24 := Fld.same W24 f17
  have O25 := O16.wr W24 G0
  refine g_aloadN C X22 d3_61 (q := 62) rfl rfl rfl ?_
  refine g_dup C X22 d3_62 (q := 63) rfl rfl ?_
  have f26 := ((P4.other W14 (Or.inl N0_1)).other W24 (Or.inr (slot_ne (Or.inl (w27 hw)) (Or.inl (w19 hw)) (by decide) (t := .int) (t' := .int) (by decide) (by decide))))
  refine g_getF C X22 (host := "") (Or.inl (w26 hw)) Via.refl f26 d3_63 (q := 66) rfl ?_
  intro T27 X28
  refine g_iconst C X28 d3_66 (q := 67) rfl (z := (1 : Int32)) rfl ?_
  refine g_iadd C X28 d3_67 (q := 68) rfl (z := (i2 + (1 : Int32))) rfl ?_
  have f29 := (f20.wr W24)
  refine g_putF C X28 (host := "") (Or.inl (w26 hw)) Via.refl f26 f29 (Or.inl (w27 hw)) (w2 hw) (ty := .int) (by decide) rfl rfl d3_68 (q := 71) rfl G0 ?_
  intro T30 h32 X31 W33
  have FW33 := Fld.same W33 f26
  have O34 := O25.wr W33 G0
  exact g_retV C X31 d3_71 (by decide) (by decide) ⟨rfl, ((((Keep.refl h0 [o1, o0]).wr W14 (Or.inl (List.mem_of_getElem? (i := 0) rfl))).wr W24 (Or.inl (List.mem_of_getElem? (i := 1) rfl))).wr W33 (Or.inl (List.mem_of_getElem? (i := 1) rfl))), (f29.wr W33), (((P1.other W14 (Or.inl N0_1)).other W24 (Or.inr (slot_ne (Or.inr (w12 hw)) (Or.inl (w19 hw)) (by decide) (t := (.array .double)) (t' := .int) (by decide) (by decide)))).other W33 (Or.inr (slot_ne (Or.inr (w12 hw)) (Or.inl (w27 hw)) (by decide) (t := (.array .double)) (t' := .int) (by decide) (by decide)))), (FW24.other W33 (Or.inr (slot_ne (Or.inl (w19 hw)) (Or.inl (w27 hw)) (by decide) (t := .int) (t' := .int) (by decide) (by decide)))), (((P3.other W14 (Or.inl N0_1)).other W24 (Or.inr (slot_ne (Or.inl (w25 hw)) (Or.inl (w19 hw)) (by decide) (t := .int) (t' := .int) (by decide) (by decide)))).other W33 (Or.inr (slot_ne (Or.inl (w25 hw)) (Or.inl (w27 hw)) (by decide) (t := .int) (t' := .int) (by decide) (by decide)))), FW33, ((V15.other W24 (Ne.symm N0_1)).other W33 (Ne.symm N0_1))⟩
set_option maxRecDepth 65536 in
set_option maxHeartbeats 40000000 in
theorem rm_next_1 {l : Launch} {Z : State} {a0 : Array Value} (hw : ∀ d ∈ tables_1, d.before a0 Z = true) {o0 : Addr} {o1 : Addr} {i2 : Int32} {kc3 : ClassId} {x4 : UInt64} {x5 : UInt64} {h0 : Heap} {n0 : Nat} (O : Old Z n0 h0)  (P0 : Exa Z h0 o0 "com/example/rondel/rondel/primitive/DoubleRingBuffer") (P1 : Fld Z h0 o0 "com/example/rondel/rondel/primitive/DoubleRingBuffer" "readings" "[D" (.ref o1)) (P2 : Fld Z h0 o0 "com/example/rondel/rondel/primitive/DoubleRingBuffer" "size" "I" (.int (2 : Int32))) (P3 : Fld Z h0 o0 "com/example/rondel/rondel/primitive/DoubleRingBuffer" "head" "I" (.int (0 : Int32))) (P4 : Fld Z h0 o0 "com/example/rondel/rondel/primitive/DoubleRingBuffer" "modCount" "I" (.int i2)) (P5 : Arv Z h0 o1 kc3 .double (2 : Int32) [(.double x4), (.double x5)] (.double 0)) (G0 : n0 ≤ o0) (G1 : n0 ≤ o1) (N0_1 : o0 ≠ o1) :
    Met1 l Z (⟨"com/example/rondel/rondel/primitive/DoubleRingBuffer", "next", "(I)I"⟩ : MethodName) prog_11_method_19_code 2 (some .int) ({ frames := 0, cells := 0, slots := 0, locals := 0 } : Room) #[(.ref o0), (.int (0 : Int32))] h0 n0 (fun v h => v = (.int (1 : Int32)) ∧ h0 = h) := by
  refine met_of (L := #[.val (.ref o0), .val (.int (0 : Int32))]) (plainFor_of_name pn_10) (fun m => by first | (simp [entryFrame, mkF, argsToLocals, Value.category]; done) | rfl) ?_
  intro p e s m below meth c T C X
  change Cx p s m meth c Z "com/example/rondel/rondel/primitive/DoubleRingBuffer" prog_11_method_19_code 2 (some .int) "next" at C
  refine g_iloadN C X d5_0 (q := 1) rfl rfl ?_
  refine g_aloadN C X d5_1 (q := 2) rfl rfl rfl ?_
  refine g_getF C X (host := "") (Or.inl (w11 hw)) Via.refl P1 d5_2 (q := 5) rfl ?_
  intro T1 X2
  refine g_alen C X2 P5 d5_5 (q := 6) rfl ?_
  refine g_iconst C X2 d5_6 (q := 7) rfl (z := (1 : Int32)) rfl ?_
  refine g_isub C X2 d5_7 (q := 8) rfl (z := (1 : Int32)) (by decide) ?_
  refine g_icY C X2 d5_8 (by decide) (q := 15) (by decide) (by decide) ?_
  refine g_iloadN C X2 d5_15 (q := 16) rfl rfl ?_
  refine g_iconst C X2 d5_16 (q := 17) rfl (z := (1 : Int32)) rfl ?_
  refine g_iadd C X2 d5_17 (q := 18) rfl (z := (1 : Int32)) (by decide) ?_
  exact g_retI C X2 d5_18 (by decide) (by decide) ⟨_, rfl, rfl, rfl⟩
set_option maxRecDepth 65536 in
set_option maxHeartbeats 40000000 in
theorem rm_add_4 {l : Launch} {Z : State} {a0 : Array Value} (hw : ∀ d ∈ tables_1, d.before a0 Z = true) {o0 : Addr} {o1 : Addr} {i2 : Int32} {kc3 : ClassId} {x4 : UInt64} {x5 : UInt64} {x6 : UInt64} {h0 : Heap} {n0 : Nat} (O : Old Z n0 h0)  (P0 : Exa Z h0 o0 "com/example/rondel/rondel/primitive/DoubleRingBuffer") (P1 : Fld Z h0 o0 "com/example/rondel/rondel/primitive/DoubleRingBuffer" "readings" "[D" (.ref o1)) (P2 : Fld Z h0 o0 "com/example/rondel/rondel/primitive/DoubleRingBuffer" "size" "I" (.int (2 : Int32))) (P3 : Fld Z h0 o0 "com/example/rondel/rondel/primitive/DoubleRingBuffer" "head" "I" (.int (0 : Int32))) (P4 : Fld Z h0 o0 "com/example/rondel/rondel/primitive/DoubleRingBuffer" "modCount" "I" (.int i2)) (P5 : Arv Z h0 o1 kc3 .double (2 : Int32) [(.double x4), (.double x5)] (.double 0)) (G0 : n0 ≤ o0) (G1 : n0 ≤ o1) (N0_1 : o0 ≠ o1) :
    Met0 l Z (⟨"com/example/rondel/rondel/primitive/DoubleRingBuffer", "add", "(D)V"⟩ : MethodName) prog_11_method_6_code 3 none ({ frames := 1, cells := 0, slots := 0, locals := 14 } : Room) #[(.ref o0), (.double x6)] h0 n0 (fun h => Keep h0 h [o1, o0] ∧ Exa Z h o0 "com/example/rondel/rondel/primitive/DoubleRingBuffer" ∧ Fld Z h o0 "com/example/rondel/rondel/primitive/DoubleRingBuffer" "readings" "[D" (.ref o1) ∧ Fld Z h o0 "com/example/rondel/rondel/primitive/DoubleRingBuffer" "size" "I" (.int (2 : Int32)) ∧ Fld Z h o0 "com/example/rondel/rondel/primitive/DoubleRingBuffer" "head" "I" (.int (1 : Int32)) ∧ Fld Z h o0 "com/example/rondel/rondel/primitive/DoubleRingBuffer" "modCount" "I" (.int (i2 + (1 : Int32))) ∧ Arv Z h o1 kc3 .double (2 : Int32) [(.double x6), (.double x5)] (.double 0)) := by
  refine met_of (L := #[.val (.ref o0), .val (.double x6), .second]) (plainFor_of_name pn_10) (fun m => by first | (simp [entryFrame, mkF, argsToLocals, Value.category]; done) | rfl) ?_
  intro p e s m below meth c T C X
  change Cx p s m meth c Z "com/example/rondel/rondel/primitive/DoubleRingBuffer" prog_11_method_6_code 3 none "add" at C
  refine g_aloadN C X d3_0 (q := 1) rfl rfl rfl ?_
  refine g_getF C X (host := "") (Or.inl (w18 hw)) Via.refl P2 d3_1 (q := 4) rfl ?_
  intro T1 X2
  refine g_aloadN C X2 d3_4 (q := 5) rfl rfl rfl ?_
  refine g_getF C X2 (host := "") (Or.inl (w11 hw)) Via.refl P1 d3_5 (q := 8) rfl ?_
  intro T3 X4
  refine g_alen C X4 P5 d3_8 (q := 9) rfl ?_
  refine g_icN C X4 d3_9 (q := 12) rfl (by decide) ?_
  refine g_aloadN C X4 d3_12 (q := 13) rfl rfl rfl ?_
  refine g_getF C X4 (host := "") (Or.inl (w11 hw)) Via.refl P1 d3_13 (q := 16) rfl ?_
  intro T5 X6
  refine g_aloadN C X6 d3_16 (q := 17) rfl rfl rfl ?_
  refine g_getF C X6 (host := "") (Or.inl (w24 hw)) Via.refl P3 d3_17 (q := 20) rfl ?_
  intro T7 X8
  refine g_dloadN C X8 d3_20 (q := 21) rfl rfl ?_
  refine g_dastore C X8 P5 (by decide) (i := 0) (by decide) (Nat.le_of_ble_eq_true rfl) (vs' := [(.double x6), (.double x5)]) rfl G1 d3_21 (q := 22) rfl ?_
  intro T9 h10 X11 W12 V13
  have O14 := O.wr W12 G1
  refine g_aloadN C X11 d3_22 (q := 23) rfl rfl rfl ?_
  refine g_aloadN C X11 d3_23 (q := 24) rfl rfl rfl ?_
  refine g_aloadN C X11 d3_24 (q := 25) rfl rfl rfl ?_
  have f15 := (P3.other W12 (Or.inl N0_1))
  refine g_getF C X11 (host := "") (Or.inl (w24 hw)) Via.refl f15 d3_25 (q := 28) rfl ?_
  intro T16 X17
  have f18 := (P0.wr W12)
  have f19 := (P1.other W12 (Or.inl N0_1))
  have f20 := (P2.other W12 (Or.inl N0_1))
  have f21 := (P4.other W12 (Or.inl N0_1))
  refine g_callP1 C X17 (y := (⟨"com/example/rondel/rondel/primitive/DoubleRingBuffer", "next", "(I)I"⟩ : MethodName)) (a := o0) (by decide) (w28 hw) (sel_priv (w2 hw) (w29 hw) (w30 hw) (by decide)) (w29 hw) (w30 hw) f18 (w31 hw) (w3 hw) (rm_next_1 hw (o0 := o0) (o1 := o1) (i2 := i2) (kc3 := kc3) (x4 := x6) (x5 := x5) O14 f18 f19 f20 f15 f21 V13 G0 G1 N0_1) (W := 1) (by decide) (by decide) (k' := 0) rfl (n' := 0) rfl (by decide) (by decide) rfl pd_40 (argsL := [(.int (0 : Int32))]) rfl (rest := [(.ref o0)]) rfl rfl rfl d3_28 (q := 31) rfl ?_
  rintro _ T22 _ X23 ⟨rfl, rfl⟩
  refine g_putF C X23 (host := "") (Or.inl (w24 hw)) Via.refl f15 f18 (Or.inl (w25 hw)) (w2 hw) (ty := .int) (by decide) rfl rfl d3_31 (q := 34) rfl G0 ?_
  intro T24 h26 X25 W27
  have FW27 := Fld.same W27 f15
  have O28 := O14.wr W27 G0
  refine g_goto C X25 d3_34 (by decide) (q := 61) (by decide) ?_
  refine g_aloadN C X25 d3_61 (q := 62) rfl rfl rfl ?_
  refine g_dup C X25 d3_62 (q := 63) rfl rfl ?_
  have f29 := (f21.other W27 (Or.inr (slot_ne (Or.inl (w27 hw)) (Or.inl (w25 hw)) (by decide) (t := .int) (t' := .int) (by decide) (by decide))))
  refine g_getF C X25 (host := "") (Or.inl (w26 hw)) Via.refl f29 d3_63 (q := 66) rfl ?_
  intro T30 X31
  refine g_iconst C X31 d3_66 (q := 67) rfl (z := (1 : Int32)) rfl ?_
  refine g_iadd C X31 d3_67 (q := 68) rfl (z := (i2 + (1 : Int32))) rfl ?_
  have f32 := (f18.wr W27)
  refine g_putF C X31 (host := "") (Or.inl (w26 hw)) Via.refl f29 f32 (Or.inl (w27 hw)) (w2 hw) (ty := .int) (by decide) rfl rfl d3_68 (q := 71) rfl G0 ?_
  intro T33 h35 X34 W36
  have FW36 := Fld.same W36 f29
  have O37 := O28.wr W36 G0
  exact g_retV C X34 d3_71 (by decide) (by decide) ⟨rfl, ((((Keep.refl h0 [o1, o0]).wr W12 (Or.inl (List.mem_of_getElem? (i := 0) rfl))).wr W27 (Or.inl (List.mem_of_getElem? (i := 1) rfl))).wr W36 (Or.inl (List.mem_of_getElem? (i := 1) rfl))), (f32.wr W36), ((f19.other W27 (Or.inr (slot_ne (Or.inr (w12 hw)) (Or.inl (w25 hw)) (by decide) (t := (.array .double)) (t' := .int) (by decide) (by decide)))).other W36 (Or.inr (slot_ne (Or.inr (w12 hw)) (Or.inl (w27 hw)) (by decide) (t := (.array .double)) (t' := .int) (by decide) (by decide)))), ((f20.other W27 (Or.inr (slot_ne (Or.inl (w19 hw)) (Or.inl (w25 hw)) (by decide) (t := .int) (t' := .int) (by decide) (by decide)))).other W36 (Or.inr (slot_ne (Or.inl (w19 hw)) (Or.inl (w27 hw)) (by decide) (t := .int) (t' := .int) (by decide) (by decide)))), (FW27.other W36 (Or.inr (slot_ne (Or.inl (w25 hw)) (Or.inl (w27 hw)) (by decide) (t := .int) (t' := .int) (by decide) (by decide)))), FW36, ((V13.other W27 (Ne.symm N0_1)).other W36 (Ne.symm N0_1))⟩
set_option maxRecDepth 65536 in
set_option maxHeartbeats 40000000 in
theorem rm_clear_2 {l : Launch} {Z : State} {a0 : Array Value} (hw : ∀ d ∈ tables_1, d.before a0 Z = true) {o0 : Addr} {o1 : Addr} {i2 : Int32} {kc3 : ClassId} {x4 : UInt64} {x5 : UInt64} {h0 : Heap} {n0 : Nat} (O : Old Z n0 h0)  (P0 : Exa Z h0 o0 "com/example/rondel/rondel/primitive/DoubleRingBuffer") (P1 : Fld Z h0 o0 "com/example/rondel/rondel/primitive/DoubleRingBuffer" "readings" "[D" (.ref o1)) (P2 : Fld Z h0 o0 "com/example/rondel/rondel/primitive/DoubleRingBuffer" "size" "I" (.int (2 : Int32))) (P3 : Fld Z h0 o0 "com/example/rondel/rondel/primitive/DoubleRingBuffer" "head" "I" (.int (1 : Int32))) (P4 : Fld Z h0 o0 "com/example/rondel/rondel/primitive/DoubleRingBuffer" "modCount" "I" (.int i2)) (P5 : Arv Z h0 o1 kc3 .double (2 : Int32) [(.double x4), (.double x5)] (.double 0)) (G0 : n0 ≤ o0) (G1 : n0 ≤ o1) (N0_1 : o0 ≠ o1) :
    Met0 l Z (⟨"com/example/rondel/rondel/primitive/DoubleRingBuffer", "clear", "()V"⟩ : MethodName) prog_11_method_12_code 1 none ({ frames := 0, cells := 0, slots := 0, locals := 0 } : Room) #[(.ref o0)] h0 n0 (fun h => Keep h0 h [o0] ∧ Exa Z h o0 "com/example/rondel/rondel/primitive/DoubleRingBuffer" ∧ Fld Z h o0 "com/example/rondel/rondel/primitive/DoubleRingBuffer" "readings" "[D" (.ref o1) ∧ Fld Z h o0 "com/example/rondel/rondel/primitive/DoubleRingBuffer" "size" "I" (.int (0 : Int32)) ∧ Fld Z h o0 "com/example/rondel/rondel/primitive/DoubleRingBuffer" "head" "I" (.int (1 : Int32)) ∧ Fld Z h o0 "com/example/rondel/rondel/primitive/DoubleRingBuffer" "modCount" "I" (.int (i2 + (1 : Int32)))) := by
  refine met_of (L := #[.val (.ref o0)]) (plainFor_of_name pn_10) (fun m => by first | (simp [entryFrame, mkF, argsToLocals, Value.category]; done) | rfl) ?_
  intro p e s m below meth c T C X
  change Cx p s m meth c Z "com/example/rondel/rondel/primitive/DoubleRingBuffer" prog_11_method_12_code 1 none "clear" at C
  refine g_aloadN C X d6_0 (q := 1) rfl rfl rfl ?_
  refine g_iconst C X d6_1 (q := 2) rfl (z := (0 : Int32)) rfl ?_
  refine g_putF C X (host := "") (Or.inl (w18 hw)) Via.refl P2 P0 (Or.inl (w19 hw)) (w2 hw) (ty := .int) (by decide) rfl rfl d6_2 (q := 5) rfl G0 ?_
  intro T1 h3 X2 W4
  have FW4 := Fld.same W4 P2
  have O5 := O.wr W4 G0
  refine g_aloadN C X2 d6_5 (q := 6) rfl rfl rfl ?_
  refine g_dup C X2 d6_6 (q := 7) rfl rfl ?_
  have f6 := (P4.other W4 (Or.inr (slot_ne (Or.inl (w27 hw)) (Or.inl (w19 hw)) (by decide) (t := .int) (t' := .int) (by decide) (by decide))))
  refine g_getF C X2 (host := "") (Or.inl (w26 hw)) Via.refl f6 d6_7 (q := 10) rfl ?_
  intro T7 X8
  refine g_iconst C X8 d6_10 (q := 11) rfl (z := (1 : Int32)) rfl ?_
  refine g_iadd C X8 d6_11 (q := 12) rfl (z := (i2 + (1 : Int32))) rfl ?_
  have f9 := (P0.wr W4)
  refine g_putF C X8 (host := "") (Or.inl (w26 hw)) Via.refl f6 f9 (Or.inl (w27 hw)) (w2 hw) (ty := .int) (by decide) rfl rfl d6_12 (q := 15) rfl G0 ?_
  intro T10 h12 X11 W13
  have FW13 := Fld.same W13 f6
  have O14 := O5.wr W13 G0
  exact g_retV C X11 d6_15 (by decide) (by decide) ⟨rfl, (((Keep.refl h0 [o0]).wr W4 (Or.inl (List.mem_of_getElem? (i := 0) rfl))).wr W13 (Or.inl (List.mem_of_getElem? (i := 0) rfl))), (f9.wr W13), ((P1.other W4 (Or.inr (slot_ne (Or.inr (w12 hw)) (Or.inl (w19 hw)) (by decide) (t := (.array .double)) (t' := .int) (by decide) (by decide)))).other W13 (Or.inr (slot_ne (Or.inr (w12 hw)) (Or.inl (w27 hw)) (by decide) (t := (.array .double)) (t' := .int) (by decide) (by decide)))), (FW4.other W13 (Or.inr (slot_ne (Or.inl (w19 hw)) (Or.inl (w27 hw)) (by decide) (t := .int) (t' := .int) (by decide) (by decide)))), ((P3.other W4 (Or.inr (slot_ne (Or.inl (w25 hw)) (Or.inl (w19 hw)) (by decide) (t := .int) (t' := .int) (by decide) (by decide)))).other W13 (Or.inr (slot_ne (Or.inl (w25 hw)) (Or.inl (w27 hw)) (by decide) (t := .int) (t' := .int) (by decide) (by decide)))), FW13⟩
set_option maxRecDepth 65536 in
set_option maxHeartbeats 40000000 in
theorem rm_size_2 {l : Launch} {Z : State} {a0 : Array Value} (hw : ∀ d ∈ tables_1, d.before a0 Z = true) {o0 : Addr} {o1 : Addr} {i2 : Int32} {kc3 : ClassId} {x4 : UInt64} {x5 : UInt64} {h0 : Heap} {n0 : Nat} (O : Old Z n0 h0)  (P0 : Exa Z h0 o0 "com/example/rondel/rondel/primitive/DoubleRingBuffer") (P1 : Fld Z h0 o0 "com/example/rondel/rondel/primitive/DoubleRingBuffer" "readings" "[D" (.ref o1)) (P2 : Fld Z h0 o0 "com/example/rondel/rondel/primitive/DoubleRingBuffer" "size" "I" (.int (0 : Int32))) (P3 : Fld Z h0 o0 "com/example/rondel/rondel/primitive/DoubleRingBuffer" "head" "I" (.int (1 : Int32))) (P4 : Fld Z h0 o0 "com/example/rondel/rondel/primitive/DoubleRingBuffer" "modCount" "I" (.int i2)) (P5 : Arv Z h0 o1 kc3 .double (2 : Int32) [(.double x4), (.double x5)] (.double 0)) (G0 : n0 ≤ o0) (G1 : n0 ≤ o1) (N0_1 : o0 ≠ o1) :
    Met1 l Z (⟨"com/example/rondel/rondel/primitive/DoubleRingBuffer", "size", "()I"⟩ : MethodName) prog_11_method_3_code 1 (some .int) ({ frames := 0, cells := 0, slots := 0, locals := 0 } : Room) #[(.ref o0)] h0 n0 (fun v h => v = (.int (0 : Int32)) ∧ h0 = h) := by
  refine met_of (L := #[.val (.ref o0)]) (plainFor_of_name pn_10) (fun m => by first | (simp [entryFrame, mkF, argsToLocals, Value.category]; done) | rfl) ?_
  intro p e s m below meth c T C X
  change Cx p s m meth c Z "com/example/rondel/rondel/primitive/DoubleRingBuffer" prog_11_method_3_code 1 (some .int) "size" at C
  refine g_aloadN C X d7_0 (q := 1) rfl rfl rfl ?_
  refine g_getF C X (host := "") (Or.inl (w18 hw)) Via.refl P2 d7_1 (q := 4) rfl ?_
  intro T1 X2
  exact g_retI C X2 d7_4 (by decide) (by decide) ⟨_, rfl, rfl, rfl⟩
set_option maxRecDepth 65536 in
set_option maxHeartbeats 40000000 in
theorem rm_slot_4 {l : Launch} {Z : State} {a0 : Array Value} (hw : ∀ d ∈ tables_1, d.before a0 Z = true) {o0 : Addr} {o1 : Addr} {i2 : Int32} {kc3 : ClassId} {x4 : UInt64} {x5 : UInt64} {h0 : Heap} {n0 : Nat} (O : Old Z n0 h0)  (P0 : Exa Z h0 o0 "com/example/rondel/rondel/primitive/DoubleRingBuffer") (P1 : Fld Z h0 o0 "com/example/rondel/rondel/primitive/DoubleRingBuffer" "readings" "[D" (.ref o1)) (P2 : Fld Z h0 o0 "com/example/rondel/rondel/primitive/DoubleRingBuffer" "size" "I" (.int (0 : Int32))) (P3 : Fld Z h0 o0 "com/example/rondel/rondel/primitive/DoubleRingBuffer" "head" "I" (.int (1 : Int32))) (P4 : Fld Z h0 o0 "com/example/rondel/rondel/primitive/DoubleRingBuffer" "modCount" "I" (.int i2)) (P5 : Arv Z h0 o1 kc3 .double (2 : Int32) [(.double x4), (.double x5)] (.double 0)) (G0 : n0 ≤ o0) (G1 : n0 ≤ o1) (N0_1 : o0 ≠ o1) :
    Met1 l Z (⟨"com/example/rondel/rondel/primitive/DoubleRingBuffer", "slot", "(I)I"⟩ : MethodName) prog_11_method_18_code 3 (some .int) ({ frames := 0, cells := 0, slots := 0, locals := 0 } : Room) #[(.ref o0), (.int (0 : Int32))] h0 n0 (fun v h => v = (.int (1 : Int32)) ∧ h0 = h) := by
  refine met_of (L := #[.val (.ref o0), .val (.int (0 : Int32)), .unset]) (plainFor_of_name pn_10) (fun m => by first | (simp [entryFrame, mkF, argsToLocals, Value.category]; done) | rfl) ?_
  intro p e s m below meth c T C X
  change Cx p s m meth c Z "com/example/rondel/rondel/primitive/DoubleRingBuffer" prog_11_method_18_code 3 (some .int) "slot" at C
  refine g_aloadN C X d4_0 (q := 1) rfl rfl rfl ?_
  refine g_getF C X (host := "") (Or.inl (w11 hw)) Via.refl P1 d4_1 (q := 4) rfl ?_
  intro T1 X2
  refine g_alen C X2 P5 d4_4 (q := 5) rfl ?_
  refine g_aloadN C X2 d4_5 (q := 6) rfl rfl rfl ?_
  refine g_getF C X2 (host := "") (Or.inl (w24 hw)) Via.refl P3 d4_6 (q := 9) rfl ?_
  intro T3 X4
  refine g_isub C X4 d4_9 (q := 10) rfl (z := (1 : Int32)) (by decide) ?_
  refine g_istoreN C X4 d4_10 (q := 11) rfl (L' := #[.val (.ref o0), .val (.int (0 : Int32)), .val (.int (1 : Int32))]) rfl ?_
  refine g_iloadN C X4 d4_11 (q := 12) rfl rfl ?_
  refine g_iloadN C X4 d4_12 (q := 13) rfl rfl ?_
  refine g_icN C X4 d4_13 (q := 16) rfl (by decide) ?_
  refine g_aloadN C X4 d4_16 (q := 17) rfl rfl rfl ?_
  refine g_getF C X4 (host := "") (Or.inl (w24 hw)) Via.refl P3 d4_17 (q := 20) rfl ?_
  intro T5 X6
  refine g_iloadN C X6 d4_20 (q := 21) rfl rfl ?_
  refine g_iadd C X6 d4_21 (q := 22) rfl (z := (1 : Int32)) (by decide) ?_
  refine g_goto C X6 d4_22 (by decide) (q := 28) (by decide) ?_
  exact g_retI C X6 d4_28 (by decide) (by decide) ⟨_, rfl, rfl, rfl⟩
set_option maxRecDepth 65536 in
set_option maxHeartbeats 40000000 in
theorem rm_add_5 {l : Launch} {Z : State} {a0 : Array Value} (hw : ∀ d ∈ tables_1, d.before a0 Z = true) {o0 : Addr} {o1 : Addr} {i2 : Int32} {kc3 : ClassId} {x4 : UInt64} {x5 : UInt64} {x6 : UInt64} {h0 : Heap} {n0 : Nat} (O : Old Z n0 h0)  (P0 : Exa Z h0 o0 "com/example/rondel/rondel/primitive/DoubleRingBuffer") (P1 : Fld Z h0 o0 "com/example/rondel/rondel/primitive/DoubleRingBuffer" "readings" "[D" (.ref o1)) (P2 : Fld Z h0 o0 "com/example/rondel/rondel/primitive/DoubleRingBuffer" "size" "I" (.int (0 : Int32))) (P3 : Fld Z h0 o0 "com/example/rondel/rondel/primitive/DoubleRingBuffer" "head" "I" (.int (1 : Int32))) (P4 : Fld Z h0 o0 "com/example/rondel/rondel/primitive/DoubleRingBuffer" "modCount" "I" (.int i2)) (P5 : Arv Z h0 o1 kc3 .double (2 : Int32) [(.double x4), (.double x5)] (.double 0)) (G0 : n0 ≤ o0) (G1 : n0 ≤ o1) (N0_1 : o0 ≠ o1) :
    Met0 l Z (⟨"com/example/rondel/rondel/primitive/DoubleRingBuffer", "add", "(D)V"⟩ : MethodName) prog_11_method_6_code 3 none ({ frames := 1, cells := 0, slots := 0, locals := 15 } : Room) #[(.ref o0), (.double x6)] h0 n0 (fun h => Keep h0 h [o1, o0] ∧ Exa Z h o0 "com/example/rondel/rondel/primitive/DoubleRingBuffer" ∧ Fld Z h o0 "com/example/rondel/rondel/primitive/DoubleRingBuffer" "readings" "[D" (.ref o1) ∧ Fld Z h o0 "com/example/rondel/rondel/primitive/DoubleRingBuffer" "size" "I" (.int (1 : Int32)) ∧ Fld Z h o0 "com/example/rondel/rondel/primitive/DoubleRingBuffer" "head" "I" (.int (1 : Int32)) ∧ Fld Z h o0 "com/example/rondel/rondel/primitive/DoubleRingBuffer" "modCount" "I" (.int (i2 + (1 : Int32))) ∧ Arv Z h o1 kc3 .double (2 : Int32) [(.double x4), (.double x6)] (.double 0)) := by
  refine met_of (L := #[.val (.ref o0), .val (.double x6), .second]) (plainFor_of_name pn_10) (fun m => by first | (simp [entryFrame, mkF, argsToLocals, Value.category]; done) | rfl) ?_
  intro p e s m below meth c T C X
  change Cx p s m meth c Z "com/example/rondel/rondel/primitive/DoubleRingBuffer" prog_11_method_6_code 3 none "add" at C
  refine g_aloadN C X d3_0 (q := 1) rfl rfl rfl ?_
  refine g_getF C X (host := "") (Or.inl (w18 hw)) Via.refl P2 d3_1 (q := 4) rfl ?_
  intro T1 X2
  refine g_aloadN C X2 d3_4 (q := 5) rfl rfl rfl ?_
  refine g_getF C X2 (host := "") (Or.inl (w11 hw)) Via.refl P1 d3_5 (q := 8) rfl ?_
  intro T3 X4
  refine g_alen C X4 P5 d3_8 (q := 9) rfl ?_
  refine g_icY C X4 d3_9 (by decide) (q := 37) (by decide) (by decide) ?_
  refine g_aloadN C X4 d3_37 (q := 38) rfl rfl rfl ?_
  refine g_getF C X4 (host := "") (Or.inl (w11 hw)) Via.refl P1 d3_38 (q := 41) rfl ?_
  intro T5 X6
  refine g_aloadN C X6 d3_41 (q := 42) rfl rfl rfl ?_
  refine g_aloadN C X6 d3_42 (q := 43) rfl rfl rfl ?_
  refine g_getF C X6 (host := "") (Or.inl (w18 hw)) Via.refl P2 d3_43 (q := 46) rfl ?_
  intro T7 X8
  refine g_callP1 C X8 (y := (⟨"com/example/rondel/rondel/primitive/DoubleRingBuffer", "slot", "(I)I"⟩ : MethodName)) (a := o0) (by decide) (w20 hw) (sel_priv (w2 hw) (w21 hw) (w22 hw) (by decide)) (w21 hw) (w22 hw) P0 (w23 hw) (w3 hw) (rm_slot_4 hw (o0 := o0) (o1 := o1) (i2 := i2) (kc3 := kc3) (x4 := x4) (x5 := x5) O P0 P1 P2 P3 P4 P5 G0 G1 N0_1) (W := 1) (by decide) (by decide) (k' := 0) rfl (n' := 0) rfl (by decide) (by decide) rfl pd_40 (argsL := [(.int (0 : Int32))]) rfl (rest := [(.ref o1)]) rfl rfl rfl d3_46 (q := 49) rfl ?_
  rintro _ T9 _ X10 ⟨rfl, rfl⟩
  refine g_dloadN C X10 d3_49 (q := 50) rfl rfl ?_
  refine g_dastore C X10 P5 (by decide) (i := 1) (by decide) (Nat.le_of_ble_eq_true rfl) (vs' := [(.double x4), (.double x6)]) rfl G1 d3_50 (q := 51) rfl ?_
  intro T11 h12 X13 W14 V15
  have O16 := O.wr W14 G1
  refine g_aloadN C X13 d3_51 (q := 52) rfl rfl rfl ?_
  refine g_dup C X13 d3_52 (q := 53) rfl rfl ?_
  have f17 := (P2.other W14 (Or.inl N0_1))
  refine g_getF C X13 (host := "") (Or.inl (w18 hw)) Via.refl f17 d3_53 (q := 56) rfl ?_
  intro T18 X19
  refine g_iconst C X19 d3_56 (q := 57) rfl (z := (1 : Int32)) rfl ?_
  refine g_iadd C X19 d3_57 (q := 58) rfl (z := (1 : Int32)) (by decide) ?_
  have f20 := (P0.wr W14)
  refine g_putF C X19 (host := "") (Or.inl (w18 hw)) Via.refl f17 f20 (Or.inl (w19 hw)) (w2 hw) (ty := .int) (by decide) rfl rfl d3_58 (q := 61) rfl G0 ?_
  intro T21 h23 X22 W24
  have FW24 := Fld.same W24 f17
  have O25 := O16.wr W24 G0
  refine g_aloadN C X22 d3_61 (q := 62) rfl rfl rfl ?_
  refine g_dup C X22 d3_62 (q := 63) rfl rfl ?_
  have f26 := ((P4.other W14 (Or.inl N0_1)).other W24 (Or.inr (slot_ne (Or.inl (w27 hw)) (Or.inl (w19 hw)) (by decide) (t := .int) (t' := .int) (by decide) (by decide))))
  refine g_getF C X22 (host := "") (Or.inl (w26 hw)) Via.refl f26 d3_63 (q := 66) rfl ?_
  intro T27 X28
  refine g_iconst C X28 d3_66 (q := 67) rfl (z := (1 : Int32)) rfl ?_
  refine g_iadd C X28 d3_67 (q := 68) rfl (z := (i2 + (1 : Int32))) rfl ?_
  have f29 := (f20.wr W24)
  refine g_putF C X28 (host := "") (Or.inl (w26 hw)) Via.refl f26 f29 (Or.inl (w27 hw)) (w2 hw) (ty := .int) (by decide) rfl rfl d3_68 (q := 71) rfl G0 ?_
  intro T30 h32 X31 W33
  have FW33 := Fld.same W33 f26
  have O34 := O25.wr W33 G0
  exact g_retV C X31 d3_71 (by decide) (by decide) ⟨rfl, ((((Keep.refl h0 [o1, o0]).wr W14 (Or.inl (List.mem_of_getElem? (i := 0) rfl))).wr W24 (Or.inl (List.mem_of_getElem? (i := 1) rfl))).wr W33 (Or.inl (List.mem_of_getElem? (i := 1) rfl))), (f29.wr W33), (((P1.other W14 (Or.inl N0_1)).other W24 (Or.inr (slot_ne (Or.inr (w12 hw)) (Or.inl (w19 hw)) (by decide) (t := (.array .double)) (t' := .int) (by decide) (by decide)))).other W33 (Or.inr (slot_ne (Or.inr (w12 hw)) (Or.inl (w27 hw)) (by decide) (t := (.array .double)) (t' := .int) (by decide) (by decide)))), (FW24.other W33 (Or.inr (slot_ne (Or.inl (w19 hw)) (Or.inl (w27 hw)) (by decide) (t := .int) (t' := .int) (by decide) (by decide)))), (((P3.other W14 (Or.inl N0_1)).other W24 (Or.inr (slot_ne (Or.inl (w25 hw)) (Or.inl (w19 hw)) (by decide) (t := .int) (t' := .int) (by decide) (by decide)))).other W33 (Or.inr (slot_ne (Or.inl (w25 hw)) (Or.inl (w27 hw)) (by decide) (t := .int) (t' := .int) (by decide) (by decide)))), FW33, ((V15.other W24 (Ne.symm N0_1)).other W33 (Ne.symm N0_1))⟩
set_option maxRecDepth 65536 in
set_option maxHeartbeats 40000000 in
theorem rm_slot_5 {l : Launch} {Z : State} {a0 : Array Value} (hw : ∀ d ∈ tables_1, d.before a0 Z = true) {o0 : Addr} {o1 : Addr} {i2 : Int32} {kc3 : ClassId} {x4 : UInt64} {x5 : UInt64} {h0 : Heap} {n0 : Nat} (O : Old Z n0 h0)  (P0 : Exa Z h0 o0 "com/example/rondel/rondel/primitive/DoubleRingBuffer") (P1 : Fld Z h0 o0 "com/example/rondel/rondel/primitive/DoubleRingBuffer" "readings" "[D" (.ref o1)) (P2 : Fld Z h0 o0 "com/example/rondel/rondel/primitive/DoubleRingBuffer" "size" "I" (.int (1 : Int32))) (P3 : Fld Z h0 o0 "com/example/rondel/rondel/primitive/DoubleRingBuffer" "head" "I" (.int (1 : Int32))) (P4 : Fld Z h0 o0 "com/example/rondel/rondel/primitive/DoubleRingBuffer" "modCount" "I" (.int i2)) (P5 : Arv Z h0 o1 kc3 .double (2 : Int32) [(.double x4), (.double x5)] (.double 0)) (G0 : n0 ≤ o0) (G1 : n0 ≤ o1) (N0_1 : o0 ≠ o1) :
    Met1 l Z (⟨"com/example/rondel/rondel/primitive/DoubleRingBuffer", "slot", "(I)I"⟩ : MethodName) prog_11_method_18_code 3 (some .int) ({ frames := 0, cells := 0, slots := 0, locals := 0 } : Room) #[(.ref o0), (.int (1 : Int32))] h0 n0 (fun v h => v = (.int (0 : Int32)) ∧ h0 = h) := by
  refine met_of (L := #[.val (.ref o0), .val (.int (1 : Int32)), .unset]) (plainFor_of_name pn_10) (fun m => by first | (simp [entryFrame, mkF, argsToLocals, Value.category]; done) | rfl) ?_
  intro p e s m below meth c T C X
  change Cx p s m meth c Z "com/example/rondel/rondel/primitive/DoubleRingBuffer" prog_11_method_18_code 3 (some .int) "slot" at C
  refine g_aloadN C X d4_0 (q := 1) rfl rfl rfl ?_
  refine g_getF C X (host := "") (Or.inl (w11 hw)) Via.refl P1 d4_1 (q := 4) rfl ?_
  intro T1 X2
  refine g_alen C X2 P5 d4_4 (q := 5) rfl ?_
  refine g_aloadN C X2 d4_5 (q := 6) rfl rfl rfl ?_
  refine g_getF C X2 (host := "") (Or.inl (w24 hw)) Via.refl P3 d4_6 (q := 9) rfl ?_
  intro T3 X4
  refine g_isub C X4 d4_9 (q := 10) rfl (z := (1 : Int32)) (by decide) ?_
  refine g_istoreN C X4 d4_10 (q := 11) rfl (L' := #[.val (.ref o0), .val (.int (1 : Int32)), .val (.int (1 : Int32))]) rfl ?_
  refine g_iloadN C X4 d4_11 (q := 12) rfl rfl ?_
  refine g_iloadN C X4 d4_12 (q := 13) rfl rfl ?_
  refine g_icY C X4 d4_13 (by decide) (q := 25) (by decide) (by decide) ?_
  refine g_iloadN C X4 d4_25 (q := 26) rfl rfl ?_
  refine g_iloadN C X4 d4_26 (q := 27) rfl rfl ?_
  refine g_isub C X4 d4_27 (q := 28) rfl (z := (0 : Int32)) (by decide) ?_
  exact g_retI C X4 d4_28 (by decide) (by decide) ⟨_, rfl, rfl, rfl⟩
set_option maxRecDepth 65536 in
set_option maxHeartbeats 40000000 in
theorem rm_add_6 {l : Launch} {Z : State} {a0 : Array Value} (hw : ∀ d ∈ tables_1, d.before a0 Z = true) {o0 : Addr} {o1 : Addr} {i2 : Int32} {kc3 : ClassId} {x4 : UInt64} {x5 : UInt64} {x6 : UInt64} {h0 : Heap} {n0 : Nat} (O : Old Z n0 h0)  (P0 : Exa Z h0 o0 "com/example/rondel/rondel/primitive/DoubleRingBuffer") (P1 : Fld Z h0 o0 "com/example/rondel/rondel/primitive/DoubleRingBuffer" "readings" "[D" (.ref o1)) (P2 : Fld Z h0 o0 "com/example/rondel/rondel/primitive/DoubleRingBuffer" "size" "I" (.int (1 : Int32))) (P3 : Fld Z h0 o0 "com/example/rondel/rondel/primitive/DoubleRingBuffer" "head" "I" (.int (1 : Int32))) (P4 : Fld Z h0 o0 "com/example/rondel/rondel/primitive/DoubleRingBuffer" "modCount" "I" (.int i2)) (P5 : Arv Z h0 o1 kc3 .double (2 : Int32) [(.double x4), (.double x5)] (.double 0)) (G0 : n0 ≤ o0) (G1 : n0 ≤ o1) (N0_1 : o0 ≠ o1) :
    Met0 l Z (⟨"com/example/rondel/rondel/primitive/DoubleRingBuffer", "add", "(D)V"⟩ : MethodName) prog_11_method_6_code 3 none ({ frames := 1, cells := 0, slots := 0, locals := 15 } : Room) #[(.ref o0), (.double x6)] h0 n0 (fun h => Keep h0 h [o1, o0] ∧ Exa Z h o0 "com/example/rondel/rondel/primitive/DoubleRingBuffer" ∧ Fld Z h o0 "com/example/rondel/rondel/primitive/DoubleRingBuffer" "readings" "[D" (.ref o1) ∧ Fld Z h o0 "com/example/rondel/rondel/primitive/DoubleRingBuffer" "size" "I" (.int (2 : Int32)) ∧ Fld Z h o0 "com/example/rondel/rondel/primitive/DoubleRingBuffer" "head" "I" (.int (1 : Int32)) ∧ Fld Z h o0 "com/example/rondel/rondel/primitive/DoubleRingBuffer" "modCount" "I" (.int (i2 + (1 : Int32))) ∧ Arv Z h o1 kc3 .double (2 : Int32) [(.double x6), (.double x5)] (.double 0)) := by
  refine met_of (L := #[.val (.ref o0), .val (.double x6), .second]) (plainFor_of_name pn_10) (fun m => by first | (simp [entryFrame, mkF, argsToLocals, Value.category]; done) | rfl) ?_
  intro p e s m below meth c T C X
  change Cx p s m meth c Z "com/example/rondel/rondel/primitive/DoubleRingBuffer" prog_11_method_6_code 3 none "add" at C
  refine g_aloadN C X d3_0 (q := 1) rfl rfl rfl ?_
  refine g_getF C X (host := "") (Or.inl (w18 hw)) Via.refl P2 d3_1 (q := 4) rfl ?_
  intro T1 X2
  refine g_aloadN C X2 d3_4 (q := 5) rfl rfl rfl ?_
  refine g_getF C X2 (host := "") (Or.inl (w11 hw)) Via.refl P1 d3_5 (q := 8) rfl ?_
  intro T3 X4
  refine g_alen C X4 P5 d3_8 (q := 9) rfl ?_
  refine g_icY C X4 d3_9 (by decide) (q := 37) (by decide) (by decide) ?_
  refine g_aloadN C X4 d3_37 (q := 38) rfl rfl rfl ?_
  refine g_getF C X4 (host := "") (Or.inl (w11 hw)) Via.refl P1 d3_38 (q := 41) rfl ?_
  intro T5 X6
  refine g_aloadN C X6 d3_41 (q := 42) rfl rfl rfl ?_
  refine g_aloadN C X6 d3_42 (q := 43) rfl rfl rfl ?_
  refine g_getF C X6 (host := "") (Or.inl (w18 hw)) Via.refl P2 d3_43 (q := 46) rfl ?_
  intro T7 X8
  refine g_callP1 C X8 (y := (⟨"com/example/rondel/rondel/primitive/DoubleRingBuffer", "slot", "(I)I"⟩ : MethodName)) (a := o0) (by decide) (w20 hw) (sel_priv (w2 hw) (w21 hw) (w22 hw) (by decide)) (w21 hw) (w22 hw) P0 (w23 hw) (w3 hw) (rm_slot_5 hw (o0 := o0) (o1 := o1) (i2 := i2) (kc3 := kc3) (x4 := x4) (x5 := x5) O P0 P1 P2 P3 P4 P5 G0 G1 N0_1) (W := 1) (by decide) (by decide) (k' := 0) rfl (n' := 0) rfl (by decide) (by decide) rfl pd_40 (argsL := [(.int (1 : Int32))]) rfl (rest := [(.ref o1)]) rfl rfl rfl d3_46 (q := 49) rfl ?_
  rintro _ T9 _ X10 ⟨rfl, rfl⟩
  refine g_dloadN C X10 d3_49 (q := 50) rfl rfl ?_
  refine g_dastore C X10 P5 (by decide) (i := 0) (by decide) (Nat.le_of_ble_eq_true rfl) (vs' := [(.double x6), (.double x5)]) rfl G1 d3_50 (q := 51) rfl ?_
  intro T11 h12 X13 W14 V15
  have O16 := O.wr W14 G1
  refine g_aloadN C X13 d3_51 (q := 52) rfl rfl rfl ?_
  refine g_dup C X13 d3_52 (q := 53) rfl rfl ?_
  have f17 := (P2.other W14 (Or.inl N0_1))
  refine g_getF C X13 (host := "") (Or.inl (w18 hw)) Via.refl f17 d3_53 (q := 56) rfl ?_
  intro T18 X19
  refine g_iconst C X19 d3_56 (q := 57) rfl (z := (1 : Int32)) rfl ?_
  refine g_iadd C X19 d3_57 (q := 58) rfl (z := (2 : Int32)) (by decide) ?_
  have f20 := (P0.wr W14)
  refine g_putF C X19 (host := "") (Or.inl (w18 hw)) Via.refl f17 f20 (Or.inl (w19 hw)) (w2 hw) (ty := .int) (by decide) rfl rfl d3_58 (q := 61) rfl G0 ?_
  intro T21 h23 X22 W24
  have FW24 := Fld.same W24 f17
  have O25 := O16.wr W24 G0
  refine g_aloadN C X22 d3_61 (q := 62) rfl rfl rfl ?_
  refine g_dup C X22 d3_62 (q := 63) rfl rfl ?_
  have f26 := ((P4.other W14 (Or.inl N0_1)).other W24 (Or.inr (slot_ne (Or.inl (w27 hw)) (Or.inl (w19 hw)) (by decide) (t := .int) (t' := .int) (by decide) (by decide))))
  refine g_getF C X22 (host := "") (Or.inl (w26 hw)) Via.refl f26 d3_63 (q := 66) rfl ?_
  intro T27 X28
  refine g_iconst C X28 d3_66 (q := 67) rfl (z := (1 : Int32)) rfl ?_
  refine g_iadd C X28 d3_67 (q := 68) rfl (z := (i2 + (1 : Int32))) rfl ?_
  have f29 := (f20.wr W24)
  refine g_putF C X28 (host := "") (Or.inl (w26 hw)) Via.refl f26 f29 (Or.inl (w27 hw)) (w2 hw) (ty := .int) (by decide) rfl rfl d3_68 (q := 71) rfl G0 ?_
  intro T30 h32 X31 W33
  have FW33 := Fld.same W33 f26
  have O34 := O25.wr W33 G0
  exact g_retV C X31 d3_71 (by decide) (by decide) ⟨rfl, ((((Keep.refl h0 [o1, o0]).wr W14 (Or.inl (List.mem_of_getElem? (i := 0) rfl))).wr W24 (Or.inl (List.mem_of_getElem? (i := 1) rfl))).wr W33 (Or.inl (List.mem_of_getElem? (i := 1) rfl))), (f29.wr W33), (((P1.other W14 (Or.inl N0_1)).other W24 (Or.inr (slot_ne (Or.inr (w12 hw)) (Or.inl (w19 hw)) (by decide) (t := (.array .double)) (t' := .int) (by decide) (by decide)))).other W33 (Or.inr (slot_ne (Or.inr (w12 hw)) (Or.inl (w27 hw)) (by decide) (t := (.array .double)) (t' := .int) (by decide) (by decide)))), (FW24.other W33 (Or.inr (slot_ne (Or.inl (w19 hw)) (Or.inl (w27 hw)) (by decide) (t := .int) (t' := .int) (by decide) (by decide)))), (((P3.other W14 (Or.inl N0_1)).other W24 (Or.inr (slot_ne (Or.inl (w25 hw)) (Or.inl (w19 hw)) (by decide) (t := .int) (t' := .int) (by decide) (by decide)))).other W33 (Or.inr (slot_ne (Or.inl (w25 hw)) (Or.inl (w27 hw)) (by decide) (t := .int) (t' := .int) (by decide) (by decide)))), FW33, ((V15.other W24 (Ne.symm N0_1)).other W33 (Ne.symm N0_1))⟩
set_option maxRecDepth 65536 in
set_option maxHeartbeats 40000000 in
theorem rm_checkNotEmpty_1 {l : Launch} {Z : State} {a0 : Array Value} (hw : ∀ d ∈ tables_1, d.before a0 Z = true) {o0 : Addr} {o1 : Addr} {i2 : Int32} {kc3 : ClassId} {x4 : UInt64} {x5 : UInt64} {h0 : Heap} {n0 : Nat} (O : Old Z n0 h0)  (P0 : Exa Z h0 o0 "com/example/rondel/rondel/primitive/DoubleRingBuffer") (P1 : Fld Z h0 o0 "com/example/rondel/rondel/primitive/DoubleRingBuffer" "readings" "[D" (.ref o1)) (P2 : Fld Z h0 o0 "com/example/rondel/rondel/primitive/DoubleRingBuffer" "size" "I" (.int (2 : Int32))) (P3 : Fld Z h0 o0 "com/example/rondel/rondel/primitive/DoubleRingBuffer" "head" "I" (.int (1 : Int32))) (P4 : Fld Z h0 o0 "com/example/rondel/rondel/primitive/DoubleRingBuffer" "modCount" "I" (.int i2)) (P5 : Arv Z h0 o1 kc3 .double (2 : Int32) [(.double x4), (.double x5)] (.double 0)) (G0 : n0 ≤ o0) (G1 : n0 ≤ o1) (N0_1 : o0 ≠ o1) :
    Met0 l Z (⟨"com/example/rondel/rondel/primitive/DoubleRingBuffer", "checkNotEmpty", "()V"⟩ : MethodName) prog_11_method_17_code 1 none ({ frames := 0, cells := 0, slots := 0, locals := 0 } : Room) #[(.ref o0)] h0 n0 (fun h => h0 = h) := by
  refine met_of (L := #[.val (.ref o0)]) (plainFor_of_name pn_10) (fun m => by first | (simp [entryFrame, mkF, argsToLocals, Value.category]; done) | rfl) ?_
  intro p e s m below meth c T C X
  change Cx p s m meth c Z "com/example/rondel/rondel/primitive/DoubleRingBuffer" prog_11_method_17_code 1 none "checkNotEmpty" at C
  refine g_aloadN C X d9_0 (q := 1) rfl rfl rfl ?_
  refine g_getF C X (host := "") (Or.inl (w18 hw)) Via.refl P2 d9_1 (q := 4) rfl ?_
  intro T1 X2
  refine g_ifY C X2 d9_4 (by decide) (q := 17) (by decide) (by decide) ?_
  exact g_retV C X2 d9_17 (by decide) (by decide) ⟨rfl, rfl⟩
set_option maxRecDepth 65536 in
set_option maxHeartbeats 40000000 in
theorem rm_getFirst_1 {l : Launch} {Z : State} {a0 : Array Value} (hw : ∀ d ∈ tables_1, d.before a0 Z = true) {o0 : Addr} {o1 : Addr} {i2 : Int32} {kc3 : ClassId} {x4 : UInt64} {x5 : UInt64} {h0 : Heap} {n0 : Nat} (O : Old Z n0 h0)  (P0 : Exa Z h0 o0 "com/example/rondel/rondel/primitive/DoubleRingBuffer") (P1 : Fld Z h0 o0 "com/example/rondel/rondel/primitive/DoubleRingBuffer" "readings" "[D" (.ref o1)) (P2 : Fld Z h0 o0 "com/example/rondel/rondel/primitive/DoubleRingBuffer" "size" "I" (.int (2 : Int32))) (P3 : Fld Z h0 o0 "com/example/rondel/rondel/primitive/DoubleRingBuffer" "head" "I" (.int (1 : Int32))) (P4 : Fld Z h0 o0 "com/example/rondel/rondel/primitive/DoubleRingBuffer" "modCount" "I" (.int i2)) (P5 : Arv Z h0 o1 kc3 .double (2 : Int32) [(.double x4), (.double x5)] (.double 0)) (G0 : n0 ≤ o0) (G1 : n0 ≤ o1) (N0_1 : o0 ≠ o1) :
    Met1 l Z (⟨"com/example/rondel/rondel/primitive/DoubleRingBuffer", "getFirst", "()D"⟩ : MethodName) prog_11_method_9_code 1 (some .double) ({ frames := 1, cells := 0, slots := 0, locals := 12 } : Room) #[(.ref o0)] h0 n0 (fun v h => v = (.double x5) ∧ h0 = h) := by
  refine met_of (L := #[.val (.ref o0)]) (plainFor_of_name pn_10) (fun m => by first | (simp [entryFrame, mkF, argsToLocals, Value.category]; done) | rfl) ?_
  intro p e s m below meth c T C X
  change Cx p s m meth c Z "com/example/rondel/rondel/primitive/DoubleRingBuffer" prog_11_method_9_code 1 (some .double) "getFirst" at C
  refine g_aloadN C X d8_0 (q := 1) rfl rfl rfl ?_
  refine g_callP0 C X (y := (⟨"com/example/rondel/rondel/primitive/DoubleRingBuffer", "checkNotEmpty", "()V"⟩ : MethodName)) (a := o0) (by decide) (w47 hw) (sel_priv (w2 hw) (w48 hw) (w49 hw) (by decide)) (w48 hw) (w49 hw) P0 (w50 hw) (w3 hw) (rm_checkNotEmpty_1 hw (o0 := o0) (o1 := o1) (i2 := i2) (kc3 := kc3) (x4 := x4) (x5 := x5) O P0 P1 P2 P3 P4 P5 G0 G1 N0_1) (W := 0) (by decide) (by decide) (k' := 0) rfl (n' := 0) rfl (by decide) (by decide) rfl pd_90 (argsL := []) rfl (rest := []) rfl rfl rfl d8_1 (q := 4) rfl ?_
  rintro T1 _ X2 rfl
  refine g_aloadN C X2 d8_4 (q := 5) rfl rfl rfl ?_
  refine g_getF C X2 (host := "") (Or.inl (w11 hw)) Via.refl P1 d8_5 (q := 8) rfl ?_
  intro T3 X4
  refine g_aloadN C X4 d8_8 (q := 9) rfl rfl rfl ?_
  refine g_getF C X4 (host := "") (Or.inl (w24 hw)) Via.refl P3 d8_9 (q := 12) rfl ?_
  intro T5 X6
  refine g_daload C X6 P5 (by decide) (w := (.double x5)) rfl d8_12 (q := 13) rfl ?_
  exact g_retD C X6 d8_13 (by decide) (by decide) ⟨_, rfl, rfl, rfl⟩
set_option maxRecDepth 65536 in
set_option maxHeartbeats 40000000 in
theorem rm_slot_6 {l : Launch} {Z : State} {a0 : Array Value} (hw : ∀ d ∈ tables_1, d.before a0 Z = true) {o0 : Addr} {o1 : Addr} {i2 : Int32} {kc3 : ClassId} {x4 : UInt64} {x5 : UInt64} {h0 : Heap} {n0 : Nat} (O : Old Z n0 h0)  (P0 : Exa Z h0 o0 "com/example/rondel/rondel/primitive/DoubleRingBuffer") (P1 : Fld Z h0 o0 "com/example/rondel/rondel/primitive/DoubleRingBuffer" "readings" "[D" (.ref o1)) (P2 : Fld Z h0 o0 "com/example/rondel/rondel/primitive/DoubleRingBuffer" "size" "I" (.int (2 : Int32))) (P3 : Fld Z h0 o0 "com/example/rondel/rondel/primitive/DoubleRingBuffer" "head" "I" (.int (1 : Int32))) (P4 : Fld Z h0 o0 "com/example/rondel/rondel/primitive/DoubleRingBuffer" "modCount" "I" (.int i2)) (P5 : Arv Z h0 o1 kc3 .double (2 : Int32) [(.double x4), (.double x5)] (.double 0)) (G0 : n0 ≤ o0) (G1 : n0 ≤ o1) (N0_1 : o0 ≠ o1) :
    Met1 l Z (⟨"com/example/rondel/rondel/primitive/DoubleRingBuffer", "slot", "(I)I"⟩ : MethodName) prog_11_method_18_code 3 (some .int) ({ frames := 0, cells := 0, slots := 0, locals := 0 } : Room) #[(.ref o0), (.int (1 : Int32))] h0 n0 (fun v h => v = (.int (0 : Int32)) ∧ h0 = h) := by
  refine met_of (L := #[.val (.ref o0), .val (.int (1 : Int32)), .unset]) (plainFor_of_name pn_10) (fun m => by first | (simp [entryFrame, mkF, argsToLocals, Value.category]; done) | rfl) ?_
  intro p e s m below meth c T C X
  change Cx p s m meth c Z "com/example/rondel/rondel/primitive/DoubleRingBuffer" prog_11_method_18_code 3 (some .int) "slot" at C
  refine g_aloadN C X d4_0 (q := 1) rfl rfl rfl ?_
  refine g_getF C X (host := "") (Or.inl (w11 hw)) Via.refl P1 d4_1 (q := 4) rfl ?_
  intro T1 X2
  refine g_alen C X2 P5 d4_4 (q := 5) rfl ?_
  refine g_aloadN C X2 d4_5 (q := 6) rfl rfl rfl ?_
  refine g_getF C X2 (host := "") (Or.inl (w24 hw)) Via.refl P3 d4_6 (q := 9) rfl ?_
  intro T3 X4
  refine g_isub C X4 d4_9 (q := 10) rfl (z := (1 : Int32)) (by decide) ?_
  refine g_istoreN C X4 d4_10 (q := 11) rfl (L' := #[.val (.ref o0), .val (.int (1 : Int32)), .val (.int (1 : Int32))]) rfl ?_
  refine g_iloadN C X4 d4_11 (q := 12) rfl rfl ?_
  refine g_iloadN C X4 d4_12 (q := 13) rfl rfl ?_
  refine g_icY C X4 d4_13 (by decide) (q := 25) (by decide) (by decide) ?_
  refine g_iloadN C X4 d4_25 (q := 26) rfl rfl ?_
  refine g_iloadN C X4 d4_26 (q := 27) rfl rfl ?_
  refine g_isub C X4 d4_27 (q := 28) rfl (z := (0 : Int32)) (by decide) ?_
  exact g_retI C X4 d4_28 (by decide) (by decide) ⟨_, rfl, rfl, rfl⟩
set_option maxRecDepth 65536 in
set_option maxHeartbeats 40000000 in
theorem rm_getLast_1 {l : Launch} {Z : State} {a0 : Array Value} (hw : ∀ d ∈ tables_1, d.before a0 Z = true) {o0 : Addr} {o1 : Addr} {i2 : Int32} {kc3 : ClassId} {x4 : UInt64} {x5 : UInt64} {h0 : Heap} {n0 : Nat} (O : Old Z n0 h0)  (P0 : Exa Z h0 o0 "com/example/rondel/rondel/primitive/DoubleRingBuffer") (P1 : Fld Z h0 o0 "com/example/rondel/rondel/primitive/DoubleRingBuffer" "readings" "[D" (.ref o1)) (P2 : Fld Z h0 o0 "com/example/rondel/rondel/primitive/DoubleRingBuffer" "size" "I" (.int (2 : Int32))) (P3 : Fld Z h0 o0 "com/example/rondel/rondel/primitive/DoubleRingBuffer" "head" "I" (.int (1 : Int32))) (P4 : Fld Z h0 o0 "com/example/rondel/rondel/primitive/DoubleRingBuffer" "modCount" "I" (.int i2)) (P5 : Arv Z h0 o1 kc3 .double (2 : Int32) [(.double x4), (.double x5)] (.double 0)) (G0 : n0 ≤ o0) (G1 : n0 ≤ o1) (N0_1 : o0 ≠ o1) :
    Met1 l Z (⟨"com/example/rondel/rondel/primitive/DoubleRingBuffer", "getLast", "()D"⟩ : MethodName) prog_11_method_10_code 1 (some .double) ({ frames := 1, cells := 0, slots := 0, locals := 15 } : Room) #[(.ref o0)] h0 n0 (fun v h => v = (.double x4) ∧ h0 = h) := by
  refine met_of (L := #[.val (.ref o0)]) (plainFor_of_name pn_10) (fun m => by first | (simp [entryFrame, mkF, argsToLocals, Value.category]; done) | rfl) ?_
  intro p e s m below meth c T C X
  change Cx p s m meth c Z "com/example/rondel/rondel/primitive/DoubleRingBuffer" prog_11_method_10_code 1 (some .double) "getLast" at C
  refine g_aloadN C X d10_0 (q := 1) rfl rfl rfl ?_
  refine g_callP0 C X (y := (⟨"com/example/rondel/rondel/primitive/DoubleRingBuffer", "checkNotEmpty", "()V"⟩ : MethodName)) (a := o0) (by decide) (w47 hw) (sel_priv (w2 hw) (w48 hw) (w49 hw) (by decide)) (w48 hw) (w49 hw) P0 (w50 hw) (w3 hw) (rm_checkNotEmpty_1 hw (o0 := o0) (o1 := o1) (i2 := i2) (kc3 := kc3) (x4 := x4) (x5 := x5) O P0 P1 P2 P3 P4 P5 G0 G1 N0_1) (W := 0) (by decide) (by decide) (k' := 0) rfl (n' := 0) rfl (by decide) (by decide) rfl pd_90 (argsL := []) rfl (rest := []) rfl rfl rfl d10_1 (q := 4) rfl ?_
  rintro T1 _ X2 rfl
  refine g_aloadN C X2 d10_4 (q := 5) rfl rfl rfl ?_
  refine g_getF C X2 (host := "") (Or.inl (w11 hw)) Via.refl P1 d10_5 (q := 8) rfl ?_
  intro T3 X4
  refine g_aloadN C X4 d10_8 (q := 9) rfl rfl rfl ?_
  refine g_aloadN C X4 d10_9 (q := 10) rfl rfl rfl ?_
  refine g_getF C X4 (host := "") (Or.inl (w18 hw)) Via.refl P2 d10_10 (q := 13) rfl ?_
  intro T5 X6
  refine g_iconst C X6 d10_13 (q := 14) rfl (z := (1 : Int32)) rfl ?_
  refine g_isub C X6 d10_14 (q := 15) rfl (z := (1 : Int32)) (by decide) ?_
  refine g_callP1 C X6 (y := (⟨"com/example/rondel/rondel/primitive/DoubleRingBuffer", "slot", "(I)I"⟩ : MethodName)) (a := o0) (by decide) (w20 hw) (sel_priv (w2 hw) (w21 hw) (w22 hw) (by decide)) (w21 hw) (w22 hw) P0 (w23 hw) (w3 hw) (rm_slot_6 hw (o0 := o0) (o1 := o1) (i2 := i2) (kc3 := kc3) (x4 := x4) (x5 := x5) O P0 P1 P2 P3 P4 P5 G0 G1 N0_1) (W := 1) (by decide) (by decide) (k' := 0) rfl (n' := 0) rfl (by decide) (by decide) rfl pd_40 (argsL := [(.int (1 : Int32))]) rfl (rest := [(.ref o1)]) rfl rfl rfl d10_15 (q := 18) rfl ?_
  rintro _ T7 _ X8 ⟨rfl, rfl⟩
  refine g_daload C X8 P5 (by decide) (w := (.double x4)) rfl d10_18 (q := 19) rfl ?_
  exact g_retD C X8 d10_19 (by decide) (by decide) ⟨_, rfl, rfl, rfl⟩
set_option maxRecDepth 65536 in
set_option maxHeartbeats 40000000 in
theorem rm_size_3 {l : Launch} {Z : State} {a0 : Array Value} (hw : ∀ d ∈ tables_1, d.before a0 Z = true) {o0 : Addr} {o1 : Addr} {i2 : Int32} {kc3 : ClassId} {x4 : UInt64} {x5 : UInt64} {h0 : Heap} {n0 : Nat} (O : Old Z n0 h0)  (P0 : Exa Z h0 o0 "com/example/rondel/rondel/primitive/DoubleRingBuffer") (P1 : Fld Z h0 o0 "com/example/rondel/rondel/primitive/DoubleRingBuffer" "readings" "[D" (.ref o1)) (P2 : Fld Z h0 o0 "com/example/rondel/rondel/primitive/DoubleRingBuffer" "size" "I" (.int (2 : Int32))) (P3 : Fld Z h0 o0 "com/example/rondel/rondel/primitive/DoubleRingBuffer" "head" "I" (.int (1 : Int32))) (P4 : Fld Z h0 o0 "com/example/rondel/rondel/primitive/DoubleRingBuffer" "modCount" "I" (.int i2)) (P5 : Arv Z h0 o1 kc3 .double (2 : Int32) [(.double x4), (.double x5)] (.double 0)) (G0 : n0 ≤ o0) (G1 : n0 ≤ o1) (N0_1 : o0 ≠ o1) :
    Met1 l Z (⟨"com/example/rondel/rondel/primitive/DoubleRingBuffer", "size", "()I"⟩ : MethodName) prog_11_method_3_code 1 (some .int) ({ frames := 0, cells := 0, slots := 0, locals := 0 } : Room) #[(.ref o0)] h0 n0 (fun v h => v = (.int (2 : Int32)) ∧ h0 = h) := by
  refine met_of (L := #[.val (.ref o0)]) (plainFor_of_name pn_10) (fun m => by first | (simp [entryFrame, mkF, argsToLocals, Value.category]; done) | rfl) ?_
  intro p e s m below meth c T C X
  change Cx p s m meth c Z "com/example/rondel/rondel/primitive/DoubleRingBuffer" prog_11_method_3_code 1 (some .int) "size" at C
  refine g_aloadN C X d7_0 (q := 1) rfl rfl rfl ?_
  refine g_getF C X (host := "") (Or.inl (w18 hw)) Via.refl P2 d7_1 (q := 4) rfl ?_
  intro T1 X2
  exact g_retI C X2 d7_4 (by decide) (by decide) ⟨_, rfl, rfl, rfl⟩
set_option maxRecDepth 65536 in
set_option maxHeartbeats 40000000 in
theorem rm_clear_3 {l : Launch} {Z : State} {a0 : Array Value} (hw : ∀ d ∈ tables_1, d.before a0 Z = true) {o0 : Addr} {o1 : Addr} {i2 : Int32} {kc3 : ClassId} {x4 : UInt64} {x5 : UInt64} {h0 : Heap} {n0 : Nat} (O : Old Z n0 h0)  (P0 : Exa Z h0 o0 "com/example/rondel/rondel/primitive/DoubleRingBuffer") (P1 : Fld Z h0 o0 "com/example/rondel/rondel/primitive/DoubleRingBuffer" "readings" "[D" (.ref o1)) (P2 : Fld Z h0 o0 "com/example/rondel/rondel/primitive/DoubleRingBuffer" "size" "I" (.int (2 : Int32))) (P3 : Fld Z h0 o0 "com/example/rondel/rondel/primitive/DoubleRingBuffer" "head" "I" (.int (0 : Int32))) (P4 : Fld Z h0 o0 "com/example/rondel/rondel/primitive/DoubleRingBuffer" "modCount" "I" (.int i2)) (P5 : Arv Z h0 o1 kc3 .double (2 : Int32) [(.double x4), (.double x5)] (.double 0)) (G0 : n0 ≤ o0) (G1 : n0 ≤ o1) (N0_1 : o0 ≠ o1) :
    Met0 l Z (⟨"com/example/rondel/rondel/primitive/DoubleRingBuffer", "clear", "()V"⟩ : MethodName) prog_11_method_12_code 1 none ({ frames := 0, cells := 0, slots := 0, locals := 0 } : Room) #[(.ref o0)] h0 n0 (fun h => Keep h0 h [o0] ∧ Exa Z h o0 "com/example/rondel/rondel/primitive/DoubleRingBuffer" ∧ Fld Z h o0 "com/example/rondel/rondel/primitive/DoubleRingBuffer" "readings" "[D" (.ref o1) ∧ Fld Z h o0 "com/example/rondel/rondel/primitive/DoubleRingBuffer" "size" "I" (.int (0 : Int32)) ∧ Fld Z h o0 "com/example/rondel/rondel/primitive/DoubleRingBuffer" "head" "I" (.int (0 : Int32)) ∧ Fld Z h o0 "com/example/rondel/rondel/primitive/DoubleRingBuffer" "modCount" "I" (.int (i2 + (1 : Int32)))) := by
  refine met_of (L := #[.val (.ref o0)]) (plainFor_of_name pn_10) (fun m => by first | (simp [entryFrame, mkF, argsToLocals, Value.category]; done) | rfl) ?_
  intro p e s m below meth c T C X
  change Cx p s m meth c Z "com/example/rondel/rondel/primitive/DoubleRingBuffer" prog_11_method_12_code 1 none "clear" at C
  refine g_aloadN C X d6_0 (q := 1) rfl rfl rfl ?_
  refine g_iconst C X d6_1 (q := 2) rfl (z := (0 : Int32)) rfl ?_
  refine g_putF C X (host := "") (Or.inl (w18 hw)) Via.refl P2 P0 (Or.inl (w19 hw)) (w2 hw) (ty := .int) (by decide) rfl rfl d6_2 (q := 5) rfl G0 ?_
  intro T1 h3 X2 W4
  have FW4 := Fld.same W4 P2
  have O5 := O.wr W4 G0
  refine g_aloadN C X2 d6_5 (q := 6) rfl rfl rfl ?_
  refine g_dup C X2 d6_6 (q := 7) rfl rfl ?_
  have f6 := (P4.other W4 (Or.inr (slot_ne (Or.inl (w27 hw)) (Or.inl (w19 hw)) (by decide) (t := .int) (t' := .int) (by decide) (by decide))))
  refine g_getF C X2 (host := "") (Or.inl (w26 hw)) Via.refl f6 d6_7 (q := 10) rfl ?_
  intro T7 X8
  refine g_iconst C X8 d6_10 (q := 11) rfl (z := (1 : Int32)) rfl ?_
  refine g_iadd C X8 d6_11 (q := 12) rfl (z := (i2 + (1 : Int32))) rfl ?_
  have f9 := (P0.wr W4)
  refine g_putF C X8 (host := "") (Or.inl (w26 hw)) Via.refl f6 f9 (Or.inl (w27 hw)) (w2 hw) (ty := .int) (by decide) rfl rfl d6_12 (q := 15) rfl G0 ?_
  intro T10 h12 X11 W13
  have FW13 := Fld.same W13 f6
  have O14 := O5.wr W13 G0
  exact g_retV C X11 d6_15 (by decide) (by decide) ⟨rfl, (((Keep.refl h0 [o0]).wr W4 (Or.inl (List.mem_of_getElem? (i := 0) rfl))).wr W13 (Or.inl (List.mem_of_getElem? (i := 0) rfl))), (f9.wr W13), ((P1.other W4 (Or.inr (slot_ne (Or.inr (w12 hw)) (Or.inl (w19 hw)) (by decide) (t := (.array .double)) (t' := .int) (by decide) (by decide)))).other W13 (Or.inr (slot_ne (Or.inr (w12 hw)) (Or.inl (w27 hw)) (by decide) (t := (.array .double)) (t' := .int) (by decide) (by decide)))), (FW4.other W13 (Or.inr (slot_ne (Or.inl (w19 hw)) (Or.inl (w27 hw)) (by decide) (t := .int) (t' := .int) (by decide) (by decide)))), ((P3.other W4 (Or.inr (slot_ne (Or.inl (w25 hw)) (Or.inl (w19 hw)) (by decide) (t := .int) (t' := .int) (by decide) (by decide)))).other W13 (Or.inr (slot_ne (Or.inl (w25 hw)) (Or.inl (w27 hw)) (by decide) (t := .int) (t' := .int) (by decide) (by decide)))), FW13⟩
set_option maxRecDepth 65536 in
set_option maxHeartbeats 40000000 in
theorem rm_size_4 {l : Launch} {Z : State} {a0 : Array Value} (hw : ∀ d ∈ tables_1, d.before a0 Z = true) {o0 : Addr} {o1 : Addr} {i2 : Int32} {kc3 : ClassId} {x4 : UInt64} {x5 : UInt64} {h0 : Heap} {n0 : Nat} (O : Old Z n0 h0)  (P0 : Exa Z h0 o0 "com/example/rondel/rondel/primitive/DoubleRingBuffer") (P1 : Fld Z h0 o0 "com/example/rondel/rondel/primitive/DoubleRingBuffer" "readings" "[D" (.ref o1)) (P2 : Fld Z h0 o0 "com/example/rondel/rondel/primitive/DoubleRingBuffer" "size" "I" (.int (0 : Int32))) (P3 : Fld Z h0 o0 "com/example/rondel/rondel/primitive/DoubleRingBuffer" "head" "I" (.int (0 : Int32))) (P4 : Fld Z h0 o0 "com/example/rondel/rondel/primitive/DoubleRingBuffer" "modCount" "I" (.int i2)) (P5 : Arv Z h0 o1 kc3 .double (2 : Int32) [(.double x4), (.double x5)] (.double 0)) (G0 : n0 ≤ o0) (G1 : n0 ≤ o1) (N0_1 : o0 ≠ o1) :
    Met1 l Z (⟨"com/example/rondel/rondel/primitive/DoubleRingBuffer", "size", "()I"⟩ : MethodName) prog_11_method_3_code 1 (some .int) ({ frames := 0, cells := 0, slots := 0, locals := 0 } : Room) #[(.ref o0)] h0 n0 (fun v h => v = (.int (0 : Int32)) ∧ h0 = h) := by
  refine met_of (L := #[.val (.ref o0)]) (plainFor_of_name pn_10) (fun m => by first | (simp [entryFrame, mkF, argsToLocals, Value.category]; done) | rfl) ?_
  intro p e s m below meth c T C X
  change Cx p s m meth c Z "com/example/rondel/rondel/primitive/DoubleRingBuffer" prog_11_method_3_code 1 (some .int) "size" at C
  refine g_aloadN C X d7_0 (q := 1) rfl rfl rfl ?_
  refine g_getF C X (host := "") (Or.inl (w18 hw)) Via.refl P2 d7_1 (q := 4) rfl ?_
  intro T1 X2
  exact g_retI C X2 d7_4 (by decide) (by decide) ⟨_, rfl, rfl, rfl⟩
set_option maxRecDepth 65536 in
set_option maxHeartbeats 40000000 in
theorem rm_checkNotEmpty_2 {l : Launch} {Z : State} {a0 : Array Value} (hw : ∀ d ∈ tables_1, d.before a0 Z = true) {o0 : Addr} {o1 : Addr} {i2 : Int32} {kc3 : ClassId} {x4 : UInt64} {x5 : UInt64} {h0 : Heap} {n0 : Nat} (O : Old Z n0 h0)  (P0 : Exa Z h0 o0 "com/example/rondel/rondel/primitive/DoubleRingBuffer") (P1 : Fld Z h0 o0 "com/example/rondel/rondel/primitive/DoubleRingBuffer" "readings" "[D" (.ref o1)) (P2 : Fld Z h0 o0 "com/example/rondel/rondel/primitive/DoubleRingBuffer" "size" "I" (.int (2 : Int32))) (P3 : Fld Z h0 o0 "com/example/rondel/rondel/primitive/DoubleRingBuffer" "head" "I" (.int (0 : Int32))) (P4 : Fld Z h0 o0 "com/example/rondel/rondel/primitive/DoubleRingBuffer" "modCount" "I" (.int i2)) (P5 : Arv Z h0 o1 kc3 .double (2 : Int32) [(.double x4), (.double x5)] (.double 0)) (G0 : n0 ≤ o0) (G1 : n0 ≤ o1) (N0_1 : o0 ≠ o1) :
    Met0 l Z (⟨"com/example/rondel/rondel/primitive/DoubleRingBuffer", "checkNotEmpty", "()V"⟩ : MethodName) prog_11_method_17_code 1 none ({ frames := 0, cells := 0, slots := 0, locals := 0 } : Room) #[(.ref o0)] h0 n0 (fun h => h0 = h) := by
  refine met_of (L := #[.val (.ref o0)]) (plainFor_of_name pn_10) (fun m => by first | (simp [entryFrame, mkF, argsToLocals, Value.category]; done) | rfl) ?_
  intro p e s m below meth c T C X
  change Cx p s m meth c Z "com/example/rondel/rondel/primitive/DoubleRingBuffer" prog_11_method_17_code 1 none "checkNotEmpty" at C
  refine g_aloadN C X d9_0 (q := 1) rfl rfl rfl ?_
  refine g_getF C X (host := "") (Or.inl (w18 hw)) Via.refl P2 d9_1 (q := 4) rfl ?_
  intro T1 X2
  refine g_ifY C X2 d9_4 (by decide) (q := 17) (by decide) (by decide) ?_
  exact g_retV C X2 d9_17 (by decide) (by decide) ⟨rfl, rfl⟩
set_option maxRecDepth 65536 in
set_option maxHeartbeats 40000000 in
theorem rm_getFirst_2 {l : Launch} {Z : State} {a0 : Array Value} (hw : ∀ d ∈ tables_1, d.before a0 Z = true) {o0 : Addr} {o1 : Addr} {i2 : Int32} {kc3 : ClassId} {x4 : UInt64} {x5 : UInt64} {h0 : Heap} {n0 : Nat} (O : Old Z n0 h0)  (P0 : Exa Z h0 o0 "com/example/rondel/rondel/primitive/DoubleRingBuffer") (P1 : Fld Z h0 o0 "com/example/rondel/rondel/primitive/DoubleRingBuffer" "readings" "[D" (.ref o1)) (P2 : Fld Z h0 o0 "com/example/rondel/rondel/primitive/DoubleRingBuffer" "size" "I" (.int (2 : Int32))) (P3 : Fld Z h0 o0 "com/example/rondel/rondel/primitive/DoubleRingBuffer" "head" "I" (.int (0 : Int32))) (P4 : Fld Z h0 o0 "com/example/rondel/rondel/primitive/DoubleRingBuffer" "modCount" "I" (.int i2)) (P5 : Arv Z h0 o1 kc3 .double (2 : Int32) [(.double x4), (.double x5)] (.double 0)) (G0 : n0 ≤ o0) (G1 : n0 ≤ o1) (N0_1 : o0 ≠ o1) :
    Met1 l Z (⟨"com/example/rondel/rondel/primitive/DoubleRingBuffer", "getFirst", "()D"⟩ : MethodName) prog_11_method_9_code 1 (some .double) ({ frames := 1, cells := 0, slots := 0, locals := 12 } : Room) #[(.ref o0)] h0 n0 (fun v h => v = (.double x4) ∧ h0 = h) := by
  refine met_of (L := #[.val (.ref o0)]) (plainFor_of_name pn_10) (fun m => by first | (simp [entryFrame, mkF, argsToLocals, Value.category]; done) | rfl) ?_
  intro p e s m below meth c T C X
  change Cx p s m meth c Z "com/example/rondel/rondel/primitive/DoubleRingBuffer" prog_11_method_9_code 1 (some .double) "getFirst" at C
  refine g_aloadN C X d8_0 (q := 1) rfl rfl rfl ?_
  refine g_callP0 C X (y := (⟨"com/example/rondel/rondel/primitive/DoubleRingBuffer", "checkNotEmpty", "()V"⟩ : MethodName)) (a := o0) (by decide) (w47 hw) (sel_priv (w2 hw) (w48 hw) (w49 hw) (by decide)) (w48 hw) (w49 hw) P0 (w50 hw) (w3 hw) (rm_checkNotEmpty_2 hw (o0 := o0) (o1 := o1) (i2 := i2) (kc3 := kc3) (x4 := x4) (x5 := x5) O P0 P1 P2 P3 P4 P5 G0 G1 N0_1) (W := 0) (by decide) (by decide) (k' := 0) rfl (n' := 0) rfl (by decide) (by decide) rfl pd_90 (argsL := []) rfl (rest := []) rfl rfl rfl d8_1 (q := 4) rfl ?_
  rintro T1 _ X2 rfl
  refine g_aloadN C X2 d8_4 (q := 5) rfl rfl rfl ?_
  refine g_getF C X2 (host := "") (Or.inl (w11 hw)) Via.refl P1 d8_5 (q := 8) rfl ?_
  intro T3 X4
  refine g_aloadN C X4 d8_8 (q := 9) rfl rfl rfl ?_
  refine g_getF C X4 (host := "") (Or.inl (w24 hw)) Via.refl P3 d8_9 (q := 12) rfl ?_
  intro T5 X6
  refine g_daload C X6 P5 (by decide) (w := (.double x4)) rfl d8_12 (q := 13) rfl ?_
  exact g_retD C X6 d8_13 (by decide) (by decide) ⟨_, rfl, rfl, rfl⟩
set_option maxRecDepth 65536 in
set_option maxHeartbeats 40000000 in
theorem rm_slot_7 {l : Launch} {Z : State} {a0 : Array Value} (hw : ∀ d ∈ tables_1, d.before a0 Z = true) {o0 : Addr} {o1 : Addr} {i2 : Int32} {kc3 : ClassId} {x4 : UInt64} {x5 : UInt64} {h0 : Heap} {n0 : Nat} (O : Old Z n0 h0)  (P0 : Exa Z h0 o0 "com/example/rondel/rondel/primitive/DoubleRingBuffer") (P1 : Fld Z h0 o0 "com/example/rondel/rondel/primitive/DoubleRingBuffer" "readings" "[D" (.ref o1)) (P2 : Fld Z h0 o0 "com/example/rondel/rondel/primitive/DoubleRingBuffer" "size" "I" (.int (2 : Int32))) (P3 : Fld Z h0 o0 "com/example/rondel/rondel/primitive/DoubleRingBuffer" "head" "I" (.int (0 : Int32))) (P4 : Fld Z h0 o0 "com/example/rondel/rondel/primitive/DoubleRingBuffer" "modCount" "I" (.int i2)) (P5 : Arv Z h0 o1 kc3 .double (2 : Int32) [(.double x4), (.double x5)] (.double 0)) (G0 : n0 ≤ o0) (G1 : n0 ≤ o1) (N0_1 : o0 ≠ o1) :
    Met1 l Z (⟨"com/example/rondel/rondel/primitive/DoubleRingBuffer", "slot", "(I)I"⟩ : MethodName) prog_11_method_18_code 3 (some .int) ({ frames := 0, cells := 0, slots := 0, locals := 0 } : Room) #[(.ref o0), (.int (1 : Int32))] h0 n0 (fun v h => v = (.int (1 : Int32)) ∧ h0 = h) := by
  refine met_of (L := #[.val (.ref o0), .val (.int (1 : Int32)), .unset]) (plainFor_of_name pn_10) (fun m => by first | (simp [entryFrame, mkF, argsToLocals, Value.category]; done) | rfl) ?_
  intro p e s m below meth c T C X
  change Cx p s m meth c Z "com/example/rondel/rondel/primitive/DoubleRingBuffer" prog_11_method_18_code 3 (some .int) "slot" at C
  refine g_aloadN C X d4_0 (q := 1) rfl rfl rfl ?_
  refine g_getF C X (host := "") (Or.inl (w11 hw)) Via.refl P1 d4_1 (q := 4) rfl ?_
  intro T1 X2
  refine g_alen C X2 P5 d4_4 (q := 5) rfl ?_
  refine g_aloadN C X2 d4_5 (q := 6) rfl rfl rfl ?_
  refine g_getF C X2 (host := "") (Or.inl (w24 hw)) Via.refl P3 d4_6 (q := 9) rfl ?_
  intro T3 X4
  refine g_isub C X4 d4_9 (q := 10) rfl (z := (2 : Int32)) (by decide) ?_
  refine g_istoreN C X4 d4_10 (q := 11) rfl (L' := #[.val (.ref o0), .val (.int (1 : Int32)), .val (.int (2 : Int32))]) rfl ?_
  refine g_iloadN C X4 d4_11 (q := 12) rfl rfl ?_
  refine g_iloadN C X4 d4_12 (q := 13) rfl rfl ?_
  refine g_icN C X4 d4_13 (q := 16) rfl (by decide) ?_
  refine g_aloadN C X4 d4_16 (q := 17) rfl rfl rfl ?_
  refine g_getF C X4 (host := "") (Or.inl (w24 hw)) Via.refl P3 d4_17 (q := 20) rfl ?_
  intro T5 X6
  refine g_iloadN C X6 d4_20 (q := 21) rfl rfl ?_
  refine g_iadd C X6 d4_21 (q := 22) rfl (z := (1 : Int32)) (by decide) ?_
  refine g_goto C X6 d4_22 (by decide) (q := 28) (by decide) ?_
  exact g_retI C X6 d4_28 (by decide) (by decide) ⟨_, rfl, rfl, rfl⟩
set_option maxRecDepth 65536 in
set_option maxHeartbeats 40000000 in
theorem rm_getLast_2 {l : Launch} {Z : State} {a0 : Array Value} (hw : ∀ d ∈ tables_1, d.before a0 Z = true) {o0 : Addr} {o1 : Addr} {i2 : Int32} {kc3 : ClassId} {x4 : UInt64} {x5 : UInt64} {h0 : Heap} {n0 : Nat} (O : Old Z n0 h0)  (P0 : Exa Z h0 o0 "com/example/rondel/rondel/primitive/DoubleRingBuffer") (P1 : Fld Z h0 o0 "com/example/rondel/rondel/primitive/DoubleRingBuffer" "readings" "[D" (.ref o1)) (P2 : Fld Z h0 o0 "com/example/rondel/rondel/primitive/DoubleRingBuffer" "size" "I" (.int (2 : Int32))) (P3 : Fld Z h0 o0 "com/example/rondel/rondel/primitive/DoubleRingBuffer" "head" "I" (.int (0 : Int32))) (P4 : Fld Z h0 o0 "com/example/rondel/rondel/primitive/DoubleRingBuffer" "modCount" "I" (.int i2)) (P5 : Arv Z h0 o1 kc3 .double (2 : Int32) [(.double x4), (.double x5)] (.double 0)) (G0 : n0 ≤ o0) (G1 : n0 ≤ o1) (N0_1 : o0 ≠ o1) :
    Met1 l Z (⟨"com/example/rondel/rondel/primitive/DoubleRingBuffer", "getLast", "()D"⟩ : MethodName) prog_11_method_10_code 1 (some .double) ({ frames := 1, cells := 0, slots := 0, locals := 15 } : Room) #[(.ref o0)] h0 n0 (fun v h => v = (.double x5) ∧ h0 = h) := by
  refine met_of (L := #[.val (.ref o0)]) (plainFor_of_name pn_10) (fun m => by first | (simp [entryFrame, mkF, argsToLocals, Value.category]; done) | rfl) ?_
  intro p e s m below meth c T C X
  change Cx p s m meth c Z "com/example/rondel/rondel/primitive/DoubleRingBuffer" prog_11_method_10_code 1 (some .double) "getLast" at C
  refine g_aloadN C X d10_0 (q := 1) rfl rfl rfl ?_
  refine g_callP0 C X (y := (⟨"com/example/rondel/rondel/primitive/DoubleRingBuffer", "checkNotEmpty", "()V"⟩ : MethodName)) (a := o0) (by decide) (w47 hw) (sel_priv (w2 hw) (w48 hw) (w49 hw) (by decide)) (w48 hw) (w49 hw) P0 (w50 hw) (w3 hw) (rm_checkNotEmpty_2 hw (o0 := o0) (o1 := o1) (i2 := i2) (kc3 := kc3) (x4 := x4) (x5 := x5) O P0 P1 P2 P3 P4 P5 G0 G1 N0_1) (W := 0) (by decide) (by decide) (k' := 0) rfl (n' := 0) rfl (by decide) (by decide) rfl pd_90 (argsL := []) rfl (rest := []) rfl rfl rfl d10_1 (q := 4) rfl ?_
  rintro T1 _ X2 rfl
  refine g_aloadN C X2 d10_4 (q := 5) rfl rfl rfl ?_
  refine g_getF C X2 (host := "") (Or.inl (w11 hw)) Via.refl P1 d10_5 (q := 8) rfl ?_
  intro T3 X4
  refine g_aloadN C X4 d10_8 (q := 9) rfl rfl rfl ?_
  refine g_aloadN C X4 d10_9 (q := 10) rfl rfl rfl ?_
  refine g_getF C X4 (host := "") (Or.inl (w18 hw)) Via.refl P2 d10_10 (q := 13) rfl ?_
  intro T5 X6
  refine g_iconst C X6 d10_13 (q := 14) rfl (z := (1 : Int32)) rfl ?_
  refine g_isub C X6 d10_14 (q := 15) rfl (z := (1 : Int32)) (by decide) ?_
  refine g_callP1 C X6 (y := (⟨"com/example/rondel/rondel/primitive/DoubleRingBuffer", "slot", "(I)I"⟩ : MethodName)) (a := o0) (by decide) (w20 hw) (sel_priv (w2 hw) (w21 hw) (w22 hw) (by decide)) (w21 hw) (w22 hw) P0 (w23 hw) (w3 hw) (rm_slot_7 hw (o0 := o0) (o1 := o1) (i2 := i2) (kc3 := kc3) (x4 := x4) (x5 := x5) O P0 P1 P2 P3 P4 P5 G0 G1 N0_1) (W := 1) (by decide) (by decide) (k' := 0) rfl (n' := 0) rfl (by decide) (by decide) rfl pd_40 (argsL := [(.int (1 : Int32))]) rfl (rest := [(.ref o1)]) rfl rfl rfl d10_15 (q := 18) rfl ?_
  rintro _ T7 _ X8 ⟨rfl, rfl⟩
  refine g_daload C X8 P5 (by decide) (w := (.double x5)) rfl d10_18 (q := 19) rfl ?_
  exact g_retD C X8 d10_19 (by decide) (by decide) ⟨_, rfl, rfl, rfl⟩
set_option maxRecDepth 65536 in
set_option maxHeartbeats 40000000 in
theorem rm_size_5 {l : Launch} {Z : State} {a0 : Array Value} (hw : ∀ d ∈ tables_1, d.before a0 Z = true) {o0 : Addr} {o1 : Addr} {i2 : Int32} {kc3 : ClassId} {x4 : UInt64} {x5 : UInt64} {h0 : Heap} {n0 : Nat} (O : Old Z n0 h0)  (P0 : Exa Z h0 o0 "com/example/rondel/rondel/primitive/DoubleRingBuffer") (P1 : Fld Z h0 o0 "com/example/rondel/rondel/primitive/DoubleRingBuffer" "readings" "[D" (.ref o1)) (P2 : Fld Z h0 o0 "com/example/rondel/rondel/primitive/DoubleRingBuffer" "size" "I" (.int (2 : Int32))) (P3 : Fld Z h0 o0 "com/example/rondel/rondel/primitive/DoubleRingBuffer" "head" "I" (.int (0 : Int32))) (P4 : Fld Z h0 o0 "com/example/rondel/rondel/primitive/DoubleRingBuffer" "modCount" "I" (.int i2)) (P5 : Arv Z h0 o1 kc3 .double (2 : Int32) [(.double x4), (.double x5)] (.double 0)) (G0 : n0 ≤ o0) (G1 : n0 ≤ o1) (N0_1 : o0 ≠ o1) :
    Met1 l Z (⟨"com/example/rondel/rondel/primitive/DoubleRingBuffer", "size", "()I"⟩ : MethodName) prog_11_method_3_code 1 (some .int) ({ frames := 0, cells := 0, slots := 0, locals := 0 } : Room) #[(.ref o0)] h0 n0 (fun v h => v = (.int (2 : Int32)) ∧ h0 = h) := by
  refine met_of (L := #[.val (.ref o0)]) (plainFor_of_name pn_10) (fun m => by first | (simp [entryFrame, mkF, argsToLocals, Value.category]; done) | rfl) ?_
  intro p e s m below meth c T C X
  change Cx p s m meth c Z "com/example/rondel/rondel/primitive/DoubleRingBuffer" prog_11_method_3_code 1 (some .int) "size" at C
  refine g_aloadN C X d7_0 (q := 1) rfl rfl rfl ?_
  refine g_getF C X (host := "") (Or.inl (w18 hw)) Via.refl P2 d7_1 (q := 4) rfl ?_
  intro T1 X2
  exact g_retI C X2 d7_4 (by decide) (by decide) ⟨_, rfl, rfl, rfl⟩
set_option maxRecDepth 65536 in
set_option maxHeartbeats 40000000 in
theorem rm_clear_4 {l : Launch} {Z : State} {a0 : Array Value} (hw : ∀ d ∈ tables_1, d.before a0 Z = true) {o0 : Addr} {o1 : Addr} {i2 : Int32} {kc3 : ClassId} {x4 : UInt64} {x5 : UInt64} {h0 : Heap} {n0 : Nat} (O : Old Z n0 h0)  (P0 : Exa Z h0 o0 "com/example/rondel/rondel/primitive/DoubleRingBuffer") (P1 : Fld Z h0 o0 "com/example/rondel/rondel/primitive/DoubleRingBuffer" "readings" "[D" (.ref o1)) (P2 : Fld Z h0 o0 "com/example/rondel/rondel/primitive/DoubleRingBuffer" "size" "I" (.int (1 : Int32))) (P3 : Fld Z h0 o0 "com/example/rondel/rondel/primitive/DoubleRingBuffer" "head" "I" (.int (0 : Int32))) (P4 : Fld Z h0 o0 "com/example/rondel/rondel/primitive/DoubleRingBuffer" "modCount" "I" (.int i2)) (P5 : Arv Z h0 o1 kc3 .double (2 : Int32) [(.double x4), (.double x5)] (.double 0)) (G0 : n0 ≤ o0) (G1 : n0 ≤ o1) (N0_1 : o0 ≠ o1) :
    Met0 l Z (⟨"com/example/rondel/rondel/primitive/DoubleRingBuffer", "clear", "()V"⟩ : MethodName) prog_11_method_12_code 1 none ({ frames := 0, cells := 0, slots := 0, locals := 0 } : Room) #[(.ref o0)] h0 n0 (fun h => Keep h0 h [o0] ∧ Exa Z h o0 "com/example/rondel/rondel/primitive/DoubleRingBuffer" ∧ Fld Z h o0 "com/example/rondel/rondel/primitive/DoubleRingBuffer" "readings" "[D" (.ref o1) ∧ Fld Z h o0 "com/example/rondel/rondel/primitive/DoubleRingBuffer" "size" "I" (.int (0 : Int32)) ∧ Fld Z h o0 "com/example/rondel/rondel/primitive/DoubleRingBuffer" "head" "I" (.int (0 : Int32)) ∧ Fld Z h o0 "com/example/rondel/rondel/primitive/DoubleRingBuffer" "modCount" "I" (.int (i2 + (1 : Int32)))) := by
  refine met_of (L := #[.val (.ref o0)]) (plainFor_of_name pn_10) (fun m => by first | (simp [entryFrame, mkF, argsToLocals, Value.category]; done) | rfl) ?_
  intro p e s m below meth c T C X
  change Cx p s m meth c Z "com/example/rondel/rondel/primitive/DoubleRingBuffer" prog_11_method_12_code 1 none "clear" at C
  refine g_aloadN C X d6_0 (q := 1) rfl rfl rfl ?_
  refine g_iconst C X d6_1 (q := 2) rfl (z := (0 : Int32)) rfl ?_
  refine g_putF C X (host := "") (Or.inl (w18 hw)) Via.refl P2 P0 (Or.inl (w19 hw)) (w2 hw) (ty := .int) (by decide) rfl rfl d6_2 (q := 5) rfl G0 ?_
  intro T1 h3 X2 W4
  have FW4 := Fld.same W4 P2
  have O5 := O.wr W4 G0
  refine g_aloadN C X2 d6_5 (q := 6) rfl rfl rfl ?_
  refine g_dup C X2 d6_6 (q := 7) rfl rfl ?_
  have f6 := (P4.other W4 (Or.inr (slot_ne (Or.inl (w27 hw)) (Or.inl (w19 hw)) (by decide) (t := .int) (t' := .int) (by decide) (by decide))))
  refine g_getF C X2 (host := "") (Or.inl (w26 hw)) Via.refl f6 d6_7 (q := 10) rfl ?_
  intro T7 X8
  refine g_iconst C X8 d6_10 (q := 11) rfl (z := (1 : Int32)) rfl ?_
  refine g_iadd C X8 d6_11 (q := 12) rfl (z := (i2 + (1 : Int32))) rfl ?_
  have f9 := (P0.wr W4)
  refine g_putF C X8 (host := "") (Or.inl (w26 hw)) Via.refl f6 f9 (Or.inl (w27 hw)) (w2 hw) (ty := .int) (by decide) rfl rfl d6_12 (q := 15) rfl G0 ?_
  intro T10 h12 X11 W13
  have FW13 := Fld.same W13 f6
  have O14 := O5.wr W13 G0
  exact g_retV C X11 d6_15 (by decide) (by decide) ⟨rfl, (((Keep.refl h0 [o0]).wr W4 (Or.inl (List.mem_of_getElem? (i := 0) rfl))).wr W13 (Or.inl (List.mem_of_getElem? (i := 0) rfl))), (f9.wr W13), ((P1.other W4 (Or.inr (slot_ne (Or.inr (w12 hw)) (Or.inl (w19 hw)) (by decide) (t := (.array .double)) (t' := .int) (by decide) (by decide)))).other W13 (Or.inr (slot_ne (Or.inr (w12 hw)) (Or.inl (w27 hw)) (by decide) (t := (.array .double)) (t' := .int) (by decide) (by decide)))), (FW4.other W13 (Or.inr (slot_ne (Or.inl (w19 hw)) (Or.inl (w27 hw)) (by decide) (t := .int) (t' := .int) (by decide) (by decide)))), ((P3.other W4 (Or.inr (slot_ne (Or.inl (w25 hw)) (Or.inl (w19 hw)) (by decide) (t := .int) (t' := .int) (by decide) (by decide)))).other W13 (Or.inr (slot_ne (Or.inl (w25 hw)) (Or.inl (w27 hw)) (by decide) (t := .int) (t' := .int) (by decide) (by decide)))), FW13⟩
set_option maxRecDepth 65536 in
set_option maxHeartbeats 40000000 in
theorem rm_clear_5 {l : Launch} {Z : State} {a0 : Array Value} (hw : ∀ d ∈ tables_1, d.before a0 Z = true) {o0 : Addr} {o1 : Addr} {i2 : Int32} {kc3 : ClassId} {x4 : UInt64} {x5 : UInt64} {h0 : Heap} {n0 : Nat} (O : Old Z n0 h0)  (P0 : Exa Z h0 o0 "com/example/rondel/rondel/primitive/DoubleRingBuffer") (P1 : Fld Z h0 o0 "com/example/rondel/rondel/primitive/DoubleRingBuffer" "readings" "[D" (.ref o1)) (P2 : Fld Z h0 o0 "com/example/rondel/rondel/primitive/DoubleRingBuffer" "size" "I" (.int (0 : Int32))) (P3 : Fld Z h0 o0 "com/example/rondel/rondel/primitive/DoubleRingBuffer" "head" "I" (.int (0 : Int32))) (P4 : Fld Z h0 o0 "com/example/rondel/rondel/primitive/DoubleRingBuffer" "modCount" "I" (.int i2)) (P5 : Arv Z h0 o1 kc3 .double (2 : Int32) [(.double x4), (.double x5)] (.double 0)) (G0 : n0 ≤ o0) (G1 : n0 ≤ o1) (N0_1 : o0 ≠ o1) :
    Met0 l Z (⟨"com/example/rondel/rondel/primitive/DoubleRingBuffer", "clear", "()V"⟩ : MethodName) prog_11_method_12_code 1 none ({ frames := 0, cells := 0, slots := 0, locals := 0 } : Room) #[(.ref o0)] h0 n0 (fun h => Keep h0 h [o0] ∧ Exa Z h o0 "com/example/rondel/rondel/primitive/DoubleRingBuffer" ∧ Fld Z h o0 "com/example/rondel/rondel/primitive/DoubleRingBuffer" "readings" "[D" (.ref o1) ∧ Fld Z h o0 "com/example/rondel/rondel/primitive/DoubleRingBuffer" "size" "I" (.int (0 : Int32)) ∧ Fld Z h o0 "com/example/rondel/rondel/primitive/DoubleRingBuffer" "head" "I" (.int (0 : Int32)) ∧ Fld Z h o0 "com/example/rondel/rondel/primitive/DoubleRingBuffer" "modCount" "I" (.int (i2 + (1 : Int32)))) := by
  refine met_of (L := #[.val (.ref o0)]) (plainFor_of_name pn_10) (fun m => by first | (simp [entryFrame, mkF, argsToLocals, Value.category]; done) | rfl) ?_
  intro p e s m below meth c T C X
  change Cx p s m meth c Z "com/example/rondel/rondel/primitive/DoubleRingBuffer" prog_11_method_12_code 1 none "clear" at C
  refine g_aloadN C X d6_0 (q := 1) rfl rfl rfl ?_
  refine g_iconst C X d6_1 (q := 2) rfl (z := (0 : Int32)) rfl ?_
  refine g_putF C X (host := "") (Or.inl (w18 hw)) Via.refl P2 P0 (Or.inl (w19 hw)) (w2 hw) (ty := .int) (by decide) rfl rfl d6_2 (q := 5) rfl G0 ?_
  intro T1 h3 X2 W4
  have FW4 := Fld.same W4 P2
  have O5 := O.wr W4 G0
  refine g_aloadN C X2 d6_5 (q := 6) rfl rfl rfl ?_
  refine g_dup C X2 d6_6 (q := 7) rfl rfl ?_
  have f6 := (P4.other W4 (Or.inr (slot_ne (Or.inl (w27 hw)) (Or.inl (w19 hw)) (by decide) (t := .int) (t' := .int) (by decide) (by decide))))
  refine g_getF C X2 (host := "") (Or.inl (w26 hw)) Via.refl f6 d6_7 (q := 10) rfl ?_
  intro T7 X8
  refine g_iconst C X8 d6_10 (q := 11) rfl (z := (1 : Int32)) rfl ?_
  refine g_iadd C X8 d6_11 (q := 12) rfl (z := (i2 + (1 : Int32))) rfl ?_
  have f9 := (P0.wr W4)
  refine g_putF C X8 (host := "") (Or.inl (w26 hw)) Via.refl f6 f9 (Or.inl (w27 hw)) (w2 hw) (ty := .int) (by decide) rfl rfl d6_12 (q := 15) rfl G0 ?_
  intro T10 h12 X11 W13
  have FW13 := Fld.same W13 f6
  have O14 := O5.wr W13 G0
  exact g_retV C X11 d6_15 (by decide) (by decide) ⟨rfl, (((Keep.refl h0 [o0]).wr W4 (Or.inl (List.mem_of_getElem? (i := 0) rfl))).wr W13 (Or.inl (List.mem_of_getElem? (i := 0) rfl))), (f9.wr W13), ((P1.other W4 (Or.inr (slot_ne (Or.inr (w12 hw)) (Or.inl (w19 hw)) (by decide) (t := (.array .double)) (t' := .int) (by decide) (by decide)))).other W13 (Or.inr (slot_ne (Or.inr (w12 hw)) (Or.inl (w27 hw)) (by decide) (t := (.array .double)) (t' := .int) (by decide) (by decide)))), (FW4.other W13 (Or.inr (slot_ne (Or.inl (w19 hw)) (Or.inl (w27 hw)) (by decide) (t := .int) (t' := .int) (by decide) (by decide)))), ((P3.other W4 (Or.inr (slot_ne (Or.inl (w25 hw)) (Or.inl (w19 hw)) (by decide) (t := .int) (t' := .int) (by decide) (by decide)))).other W13 (Or.inr (slot_ne (Or.inl (w25 hw)) (Or.inl (w27 hw)) (by decide) (t := .int) (t' := .int) (by decide) (by decide)))), FW13⟩
set_option maxRecDepth 65536 in
set_option maxHeartbeats 40000000 in
theorem rm_init_2 {l : Launch} {Z : State} {a0 : Array Value} (hw : ∀ d ∈ tables_1, d.before a0 Z = true) {o0 : Addr} {i1 : Int32} {h0 : Heap} {n0 : Nat} (O : Old Z n0 h0)  (P0 : Exa Z h0 o0 "com/example/rondel/rondel/primitive/DoubleRingBuffer") (P1 : Fld Z h0 o0 "com/example/rondel/rondel/primitive/DoubleRingBuffer" "readings" "[D" .null) (P2 : Fld Z h0 o0 "com/example/rondel/rondel/primitive/DoubleRingBuffer" "size" "I" (.int (0 : Int32))) (P3 : Fld Z h0 o0 "com/example/rondel/rondel/primitive/DoubleRingBuffer" "head" "I" (.int (0 : Int32))) (P4 : Fld Z h0 o0 "com/example/rondel/rondel/primitive/DoubleRingBuffer" "modCount" "I" (.int i1)) (G0 : n0 ≤ o0) :
    Met0 l Z (⟨"com/example/rondel/rondel/primitive/DoubleRingBuffer", "<init>", "(I)V"⟩ : MethodName) prog_11_method_1_code 2 none ({ frames := 1, cells := 1, slots := 3, locals := 12 } : Room) #[(.ref o0), (.int (3 : Int32))] h0 n0 (fun h => ∃ b3 : Addr, ∃ kA6 : ClassId, Keep h0 h [o0] ∧ n0 ≤ b3 ∧ h0.size ≤ b3 ∧ Exa Z h o0 "com/example/rondel/rondel/primitive/DoubleRingBuffer" ∧ Fld Z h o0 "com/example/rondel/rondel/primitive/DoubleRingBuffer" "readings" "[D" (.ref b3) ∧ Fld Z h o0 "com/example/rondel/rondel/primitive/DoubleRingBuffer" "size" "I" (.int (0 : Int32)) ∧ Fld Z h o0 "com/example/rondel/rondel/primitive/DoubleRingBuffer" "head" "I" (.int (0 : Int32)) ∧ Fld Z h o0 "com/example/rondel/rondel/primitive/DoubleRingBuffer" "modCount" "I" (.int i1) ∧ Arv Z h b3 kA6 .double (3 : Int32) [(.double 0), (.double 0), (.double 0)] (.double 0)) := by
  refine met_of (L := #[.val (.ref o0), .val (.int (3 : Int32))]) (plainFor_of_name pn_10) (fun m => by first | (simp [entryFrame, mkF, argsToLocals, Value.category]; done) | rfl) ?_
  intro p e s m below meth c T C X
  change Cx p s m meth c Z "com/example/rondel/rondel/primitive/DoubleRingBuffer" prog_11_method_1_code 2 none "<init>" at C
  refine g_aloadN C X d1_0 (q := 1) rfl rfl rfl ?_
  refine g_initO C X (w7 hw) (w8 hw) (w9 hw) rfl d1_1 (q := 4) rfl (by decide) (by decide) ?_
  intro T1 X2
  refine g_iloadN C X2 d1_4 (q := 5) rfl rfl ?_
  refine g_iconst C X2 d1_5 (q := 6) rfl (z := (1 : Int32)) rfl ?_
  refine g_icY C X2 d1_6 (by decide) (q := 23) (by decide) (by decide) ?_
  refine g_aloadN C X2 d1_23 (q := 24) rfl rfl rfl ?_
  refine g_iloadN C X2 d1_24 (q := 25) rfl rfl ?_
  refine g_newP C X2 (w10 hw) rfl d1_25 (q := 27) rfl (by decide) (cap := 3) (by decide) (by decide) (k' := 1) rfl (n' := 3) rfl (by decide) (by decide) ?_
  intro T4 h5 kA6 b3 g8 X7 E9 V10
  have ge11 : n0 ≤ b3 := own_ge O g8
  have O12 := O.ext E9
  have V13 : Arv Z h5 b3 kA6 .double (3 : Int32) [(.double 0), (.double 0), (.double 0)] (.double 0) := Arv.pad V10 (pad_rep [] _ 3)
  have f14 := (P1.ext E9)
  have f15 := (P0.ext E9)
  refine g_putF C X7 (host := "") (Or.inl (w11 hw)) Via.refl f14 f15 (Or.inr ⟨(w12 hw), rfl, rfl⟩) (w2 hw) (ty := (.array .double)) (by decide) rfl rfl d1_27 (q := 30) rfl G0 ?_
  intro T16 h18 X17 W19
  have FW19 := Fld.same W19 f14
  have O20 := O12.wr W19 G0
  exact g_retV C X17 d1_30 (by decide) (by decide) ⟨rfl, b3, kA6, (((Keep.refl h0 [o0]).ext E9).wr W19 (Or.inl (List.mem_of_getElem? (i := 0) rfl))), ge11, (own_sz (Keep.refl h0 [o0]).1 g8), (f15.wr W19), FW19, ((P2.ext E9).other W19 (Or.inr (slot_ne (Or.inl (w19 hw)) (Or.inr (w12 hw)) (by decide) (t := .int) (t' := (.array .double)) (by decide) (by decide)))), ((P3.ext E9).other W19 (Or.inr (slot_ne (Or.inl (w25 hw)) (Or.inr (w12 hw)) (by decide) (t := .int) (t' := (.array .double)) (by decide) (by decide)))), ((P4.ext E9).other W19 (Or.inr (slot_ne (Or.inl (w27 hw)) (Or.inr (w12 hw)) (by decide) (t := .int) (t' := (.array .double)) (by decide) (by decide)))), (V13.other W19 (Ne.symm (own_ne P0.lt g8)))⟩
set_option maxRecDepth 65536 in
set_option maxHeartbeats 40000000 in
theorem rm_slot_8 {l : Launch} {Z : State} {a0 : Array Value} (hw : ∀ d ∈ tables_1, d.before a0 Z = true) {o0 : Addr} {o1 : Addr} {i2 : Int32} {kc3 : ClassId} {x4 : UInt64} {x5 : UInt64} {x6 : UInt64} {h0 : Heap} {n0 : Nat} (O : Old Z n0 h0)  (P0 : Exa Z h0 o0 "com/example/rondel/rondel/primitive/DoubleRingBuffer") (P1 : Fld Z h0 o0 "com/example/rondel/rondel/primitive/DoubleRingBuffer" "readings" "[D" (.ref o1)) (P2 : Fld Z h0 o0 "com/example/rondel/rondel/primitive/DoubleRingBuffer" "size" "I" (.int (0 : Int32))) (P3 : Fld Z h0 o0 "com/example/rondel/rondel/primitive/DoubleRingBuffer" "head" "I" (.int (0 : Int32))) (P4 : Fld Z h0 o0 "com/example/rondel/rondel/primitive/DoubleRingBuffer" "modCount" "I" (.int i2)) (P5 : Arv Z h0 o1 kc3 .double (3 : Int32) [(.double x4), (.double x5), (.double x6)] (.double 0)) (G0 : n0 ≤ o0) (G1 : n0 ≤ o1) (N0_1 : o0 ≠ o1) :
    Met1 l Z (⟨"com/example/rondel/rondel/primitive/DoubleRingBuffer", "slot", "(I)I"⟩ : MethodName) prog_11_method_18_code 3 (some .int) ({ frames := 0, cells := 0, slots := 0, locals := 0 } : Room) #[(.ref o0), (.int (0 : Int32))] h0 n0 (fun v h => v = (.int (0 : Int32)) ∧ h0 = h) := by
  refine met_of (L := #[.val (.ref o0), .val (.int (0 : Int32)), .unset]) (plainFor_of_name pn_10) (fun m => by first | (simp [entryFrame, mkF, argsToLocals, Value.category]; done) | rfl) ?_
  intro p e s m below meth c T C X
  change Cx p s m meth c Z "com/example/rondel/rondel/primitive/DoubleRingBuffer" prog_11_method_18_code 3 (some .int) "slot" at C
  refine g_aloadN C X d4_0 (q := 1) rfl rfl rfl ?_
  refine g_getF C X (host := "") (Or.inl (w11 hw)) Via.refl P1 d4_1 (q := 4) rfl ?_
  intro T1 X2
  refine g_alen C X2 P5 d4_4 (q := 5) rfl ?_
  refine g_aloadN C X2 d4_5 (q := 6) rfl rfl rfl ?_
  refine g_getF C X2 (host := "") (Or.inl (w24 hw)) Via.refl P3 d4_6 (q := 9) rfl ?_
  intro T3 X4
  refine g_isub C X4 d4_9 (q := 10) rfl (z := (3 : Int32)) (by decide) ?_
  refine g_istoreN C X4 d4_10 (q := 11) rfl (L' := #[.val (.ref o0), .val (.int (0 : Int32)), .val (.int (3 : Int32))]) rfl ?_
  refine g_iloadN C X4 d4_11 (q := 12) rfl rfl ?_
  refine g_iloadN C X4 d4_12 (q := 13) rfl rfl ?_
  refine g_icN C X4 d4_13 (q := 16) rfl (by decide) ?_
  refine g_aloadN C X4 d4_16 (q := 17) rfl rfl rfl ?_
  refine g_getF C X4 (host := "") (Or.inl (w24 hw)) Via.refl P3 d4_17 (q := 20) rfl ?_
  intro T5 X6
  refine g_iloadN C X6 d4_20 (q := 21) rfl rfl ?_
  refine g_iadd C X6 d4_21 (q := 22) rfl (z := (0 : Int32)) (by decide) ?_
  refine g_goto C X6 d4_22 (by decide) (q := 28) (by decide) ?_
  exact g_retI C X6 d4_28 (by decide) (by decide) ⟨_, rfl, rfl, rfl⟩
set_option maxRecDepth 65536 in
set_option maxHeartbeats 40000000 in
theorem rm_add_7 {l : Launch} {Z : State} {a0 : Array Value} (hw : ∀ d ∈ tables_1, d.before a0 Z = true) {o0 : Addr} {o1 : Addr} {i2 : Int32} {kc3 : ClassId} {x4 : UInt64} {x5 : UInt64} {x6 : UInt64} {x7 : UInt64} {h0 : Heap} {n0 : Nat} (O : Old Z n0 h0)  (P0 : Exa Z h0 o0 "com/example/rondel/rondel/primitive/DoubleRingBuffer") (P1 : Fld Z h0 o0 "com/example/rondel/rondel/primitive/DoubleRingBuffer" "readings" "[D" (.ref o1)) (P2 : Fld Z h0 o0 "com/example/rondel/rondel/primitive/DoubleRingBuffer" "size" "I" (.int (0 : Int32))) (P3 : Fld Z h0 o0 "com/example/rondel/rondel/primitive/DoubleRingBuffer" "head" "I" (.int (0 : Int32))) (P4 : Fld Z h0 o0 "com/example/rondel/rondel/primitive/DoubleRingBuffer" "modCount" "I" (.int i2)) (P5 : Arv Z h0 o1 kc3 .double (3 : Int32) [(.double x4), (.double x5), (.double x6)] (.double 0)) (G0 : n0 ≤ o0) (G1 : n0 ≤ o1) (N0_1 : o0 ≠ o1) :
    Met0 l Z (⟨"com/example/rondel/rondel/primitive/DoubleRingBuffer", "add", "(D)V"⟩ : MethodName) prog_11_method_6_code 3 none ({ frames := 1, cells := 0, slots := 0, locals := 15 } : Room) #[(.ref o0), (.double x7)] h0 n0 (fun h => Keep h0 h [o1, o0] ∧ Exa Z h o0 "com/example/rondel/rondel/primitive/DoubleRingBuffer" ∧ Fld Z h o0 "com/example/rondel/rondel/primitive/DoubleRingBuffer" "readings" "[D" (.ref o1) ∧ Fld Z h o0 "com/example/rondel/rondel/primitive/DoubleRingBuffer" "size" "I" (.int (1 : Int32)) ∧ Fld Z h o0 "com/example/rondel/rondel/primitive/DoubleRingBuffer" "head" "I" (.int (0 : Int32)) ∧ Fld Z h o0 "com/example/rondel/rondel/primitive/DoubleRingBuffer" "modCount" "I" (.int (i2 + (1 : Int32))) ∧ Arv Z h o1 kc3 .double (3 : Int32) [(.double x7), (.double x5), (.double x6)] (.double 0)) := by
  refine met_of (L := #[.val (.ref o0), .val (.double x7), .second]) (plainFor_of_name pn_10) (fun m => by first | (simp [entryFrame, mkF, argsToLocals, Value.category]; done) | rfl) ?_
  intro p e s m below meth c T C X
  change Cx p s m meth c Z "com/example/rondel/rondel/primitive/DoubleRingBuffer" prog_11_method_6_code 3 none "add" at C
  refine g_aloadN C X d3_0 (q := 1) rfl rfl rfl ?_
  refine g_getF C X (host := "") (Or.inl (w18 hw)) Via.refl P2 d3_1 (q := 4) rfl ?_
  intro T1 X2
  refine g_aloadN C X2 d3_4 (q := 5) rfl rfl rfl ?_
  refine g_getF C X2 (host := "") (Or.inl (w11 hw)) Via.refl P1 d3_5 (q := 8) rfl ?_
  intro T3 X4
  refine g_alen C X4 P5 d3_8 (q := 9) rfl ?_
  refine g_icY C X4 d3_9 (by decide) (q := 37) (by decide) (by decide) ?_
  refine g_aloadN C X4 d3_37 (q := 38) rfl rfl rfl ?_
  refine g_getF C X4 (host := "") (Or.inl (w11 hw)) Via.refl P1 d3_38 (q := 41) rfl ?_
  intro T5 X6
  refine g_aloadN C X6 d3_41 (q := 42) rfl rfl rfl ?_
  refine g_aloadN C X6 d3_42 (q := 43) rfl rfl rfl ?_
  refine g_getF C X6 (host := "") (Or.inl (w18 hw)) Via.refl P2 d3_43 (q := 46) rfl ?_
  intro T7 X8
  refine g_callP1 C X8 (y := (⟨"com/example/rondel/rondel/primitive/DoubleRingBuffer", "slot", "(I)I"⟩ : MethodName)) (a := o0) (by decide) (w20 hw) (sel_priv (w2 hw) (w21 hw) (w22 hw) (by decide)) (w21 hw) (w22 hw) P0 (w23 hw) (w3 hw) (rm_slot_8 hw (o0 := o0) (o1 := o1) (i2 := i2) (kc3 := kc3) (x4 := x4) (x5 := x5) (x6 := x6) O P0 P1 P2 P3 P4 P5 G0 G1 N0_1) (W := 1) (by decide) (by decide) (k' := 0) rfl (n' := 0) rfl (by decide) (by decide) rfl pd_40 (argsL := [(.int (0 : Int32))]) rfl (rest := [(.ref o1)]) rfl rfl rfl d3_46 (q := 49) rfl ?_
  rintro _ T9 _ X10 ⟨rfl, rfl⟩
  refine g_dloadN C X10 d3_49 (q := 50) rfl rfl ?_
  refine g_dastore C X10 P5 (by decide) (i := 0) (by decide) (Nat.le_of_ble_eq_true rfl) (vs' := [(.double x7), (.double x5), (.double x6)]) rfl G1 d3_50 (q := 51) rfl ?_
  intro T11 h12 X13 W14 V15
  have O16 := O.wr W14 G1
  refine g_aloadN C X13 d3_51 (q := 52) rfl rfl rfl ?_
  refine g_dup C X13 d3_52 (q := 53) rfl rfl ?_
  have f17 := (P2.other W14 (Or.inl N0_1))
  refine g_getF C X13 (host := "") (Or.inl (w18 hw)) Via.refl f17 d3_53 (q := 56) rfl ?_
  intro T18 X19
  refine g_iconst C X19 d3_56 (q := 57) rfl (z := (1 : Int32)) rfl ?_
  refine g_iadd C X19 d3_57 (q := 58) rfl (z := (1 : Int32)) (by decide) ?_
  have f20 := (P0.wr W14)
  refine g_putF C X19 (host := "") (Or.inl (w18 hw)) Via.refl f17 f20 (Or.inl (w19 hw)) (w2 hw) (ty := .int) (by decide) rfl rfl d3_58 (q := 61) rfl G0 ?_
  intro T21 h23 X22 W24
  have FW24 := Fld.same W24 f17
  have O25 := O16.wr W24 G0
  refine g_aloadN C X22 d3_61 (q := 62) rfl rfl rfl ?_
  refine g_dup C X22 d3_62 (q := 63) rfl rfl ?_
  have f26 := ((P4.other W14 (Or.inl N0_1)).other W24 (Or.inr (slot_ne (Or.inl (w27 hw)) (Or.inl (w19 hw)) (by decide) (t := .int) (t' := .int) (by decide) (by decide))))
  refine g_getF C X22 (host := "") (Or.inl (w26 hw)) Via.refl f26 d3_63 (q := 66) rfl ?_
  intro T27 X28
  refine g_iconst C X28 d3_66 (q := 67) rfl (z := (1 : Int32)) rfl ?_
  refine g_iadd C X28 d3_67 (q := 68) rfl (z := (i2 + (1 : Int32))) rfl ?_
  have f29 := (f20.wr W24)
  refine g_putF C X28 (host := "") (Or.inl (w26 hw)) Via.refl f26 f29 (Or.inl (w27 hw)) (w2 hw) (ty := .int) (by decide) rfl rfl d3_68 (q := 71) rfl G0 ?_
  intro T30 h32 X31 W33
  have FW33 := Fld.same W33 f26
  have O34 := O25.wr W33 G0
  exact g_retV C X31 d3_71 (by decide) (by decide) ⟨rfl, ((((Keep.refl h0 [o1, o0]).wr W14 (Or.inl (List.mem_of_getElem? (i := 0) rfl))).wr W24 (Or.inl (List.mem_of_getElem? (i := 1) rfl))).wr W33 (Or.inl (List.mem_of_getElem? (i := 1) rfl))), (f29.wr W33), (((P1.other W14 (Or.inl N0_1)).other W24 (Or.inr (slot_ne (Or.inr (w12 hw)) (Or.inl (w19 hw)) (by decide) (t := (.array .double)) (t' := .int) (by decide) (by decide)))).other W33 (Or.inr (slot_ne (Or.inr (w12 hw)) (Or.inl (w27 hw)) (by decide) (t := (.array .double)) (t' := .int) (by decide) (by decide)))), (FW24.other W33 (Or.inr (slot_ne (Or.inl (w19 hw)) (Or.inl (w27 hw)) (by decide) (t := .int) (t' := .int) (by decide) (by decide)))), (((P3.other W14 (Or.inl N0_1)).other W24 (Or.inr (slot_ne (Or.inl (w25 hw)) (Or.inl (w19 hw)) (by decide) (t := .int) (t' := .int) (by decide) (by decide)))).other W33 (Or.inr (slot_ne (Or.inl (w25 hw)) (Or.inl (w27 hw)) (by decide) (t := .int) (t' := .int) (by decide) (by decide)))), FW33, ((V15.other W24 (Ne.symm N0_1)).other W33 (Ne.symm N0_1))⟩
set_option maxRecDepth 65536 in
set_option maxHeartbeats 40000000 in
theorem rm_slot_9 {l : Launch} {Z : State} {a0 : Array Value} (hw : ∀ d ∈ tables_1, d.before a0 Z = true) {o0 : Addr} {o1 : Addr} {i2 : Int32} {kc3 : ClassId} {x4 : UInt64} {x5 : UInt64} {x6 : UInt64} {h0 : Heap} {n0 : Nat} (O : Old Z n0 h0)  (P0 : Exa Z h0 o0 "com/example/rondel/rondel/primitive/DoubleRingBuffer") (P1 : Fld Z h0 o0 "com/example/rondel/rondel/primitive/DoubleRingBuffer" "readings" "[D" (.ref o1)) (P2 : Fld Z h0 o0 "com/example/rondel/rondel/primitive/DoubleRingBuffer" "size" "I" (.int (1 : Int32))) (P3 : Fld Z h0 o0 "com/example/rondel/rondel/primitive/DoubleRingBuffer" "head" "I" (.int (0 : Int32))) (P4 : Fld Z h0 o0 "com/example/rondel/rondel/primitive/DoubleRingBuffer" "modCount" "I" (.int i2)) (P5 : Arv Z h0 o1 kc3 .double (3 : Int32) [(.double x4), (.double x5), (.double x6)] (.double 0)) (G0 : n0 ≤ o0) (G1 : n0 ≤ o1) (N0_1 : o0 ≠ o1) :
    Met1 l Z (⟨"com/example/rondel/rondel/primitive/DoubleRingBuffer", "slot", "(I)I"⟩ : MethodName) prog_11_method_18_code 3 (some .int) ({ frames := 0, cells := 0, slots := 0, locals := 0 } : Room) #[(.ref o0), (.int (1 : Int32))] h0 n0 (fun v h => v = (.int (1 : Int32)) ∧ h0 = h) := by
  refine met_of (L := #[.val (.ref o0), .val (.int (1 : Int32)), .unset]) (plainFor_of_name pn_10) (fun m => by first | (simp [entryFrame, mkF, argsToLocals, Value.category]; done) | rfl) ?_
  intro p e s m below meth c T C X
  change Cx p s m meth c Z "com/example/rondel/rondel/primitive/DoubleRingBuffer" prog_11_method_18_code 3 (some .int) "slot" at C
  refine g_aloadN C X d4_0 (q := 1) rfl rfl rfl ?_
  refine g_getF C X (host := "") (Or.inl (w11 hw)) Via.refl P1 d4_1 (q := 4) rfl ?_
  intro T1 X2
  refine g_alen C X2 P5 d4_4 (q := 5) rfl ?_
  refine g_aloadN C X2 d4_5 (q := 6) rfl rfl rfl ?_
  refine g_getF C X2 (host := "") (Or.inl (w24 hw)) Via.refl P3 d4_6 (q := 9) rfl ?_
  intro T3 X4
  refine g_isub C X4 d4_9 (q := 10) rfl (z := (3 : Int32)) (by decide) ?_
  refine g_istoreN C X4 d4_10 (q := 11) rfl (L' := #[.val (.ref o0), .val (.int (1 : Int32)), .val (.int (3 : Int32))]) rfl ?_
  refine g_iloadN C X4 d4_11 (q := 12) rfl rfl ?_
  refine g_iloadN C X4 d4_12 (q := 13) rfl rfl ?_
  refine g_icN C X4 d4_13 (q := 16) rfl (by decide) ?_
  refine g_aloadN C X4 d4_16 (q := 17) rfl rfl rfl ?_
  refine g_getF C X4 (host := "") (Or.inl (w24 hw)) Via.refl P3 d4_17 (q := 20) rfl ?_
  intro T5 X6
  refine g_iloadN C X6 d4_20 (q := 21) rfl rfl ?_
  refine g_iadd C X6 d4_21 (q := 22) rfl (z := (1 : Int32)) (by decide) ?_
  refine g_goto C X6 d4_22 (by decide) (q := 28) (by decide) ?_
  exact g_retI C X6 d4_28 (by decide) (by decide) ⟨_, rfl, rfl, rfl⟩
set_option maxRecDepth 65536 in
set_option maxHeartbeats 40000000 in
theorem rm_add_8 {l : Launch} {Z : State} {a0 : Array Value} (hw : ∀ d ∈ tables_1, d.before a0 Z = true) {o0 : Addr} {o1 : Addr} {i2 : Int32} {kc3 : ClassId} {x4 : UInt64} {x5 : UInt64} {x6 : UInt64} {x7 : UInt64} {h0 : Heap} {n0 : Nat} (O : Old Z n0 h0)  (P0 : Exa Z h0 o0 "com/example/rondel/rondel/primitive/DoubleRingBuffer") (P1 : Fld Z h0 o0 "com/example/rondel/rondel/primitive/DoubleRingBuffer" "readings" "[D" (.ref o1)) (P2 : Fld Z h0 o0 "com/example/rondel/rondel/primitive/DoubleRingBuffer" "size" "I" (.int (1 : Int32))) (P3 : Fld Z h0 o0 "com/example/rondel/rondel/primitive/DoubleRingBuffer" "head" "I" (.int (0 : Int32))) (P4 : Fld Z h0 o0 "com/example/rondel/rondel/primitive/DoubleRingBuffer" "modCount" "I" (.int i2)) (P5 : Arv Z h0 o1 kc3 .double (3 : Int32) [(.double x4), (.double x5), (.double x6)] (.double 0)) (G0 : n0 ≤ o0) (G1 : n0 ≤ o1) (N0_1 : o0 ≠ o1) :
    Met0 l Z (⟨"com/example/rondel/rondel/primitive/DoubleRingBuffer", "add", "(D)V"⟩ : MethodName) prog_11_method_6_code 3 none ({ frames := 1, cells := 0, slots := 0, locals := 15 } : Room) #[(.ref o0), (.double x7)] h0 n0 (fun h => Keep h0 h [o1, o0] ∧ Exa Z h o0 "com/example/rondel/rondel/primitive/DoubleRingBuffer" ∧ Fld Z h o0 "com/example/rondel/rondel/primitive/DoubleRingBuffer" "readings" "[D" (.ref o1) ∧ Fld Z h o0 "com/example/rondel/rondel/primitive/DoubleRingBuffer" "size" "I" (.int (2 : Int32)) ∧ Fld Z h o0 "com/example/rondel/rondel/primitive/DoubleRingBuffer" "head" "I" (.int (0 : Int32)) ∧ Fld Z h o0 "com/example/rondel/rondel/primitive/DoubleRingBuffer" "modCount" "I" (.int (i2 + (1 : Int32))) ∧ Arv Z h o1 kc3 .double (3 : Int32) [(.double x4), (.double x7), (.double x6)] (.double 0)) := by
  refine met_of (L := #[.val (.ref o0), .val (.double x7), .second]) (plainFor_of_name pn_10) (fun m => by first | (simp [entryFrame, mkF, argsToLocals, Value.category]; done) | rfl) ?_
  intro p e s m below meth c T C X
  change Cx p s m meth c Z "com/example/rondel/rondel/primitive/DoubleRingBuffer" prog_11_method_6_code 3 none "add" at C
  refine g_aloadN C X d3_0 (q := 1) rfl rfl rfl ?_
  refine g_getF C X (host := "") (Or.inl (w18 hw)) Via.refl P2 d3_1 (q := 4) rfl ?_
  intro T1 X2
  refine g_aloadN C X2 d3_4 (q := 5) rfl rfl rfl ?_
  refine g_getF C X2 (host := "") (Or.inl (w11 hw)) Via.refl P1 d3_5 (q := 8) rfl ?_
  intro T3 X4
  refine g_alen C X4 P5 d3_8 (q := 9) rfl ?_
  refine g_icY C X4 d3_9 (by decide) (q := 37) (by decide) (by decide) ?_
  refine g_aloadN C X4 d3_37 (q := 38) rfl rfl rfl ?_
  refine g_getF C X4 (host := "") (Or.inl (w11 hw)) Via.refl P1 d3_38 (q := 41) rfl ?_
  intro T5 X6
  refine g_aloadN C X6 d3_41 (q := 42) rfl rfl rfl ?_
  refine g_aloadN C X6 d3_42 (q := 43) rfl rfl rfl ?_
  refine g_getF C X6 (host := "") (Or.inl (w18 hw)) Via.refl P2 d3_43 (q := 46) rfl ?_
  intro T7 X8
  refine g_callP1 C X8 (y := (⟨"com/example/rondel/rondel/primitive/DoubleRingBuffer", "slot", "(I)I"⟩ : MethodName)) (a := o0) (by decide) (w20 hw) (sel_priv (w2 hw) (w21 hw) (w22 hw) (by decide)) (w21 hw) (w22 hw) P0 (w23 hw) (w3 hw) (rm_slot_9 hw (o0 := o0) (o1 := o1) (i2 := i2) (kc3 := kc3) (x4 := x4) (x5 := x5) (x6 := x6) O P0 P1 P2 P3 P4 P5 G0 G1 N0_1) (W := 1) (by decide) (by decide) (k' := 0) rfl (n' := 0) rfl (by decide) (by decide) rfl pd_40 (argsL := [(.int (1 : Int32))]) rfl (rest := [(.ref o1)]) rfl rfl rfl d3_46 (q := 49) rfl ?_
  rintro _ T9 _ X10 ⟨rfl, rfl⟩
  refine g_dloadN C X10 d3_49 (q := 50) rfl rfl ?_
  refine g_dastore C X10 P5 (by decide) (i := 1) (by decide) (Nat.le_of_ble_eq_true rfl) (vs' := [(.double x4), (.double x7), (.double x6)]) rfl G1 d3_50 (q := 51) rfl ?_
  intro T11 h12 X13 W14 V15
  have O16 := O.wr W14 G1
  refine g_aloadN C X13 d3_51 (q := 52) rfl rfl rfl ?_
  refine g_dup C X13 d3_52 (q := 53) rfl rfl ?_
  have f17 := (P2.other W14 (Or.inl N0_1))
  refine g_getF C X13 (host := "") (Or.inl (w18 hw)) Via.refl f17 d3_53 (q := 56) rfl ?_
  intro T18 X19
  refine g_iconst C X19 d3_56 (q := 57) rfl (z := (1 : Int32)) rfl ?_
  refine g_iadd C X19 d3_57 (q := 58) rfl (z := (2 : Int32)) (by decide) ?_
  have f20 := (P0.wr W14)
  refine g_putF C X19 (host := "") (Or.inl (w18 hw)) Via.refl f17 f20 (Or.inl (w19 hw)) (w2 hw) (ty := .int) (by decide) rfl rfl d3_58 (q := 61) rfl G0 ?_
  intro T21 h23 X22 W24
  have FW24 := Fld.same W24 f17
  have O25 := O16.wr W24 G0
  refine g_aloadN C X22 d3_61 (q := 62) rfl rfl rfl ?_
  refine g_dup C X22 d3_62 (q := 63) rfl rfl ?_
  have f26 := ((P4.other W14 (Or.inl N0_1)).other W24 (Or.inr (slot_ne (Or.inl (w27 hw)) (Or.inl (w19 hw)) (by decide) (t := .int) (t' := .int) (by decide) (by decide))))
  refine g_getF C X22 (host := "") (Or.inl (w26 hw)) Via.refl f26 d3_63 (q := 66) rfl ?_
  intro T27 X28
  refine g_iconst C X28 d3_66 (q := 67) rfl (z := (1 : Int32)) rfl ?_
  refine g_iadd C X28 d3_67 (q := 68) rfl (z := (i2 + (1 : Int32))) rfl ?_
  have f29 := (f20.wr W24)
  refine g_putF C X28 (host := "") (Or.inl (w26 hw)) Via.refl f26 f29 (Or.inl (w27 hw)) (w2 hw) (ty := .int) (by decide) rfl rfl d3_68 (q := 71) rfl G0 ?_
  intro T30 h32 X31 W33
  have FW33 := Fld.same W33 f26
  have O34 := O25.wr W33 G0
  exact g_retV C X31 d3_71 (by decide) (by decide) ⟨rfl, ((((Keep.refl h0 [o1, o0]).wr W14 (Or.inl (List.mem_of_getElem? (i := 0) rfl))).wr W24 (Or.inl (List.mem_of_getElem? (i := 1) rfl))).wr W33 (Or.inl (List.mem_of_getElem? (i := 1) rfl))), (f29.wr W33), (((P1.other W14 (Or.inl N0_1)).other W24 (Or.inr (slot_ne (Or.inr (w12 hw)) (Or.inl (w19 hw)) (by decide) (t := (.array .double)) (t' := .int) (by decide) (by decide)))).other W33 (Or.inr (slot_ne (Or.inr (w12 hw)) (Or.inl (w27 hw)) (by decide) (t := (.array .double)) (t' := .int) (by decide) (by decide)))), (FW24.other W33 (Or.inr (slot_ne (Or.inl (w19 hw)) (Or.inl (w27 hw)) (by decide) (t := .int) (t' := .int) (by decide) (by decide)))), (((P3.other W14 (Or.inl N0_1)).other W24 (Or.inr (slot_ne (Or.inl (w25 hw)) (Or.inl (w19 hw)) (by decide) (t := .int) (t' := .int) (by decide) (by decide)))).other W33 (Or.inr (slot_ne (Or.inl (w25 hw)) (Or.inl (w27 hw)) (by decide) (t := .int) (t' := .int) (by decide) (by decide)))), FW33, ((V15.other W24 (Ne.symm N0_1)).other W33 (Ne.symm N0_1))⟩
set_option maxRecDepth 65536 in
set_option maxHeartbeats 40000000 in
theorem rm_slot_10 {l : Launch} {Z : State} {a0 : Array Value} (hw : ∀ d ∈ tables_1, d.before a0 Z = true) {o0 : Addr} {o1 : Addr} {i2 : Int32} {kc3 : ClassId} {x4 : UInt64} {x5 : UInt64} {x6 : UInt64} {h0 : Heap} {n0 : Nat} (O : Old Z n0 h0)  (P0 : Exa Z h0 o0 "com/example/rondel/rondel/primitive/DoubleRingBuffer") (P1 : Fld Z h0 o0 "com/example/rondel/rondel/primitive/DoubleRingBuffer" "readings" "[D" (.ref o1)) (P2 : Fld Z h0 o0 "com/example/rondel/rondel/primitive/DoubleRingBuffer" "size" "I" (.int (2 : Int32))) (P3 : Fld Z h0 o0 "com/example/rondel/rondel/primitive/DoubleRingBuffer" "head" "I" (.int (0 : Int32))) (P4 : Fld Z h0 o0 "com/example/rondel/rondel/primitive/DoubleRingBuffer" "modCount" "I" (.int i2)) (P5 : Arv Z h0 o1 kc3 .double (3 : Int32) [(.double x4), (.double x5), (.double x6)] (.double 0)) (G0 : n0 ≤ o0) (G1 : n0 ≤ o1) (N0_1 : o0 ≠ o1) :
    Met1 l Z (⟨"com/example/rondel/rondel/primitive/DoubleRingBuffer", "slot", "(I)I"⟩ : MethodName) prog_11_method_18_code 3 (some .int) ({ frames := 0, cells := 0, slots := 0, locals := 0 } : Room) #[(.ref o0), (.int (2 : Int32))] h0 n0 (fun v h => v = (.int (2 : Int32)) ∧ h0 = h) := by
  refine met_of (L := #[.val (.ref o0), .val (.int (2 : Int32)), .unset]) (plainFor_of_name pn_10) (fun m => by first | (simp [entryFrame, mkF, argsToLocals, Value.category]; done) | rfl) ?_
  intro p e s m below meth c T C X
  change Cx p s m meth c Z "com/example/rondel/rondel/primitive/DoubleRingBuffer" prog_11_method_18_code 3 (some .int) "slot" at C
  refine g_aloadN C X d4_0 (q := 1) rfl rfl rfl ?_
  refine g_getF C X (host := "") (Or.inl (w11 hw)) Via.refl P1 d4_1 (q := 4) rfl ?_
  intro T1 X2
  refine g_alen C X2 P5 d4_4 (q := 5) rfl ?_
  refine g_aloadN C X2 d4_5 (q := 6) rfl rfl rfl ?_
  refine g_getF C X2 (host := "") (Or.inl (w24 hw)) Via.refl P3 d4_6 (q := 9) rfl ?_
  intro T3 X4
  refine g_isub C X4 d4_9 (q := 10) rfl (z := (3 : Int32)) (by decide) ?_
  refine g_istoreN C X4 d4_10 (q := 11) rfl (L' := #[.val (.ref o0), .val (.int (2 : Int32)), .val (.int (3 : Int32))]) rfl ?_
  refine g_iloadN C X4 d4_11 (q := 12) rfl rfl ?_
  refine g_iloadN C X4 d4_12 (q := 13) rfl rfl ?_
  refine g_icN C X4 d4_13 (q := 16) rfl (by decide) ?_
  refine g_aloadN C X4 d4_16 (q := 17) rfl rfl rfl ?_
  refine g_getF C X4 (host := "") (Or.inl (w24 hw)) Via.refl P3 d4_17 (q := 20) rfl ?_
  intro T5 X6
  refine g_iloadN C X6 d4_20 (q := 21) rfl rfl ?_
  refine g_iadd C X6 d4_21 (q := 22) rfl (z := (2 : Int32)) (by decide) ?_
  refine g_goto C X6 d4_22 (by decide) (q := 28) (by decide) ?_
  exact g_retI C X6 d4_28 (by decide) (by decide) ⟨_, rfl, rfl, rfl⟩
set_option maxRecDepth 65536 in
set_option maxHeartbeats 40000000 in
theorem rm_add_9 {l : Launch} {Z : State} {a0 : Array Value} (hw : ∀ d ∈ tables_1, d.before a0 Z = true) {o0 : Addr} {o1 : Addr} {i2 : Int32} {kc3 : ClassId} {x4 : UInt64} {x5 : UInt64} {x6 : UInt64} {x7 : UInt64} {h0 : Heap} {n0 : Nat} (O : Old Z n0 h0)  (P0 : Exa Z h0 o0 "com/example/rondel/rondel/primitive/DoubleRingBuffer") (P1 : Fld Z h0 o0 "com/example/rondel/rondel/primitive/DoubleRingBuffer" "readings" "[D" (.ref o1)) (P2 : Fld Z h0 o0 "com/example/rondel/rondel/primitive/DoubleRingBuffer" "size" "I" (.int (2 : Int32))) (P3 : Fld Z h0 o0 "com/example/rondel/rondel/primitive/DoubleRingBuffer" "head" "I" (.int (0 : Int32))) (P4 : Fld Z h0 o0 "com/example/rondel/rondel/primitive/DoubleRingBuffer" "modCount" "I" (.int i2)) (P5 : Arv Z h0 o1 kc3 .double (3 : Int32) [(.double x4), (.double x5), (.double x6)] (.double 0)) (G0 : n0 ≤ o0) (G1 : n0 ≤ o1) (N0_1 : o0 ≠ o1) :
    Met0 l Z (⟨"com/example/rondel/rondel/primitive/DoubleRingBuffer", "add", "(D)V"⟩ : MethodName) prog_11_method_6_code 3 none ({ frames := 1, cells := 0, slots := 0, locals := 15 } : Room) #[(.ref o0), (.double x7)] h0 n0 (fun h => Keep h0 h [o1, o0] ∧ Exa Z h o0 "com/example/rondel/rondel/primitive/DoubleRingBuffer" ∧ Fld Z h o0 "com/example/rondel/rondel/primitive/DoubleRingBuffer" "readings" "[D" (.ref o1) ∧ Fld Z h o0 "com/example/rondel/rondel/primitive/DoubleRingBuffer" "size" "I" (.int (3 : Int32)) ∧ Fld Z h o0 "com/example/rondel/rondel/primitive/DoubleRingBuffer" "head" "I" (.int (0 : Int32)) ∧ Fld Z h o0 "com/example/rondel/rondel/primitive/DoubleRingBuffer" "modCount" "I" (.int (i2 + (1 : Int32))) ∧ Arv Z h o1 kc3 .double (3 : Int32) [(.double x4), (.double x5), (.double x7)] (.double 0)) := by
  refine met_of (L := #[.val (.ref o0), .val (.double x7), .second]) (plainFor_of_name pn_10) (fun m => by first | (simp [entryFrame, mkF, argsToLocals, Value.category]; done) | rfl) ?_
  intro p e s m below meth c T C X
  change Cx p s m meth c Z "com/example/rondel/rondel/primitive/DoubleRingBuffer" prog_11_method_6_code 3 none "add" at C
  refine g_aloadN C X d3_0 (q := 1) rfl rfl rfl ?_
  refine g_getF C X (host := "") (Or.inl (w18 hw)) Via.refl P2 d3_1 (q := 4) rfl ?_
  intro T1 X2
  refine g_aloadN C X2 d3_4 (q := 5) rfl rfl rfl ?_
  refine g_getF C X2 (host := "") (Or.inl (w11 hw)) Via.refl P1 d3_5 (q := 8) rfl ?_
  intro T3 X4
  refine g_alen C X4 P5 d3_8 (q := 9) rfl ?_
  refine g_icY C X4 d3_9 (by decide) (q := 37) (by decide) (by decide) ?_
  refine g_aloadN C X4 d3_37 (q := 38) rfl rfl rfl ?_
  refine g_getF C X4 (host := "") (Or.inl (w11 hw)) Via.refl P1 d3_38 (q := 41) rfl ?_
  intro T5 X6
  refine g_aloadN C X6 d3_41 (q := 42) rfl rfl rfl ?_
  refine g_aloadN C X6 d3_42 (q := 43) rfl rfl rfl ?_
  refine g_getF C X6 (host := "") (Or.inl (w18 hw)) Via.refl P2 d3_43 (q := 46) rfl ?_
  intro T7 X8
  refine g_callP1 C X8 (y := (⟨"com/example/rondel/rondel/primitive/DoubleRingBuffer", "slot", "(I)I"⟩ : MethodName)) (a := o0) (by decide) (w20 hw) (sel_priv (w2 hw) (w21 hw) (w22 hw) (by decide)) (w21 hw) (w22 hw) P0 (w23 hw) (w3 hw) (rm_slot_10 hw (o0 := o0) (o1 := o1) (i2 := i2) (kc3 := kc3) (x4 := x4) (x5 := x5) (x6 := x6) O P0 P1 P2 P3 P4 P5 G0 G1 N0_1) (W := 1) (by decide) (by decide) (k' := 0) rfl (n' := 0) rfl (by decide) (by decide) rfl pd_40 (argsL := [(.int (2 : Int32))]) rfl (rest := [(.ref o1)]) rfl rfl rfl d3_46 (q := 49) rfl ?_
  rintro _ T9 _ X10 ⟨rfl, rfl⟩
  refine g_dloadN C X10 d3_49 (q := 50) rfl rfl ?_
  refine g_dastore C X10 P5 (by decide) (i := 2) (by decide) (Nat.le_of_ble_eq_true rfl) (vs' := [(.double x4), (.double x5), (.double x7)]) rfl G1 d3_50 (q := 51) rfl ?_
  intro T11 h12 X13 W14 V15
  have O16 := O.wr W14 G1
  refine g_aloadN C X13 d3_51 (q := 52) rfl rfl rfl ?_
  refine g_dup C X13 d3_52 (q := 53) rfl rfl ?_
  have f17 := (P2.other W14 (Or.inl N0_1))
  refine g_getF C X13 (host := "") (Or.inl (w18 hw)) Via.refl f17 d3_53 (q := 56) rfl ?_
  intro T18 X19
  refine g_iconst C X19 d3_56 (q := 57) rfl (z := (1 : Int32)) rfl ?_
  refine g_iadd C X19 d3_57 (q := 58) rfl (z := (3 : Int32)) (by decide) ?_
  have f20 := (P0.wr W14)
  refine g_putF C X19 (host := "") (Or.inl (w18 hw)) Via.refl f17 f20 (Or.inl (w19 hw)) (w2 hw) (ty := .int) (by decide) rfl rfl d3_58 (q := 61) rfl G0 ?_
  intro T21 h23 X22 W24
  have FW24 := Fld.same W24 f17
  have O25 := O16.wr W24 G0
  refine g_aloadN C X22 d3_61 (q := 62) rfl rfl rfl ?_
  refine g_dup C X22 d3_62 (q := 63) rfl rfl ?_
  have f26 := ((P4.other W14 (Or.inl N0_1)).other W24 (Or.inr (slot_ne (Or.inl (w27 hw)) (Or.inl (w19 hw)) (by decide) (t := .int) (t' := .int) (by decide) (by decide))))
  refine g_getF C X22 (host := "") (Or.inl (w26 hw)) Via.refl f26 d3_63 (q := 66) rfl ?_
  intro T27 X28
  refine g_iconst C X28 d3_66 (q := 67) rfl (z := (1 : Int32)) rfl ?_
  refine g_iadd C X28 d3_67 (q := 68) rfl (z := (i2 + (1 : Int32))) rfl ?_
  have f29 := (f20.wr W24)
  refine g_putF C X28 (host := "") (Or.inl (w26 hw)) Via.refl f26 f29 (Or.inl (w27 hw)) (w2 hw) (ty := .int) (by decide) rfl rfl d3_68 (q := 71) rfl G0 ?_
  intro T30 h32 X31 W33
  have FW33 := Fld.same W33 f26
  have O34 := O25.wr W33 G0
  exact g_retV C X31 d3_71 (by decide) (by decide) ⟨rfl, ((((Keep.refl h0 [o1, o0]).wr W14 (Or.inl (List.mem_of_getElem? (i := 0) rfl))).wr W24 (Or.inl (List.mem_of_getElem? (i := 1) rfl))).wr W33 (Or.inl (List.mem_of_getElem? (i := 1) rfl))), (f29.wr W33), (((P1.other W14 (Or.inl N0_1)).other W24 (Or.inr (slot_ne (Or.inr (w12 hw)) (Or.inl (w19 hw)) (by decide) (t := (.array .double)) (t' := .int) (by decide) (by decide)))).other W33 (Or.inr (slot_ne (Or.inr (w12 hw)) (Or.inl (w27 hw)) (by decide) (t := (.array .double)) (t' := .int) (by decide) (by decide)))), (FW24.other W33 (Or.inr (slot_ne (Or.inl (w19 hw)) (Or.inl (w27 hw)) (by decide) (t := .int) (t' := .int) (by decide) (by decide)))), (((P3.other W14 (Or.inl N0_1)).other W24 (Or.inr (slot_ne (Or.inl (w25 hw)) (Or.inl (w19 hw)) (by decide) (t := .int) (t' := .int) (by decide) (by decide)))).other W33 (Or.inr (slot_ne (Or.inl (w25 hw)) (Or.inl (w27 hw)) (by decide) (t := .int) (t' := .int) (by decide) (by decide)))), FW33, ((V15.other W24 (Ne.symm N0_1)).other W33 (Ne.symm N0_1))⟩
set_option maxRecDepth 65536 in
set_option maxHeartbeats 40000000 in
theorem rm_clear_6 {l : Launch} {Z : State} {a0 : Array Value} (hw : ∀ d ∈ tables_1, d.before a0 Z = true) {o0 : Addr} {o1 : Addr} {i2 : Int32} {kc3 : ClassId} {x4 : UInt64} {x5 : UInt64} {x6 : UInt64} {h0 : Heap} {n0 : Nat} (O : Old Z n0 h0)  (P0 : Exa Z h0 o0 "com/example/rondel/rondel/primitive/DoubleRingBuffer") (P1 : Fld Z h0 o0 "com/example/rondel/rondel/primitive/DoubleRingBuffer" "readings" "[D" (.ref o1)) (P2 : Fld Z h0 o0 "com/example/rondel/rondel/primitive/DoubleRingBuffer" "size" "I" (.int (3 : Int32))) (P3 : Fld Z h0 o0 "com/example/rondel/rondel/primitive/DoubleRingBuffer" "head" "I" (.int (0 : Int32))) (P4 : Fld Z h0 o0 "com/example/rondel/rondel/primitive/DoubleRingBuffer" "modCount" "I" (.int i2)) (P5 : Arv Z h0 o1 kc3 .double (3 : Int32) [(.double x4), (.double x5), (.double x6)] (.double 0)) (G0 : n0 ≤ o0) (G1 : n0 ≤ o1) (N0_1 : o0 ≠ o1) :
    Met0 l Z (⟨"com/example/rondel/rondel/primitive/DoubleRingBuffer", "clear", "()V"⟩ : MethodName) prog_11_method_12_code 1 none ({ frames := 0, cells := 0, slots := 0, locals := 0 } : Room) #[(.ref o0)] h0 n0 (fun h => Keep h0 h [o0] ∧ Exa Z h o0 "com/example/rondel/rondel/primitive/DoubleRingBuffer" ∧ Fld Z h o0 "com/example/rondel/rondel/primitive/DoubleRingBuffer" "readings" "[D" (.ref o1) ∧ Fld Z h o0 "com/example/rondel/rondel/primitive/DoubleRingBuffer" "size" "I" (.int (0 : Int32)) ∧ Fld Z h o0 "com/example/rondel/rondel/primitive/DoubleRingBuffer" "head" "I" (.int (0 : Int32)) ∧ Fld Z h o0 "com/example/rondel/rondel/primitive/DoubleRingBuffer" "modCount" "I" (.int (i2 + (1 : Int32)))) := by
  refine met_of (L := #[.val (.ref o0)]) (plainFor_of_name pn_10) (fun m => by first | (simp [entryFrame, mkF, argsToLocals, Value.category]; done) | rfl) ?_
  intro p e s m below meth c T C X
  change Cx p s m meth c Z "com/example/rondel/rondel/primitive/DoubleRingBuffer" prog_11_method_12_code 1 none "clear" at C
  refine g_aloadN C X d6_0 (q := 1) rfl rfl rfl ?_
  refine g_iconst C X d6_1 (q := 2) rfl (z := (0 : Int32)) rfl ?_
  refine g_putF C X (host := "") (Or.inl (w18 hw)) Via.refl P2 P0 (Or.inl (w19 hw)) (w2 hw) (ty := .int) (by decide) rfl rfl d6_2 (q := 5) rfl G0 ?_
  intro T1 h3 X2 W4
  have FW4 := Fld.same W4 P2
  have O5 := O.wr W4 G0
  refine g_aloadN C X2 d6_5 (q := 6) rfl rfl rfl ?_
  refine g_dup C X2 d6_6 (q := 7) rfl rfl ?_
  have f6 := (P4.other W4 (Or.inr (slot_ne (Or.inl (w27 hw)) (Or.inl (w19 hw)) (by decide) (t := .int) (t' := .int) (by decide) (by decide))))
  refine g_getF C X2 (host := "") (Or.inl (w26 hw)) Via.refl f6 d6_7 (q := 10) rfl ?_
  intro T7 X8
  refine g_iconst C X8 d6_10 (q := 11) rfl (z := (1 : Int32)) rfl ?_
  refine g_iadd C X8 d6_11 (q := 12) rfl (z := (i2 + (1 : Int32))) rfl ?_
  have f9 := (P0.wr W4)
  refine g_putF C X8 (host := "") (Or.inl (w26 hw)) Via.refl f6 f9 (Or.inl (w27 hw)) (w2 hw) (ty := .int) (by decide) rfl rfl d6_12 (q := 15) rfl G0 ?_
  intro T10 h12 X11 W13
  have FW13 := Fld.same W13 f6
  have O14 := O5.wr W13 G0
  exact g_retV C X11 d6_15 (by decide) (by decide) ⟨rfl, (((Keep.refl h0 [o0]).wr W4 (Or.inl (List.mem_of_getElem? (i := 0) rfl))).wr W13 (Or.inl (List.mem_of_getElem? (i := 0) rfl))), (f9.wr W13), ((P1.other W4 (Or.inr (slot_ne (Or.inr (w12 hw)) (Or.inl (w19 hw)) (by decide) (t := (.array .double)) (t' := .int) (by decide) (by decide)))).other W13 (Or.inr (slot_ne (Or.inr (w12 hw)) (Or.inl (w27 hw)) (by decide) (t := (.array .double)) (t' := .int) (by decide) (by decide)))), (FW4.other W13 (Or.inr (slot_ne (Or.inl (w19 hw)) (Or.inl (w27 hw)) (by decide) (t := .int) (t' := .int) (by decide) (by decide)))), ((P3.other W4 (Or.inr (slot_ne (Or.inl (w25 hw)) (Or.inl (w19 hw)) (by decide) (t := .int) (t' := .int) (by decide) (by decide)))).other W13 (Or.inr (slot_ne (Or.inl (w25 hw)) (Or.inl (w27 hw)) (by decide) (t := .int) (t' := .int) (by decide) (by decide)))), FW13⟩
set_option maxRecDepth 65536 in
set_option maxHeartbeats 40000000 in
theorem rm_size_6 {l : Launch} {Z : State} {a0 : Array Value} (hw : ∀ d ∈ tables_1, d.before a0 Z = true) {o0 : Addr} {o1 : Addr} {i2 : Int32} {kc3 : ClassId} {x4 : UInt64} {x5 : UInt64} {x6 : UInt64} {h0 : Heap} {n0 : Nat} (O : Old Z n0 h0)  (P0 : Exa Z h0 o0 "com/example/rondel/rondel/primitive/DoubleRingBuffer") (P1 : Fld Z h0 o0 "com/example/rondel/rondel/primitive/DoubleRingBuffer" "readings" "[D" (.ref o1)) (P2 : Fld Z h0 o0 "com/example/rondel/rondel/primitive/DoubleRingBuffer" "size" "I" (.int (0 : Int32))) (P3 : Fld Z h0 o0 "com/example/rondel/rondel/primitive/DoubleRingBuffer" "head" "I" (.int (0 : Int32))) (P4 : Fld Z h0 o0 "com/example/rondel/rondel/primitive/DoubleRingBuffer" "modCount" "I" (.int i2)) (P5 : Arv Z h0 o1 kc3 .double (3 : Int32) [(.double x4), (.double x5), (.double x6)] (.double 0)) (G0 : n0 ≤ o0) (G1 : n0 ≤ o1) (N0_1 : o0 ≠ o1) :
    Met1 l Z (⟨"com/example/rondel/rondel/primitive/DoubleRingBuffer", "size", "()I"⟩ : MethodName) prog_11_method_3_code 1 (some .int) ({ frames := 0, cells := 0, slots := 0, locals := 0 } : Room) #[(.ref o0)] h0 n0 (fun v h => v = (.int (0 : Int32)) ∧ h0 = h) := by
  refine met_of (L := #[.val (.ref o0)]) (plainFor_of_name pn_10) (fun m => by first | (simp [entryFrame, mkF, argsToLocals, Value.category]; done) | rfl) ?_
  intro p e s m below meth c T C X
  change Cx p s m meth c Z "com/example/rondel/rondel/primitive/DoubleRingBuffer" prog_11_method_3_code 1 (some .int) "size" at C
  refine g_aloadN C X d7_0 (q := 1) rfl rfl rfl ?_
  refine g_getF C X (host := "") (Or.inl (w18 hw)) Via.refl P2 d7_1 (q := 4) rfl ?_
  intro T1 X2
  exact g_retI C X2 d7_4 (by decide) (by decide) ⟨_, rfl, rfl, rfl⟩
set_option maxRecDepth 65536 in
set_option maxHeartbeats 40000000 in
theorem rm_checkNotEmpty_3 {l : Launch} {Z : State} {a0 : Array Value} (hw : ∀ d ∈ tables_1, d.before a0 Z = true) {o0 : Addr} {o1 : Addr} {i2 : Int32} {kc3 : ClassId} {x4 : UInt64} {x5 : UInt64} {x6 : UInt64} {h0 : Heap} {n0 : Nat} (O : Old Z n0 h0)  (P0 : Exa Z h0 o0 "com/example/rondel/rondel/primitive/DoubleRingBuffer") (P1 : Fld Z h0 o0 "com/example/rondel/rondel/primitive/DoubleRingBuffer" "readings" "[D" (.ref o1)) (P2 : Fld Z h0 o0 "com/example/rondel/rondel/primitive/DoubleRingBuffer" "size" "I" (.int (2 : Int32))) (P3 : Fld Z h0 o0 "com/example/rondel/rondel/primitive/DoubleRingBuffer" "head" "I" (.int (0 : Int32))) (P4 : Fld Z h0 o0 "com/example/rondel/rondel/primitive/DoubleRingBuffer" "modCount" "I" (.int i2)) (P5 : Arv Z h0 o1 kc3 .double (3 : Int32) [(.double x4), (.double x5), (.double x6)] (.double 0)) (G0 : n0 ≤ o0) (G1 : n0 ≤ o1) (N0_1 : o0 ≠ o1) :
    Met0 l Z (⟨"com/example/rondel/rondel/primitive/DoubleRingBuffer", "checkNotEmpty", "()V"⟩ : MethodName) prog_11_method_17_code 1 none ({ frames := 0, cells := 0, slots := 0, locals := 0 } : Room) #[(.ref o0)] h0 n0 (fun h => h0 = h) := by
  refine met_of (L := #[.val (.ref o0)]) (plainFor_of_name pn_10) (fun m => by first | (simp [entryFrame, mkF, argsToLocals, Value.category]; done) | rfl) ?_
  intro p e s m below meth c T C X
  change Cx p s m meth c Z "com/example/rondel/rondel/primitive/DoubleRingBuffer" prog_11_method_17_code 1 none "checkNotEmpty" at C
  refine g_aloadN C X d9_0 (q := 1) rfl rfl rfl ?_
  refine g_getF C X (host := "") (Or.inl (w18 hw)) Via.refl P2 d9_1 (q := 4) rfl ?_
  intro T1 X2
  refine g_ifY C X2 d9_4 (by decide) (q := 17) (by decide) (by decide) ?_
  exact g_retV C X2 d9_17 (by decide) (by decide) ⟨rfl, rfl⟩
set_option maxRecDepth 65536 in
set_option maxHeartbeats 40000000 in
theorem rm_getFirst_3 {l : Launch} {Z : State} {a0 : Array Value} (hw : ∀ d ∈ tables_1, d.before a0 Z = true) {o0 : Addr} {o1 : Addr} {i2 : Int32} {kc3 : ClassId} {x4 : UInt64} {x5 : UInt64} {x6 : UInt64} {h0 : Heap} {n0 : Nat} (O : Old Z n0 h0)  (P0 : Exa Z h0 o0 "com/example/rondel/rondel/primitive/DoubleRingBuffer") (P1 : Fld Z h0 o0 "com/example/rondel/rondel/primitive/DoubleRingBuffer" "readings" "[D" (.ref o1)) (P2 : Fld Z h0 o0 "com/example/rondel/rondel/primitive/DoubleRingBuffer" "size" "I" (.int (2 : Int32))) (P3 : Fld Z h0 o0 "com/example/rondel/rondel/primitive/DoubleRingBuffer" "head" "I" (.int (0 : Int32))) (P4 : Fld Z h0 o0 "com/example/rondel/rondel/primitive/DoubleRingBuffer" "modCount" "I" (.int i2)) (P5 : Arv Z h0 o1 kc3 .double (3 : Int32) [(.double x4), (.double x5), (.double x6)] (.double 0)) (G0 : n0 ≤ o0) (G1 : n0 ≤ o1) (N0_1 : o0 ≠ o1) :
    Met1 l Z (⟨"com/example/rondel/rondel/primitive/DoubleRingBuffer", "getFirst", "()D"⟩ : MethodName) prog_11_method_9_code 1 (some .double) ({ frames := 1, cells := 0, slots := 0, locals := 12 } : Room) #[(.ref o0)] h0 n0 (fun v h => v = (.double x4) ∧ h0 = h) := by
  refine met_of (L := #[.val (.ref o0)]) (plainFor_of_name pn_10) (fun m => by first | (simp [entryFrame, mkF, argsToLocals, Value.category]; done) | rfl) ?_
  intro p e s m below meth c T C X
  change Cx p s m meth c Z "com/example/rondel/rondel/primitive/DoubleRingBuffer" prog_11_method_9_code 1 (some .double) "getFirst" at C
  refine g_aloadN C X d8_0 (q := 1) rfl rfl rfl ?_
  refine g_callP0 C X (y := (⟨"com/example/rondel/rondel/primitive/DoubleRingBuffer", "checkNotEmpty", "()V"⟩ : MethodName)) (a := o0) (by decide) (w47 hw) (sel_priv (w2 hw) (w48 hw) (w49 hw) (by decide)) (w48 hw) (w49 hw) P0 (w50 hw) (w3 hw) (rm_checkNotEmpty_3 hw (o0 := o0) (o1 := o1) (i2 := i2) (kc3 := kc3) (x4 := x4) (x5 := x5) (x6 := x6) O P0 P1 P2 P3 P4 P5 G0 G1 N0_1) (W := 0) (by decide) (by decide) (k' := 0) rfl (n' := 0) rfl (by decide) (by decide) rfl pd_90 (argsL := []) rfl (rest := []) rfl rfl rfl d8_1 (q := 4) rfl ?_
  rintro T1 _ X2 rfl
  refine g_aloadN C X2 d8_4 (q := 5) rfl rfl rfl ?_
  refine g_getF C X2 (host := "") (Or.inl (w11 hw)) Via.refl P1 d8_5 (q := 8) rfl ?_
  intro T3 X4
  refine g_aloadN C X4 d8_8 (q := 9) rfl rfl rfl ?_
  refine g_getF C X4 (host := "") (Or.inl (w24 hw)) Via.refl P3 d8_9 (q := 12) rfl ?_
  intro T5 X6
  refine g_daload C X6 P5 (by decide) (w := (.double x4)) rfl d8_12 (q := 13) rfl ?_
  exact g_retD C X6 d8_13 (by decide) (by decide) ⟨_, rfl, rfl, rfl⟩
set_option maxRecDepth 65536 in
set_option maxHeartbeats 40000000 in
theorem rm_slot_11 {l : Launch} {Z : State} {a0 : Array Value} (hw : ∀ d ∈ tables_1, d.before a0 Z = true) {o0 : Addr} {o1 : Addr} {i2 : Int32} {kc3 : ClassId} {x4 : UInt64} {x5 : UInt64} {x6 : UInt64} {h0 : Heap} {n0 : Nat} (O : Old Z n0 h0)  (P0 : Exa Z h0 o0 "com/example/rondel/rondel/primitive/DoubleRingBuffer") (P1 : Fld Z h0 o0 "com/example/rondel/rondel/primitive/DoubleRingBuffer" "readings" "[D" (.ref o1)) (P2 : Fld Z h0 o0 "com/example/rondel/rondel/primitive/DoubleRingBuffer" "size" "I" (.int (2 : Int32))) (P3 : Fld Z h0 o0 "com/example/rondel/rondel/primitive/DoubleRingBuffer" "head" "I" (.int (0 : Int32))) (P4 : Fld Z h0 o0 "com/example/rondel/rondel/primitive/DoubleRingBuffer" "modCount" "I" (.int i2)) (P5 : Arv Z h0 o1 kc3 .double (3 : Int32) [(.double x4), (.double x5), (.double x6)] (.double 0)) (G0 : n0 ≤ o0) (G1 : n0 ≤ o1) (N0_1 : o0 ≠ o1) :
    Met1 l Z (⟨"com/example/rondel/rondel/primitive/DoubleRingBuffer", "slot", "(I)I"⟩ : MethodName) prog_11_method_18_code 3 (some .int) ({ frames := 0, cells := 0, slots := 0, locals := 0 } : Room) #[(.ref o0), (.int (1 : Int32))] h0 n0 (fun v h => v = (.int (1 : Int32)) ∧ h0 = h) := by
  refine met_of (L := #[.val (.ref o0), .val (.int (1 : Int32)), .unset]) (plainFor_of_name pn_10) (fun m => by first | (simp [entryFrame, mkF, argsToLocals, Value.category]; done) | rfl) ?_
  intro p e s m below meth c T C X
  change Cx p s m meth c Z "com/example/rondel/rondel/primitive/DoubleRingBuffer" prog_11_method_18_code 3 (some .int) "slot" at C
  refine g_aloadN C X d4_0 (q := 1) rfl rfl rfl ?_
  refine g_getF C X (host := "") (Or.inl (w11 hw)) Via.refl P1 d4_1 (q := 4) rfl ?_
  intro T1 X2
  refine g_alen C X2 P5 d4_4 (q := 5) rfl ?_
  refine g_aloadN C X2 d4_5 (q := 6) rfl rfl rfl ?_
  refine g_getF C X2 (host := "") (Or.inl (w24 hw)) Via.refl P3 d4_6 (q := 9) rfl ?_
  intro T3 X4
  refine g_isub C X4 d4_9 (q := 10) rfl (z := (3 : Int32)) (by decide) ?_
  refine g_istoreN C X4 d4_10 (q := 11) rfl (L' := #[.val (.ref o0), .val (.int (1 : Int32)), .val (.int (3 : Int32))]) rfl ?_
  refine g_iloadN C X4 d4_11 (q := 12) rfl rfl ?_
  refine g_iloadN C X4 d4_12 (q := 13) rfl rfl ?_
  refine g_icN C X4 d4_13 (q := 16) rfl (by decide) ?_
  refine g_aloadN C X4 d4_16 (q := 17) rfl rfl rfl ?_
  refine g_getF C X4 (host := "") (Or.inl (w24 hw)) Via.refl P3 d4_17 (q := 20) rfl ?_
  intro T5 X6
  refine g_iloadN C X6 d4_20 (q := 21) rfl rfl ?_
  refine g_iadd C X6 d4_21 (q := 22) rfl (z := (1 : Int32)) (by decide) ?_
  refine g_goto C X6 d4_22 (by decide) (q := 28) (by decide) ?_
  exact g_retI C X6 d4_28 (by decide) (by decide) ⟨_, rfl, rfl, rfl⟩
set_option maxRecDepth 65536 in
set_option maxHeartbeats 40000000 in
theorem rm_getLast_3 {l : Launch} {Z : State} {a0 : Array Value} (hw : ∀ d ∈ tables_1, d.before a0 Z = true) {o0 : Addr} {o1 : Addr} {i2 : Int32} {kc3 : ClassId} {x4 : UInt64} {x5 : UInt64} {x6 : UInt64} {h0 : Heap} {n0 : Nat} (O : Old Z n0 h0)  (P0 : Exa Z h0 o0 "com/example/rondel/rondel/primitive/DoubleRingBuffer") (P1 : Fld Z h0 o0 "com/example/rondel/rondel/primitive/DoubleRingBuffer" "readings" "[D" (.ref o1)) (P2 : Fld Z h0 o0 "com/example/rondel/rondel/primitive/DoubleRingBuffer" "size" "I" (.int (2 : Int32))) (P3 : Fld Z h0 o0 "com/example/rondel/rondel/primitive/DoubleRingBuffer" "head" "I" (.int (0 : Int32))) (P4 : Fld Z h0 o0 "com/example/rondel/rondel/primitive/DoubleRingBuffer" "modCount" "I" (.int i2)) (P5 : Arv Z h0 o1 kc3 .double (3 : Int32) [(.double x4), (.double x5), (.double x6)] (.double 0)) (G0 : n0 ≤ o0) (G1 : n0 ≤ o1) (N0_1 : o0 ≠ o1) :
    Met1 l Z (⟨"com/example/rondel/rondel/primitive/DoubleRingBuffer", "getLast", "()D"⟩ : MethodName) prog_11_method_10_code 1 (some .double) ({ frames := 1, cells := 0, slots := 0, locals := 15 } : Room) #[(.ref o0)] h0 n0 (fun v h => v = (.double x5) ∧ h0 = h) := by
  refine met_of (L := #[.val (.ref o0)]) (plainFor_of_name pn_10) (fun m => by first | (simp [entryFrame, mkF, argsToLocals, Value.category]; done) | rfl) ?_
  intro p e s m below meth c T C X
  change Cx p s m meth c Z "com/example/rondel/rondel/primitive/DoubleRingBuffer" prog_11_method_10_code 1 (some .double) "getLast" at C
  refine g_aloadN C X d10_0 (q := 1) rfl rfl rfl ?_
  refine g_callP0 C X (y := (⟨"com/example/rondel/rondel/primitive/DoubleRingBuffer", "checkNotEmpty", "()V"⟩ : MethodName)) (a := o0) (by decide) (w47 hw) (sel_priv (w2 hw) (w48 hw) (w49 hw) (by decide)) (w48 hw) (w49 hw) P0 (w50 hw) (w3 hw) (rm_checkNotEmpty_3 hw (o0 := o0) (o1 := o1) (i2 := i2) (kc3 := kc3) (x4 := x4) (x5 := x5) (x6 := x6) O P0 P1 P2 P3 P4 P5 G0 G1 N0_1) (W := 0) (by decide) (by decide) (k' := 0) rfl (n' := 0) rfl (by decide) (by decide) rfl pd_90 (argsL := []) rfl (rest := []) rfl rfl rfl d10_1 (q := 4) rfl ?_
  rintro T1 _ X2 rfl
  refine g_aloadN C X2 d10_4 (q := 5) rfl rfl rfl ?_
  refine g_getF C X2 (host := "") (Or.inl (w11 hw)) Via.refl P1 d10_5 (q := 8) rfl ?_
  intro T3 X4
  refine g_aloadN C X4 d10_8 (q := 9) rfl rfl rfl ?_
  refine g_aloadN C X4 d10_9 (q := 10) rfl rfl rfl ?_
  refine g_getF C X4 (host := "") (Or.inl (w18 hw)) Via.refl P2 d10_10 (q := 13) rfl ?_
  intro T5 X6
  refine g_iconst C X6 d10_13 (q := 14) rfl (z := (1 : Int32)) rfl ?_
  refine g_isub C X6 d10_14 (q := 15) rfl (z := (1 : Int32)) (by decide) ?_
  refine g_callP1 C X6 (y := (⟨"com/example/rondel/rondel/primitive/DoubleRingBuffer", "slot", "(I)I"⟩ : MethodName)) (a := o0) (by decide) (w20 hw) (sel_priv (w2 hw) (w21 hw) (w22 hw) (by decide)) (w21 hw) (w22 hw) P0 (w23 hw) (w3 hw) (rm_slot_11 hw (o0 := o0) (o1 := o1) (i2 := i2) (kc3 := kc3) (x4 := x4) (x5 := x5) (x6 := x6) O P0 P1 P2 P3 P4 P5 G0 G1 N0_1) (W := 1) (by decide) (by decide) (k' := 0) rfl (n' := 0) rfl (by decide) (by decide) rfl pd_40 (argsL := [(.int (1 : Int32))]) rfl (rest := [(.ref o1)]) rfl rfl rfl d10_15 (q := 18) rfl ?_
  rintro _ T7 _ X8 ⟨rfl, rfl⟩
  refine g_daload C X8 P5 (by decide) (w := (.double x5)) rfl d10_18 (q := 19) rfl ?_
  exact g_retD C X8 d10_19 (by decide) (by decide) ⟨_, rfl, rfl, rfl⟩
set_option maxRecDepth 65536 in
set_option maxHeartbeats 40000000 in
theorem rm_size_7 {l : Launch} {Z : State} {a0 : Array Value} (hw : ∀ d ∈ tables_1, d.before a0 Z = true) {o0 : Addr} {o1 : Addr} {i2 : Int32} {kc3 : ClassId} {x4 : UInt64} {x5 : UInt64} {x6 : UInt64} {h0 : Heap} {n0 : Nat} (O : Old Z n0 h0)  (P0 : Exa Z h0 o0 "com/example/rondel/rondel/primitive/DoubleRingBuffer") (P1 : Fld Z h0 o0 "com/example/rondel/rondel/primitive/DoubleRingBuffer" "readings" "[D" (.ref o1)) (P2 : Fld Z h0 o0 "com/example/rondel/rondel/primitive/DoubleRingBuffer" "size" "I" (.int (2 : Int32))) (P3 : Fld Z h0 o0 "com/example/rondel/rondel/primitive/DoubleRingBuffer" "head" "I" (.int (0 : Int32))) (P4 : Fld Z h0 o0 "com/example/rondel/rondel/primitive/DoubleRingBuffer" "modCount" "I" (.int i2)) (P5 : Arv Z h0 o1 kc3 .double (3 : Int32) [(.double x4), (.double x5), (.double x6)] (.double 0)) (G0 : n0 ≤ o0) (G1 : n0 ≤ o1) (N0_1 : o0 ≠ o1) :
    Met1 l Z (⟨"com/example/rondel/rondel/primitive/DoubleRingBuffer", "size", "()I"⟩ : MethodName) prog_11_method_3_code 1 (some .int) ({ frames := 0, cells := 0, slots := 0, locals := 0 } : Room) #[(.ref o0)] h0 n0 (fun v h => v = (.int (2 : Int32)) ∧ h0 = h) := by
  refine met_of (L := #[.val (.ref o0)]) (plainFor_of_name pn_10) (fun m => by first | (simp [entryFrame, mkF, argsToLocals, Value.category]; done) | rfl) ?_
  intro p e s m below meth c T C X
  change Cx p s m meth c Z "com/example/rondel/rondel/primitive/DoubleRingBuffer" prog_11_method_3_code 1 (some .int) "size" at C
  refine g_aloadN C X d7_0 (q := 1) rfl rfl rfl ?_
  refine g_getF C X (host := "") (Or.inl (w18 hw)) Via.refl P2 d7_1 (q := 4) rfl ?_
  intro T1 X2
  exact g_retI C X2 d7_4 (by decide) (by decide) ⟨_, rfl, rfl, rfl⟩
set_option maxRecDepth 65536 in
set_option maxHeartbeats 40000000 in
theorem rm_clear_7 {l : Launch} {Z : State} {a0 : Array Value} (hw : ∀ d ∈ tables_1, d.before a0 Z = true) {o0 : Addr} {o1 : Addr} {i2 : Int32} {kc3 : ClassId} {x4 : UInt64} {x5 : UInt64} {x6 : UInt64} {h0 : Heap} {n0 : Nat} (O : Old Z n0 h0)  (P0 : Exa Z h0 o0 "com/example/rondel/rondel/primitive/DoubleRingBuffer") (P1 : Fld Z h0 o0 "com/example/rondel/rondel/primitive/DoubleRingBuffer" "readings" "[D" (.ref o1)) (P2 : Fld Z h0 o0 "com/example/rondel/rondel/primitive/DoubleRingBuffer" "size" "I" (.int (2 : Int32))) (P3 : Fld Z h0 o0 "com/example/rondel/rondel/primitive/DoubleRingBuffer" "head" "I" (.int (0 : Int32))) (P4 : Fld Z h0 o0 "com/example/rondel/rondel/primitive/DoubleRingBuffer" "modCount" "I" (.int i2)) (P5 : Arv Z h0 o1 kc3 .double (3 : Int32) [(.double x4), (.double x5), (.double x6)] (.double 0)) (G0 : n0 ≤ o0) (G1 : n0 ≤ o1) (N0_1 : o0 ≠ o1) :
    Met0 l Z (⟨"com/example/rondel/rondel/primitive/DoubleRingBuffer", "clear", "()V"⟩ : MethodName) prog_11_method_12_code 1 none ({ frames := 0, cells := 0, slots := 0, locals := 0 } : Room) #[(.ref o0)] h0 n0 (fun h => Keep h0 h [o0] ∧ Exa Z h o0 "com/example/rondel/rondel/primitive/DoubleRingBuffer" ∧ Fld Z h o0 "com/example/rondel/rondel/primitive/DoubleRingBuffer" "readings" "[D" (.ref o1) ∧ Fld Z h o0 "com/example/rondel/rondel/primitive/DoubleRingBuffer" "size" "I" (.int (0 : Int32)) ∧ Fld Z h o0 "com/example/rondel/rondel/primitive/DoubleRingBuffer" "head" "I" (.int (0 : Int32)) ∧ Fld Z h o0 "com/example/rondel/rondel/primitive/DoubleRingBuffer" "modCount" "I" (.int (i2 + (1 : Int32)))) := by
  refine met_of (L := #[.val (.ref o0)]) (plainFor_of_name pn_10) (fun m => by first | (simp [entryFrame, mkF, argsToLocals, Value.category]; done) | rfl) ?_
  intro p e s m below meth c T C X
  change Cx p s m meth c Z "com/example/rondel/rondel/primitive/DoubleRingBuffer" prog_11_method_12_code 1 none "clear" at C
  refine g_aloadN C X d6_0 (q := 1) rfl rfl rfl ?_
  refine g_iconst C X d6_1 (q := 2) rfl (z := (0 : Int32)) rfl ?_
  refine g_putF C X (host := "") (Or.inl (w18 hw)) Via.refl P2 P0 (Or.inl (w19 hw)) (w2 hw) (ty := .int) (by decide) rfl rfl d6_2 (q := 5) rfl G0 ?_
  intro T1 h3 X2 W4
  have FW4 := Fld.same W4 P2
  have O5 := O.wr W4 G0
  refine g_aloadN C X2 d6_5 (q := 6) rfl rfl rfl ?_
  refine g_dup C X2 d6_6 (q := 7) rfl rfl ?_
  have f6 := (P4.other W4 (Or.inr (slot_ne (Or.inl (w27 hw)) (Or.inl (w19 hw)) (by decide) (t := .int) (t' := .int) (by decide) (by decide))))
  refine g_getF C X2 (host := "") (Or.inl (w26 hw)) Via.refl f6 d6_7 (q := 10) rfl ?_
  intro T7 X8
  refine g_iconst C X8 d6_10 (q := 11) rfl (z := (1 : Int32)) rfl ?_
  refine g_iadd C X8 d6_11 (q := 12) rfl (z := (i2 + (1 : Int32))) rfl ?_
  have f9 := (P0.wr W4)
  refine g_putF C X8 (host := "") (Or.inl (w26 hw)) Via.refl f6 f9 (Or.inl (w27 hw)) (w2 hw) (ty := .int) (by decide) rfl rfl d6_12 (q := 15) rfl G0 ?_
  intro T10 h12 X11 W13
  have FW13 := Fld.same W13 f6
  have O14 := O5.wr W13 G0
  exact g_retV C X11 d6_15 (by decide) (by decide) ⟨rfl, (((Keep.refl h0 [o0]).wr W4 (Or.inl (List.mem_of_getElem? (i := 0) rfl))).wr W13 (Or.inl (List.mem_of_getElem? (i := 0) rfl))), (f9.wr W13), ((P1.other W4 (Or.inr (slot_ne (Or.inr (w12 hw)) (Or.inl (w19 hw)) (by decide) (t := (.array .double)) (t' := .int) (by decide) (by decide)))).other W13 (Or.inr (slot_ne (Or.inr (w12 hw)) (Or.inl (w27 hw)) (by decide) (t := (.array .double)) (t' := .int) (by decide) (by decide)))), (FW4.other W13 (Or.inr (slot_ne (Or.inl (w19 hw)) (Or.inl (w27 hw)) (by decide) (t := .int) (t' := .int) (by decide) (by decide)))), ((P3.other W4 (Or.inr (slot_ne (Or.inl (w25 hw)) (Or.inl (w19 hw)) (by decide) (t := .int) (t' := .int) (by decide) (by decide)))).other W13 (Or.inr (slot_ne (Or.inl (w25 hw)) (Or.inl (w27 hw)) (by decide) (t := .int) (t' := .int) (by decide) (by decide)))), FW13⟩
set_option maxRecDepth 65536 in
set_option maxHeartbeats 40000000 in
theorem rm_clear_8 {l : Launch} {Z : State} {a0 : Array Value} (hw : ∀ d ∈ tables_1, d.before a0 Z = true) {o0 : Addr} {o1 : Addr} {i2 : Int32} {kc3 : ClassId} {x4 : UInt64} {x5 : UInt64} {x6 : UInt64} {h0 : Heap} {n0 : Nat} (O : Old Z n0 h0)  (P0 : Exa Z h0 o0 "com/example/rondel/rondel/primitive/DoubleRingBuffer") (P1 : Fld Z h0 o0 "com/example/rondel/rondel/primitive/DoubleRingBuffer" "readings" "[D" (.ref o1)) (P2 : Fld Z h0 o0 "com/example/rondel/rondel/primitive/DoubleRingBuffer" "size" "I" (.int (1 : Int32))) (P3 : Fld Z h0 o0 "com/example/rondel/rondel/primitive/DoubleRingBuffer" "head" "I" (.int (0 : Int32))) (P4 : Fld Z h0 o0 "com/example/rondel/rondel/primitive/DoubleRingBuffer" "modCount" "I" (.int i2)) (P5 : Arv Z h0 o1 kc3 .double (3 : Int32) [(.double x4), (.double x5), (.double x6)] (.double 0)) (G0 : n0 ≤ o0) (G1 : n0 ≤ o1) (N0_1 : o0 ≠ o1) :
    Met0 l Z (⟨"com/example/rondel/rondel/primitive/DoubleRingBuffer", "clear", "()V"⟩ : MethodName) prog_11_method_12_code 1 none ({ frames := 0, cells := 0, slots := 0, locals := 0 } : Room) #[(.ref o0)] h0 n0 (fun h => Keep h0 h [o0] ∧ Exa Z h o0 "com/example/rondel/rondel/primitive/DoubleRingBuffer" ∧ Fld Z h o0 "com/example/rondel/rondel/primitive/DoubleRingBuffer" "readings" "[D" (.ref o1) ∧ Fld Z h o0 "com/example/rondel/rondel/primitive/DoubleRingBuffer" "size" "I" (.int (0 : Int32)) ∧ Fld Z h o0 "com/example/rondel/rondel/primitive/DoubleRingBuffer" "head" "I" (.int (0 : Int32)) ∧ Fld Z h o0 "com/example/rondel/rondel/primitive/DoubleRingBuffer" "modCount" "I" (.int (i2 + (1 : Int32)))) := by
  refine met_of (L := #[.val (.ref o0)]) (plainFor_of_name pn_10) (fun m => by first | (simp [entryFrame, mkF, argsToLocals, Value.category]; done) | rfl) ?_
  intro p e s m below meth c T C X
  change Cx p s m meth c Z "com/example/rondel/rondel/primitive/DoubleRingBuffer" prog_11_method_12_code 1 none "clear" at C
  refine g_aloadN C X d6_0 (q := 1) rfl rfl rfl ?_
  refine g_iconst C X d6_1 (q := 2) rfl (z := (0 : Int32)) rfl ?_
  refine g_putF C X (host := "") (Or.inl (w18 hw)) Via.refl P2 P0 (Or.inl (w19 hw)) (w2 hw) (ty := .int) (by decide) rfl rfl d6_2 (q := 5) rfl G0 ?_
  intro T1 h3 X2 W4
  have FW4 := Fld.same W4 P2
  have O5 := O.wr W4 G0
  refine g_aloadN C X2 d6_5 (q := 6) rfl rfl rfl ?_
  refine g_dup C X2 d6_6 (q := 7) rfl rfl ?_
  have f6 := (P4.other W4 (Or.inr (slot_ne (Or.inl (w27 hw)) (Or.inl (w19 hw)) (by decide) (t := .int) (t' := .int) (by decide) (by decide))))
  refine g_getF C X2 (host := "") (Or.inl (w26 hw)) Via.refl f6 d6_7 (q := 10) rfl ?_
  intro T7 X8
  refine g_iconst C X8 d6_10 (q := 11) rfl (z := (1 : Int32)) rfl ?_
  refine g_iadd C X8 d6_11 (q := 12) rfl (z := (i2 + (1 : Int32))) rfl ?_
  have f9 := (P0.wr W4)
  refine g_putF C X8 (host := "") (Or.inl (w26 hw)) Via.refl f6 f9 (Or.inl (w27 hw)) (w2 hw) (ty := .int) (by decide) rfl rfl d6_12 (q := 15) rfl G0 ?_
  intro T10 h12 X11 W13
  have FW13 := Fld.same W13 f6
  have O14 := O5.wr W13 G0
  exact g_retV C X11 d6_15 (by decide) (by decide) ⟨rfl, (((Keep.refl h0 [o0]).wr W4 (Or.inl (List.mem_of_getElem? (i := 0) rfl))).wr W13 (Or.inl (List.mem_of_getElem? (i := 0) rfl))), (f9.wr W13), ((P1.other W4 (Or.inr (slot_ne (Or.inr (w12 hw)) (Or.inl (w19 hw)) (by decide) (t := (.array .double)) (t' := .int) (by decide) (by decide)))).other W13 (Or.inr (slot_ne (Or.inr (w12 hw)) (Or.inl (w27 hw)) (by decide) (t := (.array .double)) (t' := .int) (by decide) (by decide)))), (FW4.other W13 (Or.inr (slot_ne (Or.inl (w19 hw)) (Or.inl (w27 hw)) (by decide) (t := .int) (t' := .int) (by decide) (by decide)))), ((P3.other W4 (Or.inr (slot_ne (Or.inl (w25 hw)) (Or.inl (w19 hw)) (by decide) (t := .int) (t' := .int) (by decide) (by decide)))).other W13 (Or.inr (slot_ne (Or.inl (w25 hw)) (Or.inl (w27 hw)) (by decide) (t := .int) (t' := .int) (by decide) (by decide)))), FW13⟩
set_option maxRecDepth 65536 in
set_option maxHeartbeats 40000000 in
theorem rm_clear_9 {l : Launch} {Z : State} {a0 : Array Value} (hw : ∀ d ∈ tables_1, d.before a0 Z = true) {o0 : Addr} {o1 : Addr} {i2 : Int32} {kc3 : ClassId} {x4 : UInt64} {x5 : UInt64} {x6 : UInt64} {h0 : Heap} {n0 : Nat} (O : Old Z n0 h0)  (P0 : Exa Z h0 o0 "com/example/rondel/rondel/primitive/DoubleRingBuffer") (P1 : Fld Z h0 o0 "com/example/rondel/rondel/primitive/DoubleRingBuffer" "readings" "[D" (.ref o1)) (P2 : Fld Z h0 o0 "com/example/rondel/rondel/primitive/DoubleRingBuffer" "size" "I" (.int (0 : Int32))) (P3 : Fld Z h0 o0 "com/example/rondel/rondel/primitive/DoubleRingBuffer" "head" "I" (.int (0 : Int32))) (P4 : Fld Z h0 o0 "com/example/rondel/rondel/primitive/DoubleRingBuffer" "modCount" "I" (.int i2)) (P5 : Arv Z h0 o1 kc3 .double (3 : Int32) [(.double x4), (.double x5), (.double x6)] (.double 0)) (G0 : n0 ≤ o0) (G1 : n0 ≤ o1) (N0_1 : o0 ≠ o1) :
    Met0 l Z (⟨"com/example/rondel/rondel/primitive/DoubleRingBuffer", "clear", "()V"⟩ : MethodName) prog_11_method_12_code 1 none ({ frames := 0, cells := 0, slots := 0, locals := 0 } : Room) #[(.ref o0)] h0 n0 (fun h => Keep h0 h [o0] ∧ Exa Z h o0 "com/example/rondel/rondel/primitive/DoubleRingBuffer" ∧ Fld Z h o0 "com/example/rondel/rondel/primitive/DoubleRingBuffer" "readings" "[D" (.ref o1) ∧ Fld Z h o0 "com/example/rondel/rondel/primitive/DoubleRingBuffer" "size" "I" (.int (0 : Int32)) ∧ Fld Z h o0 "com/example/rondel/rondel/primitive/DoubleRingBuffer" "head" "I" (.int (0 : Int32)) ∧ Fld Z h o0 "com/example/rondel/rondel/primitive/DoubleRingBuffer" "modCount" "I" (.int (i2 + (1 : Int32)))) := by
  refine met_of (L := #[.val (.ref o0)]) (plainFor_of_name pn_10) (fun m => by first | (simp [entryFrame, mkF, argsToLocals, Value.category]; done) | rfl) ?_
  intro p e s m below meth c T C X
  change Cx p s m meth c Z "com/example/rondel/rondel/primitive/DoubleRingBuffer" prog_11_method_12_code 1 none "clear" at C
  refine g_aloadN C X d6_0 (q := 1) rfl rfl rfl ?_
  refine g_iconst C X d6_1 (q := 2) rfl (z := (0 : Int32)) rfl ?_
  refine g_putF C X (host := "") (Or.inl (w18 hw)) Via.refl P2 P0 (Or.inl (w19 hw)) (w2 hw) (ty := .int) (by decide) rfl rfl d6_2 (q := 5) rfl G0 ?_
  intro T1 h3 X2 W4
  have FW4 := Fld.same W4 P2
  have O5 := O.wr W4 G0
  refine g_aloadN C X2 d6_5 (q := 6) rfl rfl rfl ?_
  refine g_dup C X2 d6_6 (q := 7) rfl rfl ?_
  have f6 := (P4.other W4 (Or.inr (slot_ne (Or.inl (w27 hw)) (Or.inl (w19 hw)) (by decide) (t := .int) (t' := .int) (by decide) (by decide))))
  refine g_getF C X2 (host := "") (Or.inl (w26 hw)) Via.refl f6 d6_7 (q := 10) rfl ?_
  intro T7 X8
  refine g_iconst C X8 d6_10 (q := 11) rfl (z := (1 : Int32)) rfl ?_
  refine g_iadd C X8 d6_11 (q := 12) rfl (z := (i2 + (1 : Int32))) rfl ?_
  have f9 := (P0.wr W4)
  refine g_putF C X8 (host := "") (Or.inl (w26 hw)) Via.refl f6 f9 (Or.inl (w27 hw)) (w2 hw) (ty := .int) (by decide) rfl rfl d6_12 (q := 15) rfl G0 ?_
  intro T10 h12 X11 W13
  have FW13 := Fld.same W13 f6
  have O14 := O5.wr W13 G0
  exact g_retV C X11 d6_15 (by decide) (by decide) ⟨rfl, (((Keep.refl h0 [o0]).wr W4 (Or.inl (List.mem_of_getElem? (i := 0) rfl))).wr W13 (Or.inl (List.mem_of_getElem? (i := 0) rfl))), (f9.wr W13), ((P1.other W4 (Or.inr (slot_ne (Or.inr (w12 hw)) (Or.inl (w19 hw)) (by decide) (t := (.array .double)) (t' := .int) (by decide) (by decide)))).other W13 (Or.inr (slot_ne (Or.inr (w12 hw)) (Or.inl (w27 hw)) (by decide) (t := (.array .double)) (t' := .int) (by decide) (by decide)))), (FW4.other W13 (Or.inr (slot_ne (Or.inl (w19 hw)) (Or.inl (w27 hw)) (by decide) (t := .int) (t' := .int) (by decide) (by decide)))), ((P3.other W4 (Or.inr (slot_ne (Or.inl (w25 hw)) (Or.inl (w19 hw)) (by decide) (t := .int) (t' := .int) (by decide) (by decide)))).other W13 (Or.inr (slot_ne (Or.inl (w25 hw)) (Or.inl (w27 hw)) (by decide) (t := .int) (t' := .int) (by decide) (by decide)))), FW13⟩
set_option maxRecDepth 65536 in
set_option maxHeartbeats 40000000 in
theorem rmLaw {l : Launch} {Z : State} {a0 : Array Value} (hw : ∀ d ∈ tables_1, d.before a0 Z = true) {p0 p1 p2 p3 p4 : Int32} {h0 : Heap} {n0 : Nat} (O : Old Z n0 h0)  :
    Met1 l Z x code maxLocals ret room_1 #[(.int p0), (.int p1), (.int p2), (.int p3), (.int p4)] h0 n0 (fun v h => v = .int 1 ∧ True) := by
  refine met_of (L := #[.val (.int p0), .val (.int p1), .val (.int p2), .val (.int p3), .val (.int p4), .unset, .unset, .unset, .unset, .unset, .unset, .unset, .unset, .unset, .unset, .unset, .unset, .unset]) (plainFor_of_name pn_126) (fun m => by first | (simp [entryFrame, mkF, argsToLocals, Value.category, maxLocals]; done) | rfl) ?_
  intro p e s m below meth c T C X
  change Cx p s m meth c Z "com/example/rondel/rondel/primitive/DoubleRingBufferClearPinLaw" code 18 (some .boolean) "law" at C
  change Goes p e below (FinN _ s n0 16 128) _
  rcases own_m3 p0 with hk | hk | hk
  · refine g_iloadN C X at_0 (q := 1) rfl rfl ?_
    refine g_ldcI C X (w0 hw) at_1 (q := 3) rfl ?_
    refine g_iand C X at_3 (q := 4) rfl (z := (p0 &&& (2147483647 : Int32))) rfl ?_
    refine g_iconst C X at_4 (q := 5) rfl (z := (3 : Int32)) rfl ?_
    refine g_irem C X at_5 (q := 6) rfl (by decide) (z := (0 : Int32)) hk ?_
    refine g_iconst C X at_6 (q := 7) rfl (z := (1 : Int32)) rfl ?_
    refine g_iadd C X at_7 (q := 8) rfl (z := (1 : Int32)) (by decide) ?_
    refine g_istore C X at_8 (q := 10) rfl (L' := #[.val (.int p0), .val (.int p1), .val (.int p2), .val (.int p3), .val (.int p4), .val (.int (1 : Int32)), .unset, .unset, .unset, .unset, .unset, .unset, .unset, .unset, .unset, .unset, .unset, .unset]) rfl ?_
    refine g_iloadN C X at_10 (q := 11) rfl rfl ?_
    refine g_iconst C X at_11 (q := 12) rfl (z := (3 : Int32)) rfl ?_
    obtain ⟨v1, ev1⟩ : ∃ z, (p1 &&& (3 : Int32)) = z := ⟨_, rfl⟩
    have hl2 : 0 ≤ v1.toInt := by rw [← ev1]; exact (c_and p1 (3 : Int32) (by decide)).1
    have hh3 : v1.toInt ≤ 3 := by rw [← ev1]; exact (c_and p1 (3 : Int32) (by decide)).2
    refine g_iand C X at_12 (q := 13) rfl (z := v1) ev1 ?_
    refine g_istore C X at_13 (q := 15) rfl (L' := #[.val (.int p0), .val (.int p1), .val (.int p2), .val (.int p3), .val (.int p4), .val (.int (1 : Int32)), .val (.int v1), .unset, .unset, .unset, .unset, .unset, .unset, .unset, .unset, .unset, .unset, .unset]) rfl ?_
    refine g_new C X (w1 hw) (w2 hw) (w3 hw) at_15 (q := 18) rfl (k' := 1) rfl (n' := 4) rfl (by decide) (by decide) ?_
    intro T5 h6 b4 g8 X7 E9 A10 D11
    have ge12 : n0 ≤ b4 := own_ge O g8
    have O13 := O.ext E9
    have f14 : Fld Z h6 b4 "com/example/rondel/rondel/primitive/DoubleRingBuffer" "readings" "[D" .null := D11 (Or.inr (w12 hw)) (ty := (.array .double)) (by decide)
    have f15 : Fld Z h6 b4 "com/example/rondel/rondel/primitive/DoubleRingBuffer" "size" "I" (.int (0 : Int32)) := D11 (Or.inl (w19 hw)) (ty := .int) (by decide)
    have f16 : Fld Z h6 b4 "com/example/rondel/rondel/primitive/DoubleRingBuffer" "head" "I" (.int (0 : Int32)) := D11 (Or.inl (w25 hw)) (ty := .int) (by decide)
    have f17 : Fld Z h6 b4 "com/example/rondel/rondel/primitive/DoubleRingBuffer" "modCount" "I" (.int (0 : Int32)) := D11 (Or.inl (w27 hw)) (ty := .int) (by decide)
    refine g_dup C X7 at_18 (q := 19) rfl rfl ?_
    refine g_iload C X7 at_19 (q := 21) rfl rfl ?_
    refine g_callI0 C X7 (y := (⟨"com/example/rondel/rondel/primitive/DoubleRingBuffer", "<init>", "(I)V"⟩ : MethodName)) (a := b4) (by decide) rfl (w4 hw) (w5 hw) (w6 hw) (w3 hw) (rm_init_0 hw (o0 := b4) (i1 := (0 : Int32)) O13 A10 f14 f15 f16 f17 ge12) (W := 1) (by decide) (by decide) (k' := 2) rfl (n' := 5) rfl (by decide) (by decide) rfl pd_11 (argsL := [(.int (1 : Int32))]) rfl (rest := [(.ref b4)]) rfl rfl rfl at_21 (q := 24) rfl ?_
    rintro T18 h20 X19 ⟨b22, kA25, K21, ge23, sz24, f26, f27, f28, f29, f30, f31⟩
    have O32 := O13.keep K21 (allS ge12 all0)
    refine g_astore C X19 at_24 (q := 26) rfl rfl (L' := #[.val (.int p0), .val (.int p1), .val (.int p2), .val (.int p3), .val (.int p4), .val (.int (1 : Int32)), .val (.int v1), .val (.ref b4), .unset, .unset, .unset, .unset, .unset, .unset, .unset, .unset, .unset, .unset]) rfl ?_
    refine g_iloadN C X19 at_26 (q := 27) rfl rfl ?_
    obtain ⟨x33, ex33⟩ : ∃ z, (FP.i2d p2) = z := ⟨_, rfl⟩
    refine g_i2d C X19 at_27 (q := 28) rfl (z := x33) ex33 ?_
    refine g_dstore C X19 at_28 (q := 30) rfl (L' := #[.val (.int p0), .val (.int p1), .val (.int p2), .val (.int p3), .val (.int p4), .val (.int (1 : Int32)), .val (.int v1), .val (.ref b4), .val (.double x33), .second, .unset, .unset, .unset, .unset, .unset, .unset, .unset, .unset]) rfl ?_
    refine g_iload C X19 at_30 (q := 32) rfl rfl ?_
    by_cases hc34 : (0 : Int32) < v1
    · refine g_ifN C X19 at_32 (q := 35) rfl (tlt hc34).2.2.2 ?_
      have hr35 : 1 ≤ v1.toInt := own_f3 hc34 (by decide)
      refine g_aload C X19 at_35 (q := 37) rfl rfl rfl ?_
      refine g_dload C X19 at_37 (q := 39) rfl rfl ?_
      refine g_callV0 C X19 (y := (⟨"com/example/rondel/rondel/primitive/DoubleRingBuffer", "add", "(D)V"⟩ : MethodName)) (z := (⟨"com/example/rondel/rondel/primitive/DoubleRingBuffer", "add", "(D)V"⟩ : MethodName)) (a := b4) (by decide) (w13 hw) (w14 hw) (w16 hw) (w15 hw) (nf_sel (w16 hw)) f26 (w17 hw) (w3 hw) (rm_add_0 hw (o0 := b4) (o1 := b22) (i2 := (0 : Int32)) (kc3 := kA25) (x4 := 0) (x5 := x33) O32 f26 f27 f28 f29 f30 f31 ge12 ge23 (Nat.ne_of_lt (Nat.lt_of_lt_of_le A10.lt sz24))) (W := 0) (by decide) (by decide) (k' := 2) rfl (n' := 5) rfl (by decide) (by decide) rfl pd_56 (argsL := [(.double x33)]) rfl (rest := []) rfl rfl rfl at_39 (q := 42) rfl ?_
      rintro T36 h38 X37 ⟨K39, f40, f41, f42, f43, f44, f45⟩
      have O46 := O32.keep K39 (allS ge23 (allS ge12 all0))
      refine g_iload C X37 at_42 (q := 44) rfl rfl ?_
      refine g_iconst C X37 at_44 (q := 45) rfl (z := (1 : Int32)) rfl ?_
      by_cases hc47 : (1 : Int32) < v1
      · refine g_icN C X37 at_45 (q := 48) rfl (tlt hc47).2.2.2 ?_
        have hr48 : 2 ≤ v1.toInt := own_f3 hc47 (by decide)
        refine g_aload C X37 at_48 (q := 50) rfl rfl rfl ?_
        refine g_dload C X37 at_50 (q := 52) rfl rfl ?_
        refine g_callV0 C X37 (y := (⟨"com/example/rondel/rondel/primitive/DoubleRingBuffer", "add", "(D)V"⟩ : MethodName)) (z := (⟨"com/example/rondel/rondel/primitive/DoubleRingBuffer", "add", "(D)V"⟩ : MethodName)) (a := b4) (by decide) (w13 hw) (w14 hw) (w16 hw) (w15 hw) (nf_sel (w16 hw)) f40 (w17 hw) (w3 hw) (rm_add_1 hw (o0 := b4) (o1 := b22) (i2 := ((0 : Int32) + (1 : Int32))) (kc3 := kA25) (x4 := x33) (x5 := x33) O46 f40 f41 f42 f43 f44 f45 ge12 ge23 (Nat.ne_of_lt (Nat.lt_of_lt_of_le A10.lt sz24))) (W := 0) (by decide) (by decide) (k' := 2) rfl (n' := 5) rfl (by decide) (by decide) rfl pd_56 (argsL := [(.double x33)]) rfl (rest := []) rfl rfl rfl at_52 (q := 55) rfl ?_
        rintro T49 h51 X50 ⟨K52, f53, f54, f55, f56, f57, f58⟩
        have O59 := O46.keep K52 (allS ge23 (allS ge12 all0))
        refine g_iload C X50 at_55 (q := 57) rfl rfl ?_
        refine g_iconst C X50 at_57 (q := 58) rfl (z := (2 : Int32)) rfl ?_
        by_cases hc60 : (2 : Int32) < v1
        · refine g_icN C X50 at_58 (q := 61) rfl (tlt hc60).2.2.2 ?_
          have hr61 : 3 ≤ v1.toInt := own_f3 hc60 (by decide)
          obtain rfl : v1 = (3 : Int32) := own_f0 hr61 hh3 (by decide)
          refine g_aload C X50 at_61 (q := 63) rfl rfl rfl ?_
          refine g_dload C X50 at_63 (q := 65) rfl rfl ?_
          refine g_callV0 C X50 (y := (⟨"com/example/rondel/rondel/primitive/DoubleRingBuffer", "add", "(D)V"⟩ : MethodName)) (z := (⟨"com/example/rondel/rondel/primitive/DoubleRingBuffer", "add", "(D)V"⟩ : MethodName)) (a := b4) (by decide) (w13 hw) (w14 hw) (w16 hw) (w15 hw) (nf_sel (w16 hw)) f53 (w17 hw) (w3 hw) (rm_add_1 hw (o0 := b4) (o1 := b22) (i2 := (((0 : Int32) + (1 : Int32)) + (1 : Int32))) (kc3 := kA25) (x4 := x33) (x5 := x33) O59 f53 f54 f55 f56 f57 f58 ge12 ge23 (Nat.ne_of_lt (Nat.lt_of_lt_of_le A10.lt sz24))) (W := 0) (by decide) (by decide) (k' := 2) rfl (n' := 5) rfl (by decide) (by decide) rfl pd_56 (argsL := [(.double x33)]) rfl (rest := []) rfl rfl rfl at_65 (q := 68) rfl ?_
          rintro T62 h64 X63 ⟨K65, f66, f67, f68, f69, f70, f71⟩
          have O72 := O59.keep K65 (allS ge23 (allS ge12 all0))
          refine g_aload C X63 at_68 (q := 70) rfl rfl rfl ?_
          refine g_callV0 C X63 (y := (⟨"com/example/rondel/rondel/primitive/DoubleRingBuffer", "clear", "()V"⟩ : MethodName)) (z := (⟨"com/example/rondel/rondel/primitive/DoubleRingBuffer", "clear", "()V"⟩ : MethodName)) (a := b4) (by decide) (w32 hw) (w33 hw) (w35 hw) (w34 hw) (nf_sel (w35 hw)) f66 (w36 hw) (w3 hw) (rm_clear_0 hw (o0 := b4) (o1 := b22) (i2 := ((((0 : Int32) + (1 : Int32)) + (1 : Int32)) + (1 : Int32))) (kc3 := kA25) (x4 := x33) O72 f66 f67 f68 f69 f70 f71 ge12 ge23 (Nat.ne_of_lt (Nat.lt_of_lt_of_le A10.lt sz24))) (W := 0) (by decide) (by decide) (k' := 2) rfl (n' := 5) rfl (by decide) (by decide) rfl pd_90 (argsL := []) rfl (rest := []) rfl rfl rfl at_70 (q := 73) rfl ?_
          rintro T73 h75 X74 ⟨K76, f77, f78, f79, f80, f81⟩
          have O82 := O72.keep K76 (allS ge12 all0)
          refine g_aload C X74 at_73 (q := 75) rfl rfl rfl ?_
          have f83 := (f71.keep K76 (ninS (Ne.symm (Nat.ne_of_lt (Nat.lt_of_lt_of_le A10.lt sz24))) nin0))
          refine g_callV1 C X74 (y := (⟨"com/example/rondel/rondel/primitive/DoubleRingBuffer", "size", "()I"⟩ : MethodName)) (z := (⟨"com/example/rondel/rondel/primitive/DoubleRingBuffer", "size", "()I"⟩ : MethodName)) (a := b4) (by decide) (w37 hw) (w38 hw) (w40 hw) (w39 hw) (nf_sel (w40 hw)) f77 (w41 hw) (w3 hw) (rm_size_0 hw (o0 := b4) (o1 := b22) (i2 := (((((0 : Int32) + (1 : Int32)) + (1 : Int32)) + (1 : Int32)) + (1 : Int32))) (kc3 := kA25) (x4 := x33) O82 f77 f78 f79 f80 f81 f83 ge12 ge23 (Nat.ne_of_lt (Nat.lt_of_lt_of_le A10.lt sz24))) (W := 0) (by decide) (by decide) (k' := 2) rfl (n' := 5) rfl (by decide) (by decide) rfl pd_94 (argsL := []) rfl (rest := []) rfl rfl rfl at_75 (q := 78) rfl ?_
          rintro _ T84 _ X85 ⟨rfl, rfl⟩
          refine g_ifN C X85 at_78 (q := 81) rfl (by decide) ?_
          refine g_iconst C X85 at_81 (q := 82) rfl (z := (1 : Int32)) rfl ?_
          refine g_goto C X85 at_82 (by decide) (q := 86) (by decide) ?_
          refine g_istore C X85 at_86 (q := 88) rfl (L' := #[.val (.int p0), .val (.int p1), .val (.int p2), .val (.int p3), .val (.int p4), .val (.int (1 : Int32)), .val (.int (3 : Int32)), .val (.ref b4), .val (.double x33), .second, .val (.int (1 : Int32)), .unset, .unset, .unset, .unset, .unset, .unset, .unset]) rfl ?_
          refine g_iloadN C X85 at_88 (q := 89) rfl rfl ?_
          obtain ⟨x86, ex86⟩ : ∃ z, (FP.i2d p3) = z := ⟨_, rfl⟩
          refine g_i2d C X85 at_89 (q := 90) rfl (z := x86) ex86 ?_
          refine g_dstore C X85 at_90 (q := 92) rfl (L' := #[.val (.int p0), .val (.int p1), .val (.int p2), .val (.int p3), .val (.int p4), .val (.int (1 : Int32)), .val (.int (3 : Int32)), .val (.ref b4), .val (.double x33), .second, .val (.int (1 : Int32)), .val (.double x86), .second, .unset, .unset, .unset, .unset, .unset]) rfl ?_
          refine g_iload C X85 at_92 (q := 94) rfl rfl ?_
          obtain ⟨x87, ex87⟩ : ∃ z, (FP.i2d p4) = z := ⟨_, rfl⟩
          refine g_i2d C X85 at_94 (q := 95) rfl (z := x87) ex87 ?_
          refine g_dstore C X85 at_95 (q := 97) rfl (L' := #[.val (.int p0), .val (.int p1), .val (.int p2), .val (.int p3), .val (.int p4), .val (.int (1 : Int32)), .val (.int (3 : Int32)), .val (.ref b4), .val (.double x33), .second, .val (.int (1 : Int32)), .val (.double x86), .second, .val (.double x87), .second, .unset, .unset, .unset]) rfl ?_
          refine g_aload C X85 at_97 (q := 99) rfl rfl rfl ?_
          refine g_dload C X85 at_99 (q := 101) rfl rfl ?_
          refine g_callV0 C X85 (y := (⟨"com/example/rondel/rondel/primitive/DoubleRingBuffer", "add", "(D)V"⟩ : MethodName)) (z := (⟨"com/example/rondel/rondel/primitive/DoubleRingBuffer", "add", "(D)V"⟩ : MethodName)) (a := b4) (by decide) (w13 hw) (w14 hw) (w16 hw) (w15 hw) (nf_sel (w16 hw)) f77 (w17 hw) (w3 hw) (rm_add_0 hw (o0 := b4) (o1 := b22) (i2 := (((((0 : Int32) + (1 : Int32)) + (1 : Int32)) + (1 : Int32)) + (1 : Int32))) (kc3 := kA25) (x4 := x33) (x5 := x86) O82 f77 f78 f79 f80 f81 f83 ge12 ge23 (Nat.ne_of_lt (Nat.lt_of_lt_of_le A10.lt sz24))) (W := 0) (by decide) (by decide) (k' := 2) rfl (n' := 5) rfl (by decide) (by decide) rfl pd_56 (argsL := [(.double x86)]) rfl (rest := []) rfl rfl rfl at_101 (q := 104) rfl ?_
          rintro T88 h90 X89 ⟨K91, f92, f93, f94, f95, f96, f97⟩
          have O98 := O82.keep K91 (allS ge23 (allS ge12 all0))
          refine g_aload C X89 at_104 (q := 106) rfl rfl rfl ?_
          refine g_dload C X89 at_106 (q := 108) rfl rfl ?_
          refine g_callV0 C X89 (y := (⟨"com/example/rondel/rondel/primitive/DoubleRingBuffer", "add", "(D)V"⟩ : MethodName)) (z := (⟨"com/example/rondel/rondel/primitive/DoubleRingBuffer", "add", "(D)V"⟩ : MethodName)) (a := b4) (by decide) (w13 hw) (w14 hw) (w16 hw) (w15 hw) (nf_sel (w16 hw)) f92 (w17 hw) (w3 hw) (rm_add_1 hw (o0 := b4) (o1 := b22) (i2 := ((((((0 : Int32) + (1 : Int32)) + (1 : Int32)) + (1 : Int32)) + (1 : Int32)) + (1 : Int32))) (kc3 := kA25) (x4 := x86) (x5 := x87) O98 f92 f93 f94 f95 f96 f97 ge12 ge23 (Nat.ne_of_lt (Nat.lt_of_lt_of_le A10.lt sz24))) (W := 0) (by decide) (by decide) (k' := 2) rfl (n' := 5) rfl (by decide) (by decide) rfl pd_56 (argsL := [(.double x87)]) rfl (rest := []) rfl rfl rfl at_108 (q := 111) rfl ?_
          rintro T99 h101 X100 ⟨K102, f103, f104, f105, f106, f107, f108⟩
          have O109 := O98.keep K102 (allS ge23 (allS ge12 all0))
          refine g_iload C X100 at_111 (q := 113) rfl rfl ?_
          refine g_iconst C X100 at_113 (q := 114) rfl (z := (1 : Int32)) rfl ?_
          refine g_icN C X100 at_114 (q := 117) rfl (by decide) ?_
          refine g_dload C X100 at_117 (q := 119) rfl rfl ?_
          refine g_goto C X100 at_119 (by decide) (q := 124) (by decide) ?_
          refine g_dstore C X100 at_124 (q := 126) rfl (L' := #[.val (.int p0), .val (.int p1), .val (.int p2), .val (.int p3), .val (.int p4), .val (.int (1 : Int32)), .val (.int (3 : Int32)), .val (.ref b4), .val (.double x33), .second, .val (.int (1 : Int32)), .val (.double x86), .second, .val (.double x87), .second, .val (.double x87), .second, .unset]) rfl ?_
          refine g_iload C X100 at_126 (q := 128) rfl rfl ?_
          refine g_iconst C X100 at_128 (q := 129) rfl (z := (1 : Int32)) rfl ?_
          refine g_icN C X100 at_129 (q := 132) rfl (by decide) ?_
          refine g_iconst C X100 at_132 (q := 133) rfl (z := (1 : Int32)) rfl ?_
          refine g_goto C X100 at_133 (by decide) (q := 137) (by decide) ?_
          refine g_istore C X100 at_137 (q := 139) rfl (L' := #[.val (.int p0), .val (.int p1), .val (.int p2), .val (.int p3), .val (.int p4), .val (.int (1 : Int32)), .val (.int (3 : Int32)), .val (.ref b4), .val (.double x33), .second, .val (.int (1 : Int32)), .val (.double x86), .second, .val (.double x87), .second, .val (.double x87), .second, .val (.int (1 : Int32))]) rfl ?_
          refine g_iload C X100 at_139 (q := 141) rfl rfl ?_
          refine g_ifN C X100 at_141 (q := 144) rfl (by decide) ?_
          refine g_aload C X100 at_144 (q := 146) rfl rfl rfl ?_
          refine g_callV1 C X100 (y := (⟨"com/example/rondel/rondel/primitive/DoubleRingBuffer", "getFirst", "()D"⟩ : MethodName)) (z := (⟨"com/example/rondel/rondel/primitive/DoubleRingBuffer", "getFirst", "()D"⟩ : MethodName)) (a := b4) (by decide) (w42 hw) (w43 hw) (w45 hw) (w44 hw) (nf_sel (w45 hw)) f103 (w46 hw) (w3 hw) (rm_getFirst_0 hw (o0 := b4) (o1 := b22) (i2 := (((((((0 : Int32) + (1 : Int32)) + (1 : Int32)) + (1 : Int32)) + (1 : Int32)) + (1 : Int32)) + (1 : Int32))) (kc3 := kA25) (x4 := x87) O109 f103 f104 f105 f106 f107 f108 ge12 ge23 (Nat.ne_of_lt (Nat.lt_of_lt_of_le A10.lt sz24))) (W := 0) (by decide) (by decide) (k' := 2) rfl (n' := 5) rfl (by decide) (by decide) rfl pd_107 (argsL := []) rfl (rest := []) rfl rfl rfl at_146 (q := 149) rfl ?_
          rintro _ T110 _ X111 ⟨rfl, rfl⟩
          refine g_dload C X111 at_149 (q := 151) rfl rfl ?_
          refine g_dcmp C X111 at_151 (q := 152) rfl (z := 0) (dcmpV_self (own_nn ex87) _) ?_
          refine g_ifN C X111 at_152 (q := 155) rfl (by decide) ?_
          refine g_aload C X111 at_155 (q := 157) rfl rfl rfl ?_
          refine g_callV1 C X111 (y := (⟨"com/example/rondel/rondel/primitive/DoubleRingBuffer", "getLast", "()D"⟩ : MethodName)) (z := (⟨"com/example/rondel/rondel/primitive/DoubleRingBuffer", "getLast", "()D"⟩ : MethodName)) (a := b4) (by decide) (w51 hw) (w52 hw) (w54 hw) (w53 hw) (nf_sel (w54 hw)) f103 (w55 hw) (w3 hw) (rm_getLast_0 hw (o0 := b4) (o1 := b22) (i2 := (((((((0 : Int32) + (1 : Int32)) + (1 : Int32)) + (1 : Int32)) + (1 : Int32)) + (1 : Int32)) + (1 : Int32))) (kc3 := kA25) (x4 := x87) O109 f103 f104 f105 f106 f107 f108 ge12 ge23 (Nat.ne_of_lt (Nat.lt_of_lt_of_le A10.lt sz24))) (W := 0) (by decide) (by decide) (k' := 2) rfl (n' := 5) rfl (by decide) (by decide) rfl pd_107 (argsL := []) rfl (rest := []) rfl rfl rfl at_157 (q := 160) rfl ?_
          rintro _ T112 _ X113 ⟨rfl, rfl⟩
          refine g_dload C X113 at_160 (q := 162) rfl rfl ?_
          refine g_dcmp C X113 at_162 (q := 163) rfl (z := 0) (dcmpV_self (own_nn ex87) _) ?_
          refine g_ifN C X113 at_163 (q := 166) rfl (by decide) ?_
          refine g_aload C X113 at_166 (q := 168) rfl rfl rfl ?_
          refine g_callV1 C X113 (y := (⟨"com/example/rondel/rondel/primitive/DoubleRingBuffer", "size", "()I"⟩ : MethodName)) (z := (⟨"com/example/rondel/rondel/primitive/DoubleRingBuffer", "size", "()I"⟩ : MethodName)) (a := b4) (by decide) (w37 hw) (w38 hw) (w40 hw) (w39 hw) (nf_sel (w40 hw)) f103 (w41 hw) (w3 hw) (rm_size_1 hw (o0 := b4) (o1 := b22) (i2 := (((((((0 : Int32) + (1 : Int32)) + (1 : Int32)) + (1 : Int32)) + (1 : Int32)) + (1 : Int32)) + (1 : Int32))) (kc3 := kA25) (x4 := x87) O109 f103 f104 f105 f106 f107 f108 ge12 ge23 (Nat.ne_of_lt (Nat.lt_of_lt_of_le A10.lt sz24))) (W := 0) (by decide) (by decide) (k' := 2) rfl (n' := 5) rfl (by decide) (by decide) rfl pd_94 (argsL := []) rfl (rest := []) rfl rfl rfl at_168 (q := 171) rfl ?_
          rintro _ T114 _ X115 ⟨rfl, rfl⟩
          refine g_iload C X115 at_171 (q := 173) rfl rfl ?_
          refine g_icN C X115 at_173 (q := 176) rfl (by decide) ?_
          refine g_iconst C X115 at_176 (q := 177) rfl (z := (1 : Int32)) rfl ?_
          refine g_goto C X115 at_177 (by decide) (q := 181) (by decide) ?_
          exact g_retN C X115 (Or.inl rfl) (z' := 1) (by decide) at_181 (by decide) (by decide) ⟨_, rfl, rfl, trivial⟩
        · refine g_icY C X50 at_58 (by decide) (q := 68) (by decide) (flt hc60).2.2.2 ?_
          have hr116 : v1.toInt ≤ 2 := own_f4 hc60 (by decide)
          obtain rfl : v1 = (2 : Int32) := own_f0 hr48 hr116 (by decide)
          refine g_aload C X50 at_68 (q := 70) rfl rfl rfl ?_
          refine g_callV0 C X50 (y := (⟨"com/example/rondel/rondel/primitive/DoubleRingBuffer", "clear", "()V"⟩ : MethodName)) (z := (⟨"com/example/rondel/rondel/primitive/DoubleRingBuffer", "clear", "()V"⟩ : MethodName)) (a := b4) (by decide) (w32 hw) (w33 hw) (w35 hw) (w34 hw) (nf_sel (w35 hw)) f53 (w36 hw) (w3 hw) (rm_clear_0 hw (o0 := b4) (o1 := b22) (i2 := (((0 : Int32) + (1 : Int32)) + (1 : Int32))) (kc3 := kA25) (x4 := x33) O59 f53 f54 f55 f56 f57 f58 ge12 ge23 (Nat.ne_of_lt (Nat.lt_of_lt_of_le A10.lt sz24))) (W := 0) (by decide) (by decide) (k' := 2) rfl (n' := 5) rfl (by decide) (by decide) rfl pd_90 (argsL := []) rfl (rest := []) rfl rfl rfl at_70 (q := 73) rfl ?_
          rintro T117 h119 X118 ⟨K120, f121, f122, f123, f124, f125⟩
          have O126 := O59.keep K120 (allS ge12 all0)
          refine g_aload C X118 at_73 (q := 75) rfl rfl rfl ?_
          have f127 := (f58.keep K120 (ninS (Ne.symm (Nat.ne_of_lt (Nat.lt_of_lt_of_le A10.lt sz24))) nin0))
          refine g_callV1 C X118 (y := (⟨"com/example/rondel/rondel/primitive/DoubleRingBuffer", "size", "()I"⟩ : MethodName)) (z := (⟨"com/example/rondel/rondel/primitive/DoubleRingBuffer", "size", "()I"⟩ : MethodName)) (a := b4) (by decide) (w37 hw) (w38 hw) (w40 hw) (w39 hw) (nf_sel (w40 hw)) f121 (w41 hw) (w3 hw) (rm_size_0 hw (o0 := b4) (o1 := b22) (i2 := ((((0 : Int32) + (1 : Int32)) + (1 : Int32)) + (1 : Int32))) (kc3 := kA25) (x4 := x33) O126 f121 f122 f123 f124 f125 f127 ge12 ge23 (Nat.ne_of_lt (Nat.lt_of_lt_of_le A10.lt sz24))) (W := 0) (by decide) (by decide) (k' := 2) rfl (n' := 5) rfl (by decide) (by decide) rfl pd_94 (argsL := []) rfl (rest := []) rfl rfl rfl at_75 (q := 78) rfl ?_
          rintro _ T128 _ X129 ⟨rfl, rfl⟩
          refine g_ifN C X129 at_78 (q := 81) rfl (by decide) ?_
          refine g_iconst C X129 at_81 (q := 82) rfl (z := (1 : Int32)) rfl ?_
          refine g_goto C X129 at_82 (by decide) (q := 86) (by decide) ?_
          refine g_istore C X129 at_86 (q := 88) rfl (L' := #[.val (.int p0), .val (.int p1), .val (.int p2), .val (.int p3), .val (.int p4), .val (.int (1 : Int32)), .val (.int (2 : Int32)), .val (.ref b4), .val (.double x33), .second, .val (.int (1 : Int32)), .unset, .unset, .unset, .unset, .unset, .unset, .unset]) rfl ?_
          refine g_iloadN C X129 at_88 (q := 89) rfl rfl ?_
          obtain ⟨x130, ex130⟩ : ∃ z, (FP.i2d p3) = z := ⟨_, rfl⟩
          refine g_i2d C X129 at_89 (q := 90) rfl (z := x130) ex130 ?_
          refine g_dstore C X129 at_90 (q := 92) rfl (L' := #[.val (.int p0), .val (.int p1), .val (.int p2), .val (.int p3), .val (.int p4), .val (.int (1 : Int32)), .val (.int (2 : Int32)), .val (.ref b4), .val (.double x33), .second, .val (.int (1 : Int32)), .val (.double x130), .second, .unset, .unset, .unset, .unset, .unset]) rfl ?_
          refine g_iload C X129 at_92 (q := 94) rfl rfl ?_
          obtain ⟨x131, ex131⟩ : ∃ z, (FP.i2d p4) = z := ⟨_, rfl⟩
          refine g_i2d C X129 at_94 (q := 95) rfl (z := x131) ex131 ?_
          refine g_dstore C X129 at_95 (q := 97) rfl (L' := #[.val (.int p0), .val (.int p1), .val (.int p2), .val (.int p3), .val (.int p4), .val (.int (1 : Int32)), .val (.int (2 : Int32)), .val (.ref b4), .val (.double x33), .second, .val (.int (1 : Int32)), .val (.double x130), .second, .val (.double x131), .second, .unset, .unset, .unset]) rfl ?_
          refine g_aload C X129 at_97 (q := 99) rfl rfl rfl ?_
          refine g_dload C X129 at_99 (q := 101) rfl rfl ?_
          refine g_callV0 C X129 (y := (⟨"com/example/rondel/rondel/primitive/DoubleRingBuffer", "add", "(D)V"⟩ : MethodName)) (z := (⟨"com/example/rondel/rondel/primitive/DoubleRingBuffer", "add", "(D)V"⟩ : MethodName)) (a := b4) (by decide) (w13 hw) (w14 hw) (w16 hw) (w15 hw) (nf_sel (w16 hw)) f121 (w17 hw) (w3 hw) (rm_add_0 hw (o0 := b4) (o1 := b22) (i2 := ((((0 : Int32) + (1 : Int32)) + (1 : Int32)) + (1 : Int32))) (kc3 := kA25) (x4 := x33) (x5 := x130) O126 f121 f122 f123 f124 f125 f127 ge12 ge23 (Nat.ne_of_lt (Nat.lt_of_lt_of_le A10.lt sz24))) (W := 0) (by decide) (by decide) (k' := 2) rfl (n' := 5) rfl (by decide) (by decide) rfl pd_56 (argsL := [(.double x130)]) rfl (rest := []) rfl rfl rfl at_101 (q := 104) rfl ?_
          rintro T132 h134 X133 ⟨K135, f136, f137, f138, f139, f140, f141⟩
          have O142 := O126.keep K135 (allS ge23 (allS ge12 all0))
          refine g_aload C X133 at_104 (q := 106) rfl rfl rfl ?_
          refine g_dload C X133 at_106 (q := 108) rfl rfl ?_
          refine g_callV0 C X133 (y := (⟨"com/example/rondel/rondel/primitive/DoubleRingBuffer", "add", "(D)V"⟩ : MethodName)) (z := (⟨"com/example/rondel/rondel/primitive/DoubleRingBuffer", "add", "(D)V"⟩ : MethodName)) (a := b4) (by decide) (w13 hw) (w14 hw) (w16 hw) (w15 hw) (nf_sel (w16 hw)) f136 (w17 hw) (w3 hw) (rm_add_1 hw (o0 := b4) (o1 := b22) (i2 := (((((0 : Int32) + (1 : Int32)) + (1 : Int32)) + (1 : Int32)) + (1 : Int32))) (kc3 := kA25) (x4 := x130) (x5 := x131) O142 f136 f137 f138 f139 f140 f141 ge12 ge23 (Nat.ne_of_lt (Nat.lt_of_lt_of_le A10.lt sz24))) (W := 0) (by decide) (by decide) (k' := 2) rfl (n' := 5) rfl (by decide) (by decide) rfl pd_56 (argsL := [(.double x131)]) rfl (rest := []) rfl rfl rfl at_108 (q := 111) rfl ?_
          rintro T143 h145 X144 ⟨K146, f147, f148, f149, f150, f151, f152⟩
          have O153 := O142.keep K146 (allS ge23 (allS ge12 all0))
          refine g_iload C X144 at_111 (q := 113) rfl rfl ?_
          refine g_iconst C X144 at_113 (q := 114) rfl (z := (1 : Int32)) rfl ?_
          refine g_icN C X144 at_114 (q := 117) rfl (by decide) ?_
          refine g_dload C X144 at_117 (q := 119) rfl rfl ?_
          refine g_goto C X144 at_119 (by decide) (q := 124) (by decide) ?_
          refine g_dstore C X144 at_124 (q := 126) rfl (L' := #[.val (.int p0), .val (.int p1), .val (.int p2), .val (.int p3), .val (.int p4), .val (.int (1 : Int32)), .val (.int (2 : Int32)), .val (.ref b4), .val (.double x33), .second, .val (.int (1 : Int32)), .val (.double x130), .second, .val (.double x131), .second, .val (.double x131), .second, .unset]) rfl ?_
          refine g_iload C X144 at_126 (q := 128) rfl rfl ?_
          refine g_iconst C X144 at_128 (q := 129) rfl (z := (1 : Int32)) rfl ?_
          refine g_icN C X144 at_129 (q := 132) rfl (by decide) ?_
          refine g_iconst C X144 at_132 (q := 133) rfl (z := (1 : Int32)) rfl ?_
          refine g_goto C X144 at_133 (by decide) (q := 137) (by decide) ?_
          refine g_istore C X144 at_137 (q := 139) rfl (L' := #[.val (.int p0), .val (.int p1), .val (.int p2), .val (.int p3), .val (.int p4), .val (.int (1 : Int32)), .val (.int (2 : Int32)), .val (.ref b4), .val (.double x33), .second, .val (.int (1 : Int32)), .val (.double x130), .second, .val (.double x131), .second, .val (.double x131), .second, .val (.int (1 : Int32))]) rfl ?_
          refine g_iload C X144 at_139 (q := 141) rfl rfl ?_
          refine g_ifN C X144 at_141 (q := 144) rfl (by decide) ?_
          refine g_aload C X144 at_144 (q := 146) rfl rfl rfl ?_
          refine g_callV1 C X144 (y := (⟨"com/example/rondel/rondel/primitive/DoubleRingBuffer", "getFirst", "()D"⟩ : MethodName)) (z := (⟨"com/example/rondel/rondel/primitive/DoubleRingBuffer", "getFirst", "()D"⟩ : MethodName)) (a := b4) (by decide) (w42 hw) (w43 hw) (w45 hw) (w44 hw) (nf_sel (w45 hw)) f147 (w46 hw) (w3 hw) (rm_getFirst_0 hw (o0 := b4) (o1 := b22) (i2 := ((((((0 : Int32) + (1 : Int32)) + (1 : Int32)) + (1 : Int32)) + (1 : Int32)) + (1 : Int32))) (kc3 := kA25) (x4 := x131) O153 f147 f148 f149 f150 f151 f152 ge12 ge23 (Nat.ne_of_lt (Nat.lt_of_lt_of_le A10.lt sz24))) (W := 0) (by decide) (by decide) (k' := 2) rfl (n' := 5) rfl (by decide) (by decide) rfl pd_107 (argsL := []) rfl (rest := []) rfl rfl rfl at_146 (q := 149) rfl ?_
          rintro _ T154 _ X155 ⟨rfl, rfl⟩
          refine g_dload C X155 at_149 (q := 151) rfl rfl ?_
          refine g_dcmp C X155 at_151 (q := 152) rfl (z := 0) (dcmpV_self (own_nn ex131) _) ?_
          refine g_ifN C X155 at_152 (q := 155) rfl (by decide) ?_
          refine g_aload C X155 at_155 (q := 157) rfl rfl rfl ?_
          refine g_callV1 C X155 (y := (⟨"com/example/rondel/rondel/primitive/DoubleRingBuffer", "getLast", "()D"⟩ : MethodName)) (z := (⟨"com/example/rondel/rondel/primitive/DoubleRingBuffer", "getLast", "()D"⟩ : MethodName)) (a := b4) (by decide) (w51 hw) (w52 hw) (w54 hw) (w53 hw) (nf_sel (w54 hw)) f147 (w55 hw) (w3 hw) (rm_getLast_0 hw (o0 := b4) (o1 := b22) (i2 := ((((((0 : Int32) + (1 : Int32)) + (1 : Int32)) + (1 : Int32)) + (1 : Int32)) + (1 : Int32))) (kc3 := kA25) (x4 := x131) O153 f147 f148 f149 f150 f151 f152 ge12 ge23 (Nat.ne_of_lt (Nat.lt_of_lt_of_le A10.lt sz24))) (W := 0) (by decide) (by decide) (k' := 2) rfl (n' := 5) rfl (by decide) (by decide) rfl pd_107 (argsL := []) rfl (rest := []) rfl rfl rfl at_157 (q := 160) rfl ?_
          rintro _ T156 _ X157 ⟨rfl, rfl⟩
          refine g_dload C X157 at_160 (q := 162) rfl rfl ?_
          refine g_dcmp C X157 at_162 (q := 163) rfl (z := 0) (dcmpV_self (own_nn ex131) _) ?_
          refine g_ifN C X157 at_163 (q := 166) rfl (by decide) ?_
          refine g_aload C X157 at_166 (q := 168) rfl rfl rfl ?_
          refine g_callV1 C X157 (y := (⟨"com/example/rondel/rondel/primitive/DoubleRingBuffer", "size", "()I"⟩ : MethodName)) (z := (⟨"com/example/rondel/rondel/primitive/DoubleRingBuffer", "size", "()I"⟩ : MethodName)) (a := b4) (by decide) (w37 hw) (w38 hw) (w40 hw) (w39 hw) (nf_sel (w40 hw)) f147 (w41 hw) (w3 hw) (rm_size_1 hw (o0 := b4) (o1 := b22) (i2 := ((((((0 : Int32) + (1 : Int32)) + (1 : Int32)) + (1 : Int32)) + (1 : Int32)) + (1 : Int32))) (kc3 := kA25) (x4 := x131) O153 f147 f148 f149 f150 f151 f152 ge12 ge23 (Nat.ne_of_lt (Nat.lt_of_lt_of_le A10.lt sz24))) (W := 0) (by decide) (by decide) (k' := 2) rfl (n' := 5) rfl (by decide) (by decide) rfl pd_94 (argsL := []) rfl (rest := []) rfl rfl rfl at_168 (q := 171) rfl ?_
          rintro _ T158 _ X159 ⟨rfl, rfl⟩
          refine g_iload C X159 at_171 (q := 173) rfl rfl ?_
          refine g_icN C X159 at_173 (q := 176) rfl (by decide) ?_
          refine g_iconst C X159 at_176 (q := 177) rfl (z := (1 : Int32)) rfl ?_
          refine g_goto C X159 at_177 (by decide) (q := 181) (by decide) ?_
          exact g_retN C X159 (Or.inl rfl) (z' := 1) (by decide) at_181 (by decide) (by decide) ⟨_, rfl, rfl, trivial⟩
      · refine g_icY C X37 at_45 (by decide) (q := 55) (by decide) (flt hc47).2.2.2 ?_
        have hr160 : v1.toInt ≤ 1 := own_f4 hc47 (by decide)
        obtain rfl : v1 = (1 : Int32) := own_f0 hr35 hr160 (by decide)
        refine g_iload C X37 at_55 (q := 57) rfl rfl ?_
        refine g_iconst C X37 at_57 (q := 58) rfl (z := (2 : Int32)) rfl ?_
        refine g_icY C X37 at_58 (by decide) (q := 68) (by decide) (by decide) ?_
        refine g_aload C X37 at_68 (q := 70) rfl rfl rfl ?_
        refine g_callV0 C X37 (y := (⟨"com/example/rondel/rondel/primitive/DoubleRingBuffer", "clear", "()V"⟩ : MethodName)) (z := (⟨"com/example/rondel/rondel/primitive/DoubleRingBuffer", "clear", "()V"⟩ : MethodName)) (a := b4) (by decide) (w32 hw) (w33 hw) (w35 hw) (w34 hw) (nf_sel (w35 hw)) f40 (w36 hw) (w3 hw) (rm_clear_0 hw (o0 := b4) (o1 := b22) (i2 := ((0 : Int32) + (1 : Int32))) (kc3 := kA25) (x4 := x33) O46 f40 f41 f42 f43 f44 f45 ge12 ge23 (Nat.ne_of_lt (Nat.lt_of_lt_of_le A10.lt sz24))) (W := 0) (by decide) (by decide) (k' := 2) rfl (n' := 5) rfl (by decide) (by decide) rfl pd_90 (argsL := []) rfl (rest := []) rfl rfl rfl at_70 (q := 73) rfl ?_
        rintro T161 h163 X162 ⟨K164, f165, f166, f167, f168, f169⟩
        have O170 := O46.keep K164 (allS ge12 all0)
        refine g_aload C X162 at_73 (q := 75) rfl rfl rfl ?_
        have f171 := (f45.keep K164 (ninS (Ne.symm (Nat.ne_of_lt (Nat.lt_of_lt_of_le A10.lt sz24))) nin0))
        refine g_callV1 C X162 (y := (⟨"com/example/rondel/rondel/primitive/DoubleRingBuffer", "size", "()I"⟩ : MethodName)) (z := (⟨"com/example/rondel/rondel/primitive/DoubleRingBuffer", "size", "()I"⟩ : MethodName)) (a := b4) (by decide) (w37 hw) (w38 hw) (w40 hw) (w39 hw) (nf_sel (w40 hw)) f165 (w41 hw) (w3 hw) (rm_size_0 hw (o0 := b4) (o1 := b22) (i2 := (((0 : Int32) + (1 : Int32)) + (1 : Int32))) (kc3 := kA25) (x4 := x33) O170 f165 f166 f167 f168 f169 f171 ge12 ge23 (Nat.ne_of_lt (Nat.lt_of_lt_of_le A10.lt sz24))) (W := 0) (by decide) (by decide) (k' := 2) rfl (n' := 5) rfl (by decide) (by decide) rfl pd_94 (argsL := []) rfl (rest := []) rfl rfl rfl at_75 (q := 78) rfl ?_
        rintro _ T172 _ X173 ⟨rfl, rfl⟩
        refine g_ifN C X173 at_78 (q := 81) rfl (by decide) ?_
        refine g_iconst C X173 at_81 (q := 82) rfl (z := (1 : Int32)) rfl ?_
        refine g_goto C X173 at_82 (by decide) (q := 86) (by decide) ?_
        refine g_istore C X173 at_86 (q := 88) rfl (L' := #[.val (.int p0), .val (.int p1), .val (.int p2), .val (.int p3), .val (.int p4), .val (.int (1 : Int32)), .val (.int (1 : Int32)), .val (.ref b4), .val (.double x33), .second, .val (.int (1 : Int32)), .unset, .unset, .unset, .unset, .unset, .unset, .unset]) rfl ?_
        refine g_iloadN C X173 at_88 (q := 89) rfl rfl ?_
        obtain ⟨x174, ex174⟩ : ∃ z, (FP.i2d p3) = z := ⟨_, rfl⟩
        refine g_i2d C X173 at_89 (q := 90) rfl (z := x174) ex174 ?_
        refine g_dstore C X173 at_90 (q := 92) rfl (L' := #[.val (.int p0), .val (.int p1), .val (.int p2), .val (.int p3), .val (.int p4), .val (.int (1 : Int32)), .val (.int (1 : Int32)), .val (.ref b4), .val (.double x33), .second, .val (.int (1 : Int32)), .val (.double x174), .second, .unset, .unset, .unset, .unset, .unset]) rfl ?_
        refine g_iload C X173 at_92 (q := 94) rfl rfl ?_
        obtain ⟨x175, ex175⟩ : ∃ z, (FP.i2d p4) = z := ⟨_, rfl⟩
        refine g_i2d C X173 at_94 (q := 95) rfl (z := x175) ex175 ?_
        refine g_dstore C X173 at_95 (q := 97) rfl (L' := #[.val (.int p0), .val (.int p1), .val (.int p2), .val (.int p3), .val (.int p4), .val (.int (1 : Int32)), .val (.int (1 : Int32)), .val (.ref b4), .val (.double x33), .second, .val (.int (1 : Int32)), .val (.double x174), .second, .val (.double x175), .second, .unset, .unset, .unset]) rfl ?_
        refine g_aload C X173 at_97 (q := 99) rfl rfl rfl ?_
        refine g_dload C X173 at_99 (q := 101) rfl rfl ?_
        refine g_callV0 C X173 (y := (⟨"com/example/rondel/rondel/primitive/DoubleRingBuffer", "add", "(D)V"⟩ : MethodName)) (z := (⟨"com/example/rondel/rondel/primitive/DoubleRingBuffer", "add", "(D)V"⟩ : MethodName)) (a := b4) (by decide) (w13 hw) (w14 hw) (w16 hw) (w15 hw) (nf_sel (w16 hw)) f165 (w17 hw) (w3 hw) (rm_add_0 hw (o0 := b4) (o1 := b22) (i2 := (((0 : Int32) + (1 : Int32)) + (1 : Int32))) (kc3 := kA25) (x4 := x33) (x5 := x174) O170 f165 f166 f167 f168 f169 f171 ge12 ge23 (Nat.ne_of_lt (Nat.lt_of_lt_of_le A10.lt sz24))) (W := 0) (by decide) (by decide) (k' := 2) rfl (n' := 5) rfl (by decide) (by decide) rfl pd_56 (argsL := [(.double x174)]) rfl (rest := []) rfl rfl rfl at_101 (q := 104) rfl ?_
        rintro T176 h178 X177 ⟨K179, f180, f181, f182, f183, f184, f185⟩
        have O186 := O170.keep K179 (allS ge23 (allS ge12 all0))
        refine g_aload C X177 at_104 (q := 106) rfl rfl rfl ?_
        refine g_dload C X177 at_106 (q := 108) rfl rfl ?_
        refine g_callV0 C X177 (y := (⟨"com/example/rondel/rondel/primitive/DoubleRingBuffer", "add", "(D)V"⟩ : MethodName)) (z := (⟨"com/example/rondel/rondel/primitive/DoubleRingBuffer", "add", "(D)V"⟩ : MethodName)) (a := b4) (by decide) (w13 hw) (w14 hw) (w16 hw) (w15 hw) (nf_sel (w16 hw)) f180 (w17 hw) (w3 hw) (rm_add_1 hw (o0 := b4) (o1 := b22) (i2 := ((((0 : Int32) + (1 : Int32)) + (1 : Int32)) + (1 : Int32))) (kc3 := kA25) (x4 := x174) (x5 := x175) O186 f180 f181 f182 f183 f184 f185 ge12 ge23 (Nat.ne_of_lt (Nat.lt_of_lt_of_le A10.lt sz24))) (W := 0) (by decide) (by decide) (k' := 2) rfl (n' := 5) rfl (by decide) (by decide) rfl pd_56 (argsL := [(.double x175)]) rfl (rest := []) rfl rfl rfl at_108 (q := 111) rfl ?_
        rintro T187 h189 X188 ⟨K190, f191, f192, f193, f194, f195, f196⟩
        have O197 := O186.keep K190 (allS ge23 (allS ge12 all0))
        refine g_iload C X188 at_111 (q := 113) rfl rfl ?_
        refine g_iconst C X188 at_113 (q := 114) rfl (z := (1 : Int32)) rfl ?_
        refine g_icN C X188 at_114 (q := 117) rfl (by decide) ?_
        refine g_dload C X188 at_117 (q := 119) rfl rfl ?_
        refine g_goto C X188 at_119 (by decide) (q := 124) (by decide) ?_
        refine g_dstore C X188 at_124 (q := 126) rfl (L' := #[.val (.int p0), .val (.int p1), .val (.int p2), .val (.int p3), .val (.int p4), .val (.int (1 : Int32)), .val (.int (1 : Int32)), .val (.ref b4), .val (.double x33), .second, .val (.int (1 : Int32)), .val (.double x174), .second, .val (.double x175), .second, .val (.double x175), .second, .unset]) rfl ?_
        refine g_iload C X188 at_126 (q := 128) rfl rfl ?_
        refine g_iconst C X188 at_128 (q := 129) rfl (z := (1 : Int32)) rfl ?_
        refine g_icN C X188 at_129 (q := 132) rfl (by decide) ?_
        refine g_iconst C X188 at_132 (q := 133) rfl (z := (1 : Int32)) rfl ?_
        refine g_goto C X188 at_133 (by decide) (q := 137) (by decide) ?_
        refine g_istore C X188 at_137 (q := 139) rfl (L' := #[.val (.int p0), .val (.int p1), .val (.int p2), .val (.int p3), .val (.int p4), .val (.int (1 : Int32)), .val (.int (1 : Int32)), .val (.ref b4), .val (.double x33), .second, .val (.int (1 : Int32)), .val (.double x174), .second, .val (.double x175), .second, .val (.double x175), .second, .val (.int (1 : Int32))]) rfl ?_
        refine g_iload C X188 at_139 (q := 141) rfl rfl ?_
        refine g_ifN C X188 at_141 (q := 144) rfl (by decide) ?_
        refine g_aload C X188 at_144 (q := 146) rfl rfl rfl ?_
        refine g_callV1 C X188 (y := (⟨"com/example/rondel/rondel/primitive/DoubleRingBuffer", "getFirst", "()D"⟩ : MethodName)) (z := (⟨"com/example/rondel/rondel/primitive/DoubleRingBuffer", "getFirst", "()D"⟩ : MethodName)) (a := b4) (by decide) (w42 hw) (w43 hw) (w45 hw) (w44 hw) (nf_sel (w45 hw)) f191 (w46 hw) (w3 hw) (rm_getFirst_0 hw (o0 := b4) (o1 := b22) (i2 := (((((0 : Int32) + (1 : Int32)) + (1 : Int32)) + (1 : Int32)) + (1 : Int32))) (kc3 := kA25) (x4 := x175) O197 f191 f192 f193 f194 f195 f196 ge12 ge23 (Nat.ne_of_lt (Nat.lt_of_lt_of_le A10.lt sz24))) (W := 0) (by decide) (by decide) (k' := 2) rfl (n' := 5) rfl (by decide) (by decide) rfl pd_107 (argsL := []) rfl (rest := []) rfl rfl rfl at_146 (q := 149) rfl ?_
        rintro _ T198 _ X199 ⟨rfl, rfl⟩
        refine g_dload C X199 at_149 (q := 151) rfl rfl ?_
        refine g_dcmp C X199 at_151 (q := 152) rfl (z := 0) (dcmpV_self (own_nn ex175) _) ?_
        refine g_ifN C X199 at_152 (q := 155) rfl (by decide) ?_
        refine g_aload C X199 at_155 (q := 157) rfl rfl rfl ?_
        refine g_callV1 C X199 (y := (⟨"com/example/rondel/rondel/primitive/DoubleRingBuffer", "getLast", "()D"⟩ : MethodName)) (z := (⟨"com/example/rondel/rondel/primitive/DoubleRingBuffer", "getLast", "()D"⟩ : MethodName)) (a := b4) (by decide) (w51 hw) (w52 hw) (w54 hw) (w53 hw) (nf_sel (w54 hw)) f191 (w55 hw) (w3 hw) (rm_getLast_0 hw (o0 := b4) (o1 := b22) (i2 := (((((0 : Int32) + (1 : Int32)) + (1 : Int32)) + (1 : Int32)) + (1 : Int32))) (kc3 := kA25) (x4 := x175) O197 f191 f192 f193 f194 f195 f196 ge12 ge23 (Nat.ne_of_lt (Nat.lt_of_lt_of_le A10.lt sz24))) (W := 0) (by decide) (by decide) (k' := 2) rfl (n' := 5) rfl (by decide) (by decide) rfl pd_107 (argsL := []) rfl (rest := []) rfl rfl rfl at_157 (q := 160) rfl ?_
        rintro _ T200 _ X201 ⟨rfl, rfl⟩
        refine g_dload C X201 at_160 (q := 162) rfl rfl ?_
        refine g_dcmp C X201 at_162 (q := 163) rfl (z := 0) (dcmpV_self (own_nn ex175) _) ?_
        refine g_ifN C X201 at_163 (q := 166) rfl (by decide) ?_
        refine g_aload C X201 at_166 (q := 168) rfl rfl rfl ?_
        refine g_callV1 C X201 (y := (⟨"com/example/rondel/rondel/primitive/DoubleRingBuffer", "size", "()I"⟩ : MethodName)) (z := (⟨"com/example/rondel/rondel/primitive/DoubleRingBuffer", "size", "()I"⟩ : MethodName)) (a := b4) (by decide) (w37 hw) (w38 hw) (w40 hw) (w39 hw) (nf_sel (w40 hw)) f191 (w41 hw) (w3 hw) (rm_size_1 hw (o0 := b4) (o1 := b22) (i2 := (((((0 : Int32) + (1 : Int32)) + (1 : Int32)) + (1 : Int32)) + (1 : Int32))) (kc3 := kA25) (x4 := x175) O197 f191 f192 f193 f194 f195 f196 ge12 ge23 (Nat.ne_of_lt (Nat.lt_of_lt_of_le A10.lt sz24))) (W := 0) (by decide) (by decide) (k' := 2) rfl (n' := 5) rfl (by decide) (by decide) rfl pd_94 (argsL := []) rfl (rest := []) rfl rfl rfl at_168 (q := 171) rfl ?_
        rintro _ T202 _ X203 ⟨rfl, rfl⟩
        refine g_iload C X203 at_171 (q := 173) rfl rfl ?_
        refine g_icN C X203 at_173 (q := 176) rfl (by decide) ?_
        refine g_iconst C X203 at_176 (q := 177) rfl (z := (1 : Int32)) rfl ?_
        refine g_goto C X203 at_177 (by decide) (q := 181) (by decide) ?_
        exact g_retN C X203 (Or.inl rfl) (z' := 1) (by decide) at_181 (by decide) (by decide) ⟨_, rfl, rfl, trivial⟩
    · refine g_ifY C X19 at_32 (by decide) (q := 42) (by decide) (flt hc34).2.2.2 ?_
      have hr204 : v1.toInt ≤ 0 := own_f4 hc34 (by decide)
      obtain rfl : v1 = (0 : Int32) := own_f0 hl2 hr204 (by decide)
      refine g_iload C X19 at_42 (q := 44) rfl rfl ?_
      refine g_iconst C X19 at_44 (q := 45) rfl (z := (1 : Int32)) rfl ?_
      refine g_icY C X19 at_45 (by decide) (q := 55) (by decide) (by decide) ?_
      refine g_iload C X19 at_55 (q := 57) rfl rfl ?_
      refine g_iconst C X19 at_57 (q := 58) rfl (z := (2 : Int32)) rfl ?_
      refine g_icY C X19 at_58 (by decide) (q := 68) (by decide) (by decide) ?_
      refine g_aload C X19 at_68 (q := 70) rfl rfl rfl ?_
      refine g_callV0 C X19 (y := (⟨"com/example/rondel/rondel/primitive/DoubleRingBuffer", "clear", "()V"⟩ : MethodName)) (z := (⟨"com/example/rondel/rondel/primitive/DoubleRingBuffer", "clear", "()V"⟩ : MethodName)) (a := b4) (by decide) (w32 hw) (w33 hw) (w35 hw) (w34 hw) (nf_sel (w35 hw)) f26 (w36 hw) (w3 hw) (rm_clear_1 hw (o0 := b4) (o1 := b22) (i2 := (0 : Int32)) (kc3 := kA25) (x4 := 0) O32 f26 f27 f28 f29 f30 f31 ge12 ge23 (Nat.ne_of_lt (Nat.lt_of_lt_of_le A10.lt sz24))) (W := 0) (by decide) (by decide) (k' := 2) rfl (n' := 5) rfl (by decide) (by decide) rfl pd_90 (argsL := []) rfl (rest := []) rfl rfl rfl at_70 (q := 73) rfl ?_
      rintro T205 h207 X206 ⟨K208, f209, f210, f211, f212, f213⟩
      have O214 := O32.keep K208 (allS ge12 all0)
      refine g_aload C X206 at_73 (q := 75) rfl rfl rfl ?_
      have f215 := (f31.keep K208 (ninS (Ne.symm (Nat.ne_of_lt (Nat.lt_of_lt_of_le A10.lt sz24))) nin0))
      refine g_callV1 C X206 (y := (⟨"com/example/rondel/rondel/primitive/DoubleRingBuffer", "size", "()I"⟩ : MethodName)) (z := (⟨"com/example/rondel/rondel/primitive/DoubleRingBuffer", "size", "()I"⟩ : MethodName)) (a := b4) (by decide) (w37 hw) (w38 hw) (w40 hw) (w39 hw) (nf_sel (w40 hw)) f209 (w41 hw) (w3 hw) (rm_size_0 hw (o0 := b4) (o1 := b22) (i2 := ((0 : Int32) + (1 : Int32))) (kc3 := kA25) (x4 := 0) O214 f209 f210 f211 f212 f213 f215 ge12 ge23 (Nat.ne_of_lt (Nat.lt_of_lt_of_le A10.lt sz24))) (W := 0) (by decide) (by decide) (k' := 2) rfl (n' := 5) rfl (by decide) (by decide) rfl pd_94 (argsL := []) rfl (rest := []) rfl rfl rfl at_75 (q := 78) rfl ?_
      rintro _ T216 _ X217 ⟨rfl, rfl⟩
      refine g_ifN C X217 at_78 (q := 81) rfl (by decide) ?_
      refine g_iconst C X217 at_81 (q := 82) rfl (z := (1 : Int32)) rfl ?_
      refine g_goto C X217 at_82 (by decide) (q := 86) (by decide) ?_
      refine g_istore C X217 at_86 (q := 88) rfl (L' := #[.val (.int p0), .val (.int p1), .val (.int p2), .val (.int p3), .val (.int p4), .val (.int (1 : Int32)), .val (.int (0 : Int32)), .val (.ref b4), .val (.double x33), .second, .val (.int (1 : Int32)), .unset, .unset, .unset, .unset, .unset, .unset, .unset]) rfl ?_
      refine g_iloadN C X217 at_88 (q := 89) rfl rfl ?_
      obtain ⟨x218, ex218⟩ : ∃ z, (FP.i2d p3) = z := ⟨_, rfl⟩
      refine g_i2d C X217 at_89 (q := 90) rfl (z := x218) ex218 ?_
      refine g_dstore C X217 at_90 (q := 92) rfl (L' := #[.val (.int p0), .val (.int p1), .val (.int p2), .val (.int p3), .val (.int p4), .val (.int (1 : Int32)), .val (.int (0 : Int32)), .val (.ref b4), .val (.double x33), .second, .val (.int (1 : Int32)), .val (.double x218), .second, .unset, .unset, .unset, .unset, .unset]) rfl ?_
      refine g_iload C X217 at_92 (q := 94) rfl rfl ?_
      obtain ⟨x219, ex219⟩ : ∃ z, (FP.i2d p4) = z := ⟨_, rfl⟩
      refine g_i2d C X217 at_94 (q := 95) rfl (z := x219) ex219 ?_
      refine g_dstore C X217 at_95 (q := 97) rfl (L' := #[.val (.int p0), .val (.int p1), .val (.int p2), .val (.int p3), .val (.int p4), .val (.int (1 : Int32)), .val (.int (0 : Int32)), .val (.ref b4), .val (.double x33), .second, .val (.int (1 : Int32)), .val (.double x218), .second, .val (.double x219), .second, .unset, .unset, .unset]) rfl ?_
      refine g_aload C X217 at_97 (q := 99) rfl rfl rfl ?_
      refine g_dload C X217 at_99 (q := 101) rfl rfl ?_
      refine g_callV0 C X217 (y := (⟨"com/example/rondel/rondel/primitive/DoubleRingBuffer", "add", "(D)V"⟩ : MethodName)) (z := (⟨"com/example/rondel/rondel/primitive/DoubleRingBuffer", "add", "(D)V"⟩ : MethodName)) (a := b4) (by decide) (w13 hw) (w14 hw) (w16 hw) (w15 hw) (nf_sel (w16 hw)) f209 (w17 hw) (w3 hw) (rm_add_0 hw (o0 := b4) (o1 := b22) (i2 := ((0 : Int32) + (1 : Int32))) (kc3 := kA25) (x4 := 0) (x5 := x218) O214 f209 f210 f211 f212 f213 f215 ge12 ge23 (Nat.ne_of_lt (Nat.lt_of_lt_of_le A10.lt sz24))) (W := 0) (by decide) (by decide) (k' := 2) rfl (n' := 5) rfl (by decide) (by decide) rfl pd_56 (argsL := [(.double x218)]) rfl (rest := []) rfl rfl rfl at_101 (q := 104) rfl ?_
      rintro T220 h222 X221 ⟨K223, f224, f225, f226, f227, f228, f229⟩
      have O230 := O214.keep K223 (allS ge23 (allS ge12 all0))
      refine g_aload C X221 at_104 (q := 106) rfl rfl rfl ?_
      refine g_dload C X221 at_106 (q := 108) rfl rfl ?_
      refine g_callV0 C X221 (y := (⟨"com/example/rondel/rondel/primitive/DoubleRingBuffer", "add", "(D)V"⟩ : MethodName)) (z := (⟨"com/example/rondel/rondel/primitive/DoubleRingBuffer", "add", "(D)V"⟩ : MethodName)) (a := b4) (by decide) (w13 hw) (w14 hw) (w16 hw) (w15 hw) (nf_sel (w16 hw)) f224 (w17 hw) (w3 hw) (rm_add_1 hw (o0 := b4) (o1 := b22) (i2 := (((0 : Int32) + (1 : Int32)) + (1 : Int32))) (kc3 := kA25) (x4 := x218) (x5 := x219) O230 f224 f225 f226 f227 f228 f229 ge12 ge23 (Nat.ne_of_lt (Nat.lt_of_lt_of_le A10.lt sz24))) (W := 0) (by decide) (by decide) (k' := 2) rfl (n' := 5) rfl (by decide) (by decide) rfl pd_56 (argsL := [(.double x219)]) rfl (rest := []) rfl rfl rfl at_108 (q := 111) rfl ?_
      rintro T231 h233 X232 ⟨K234, f235, f236, f237, f238, f239, f240⟩
      have O241 := O230.keep K234 (allS ge23 (allS ge12 all0))
      refine g_iload C X232 at_111 (q := 113) rfl rfl ?_
      refine g_iconst C X232 at_113 (q := 114) rfl (z := (1 : Int32)) rfl ?_
      refine g_icN C X232 at_114 (q := 117) rfl (by decide) ?_
      refine g_dload C X232 at_117 (q := 119) rfl rfl ?_
      refine g_goto C X232 at_119 (by decide) (q := 124) (by decide) ?_
      refine g_dstore C X232 at_124 (q := 126) rfl (L' := #[.val (.int p0), .val (.int p1), .val (.int p2), .val (.int p3), .val (.int p4), .val (.int (1 : Int32)), .val (.int (0 : Int32)), .val (.ref b4), .val (.double x33), .second, .val (.int (1 : Int32)), .val (.double x218), .second, .val (.double x219), .second, .val (.double x219), .second, .unset]) rfl ?_
      refine g_iload C X232 at_126 (q := 128) rfl rfl ?_
      refine g_iconst C X232 at_128 (q := 129) rfl (z := (1 : Int32)) rfl ?_
      refine g_icN C X232 at_129 (q := 132) rfl (by decide) ?_
      refine g_iconst C X232 at_132 (q := 133) rfl (z := (1 : Int32)) rfl ?_
      refine g_goto C X232 at_133 (by decide) (q := 137) (by decide) ?_
      refine g_istore C X232 at_137 (q := 139) rfl (L' := #[.val (.int p0), .val (.int p1), .val (.int p2), .val (.int p3), .val (.int p4), .val (.int (1 : Int32)), .val (.int (0 : Int32)), .val (.ref b4), .val (.double x33), .second, .val (.int (1 : Int32)), .val (.double x218), .second, .val (.double x219), .second, .val (.double x219), .second, .val (.int (1 : Int32))]) rfl ?_
      refine g_iload C X232 at_139 (q := 141) rfl rfl ?_
      refine g_ifN C X232 at_141 (q := 144) rfl (by decide) ?_
      refine g_aload C X232 at_144 (q := 146) rfl rfl rfl ?_
      refine g_callV1 C X232 (y := (⟨"com/example/rondel/rondel/primitive/DoubleRingBuffer", "getFirst", "()D"⟩ : MethodName)) (z := (⟨"com/example/rondel/rondel/primitive/DoubleRingBuffer", "getFirst", "()D"⟩ : MethodName)) (a := b4) (by decide) (w42 hw) (w43 hw) (w45 hw) (w44 hw) (nf_sel (w45 hw)) f235 (w46 hw) (w3 hw) (rm_getFirst_0 hw (o0 := b4) (o1 := b22) (i2 := ((((0 : Int32) + (1 : Int32)) + (1 : Int32)) + (1 : Int32))) (kc3 := kA25) (x4 := x219) O241 f235 f236 f237 f238 f239 f240 ge12 ge23 (Nat.ne_of_lt (Nat.lt_of_lt_of_le A10.lt sz24))) (W := 0) (by decide) (by decide) (k' := 2) rfl (n' := 5) rfl (by decide) (by decide) rfl pd_107 (argsL := []) rfl (rest := []) rfl rfl rfl at_146 (q := 149) rfl ?_
      rintro _ T242 _ X243 ⟨rfl, rfl⟩
      refine g_dload C X243 at_149 (q := 151) rfl rfl ?_
      refine g_dcmp C X243 at_151 (q := 152) rfl (z := 0) (dcmpV_self (own_nn ex219) _) ?_
      refine g_ifN C X243 at_152 (q := 155) rfl (by decide) ?_
      refine g_aload C X243 at_155 (q := 157) rfl rfl rfl ?_
      refine g_callV1 C X243 (y := (⟨"com/example/rondel/rondel/primitive/DoubleRingBuffer", "getLast", "()D"⟩ : MethodName)) (z := (⟨"com/example/rondel/rondel/primitive/DoubleRingBuffer", "getLast", "()D"⟩ : MethodName)) (a := b4) (by decide) (w51 hw) (w52 hw) (w54 hw) (w53 hw) (nf_sel (w54 hw)) f235 (w55 hw) (w3 hw) (rm_getLast_0 hw (o0 := b4) (o1 := b22) (i2 := ((((0 : Int32) + (1 : Int32)) + (1 : Int32)) + (1 : Int32))) (kc3 := kA25) (x4 := x219) O241 f235 f236 f237 f238 f239 f240 ge12 ge23 (Nat.ne_of_lt (Nat.lt_of_lt_of_le A10.lt sz24))) (W := 0) (by decide) (by decide) (k' := 2) rfl (n' := 5) rfl (by decide) (by decide) rfl pd_107 (argsL := []) rfl (rest := []) rfl rfl rfl at_157 (q := 160) rfl ?_
      rintro _ T244 _ X245 ⟨rfl, rfl⟩
      refine g_dload C X245 at_160 (q := 162) rfl rfl ?_
      refine g_dcmp C X245 at_162 (q := 163) rfl (z := 0) (dcmpV_self (own_nn ex219) _) ?_
      refine g_ifN C X245 at_163 (q := 166) rfl (by decide) ?_
      refine g_aload C X245 at_166 (q := 168) rfl rfl rfl ?_
      refine g_callV1 C X245 (y := (⟨"com/example/rondel/rondel/primitive/DoubleRingBuffer", "size", "()I"⟩ : MethodName)) (z := (⟨"com/example/rondel/rondel/primitive/DoubleRingBuffer", "size", "()I"⟩ : MethodName)) (a := b4) (by decide) (w37 hw) (w38 hw) (w40 hw) (w39 hw) (nf_sel (w40 hw)) f235 (w41 hw) (w3 hw) (rm_size_1 hw (o0 := b4) (o1 := b22) (i2 := ((((0 : Int32) + (1 : Int32)) + (1 : Int32)) + (1 : Int32))) (kc3 := kA25) (x4 := x219) O241 f235 f236 f237 f238 f239 f240 ge12 ge23 (Nat.ne_of_lt (Nat.lt_of_lt_of_le A10.lt sz24))) (W := 0) (by decide) (by decide) (k' := 2) rfl (n' := 5) rfl (by decide) (by decide) rfl pd_94 (argsL := []) rfl (rest := []) rfl rfl rfl at_168 (q := 171) rfl ?_
      rintro _ T246 _ X247 ⟨rfl, rfl⟩
      refine g_iload C X247 at_171 (q := 173) rfl rfl ?_
      refine g_icN C X247 at_173 (q := 176) rfl (by decide) ?_
      refine g_iconst C X247 at_176 (q := 177) rfl (z := (1 : Int32)) rfl ?_
      refine g_goto C X247 at_177 (by decide) (q := 181) (by decide) ?_
      exact g_retN C X247 (Or.inl rfl) (z' := 1) (by decide) at_181 (by decide) (by decide) ⟨_, rfl, rfl, trivial⟩
  · refine g_iloadN C X at_0 (q := 1) rfl rfl ?_
    refine g_ldcI C X (w0 hw) at_1 (q := 3) rfl ?_
    refine g_iand C X at_3 (q := 4) rfl (z := (p0 &&& (2147483647 : Int32))) rfl ?_
    refine g_iconst C X at_4 (q := 5) rfl (z := (3 : Int32)) rfl ?_
    refine g_irem C X at_5 (q := 6) rfl (by decide) (z := (1 : Int32)) hk ?_
    refine g_iconst C X at_6 (q := 7) rfl (z := (1 : Int32)) rfl ?_
    refine g_iadd C X at_7 (q := 8) rfl (z := (2 : Int32)) (by decide) ?_
    refine g_istore C X at_8 (q := 10) rfl (L' := #[.val (.int p0), .val (.int p1), .val (.int p2), .val (.int p3), .val (.int p4), .val (.int (2 : Int32)), .unset, .unset, .unset, .unset, .unset, .unset, .unset, .unset, .unset, .unset, .unset, .unset]) rfl ?_
    refine g_iloadN C X at_10 (q := 11) rfl rfl ?_
    refine g_iconst C X at_11 (q := 12) rfl (z := (3 : Int32)) rfl ?_
    obtain ⟨v248, ev248⟩ : ∃ z, (p1 &&& (3 : Int32)) = z := ⟨_, rfl⟩
    have hl249 : 0 ≤ v248.toInt := by rw [← ev248]; exact (c_and p1 (3 : Int32) (by decide)).1
    have hh250 : v248.toInt ≤ 3 := by rw [← ev248]; exact (c_and p1 (3 : Int32) (by decide)).2
    refine g_iand C X at_12 (q := 13) rfl (z := v248) ev248 ?_
    refine g_istore C X at_13 (q := 15) rfl (L' := #[.val (.int p0), .val (.int p1), .val (.int p2), .val (.int p3), .val (.int p4), .val (.int (2 : Int32)), .val (.int v248), .unset, .unset, .unset, .unset, .unset, .unset, .unset, .unset, .unset, .unset, .unset]) rfl ?_
    refine g_new C X (w1 hw) (w2 hw) (w3 hw) at_15 (q := 18) rfl (k' := 1) rfl (n' := 4) rfl (by decide) (by decide) ?_
    intro T252 h253 b251 g255 X254 E256 A257 D258
    have ge259 : n0 ≤ b251 := own_ge O g255
    have O260 := O.ext E256
    have f261 : Fld Z h253 b251 "com/example/rondel/rondel/primitive/DoubleRingBuffer" "readings" "[D" .null := D258 (Or.inr (w12 hw)) (ty := (.array .double)) (by decide)
    have f262 : Fld Z h253 b251 "com/example/rondel/rondel/primitive/DoubleRingBuffer" "size" "I" (.int (0 : Int32)) := D258 (Or.inl (w19 hw)) (ty := .int) (by decide)
    have f263 : Fld Z h253 b251 "com/example/rondel/rondel/primitive/DoubleRingBuffer" "head" "I" (.int (0 : Int32)) := D258 (Or.inl (w25 hw)) (ty := .int) (by decide)
    have f264 : Fld Z h253 b251 "com/example/rondel/rondel/primitive/DoubleRingBuffer" "modCount" "I" (.int (0 : Int32)) := D258 (Or.inl (w27 hw)) (ty := .int) (by decide)
    refine g_dup C X254 at_18 (q := 19) rfl rfl ?_
    refine g_iload C X254 at_19 (q := 21) rfl rfl ?_
    refine g_callI0 C X254 (y := (⟨"com/example/rondel/rondel/primitive/DoubleRingBuffer", "<init>", "(I)V"⟩ : MethodName)) (a := b251) (by decide) rfl (w4 hw) (w5 hw) (w6 hw) (w3 hw) (rm_init_1 hw (o0 := b251) (i1 := (0 : Int32)) O260 A257 f261 f262 f263 f264 ge259) (W := 1) (by decide) (by decide) (k' := 2) rfl (n' := 6) rfl (by decide) (by decide) rfl pd_11 (argsL := [(.int (2 : Int32))]) rfl (rest := [(.ref b251)]) rfl rfl rfl at_21 (q := 24) rfl ?_
    rintro T265 h267 X266 ⟨b269, kA272, K268, ge270, sz271, f273, f274, f275, f276, f277, f278⟩
    have O279 := O260.keep K268 (allS ge259 all0)
    refine g_astore C X266 at_24 (q := 26) rfl rfl (L' := #[.val (.int p0), .val (.int p1), .val (.int p2), .val (.int p3), .val (.int p4), .val (.int (2 : Int32)), .val (.int v248), .val (.ref b251), .unset, .unset, .unset, .unset, .unset, .unset, .unset, .unset, .unset, .unset]) rfl ?_
    refine g_iloadN C X266 at_26 (q := 27) rfl rfl ?_
    obtain ⟨x280, ex280⟩ : ∃ z, (FP.i2d p2) = z := ⟨_, rfl⟩
    refine g_i2d C X266 at_27 (q := 28) rfl (z := x280) ex280 ?_
    refine g_dstore C X266 at_28 (q := 30) rfl (L' := #[.val (.int p0), .val (.int p1), .val (.int p2), .val (.int p3), .val (.int p4), .val (.int (2 : Int32)), .val (.int v248), .val (.ref b251), .val (.double x280), .second, .unset, .unset, .unset, .unset, .unset, .unset, .unset, .unset]) rfl ?_
    refine g_iload C X266 at_30 (q := 32) rfl rfl ?_
    by_cases hc281 : (0 : Int32) < v248
    · refine g_ifN C X266 at_32 (q := 35) rfl (tlt hc281).2.2.2 ?_
      have hr282 : 1 ≤ v248.toInt := own_f3 hc281 (by decide)
      refine g_aload C X266 at_35 (q := 37) rfl rfl rfl ?_
      refine g_dload C X266 at_37 (q := 39) rfl rfl ?_
      refine g_callV0 C X266 (y := (⟨"com/example/rondel/rondel/primitive/DoubleRingBuffer", "add", "(D)V"⟩ : MethodName)) (z := (⟨"com/example/rondel/rondel/primitive/DoubleRingBuffer", "add", "(D)V"⟩ : MethodName)) (a := b251) (by decide) (w13 hw) (w14 hw) (w16 hw) (w15 hw) (nf_sel (w16 hw)) f273 (w17 hw) (w3 hw) (rm_add_2 hw (o0 := b251) (o1 := b269) (i2 := (0 : Int32)) (kc3 := kA272) (x4 := 0) (x5 := 0) (x6 := x280) O279 f273 f274 f275 f276 f277 f278 ge259 ge270 (Nat.ne_of_lt (Nat.lt_of_lt_of_le A257.lt sz271))) (W := 0) (by decide) (by decide) (k' := 2) rfl (n' := 6) rfl (by decide) (by decide) rfl pd_56 (argsL := [(.double x280)]) rfl (rest := []) rfl rfl rfl at_39 (q := 42) rfl ?_
      rintro T283 h285 X284 ⟨K286, f287, f288, f289, f290, f291, f292⟩
      have O293 := O279.keep K286 (allS ge270 (allS ge259 all0))
      refine g_iload C X284 at_42 (q := 44) rfl rfl ?_
      refine g_iconst C X284 at_44 (q := 45) rfl (z := (1 : Int32)) rfl ?_
      by_cases hc294 : (1 : Int32) < v248
      · refine g_icN C X284 at_45 (q := 48) rfl (tlt hc294).2.2.2 ?_
        have hr295 : 2 ≤ v248.toInt := own_f3 hc294 (by decide)
        refine g_aload C X284 at_48 (q := 50) rfl rfl rfl ?_
        refine g_dload C X284 at_50 (q := 52) rfl rfl ?_
        refine g_callV0 C X284 (y := (⟨"com/example/rondel/rondel/primitive/DoubleRingBuffer", "add", "(D)V"⟩ : MethodName)) (z := (⟨"com/example/rondel/rondel/primitive/DoubleRingBuffer", "add", "(D)V"⟩ : MethodName)) (a := b251) (by decide) (w13 hw) (w14 hw) (w16 hw) (w15 hw) (nf_sel (w16 hw)) f287 (w17 hw) (w3 hw) (rm_add_3 hw (o0 := b251) (o1 := b269) (i2 := ((0 : Int32) + (1 : Int32))) (kc3 := kA272) (x4 := x280) (x5 := 0) (x6 := x280) O293 f287 f288 f289 f290 f291 f292 ge259 ge270 (Nat.ne_of_lt (Nat.lt_of_lt_of_le A257.lt sz271))) (W := 0) (by decide) (by decide) (k' := 2) rfl (n' := 6) rfl (by decide) (by decide) rfl pd_56 (argsL := [(.double x280)]) rfl (rest := []) rfl rfl rfl at_52 (q := 55) rfl ?_
        rintro T296 h298 X297 ⟨K299, f300, f301, f302, f303, f304, f305⟩
        have O306 := O293.keep K299 (allS ge270 (allS ge259 all0))
        refine g_iload C X297 at_55 (q := 57) rfl rfl ?_
        refine g_iconst C X297 at_57 (q := 58) rfl (z := (2 : Int32)) rfl ?_
        by_cases hc307 : (2 : Int32) < v248
        · refine g_icN C X297 at_58 (q := 61) rfl (tlt hc307).2.2.2 ?_
          have hr308 : 3 ≤ v248.toInt := own_f3 hc307 (by decide)
          obtain rfl : v248 = (3 : Int32) := own_f0 hr308 hh250 (by decide)
          refine g_aload C X297 at_61 (q := 63) rfl rfl rfl ?_
          refine g_dload C X297 at_63 (q := 65) rfl rfl ?_
          refine g_callV0 C X297 (y := (⟨"com/example/rondel/rondel/primitive/DoubleRingBuffer", "add", "(D)V"⟩ : MethodName)) (z := (⟨"com/example/rondel/rondel/primitive/DoubleRingBuffer", "add", "(D)V"⟩ : MethodName)) (a := b251) (by decide) (w13 hw) (w14 hw) (w16 hw) (w15 hw) (nf_sel (w16 hw)) f300 (w17 hw) (w3 hw) (rm_add_4 hw (o0 := b251) (o1 := b269) (i2 := (((0 : Int32) + (1 : Int32)) + (1 : Int32))) (kc3 := kA272) (x4 := x280) (x5 := x280) (x6 := x280) O306 f300 f301 f302 f303 f304 f305 ge259 ge270 (Nat.ne_of_lt (Nat.lt_of_lt_of_le A257.lt sz271))) (W := 0) (by decide) (by decide) (k' := 2) rfl (n' := 6) rfl (by decide) (by decide) rfl pd_56 (argsL := [(.double x280)]) rfl (rest := []) rfl rfl rfl at_65 (q := 68) rfl ?_
          rintro T309 h311 X310 ⟨K312, f313, f314, f315, f316, f317, f318⟩
          have O319 := O306.keep K312 (allS ge270 (allS ge259 all0))
          refine g_aload C X310 at_68 (q := 70) rfl rfl rfl ?_
          refine g_callV0 C X310 (y := (⟨"com/example/rondel/rondel/primitive/DoubleRingBuffer", "clear", "()V"⟩ : MethodName)) (z := (⟨"com/example/rondel/rondel/primitive/DoubleRingBuffer", "clear", "()V"⟩ : MethodName)) (a := b251) (by decide) (w32 hw) (w33 hw) (w35 hw) (w34 hw) (nf_sel (w35 hw)) f313 (w36 hw) (w3 hw) (rm_clear_2 hw (o0 := b251) (o1 := b269) (i2 := ((((0 : Int32) + (1 : Int32)) + (1 : Int32)) + (1 : Int32))) (kc3 := kA272) (x4 := x280) (x5 := x280) O319 f313 f314 f315 f316 f317 f318 ge259 ge270 (Nat.ne_of_lt (Nat.lt_of_lt_of_le A257.lt sz271))) (W := 0) (by decide) (by decide) (k' := 2) rfl (n' := 6) rfl (by decide) (by decide) rfl pd_90 (argsL := []) rfl (rest := []) rfl rfl rfl at_70 (q := 73) rfl ?_
          rintro T320 h322 X321 ⟨K323, f324, f325, f326, f327, f328⟩
          have O329 := O319.keep K323 (allS ge259 all0)
          refine g_aload C X321 at_73 (q := 75) rfl rfl rfl ?_
          have f330 := (f318.keep K323 (ninS (Ne.symm (Nat.ne_of_lt (Nat.lt_of_lt_of_le A257.lt sz271))) nin0))
          refine g_callV1 C X321 (y := (⟨"com/example/rondel/rondel/primitive/DoubleRingBuffer", "size", "()I"⟩ : MethodName)) (z := (⟨"com/example/rondel/rondel/primitive/DoubleRingBuffer", "size", "()I"⟩ : MethodName)) (a := b251) (by decide) (w37 hw) (w38 hw) (w40 hw) (w39 hw) (nf_sel (w40 hw)) f324 (w41 hw) (w3 hw) (rm_size_2 hw (o0 := b251) (o1 := b269) (i2 := (((((0 : Int32) + (1 : Int32)) + (1 : Int32)) + (1 : Int32)) + (1 : Int32))) (kc3 := kA272) (x4 := x280) (x5 := x280) O329 f324 f325 f326 f327 f328 f330 ge259 ge270 (Nat.ne_of_lt (Nat.lt_of_lt_of_le A257.lt sz271))) (W := 0) (by decide) (by decide) (k' := 2) rfl (n' := 6) rfl (by decide) (by decide) rfl pd_94 (argsL := []) rfl (rest := []) rfl rfl rfl at_75 (q := 78) rfl ?_
          rintro _ T331 _ X332 ⟨rfl, rfl⟩
          refine g_ifN C X332 at_78 (q := 81) rfl (by decide) ?_
          refine g_iconst C X332 at_81 (q := 82) rfl (z := (1 : Int32)) rfl ?_
          refine g_goto C X332 at_82 (by decide) (q := 86) (by decide) ?_
          refine g_istore C X332 at_86 (q := 88) rfl (L' := #[.val (.int p0), .val (.int p1), .val (.int p2), .val (.int p3), .val (.int p4), .val (.int (2 : Int32)), .val (.int (3 : Int32)), .val (.ref b251), .val (.double x280), .second, .val (.int (1 : Int32)), .unset, .unset, .unset, .unset, .unset, .unset, .unset]) rfl ?_
          refine g_iloadN C X332 at_88 (q := 89) rfl rfl ?_
          obtain ⟨x333, ex333⟩ : ∃ z, (FP.i2d p3) = z := ⟨_, rfl⟩
          refine g_i2d C X332 at_89 (q := 90) rfl (z := x333) ex333 ?_
          refine g_dstore C X332 at_90 (q := 92) rfl (L' := #[.val (.int p0), .val (.int p1), .val (.int p2), .val (.int p3), .val (.int p4), .val (.int (2 : Int32)), .val (.int (3 : Int32)), .val (.ref b251), .val (.double x280), .second, .val (.int (1 : Int32)), .val (.double x333), .second, .unset, .unset, .unset, .unset, .unset]) rfl ?_
          refine g_iload C X332 at_92 (q := 94) rfl rfl ?_
          obtain ⟨x334, ex334⟩ : ∃ z, (FP.i2d p4) = z := ⟨_, rfl⟩
          refine g_i2d C X332 at_94 (q := 95) rfl (z := x334) ex334 ?_
          refine g_dstore C X332 at_95 (q := 97) rfl (L' := #[.val (.int p0), .val (.int p1), .val (.int p2), .val (.int p3), .val (.int p4), .val (.int (2 : Int32)), .val (.int (3 : Int32)), .val (.ref b251), .val (.double x280), .second, .val (.int (1 : Int32)), .val (.double x333), .second, .val (.double x334), .second, .unset, .unset, .unset]) rfl ?_
          refine g_aload C X332 at_97 (q := 99) rfl rfl rfl ?_
          refine g_dload C X332 at_99 (q := 101) rfl rfl ?_
          refine g_callV0 C X332 (y := (⟨"com/example/rondel/rondel/primitive/DoubleRingBuffer", "add", "(D)V"⟩ : MethodName)) (z := (⟨"com/example/rondel/rondel/primitive/DoubleRingBuffer", "add", "(D)V"⟩ : MethodName)) (a := b251) (by decide) (w13 hw) (w14 hw) (w16 hw) (w15 hw) (nf_sel (w16 hw)) f324 (w17 hw) (w3 hw) (rm_add_5 hw (o0 := b251) (o1 := b269) (i2 := (((((0 : Int32) + (1 : Int32)) + (1 : Int32)) + (1 : Int32)) + (1 : Int32))) (kc3 := kA272) (x4 := x280) (x5 := x280) (x6 := x333) O329 f324 f325 f326 f327 f328 f330 ge259 ge270 (Nat.ne_of_lt (Nat.lt_of_lt_of_le A257.lt sz271))) (W := 0) (by decide) (by decide) (k' := 2) rfl (n' := 6) rfl (by decide) (by decide) rfl pd_56 (argsL := [(.double x333)]) rfl (rest := []) rfl rfl rfl at_101 (q := 104) rfl ?_
          rintro T335 h337 X336 ⟨K338, f339, f340, f341, f342, f343, f344⟩
          have O345 := O329.keep K338 (allS ge270 (allS ge259 all0))
          refine g_aload C X336 at_104 (q := 106) rfl rfl rfl ?_
          refine g_dload C X336 at_106 (q := 108) rfl rfl ?_
          refine g_callV0 C X336 (y := (⟨"com/example/rondel/rondel/primitive/DoubleRingBuffer", "add", "(D)V"⟩ : MethodName)) (z := (⟨"com/example/rondel/rondel/primitive/DoubleRingBuffer", "add", "(D)V"⟩ : MethodName)) (a := b251) (by decide) (w13 hw) (w14 hw) (w16 hw) (w15 hw) (nf_sel (w16 hw)) f339 (w17 hw) (w3 hw) (rm_add_6 hw (o0 := b251) (o1 := b269) (i2 := ((((((0 : Int32) + (1 : Int32)) + (1 : Int32)) + (1 : Int32)) + (1 : Int32)) + (1 : Int32))) (kc3 := kA272) (x4 := x280) (x5 := x333) (x6 := x334) O345 f339 f340 f341 f342 f343 f344 ge259 ge270 (Nat.ne_of_lt (Nat.lt_of_lt_of_le A257.lt sz271))) (W := 0) (by decide) (by decide) (k' := 2) rfl (n' := 6) rfl (by decide) (by decide) rfl pd_56 (argsL := [(.double x334)]) rfl (rest := []) rfl rfl rfl at_108 (q := 111) rfl ?_
          rintro T346 h348 X347 ⟨K349, f350, f351, f352, f353, f354, f355⟩
          have O356 := O345.keep K349 (allS ge270 (allS ge259 all0))
          refine g_iload C X347 at_111 (q := 113) rfl rfl ?_
          refine g_iconst C X347 at_113 (q := 114) rfl (z := (1 : Int32)) rfl ?_
          refine g_icY C X347 at_114 (by decide) (q := 122) (by decide) (by decide) ?_
          refine g_dload C X347 at_122 (q := 124) rfl rfl ?_
          refine g_dstore C X347 at_124 (q := 126) rfl (L' := #[.val (.int p0), .val (.int p1), .val (.int p2), .val (.int p3), .val (.int p4), .val (.int (2 : Int32)), .val (.int (3 : Int32)), .val (.ref b251), .val (.double x280), .second, .val (.int (1 : Int32)), .val (.double x333), .second, .val (.double x334), .second, .val (.double x333), .second, .unset]) rfl ?_
          refine g_iload C X347 at_126 (q := 128) rfl rfl ?_
          refine g_iconst C X347 at_128 (q := 129) rfl (z := (1 : Int32)) rfl ?_
          refine g_icY C X347 at_129 (by decide) (q := 136) (by decide) (by decide) ?_
          refine g_iconst C X347 at_136 (q := 137) rfl (z := (2 : Int32)) rfl ?_
          refine g_istore C X347 at_137 (q := 139) rfl (L' := #[.val (.int p0), .val (.int p1), .val (.int p2), .val (.int p3), .val (.int p4), .val (.int (2 : Int32)), .val (.int (3 : Int32)), .val (.ref b251), .val (.double x280), .second, .val (.int (1 : Int32)), .val (.double x333), .second, .val (.double x334), .second, .val (.double x333), .second, .val (.int (2 : Int32))]) rfl ?_
          refine g_iload C X347 at_139 (q := 141) rfl rfl ?_
          refine g_ifN C X347 at_141 (q := 144) rfl (by decide) ?_
          refine g_aload C X347 at_144 (q := 146) rfl rfl rfl ?_
          refine g_callV1 C X347 (y := (⟨"com/example/rondel/rondel/primitive/DoubleRingBuffer", "getFirst", "()D"⟩ : MethodName)) (z := (⟨"com/example/rondel/rondel/primitive/DoubleRingBuffer", "getFirst", "()D"⟩ : MethodName)) (a := b251) (by decide) (w42 hw) (w43 hw) (w45 hw) (w44 hw) (nf_sel (w45 hw)) f350 (w46 hw) (w3 hw) (rm_getFirst_1 hw (o0 := b251) (o1 := b269) (i2 := (((((((0 : Int32) + (1 : Int32)) + (1 : Int32)) + (1 : Int32)) + (1 : Int32)) + (1 : Int32)) + (1 : Int32))) (kc3 := kA272) (x4 := x334) (x5 := x333) O356 f350 f351 f352 f353 f354 f355 ge259 ge270 (Nat.ne_of_lt (Nat.lt_of_lt_of_le A257.lt sz271))) (W := 0) (by decide) (by decide) (k' := 2) rfl (n' := 6) rfl (by decide) (by decide) rfl pd_107 (argsL := []) rfl (rest := []) rfl rfl rfl at_146 (q := 149) rfl ?_
          rintro _ T357 _ X358 ⟨rfl, rfl⟩
          refine g_dload C X358 at_149 (q := 151) rfl rfl ?_
          refine g_dcmp C X358 at_151 (q := 152) rfl (z := 0) (dcmpV_self (own_nn ex333) _) ?_
          refine g_ifN C X358 at_152 (q := 155) rfl (by decide) ?_
          refine g_aload C X358 at_155 (q := 157) rfl rfl rfl ?_
          refine g_callV1 C X358 (y := (⟨"com/example/rondel/rondel/primitive/DoubleRingBuffer", "getLast", "()D"⟩ : MethodName)) (z := (⟨"com/example/rondel/rondel/primitive/DoubleRingBuffer", "getLast", "()D"⟩ : MethodName)) (a := b251) (by decide) (w51 hw) (w52 hw) (w54 hw) (w53 hw) (nf_sel (w54 hw)) f350 (w55 hw) (w3 hw) (rm_getLast_1 hw (o0 := b251) (o1 := b269) (i2 := (((((((0 : Int32) + (1 : Int32)) + (1 : Int32)) + (1 : Int32)) + (1 : Int32)) + (1 : Int32)) + (1 : Int32))) (kc3 := kA272) (x4 := x334) (x5 := x333) O356 f350 f351 f352 f353 f354 f355 ge259 ge270 (Nat.ne_of_lt (Nat.lt_of_lt_of_le A257.lt sz271))) (W := 0) (by decide) (by decide) (k' := 2) rfl (n' := 6) rfl (by decide) (by decide) rfl pd_107 (argsL := []) rfl (rest := []) rfl rfl rfl at_157 (q := 160) rfl ?_
          rintro _ T359 _ X360 ⟨rfl, rfl⟩
          refine g_dload C X360 at_160 (q := 162) rfl rfl ?_
          refine g_dcmp C X360 at_162 (q := 163) rfl (z := 0) (dcmpV_self (own_nn ex334) _) ?_
          refine g_ifN C X360 at_163 (q := 166) rfl (by decide) ?_
          refine g_aload C X360 at_166 (q := 168) rfl rfl rfl ?_
          refine g_callV1 C X360 (y := (⟨"com/example/rondel/rondel/primitive/DoubleRingBuffer", "size", "()I"⟩ : MethodName)) (z := (⟨"com/example/rondel/rondel/primitive/DoubleRingBuffer", "size", "()I"⟩ : MethodName)) (a := b251) (by decide) (w37 hw) (w38 hw) (w40 hw) (w39 hw) (nf_sel (w40 hw)) f350 (w41 hw) (w3 hw) (rm_size_3 hw (o0 := b251) (o1 := b269) (i2 := (((((((0 : Int32) + (1 : Int32)) + (1 : Int32)) + (1 : Int32)) + (1 : Int32)) + (1 : Int32)) + (1 : Int32))) (kc3 := kA272) (x4 := x334) (x5 := x333) O356 f350 f351 f352 f353 f354 f355 ge259 ge270 (Nat.ne_of_lt (Nat.lt_of_lt_of_le A257.lt sz271))) (W := 0) (by decide) (by decide) (k' := 2) rfl (n' := 6) rfl (by decide) (by decide) rfl pd_94 (argsL := []) rfl (rest := []) rfl rfl rfl at_168 (q := 171) rfl ?_
          rintro _ T361 _ X362 ⟨rfl, rfl⟩
          refine g_iload C X362 at_171 (q := 173) rfl rfl ?_
          refine g_icN C X362 at_173 (q := 176) rfl (by decide) ?_
          refine g_iconst C X362 at_176 (q := 177) rfl (z := (1 : Int32)) rfl ?_
          refine g_goto C X362 at_177 (by decide) (q := 181) (by decide) ?_
          exact g_retN C X362 (Or.inl rfl) (z' := 1) (by decide) at_181 (by decide) (by decide) ⟨_, rfl, rfl, trivial⟩
        · refine g_icY C X297 at_58 (by decide) (q := 68) (by decide) (flt hc307).2.2.2 ?_
          have hr363 : v248.toInt ≤ 2 := own_f4 hc307 (by decide)
          obtain rfl : v248 = (2 : Int32) := own_f0 hr295 hr363 (by decide)
          refine g_aload C X297 at_68 (q := 70) rfl rfl rfl ?_
          refine g_callV0 C X297 (y := (⟨"com/example/rondel/rondel/primitive/DoubleRingBuffer", "clear", "()V"⟩ : MethodName)) (z := (⟨"com/example/rondel/rondel/primitive/DoubleRingBuffer", "clear", "()V"⟩ : MethodName)) (a := b251) (by decide) (w32 hw) (w33 hw) (w35 hw) (w34 hw) (nf_sel (w35 hw)) f300 (w36 hw) (w3 hw) (rm_clear_3 hw (o0 := b251) (o1 := b269) (i2 := (((0 : Int32) + (1 : Int32)) + (1 : Int32))) (kc3 := kA272) (x4 := x280) (x5 := x280) O306 f300 f301 f302 f303 f304 f305 ge259 ge270 (Nat.ne_of_lt (Nat.lt_of_lt_of_le A257.lt sz271))) (W := 0) (by decide) (by decide) (k' := 2) rfl (n' := 6) rfl (by decide) (by decide) rfl pd_90 (argsL := []) rfl (rest := []) rfl rfl rfl at_70 (q := 73) rfl ?_
          rintro T364 h366 X365 ⟨K367, f368, f369, f370, f371, f372⟩
          have O373 := O306.keep K367 (allS ge259 all0)
          refine g_aload C X365 at_73 (q := 75) rfl rfl rfl ?_
          have f374 := (f305.keep K367 (ninS (Ne.symm (Nat.ne_of_lt (Nat.lt_of_lt_of_le A257.lt sz271))) nin0))
          refine g_callV1 C X365 (y := (⟨"com/example/rondel/rondel/primitive/DoubleRingBuffer", "size", "()I"⟩ : MethodName)) (z := (⟨"com/example/rondel/rondel/primitive/DoubleRingBuffer", "size", "()I"⟩ : MethodName)) (a := b251) (by decide) (w37 hw) (w38 hw) (w40 hw) (w39 hw) (nf_sel (w40 hw)) f368 (w41 hw) (w3 hw) (rm_size_4 hw (o0 := b251) (o1 := b269) (i2 := ((((0 : Int32) + (1 : Int32)) + (1 : Int32)) + (1 : Int32))) (kc3 := kA272) (x4 := x280) (x5 := x280) O373 f368 f369 f370 f371 f372 f374 ge259 ge270 (Nat.ne_of_lt (Nat.lt_of_lt_of_le A257.lt sz271))) (W := 0) (by decide) (by decide) (k' := 2) rfl (n' := 6) rfl (by decide) (by decide) rfl pd_94 (argsL := []) rfl (rest := []) rfl rfl rfl at_75 (q := 78) rfl ?_
          rintro _ T375 _ X376 ⟨rfl, rfl⟩
          refine g_ifN C X376 at_78 (q := 81) rfl (by decide) ?_
          refine g_iconst C X376 at_81 (q := 82) rfl (z := (1 : Int32)) rfl ?_
          refine g_goto C X376 at_82 (by decide) (q := 86) (by decide) ?_
          refine g_istore C X376 at_86 (q := 88) rfl (L' := #[.val (.int p0), .val (.int p1), .val (.int p2), .val (.int p3), .val (.int p4), .val (.int (2 : Int32)), .val (.int (2 : Int32)), .val (.ref b251), .val (.double x280), .second, .val (.int (1 : Int32)), .unset, .unset, .unset, .unset, .unset, .unset, .unset]) rfl ?_
          refine g_iloadN C X376 at_88 (q := 89) rfl rfl ?_
          obtain ⟨x377, ex377⟩ : ∃ z, (FP.i2d p3) = z := ⟨_, rfl⟩
          refine g_i2d C X376 at_89 (q := 90) rfl (z := x377) ex377 ?_
          refine g_dstore C X376 at_90 (q := 92) rfl (L' := #[.val (.int p0), .val (.int p1), .val (.int p2), .val (.int p3), .val (.int p4), .val (.int (2 : Int32)), .val (.int (2 : Int32)), .val (.ref b251), .val (.double x280), .second, .val (.int (1 : Int32)), .val (.double x377), .second, .unset, .unset, .unset, .unset, .unset]) rfl ?_
          refine g_iload C X376 at_92 (q := 94) rfl rfl ?_
          obtain ⟨x378, ex378⟩ : ∃ z, (FP.i2d p4) = z := ⟨_, rfl⟩
          refine g_i2d C X376 at_94 (q := 95) rfl (z := x378) ex378 ?_
          refine g_dstore C X376 at_95 (q := 97) rfl (L' := #[.val (.int p0), .val (.int p1), .val (.int p2), .val (.int p3), .val (.int p4), .val (.int (2 : Int32)), .val (.int (2 : Int32)), .val (.ref b251), .val (.double x280), .second, .val (.int (1 : Int32)), .val (.double x377), .second, .val (.double x378), .second, .unset, .unset, .unset]) rfl ?_
          refine g_aload C X376 at_97 (q := 99) rfl rfl rfl ?_
          refine g_dload C X376 at_99 (q := 101) rfl rfl ?_
          refine g_callV0 C X376 (y := (⟨"com/example/rondel/rondel/primitive/DoubleRingBuffer", "add", "(D)V"⟩ : MethodName)) (z := (⟨"com/example/rondel/rondel/primitive/DoubleRingBuffer", "add", "(D)V"⟩ : MethodName)) (a := b251) (by decide) (w13 hw) (w14 hw) (w16 hw) (w15 hw) (nf_sel (w16 hw)) f368 (w17 hw) (w3 hw) (rm_add_2 hw (o0 := b251) (o1 := b269) (i2 := ((((0 : Int32) + (1 : Int32)) + (1 : Int32)) + (1 : Int32))) (kc3 := kA272) (x4 := x280) (x5 := x280) (x6 := x377) O373 f368 f369 f370 f371 f372 f374 ge259 ge270 (Nat.ne_of_lt (Nat.lt_of_lt_of_le A257.lt sz271))) (W := 0) (by decide) (by decide) (k' := 2) rfl (n' := 6) rfl (by decide) (by decide) rfl pd_56 (argsL := [(.double x377)]) rfl (rest := []) rfl rfl rfl at_101 (q := 104) rfl ?_
          rintro T379 h381 X380 ⟨K382, f383, f384, f385, f386, f387, f388⟩
          have O389 := O373.keep K382 (allS ge270 (allS ge259 all0))
          refine g_aload C X380 at_104 (q := 106) rfl rfl rfl ?_
          refine g_dload C X380 at_106 (q := 108) rfl rfl ?_
          refine g_callV0 C X380 (y := (⟨"com/example/rondel/rondel/primitive/DoubleRingBuffer", "add", "(D)V"⟩ : MethodName)) (z := (⟨"com/example/rondel/rondel/primitive/DoubleRingBuffer", "add", "(D)V"⟩ : MethodName)) (a := b251) (by decide) (w13 hw) (w14 hw) (w16 hw) (w15 hw) (nf_sel (w16 hw)) f383 (w17 hw) (w3 hw) (rm_add_3 hw (o0 := b251) (o1 := b269) (i2 := (((((0 : Int32) + (1 : Int32)) + (1 : Int32)) + (1 : Int32)) + (1 : Int32))) (kc3 := kA272) (x4 := x377) (x5 := x280) (x6 := x378) O389 f383 f384 f385 f386 f387 f388 ge259 ge270 (Nat.ne_of_lt (Nat.lt_of_lt_of_le A257.lt sz271))) (W := 0) (by decide) (by decide) (k' := 2) rfl (n' := 6) rfl (by decide) (by decide) rfl pd_56 (argsL := [(.double x378)]) rfl (rest := []) rfl rfl rfl at_108 (q := 111) rfl ?_
          rintro T390 h392 X391 ⟨K393, f394, f395, f396, f397, f398, f399⟩
          have O400 := O389.keep K393 (allS ge270 (allS ge259 all0))
          refine g_iload C X391 at_111 (q := 113) rfl rfl ?_
          refine g_iconst C X391 at_113 (q := 114) rfl (z := (1 : Int32)) rfl ?_
          refine g_icY C X391 at_114 (by decide) (q := 122) (by decide) (by decide) ?_
          refine g_dload C X391 at_122 (q := 124) rfl rfl ?_
          refine g_dstore C X391 at_124 (q := 126) rfl (L' := #[.val (.int p0), .val (.int p1), .val (.int p2), .val (.int p3), .val (.int p4), .val (.int (2 : Int32)), .val (.int (2 : Int32)), .val (.ref b251), .val (.double x280), .second, .val (.int (1 : Int32)), .val (.double x377), .second, .val (.double x378), .second, .val (.double x377), .second, .unset]) rfl ?_
          refine g_iload C X391 at_126 (q := 128) rfl rfl ?_
          refine g_iconst C X391 at_128 (q := 129) rfl (z := (1 : Int32)) rfl ?_
          refine g_icY C X391 at_129 (by decide) (q := 136) (by decide) (by decide) ?_
          refine g_iconst C X391 at_136 (q := 137) rfl (z := (2 : Int32)) rfl ?_
          refine g_istore C X391 at_137 (q := 139) rfl (L' := #[.val (.int p0), .val (.int p1), .val (.int p2), .val (.int p3), .val (.int p4), .val (.int (2 : Int32)), .val (.int (2 : Int32)), .val (.ref b251), .val (.double x280), .second, .val (.int (1 : Int32)), .val (.double x377), .second, .val (.double x378), .second, .val (.double x377), .second, .val (.int (2 : Int32))]) rfl ?_
          refine g_iload C X391 at_139 (q := 141) rfl rfl ?_
          refine g_ifN C X391 at_141 (q := 144) rfl (by decide) ?_
          refine g_aload C X391 at_144 (q := 146) rfl rfl rfl ?_
          refine g_callV1 C X391 (y := (⟨"com/example/rondel/rondel/primitive/DoubleRingBuffer", "getFirst", "()D"⟩ : MethodName)) (z := (⟨"com/example/rondel/rondel/primitive/DoubleRingBuffer", "getFirst", "()D"⟩ : MethodName)) (a := b251) (by decide) (w42 hw) (w43 hw) (w45 hw) (w44 hw) (nf_sel (w45 hw)) f394 (w46 hw) (w3 hw) (rm_getFirst_2 hw (o0 := b251) (o1 := b269) (i2 := ((((((0 : Int32) + (1 : Int32)) + (1 : Int32)) + (1 : Int32)) + (1 : Int32)) + (1 : Int32))) (kc3 := kA272) (x4 := x377) (x5 := x378) O400 f394 f395 f396 f397 f398 f399 ge259 ge270 (Nat.ne_of_lt (Nat.lt_of_lt_of_le A257.lt sz271))) (W := 0) (by decide) (by decide) (k' := 2) rfl (n' := 6) rfl (by decide) (by decide) rfl pd_107 (argsL := []) rfl (rest := []) rfl rfl rfl at_146 (q := 149) rfl ?_
          rintro _ T401 _ X402 ⟨rfl, rfl⟩
          refine g_dload C X402 at_149 (q := 151) rfl rfl ?_
          refine g_dcmp C X402 at_151 (q := 152) rfl (z := 0) (dcmpV_self (own_nn ex377) _) ?_
          refine g_ifN C X402 at_152 (q := 155) rfl (by decide) ?_
          refine g_aload C X402 at_155 (q := 157) rfl rfl rfl ?_
          refine g_callV1 C X402 (y := (⟨"com/example/rondel/rondel/primitive/DoubleRingBuffer", "getLast", "()D"⟩ : MethodName)) (z := (⟨"com/example/rondel/rondel/primitive/DoubleRingBuffer", "getLast", "()D"⟩ : MethodName)) (a := b251) (by decide) (w51 hw) (w52 hw) (w54 hw) (w53 hw) (nf_sel (w54 hw)) f394 (w55 hw) (w3 hw) (rm_getLast_2 hw (o0 := b251) (o1 := b269) (i2 := ((((((0 : Int32) + (1 : Int32)) + (1 : Int32)) + (1 : Int32)) + (1 : Int32)) + (1 : Int32))) (kc3 := kA272) (x4 := x377) (x5 := x378) O400 f394 f395 f396 f397 f398 f399 ge259 ge270 (Nat.ne_of_lt (Nat.lt_of_lt_of_le A257.lt sz271))) (W := 0) (by decide) (by decide) (k' := 2) rfl (n' := 6) rfl (by decide) (by decide) rfl pd_107 (argsL := []) rfl (rest := []) rfl rfl rfl at_157 (q := 160) rfl ?_
          rintro _ T403 _ X404 ⟨rfl, rfl⟩
          refine g_dload C X404 at_160 (q := 162) rfl rfl ?_
          refine g_dcmp C X404 at_162 (q := 163) rfl (z := 0) (dcmpV_self (own_nn ex378) _) ?_
          refine g_ifN C X404 at_163 (q := 166) rfl (by decide) ?_
          refine g_aload C X404 at_166 (q := 168) rfl rfl rfl ?_
          refine g_callV1 C X404 (y := (⟨"com/example/rondel/rondel/primitive/DoubleRingBuffer", "size", "()I"⟩ : MethodName)) (z := (⟨"com/example/rondel/rondel/primitive/DoubleRingBuffer", "size", "()I"⟩ : MethodName)) (a := b251) (by decide) (w37 hw) (w38 hw) (w40 hw) (w39 hw) (nf_sel (w40 hw)) f394 (w41 hw) (w3 hw) (rm_size_5 hw (o0 := b251) (o1 := b269) (i2 := ((((((0 : Int32) + (1 : Int32)) + (1 : Int32)) + (1 : Int32)) + (1 : Int32)) + (1 : Int32))) (kc3 := kA272) (x4 := x377) (x5 := x378) O400 f394 f395 f396 f397 f398 f399 ge259 ge270 (Nat.ne_of_lt (Nat.lt_of_lt_of_le A257.lt sz271))) (W := 0) (by decide) (by decide) (k' := 2) rfl (n' := 6) rfl (by decide) (by decide) rfl pd_94 (argsL := []) rfl (rest := []) rfl rfl rfl at_168 (q := 171) rfl ?_
          rintro _ T405 _ X406 ⟨rfl, rfl⟩
          refine g_iload C X406 at_171 (q := 173) rfl rfl ?_
          refine g_icN C X406 at_173 (q := 176) rfl (by decide) ?_
          refine g_iconst C X406 at_176 (q := 177) rfl (z := (1 : Int32)) rfl ?_
          refine g_goto C X406 at_177 (by decide) (q := 181) (by decide) ?_
          exact g_retN C X406 (Or.inl rfl) (z' := 1) (by decide) at_181 (by decide) (by decide) ⟨_, rfl, rfl, trivial⟩
      · refine g_icY C X284 at_45 (by decide) (q := 55) (by decide) (flt hc294).2.2.2 ?_
        have hr407 : v248.toInt ≤ 1 := own_f4 hc294 (by decide)
        obtain rfl : v248 = (1 : Int32) := own_f0 hr282 hr407 (by decide)
        refine g_iload C X284 at_55 (q := 57) rfl rfl ?_
        refine g_iconst C X284 at_57 (q := 58) rfl (z := (2 : Int32)) rfl ?_
        refine g_icY C X284 at_58 (by decide) (q := 68) (by decide) (by decide) ?_
        refine g_aload C X284 at_68 (q := 70) rfl rfl rfl ?_
        refine g_callV0 C X284 (y := (⟨"com/example/rondel/rondel/primitive/DoubleRingBuffer", "clear", "()V"⟩ : MethodName)) (z := (⟨"com/example/rondel/rondel/primitive/DoubleRingBuffer", "clear", "()V"⟩ : MethodName)) (a := b251) (by decide) (w32 hw) (w33 hw) (w35 hw) (w34 hw) (nf_sel (w35 hw)) f287 (w36 hw) (w3 hw) (rm_clear_4 hw (o0 := b251) (o1 := b269) (i2 := ((0 : Int32) + (1 : Int32))) (kc3 := kA272) (x4 := x280) (x5 := 0) O293 f287 f288 f289 f290 f291 f292 ge259 ge270 (Nat.ne_of_lt (Nat.lt_of_lt_of_le A257.lt sz271))) (W := 0) (by decide) (by decide) (k' := 2) rfl (n' := 6) rfl (by decide) (by decide) rfl pd_90 (argsL := []) rfl (rest := []) rfl rfl rfl at_70 (q := 73) rfl ?_
        rintro T408 h410 X409 ⟨K411, f412, f413, f414, f415, f416⟩
        have O417 := O293.keep K411 (allS ge259 all0)
        refine g_aload C X409 at_73 (q := 75) rfl rfl rfl ?_
        have f418 := (f292.keep K411 (ninS (Ne.symm (Nat.ne_of_lt (Nat.lt_of_lt_of_le A257.lt sz271))) nin0))
        refine g_callV1 C X409 (y := (⟨"com/example/rondel/rondel/primitive/DoubleRingBuffer", "size", "()I"⟩ : MethodName)) (z := (⟨"com/example/rondel/rondel/primitive/DoubleRingBuffer", "size", "()I"⟩ : MethodName)) (a := b251) (by decide) (w37 hw) (w38 hw) (w40 hw) (w39 hw) (nf_sel (w40 hw)) f412 (w41 hw) (w3 hw) (rm_size_4 hw (o0 := b251) (o1 := b269) (i2 := (((0 : Int32) + (1 : Int32)) + (1 : Int32))) (kc3 := kA272) (x4 := x280) (x5 := 0) O417 f412 f413 f414 f415 f416 f418 ge259 ge270 (Nat.ne_of_lt (Nat.lt_of_lt_of_le A257.lt sz271))) (W := 0) (by decide) (by decide) (k' := 2) rfl (n' := 6) rfl (by decide) (by decide) rfl pd_94 (argsL := []) rfl (rest := []) rfl rfl rfl at_75 (q := 78) rfl ?_
        rintro _ T419 _ X420 ⟨rfl, rfl⟩
        refine g_ifN C X420 at_78 (q := 81) rfl (by decide) ?_
        refine g_iconst C X420 at_81 (q := 82) rfl (z := (1 : Int32)) rfl ?_
        refine g_goto C X420 at_82 (by decide) (q := 86) (by decide) ?_
        refine g_istore C X420 at_86 (q := 88) rfl (L' := #[.val (.int p0), .val (.int p1), .val (.int p2), .val (.int p3), .val (.int p4), .val (.int (2 : Int32)), .val (.int (1 : Int32)), .val (.ref b251), .val (.double x280), .second, .val (.int (1 : Int32)), .unset, .unset, .unset, .unset, .unset, .unset, .unset]) rfl ?_
        refine g_iloadN C X420 at_88 (q := 89) rfl rfl ?_
        obtain ⟨x421, ex421⟩ : ∃ z, (FP.i2d p3) = z := ⟨_, rfl⟩
        refine g_i2d C X420 at_89 (q := 90) rfl (z := x421) ex421 ?_
        refine g_dstore C X420 at_90 (q := 92) rfl (L' := #[.val (.int p0), .val (.int p1), .val (.int p2), .val (.int p3), .val (.int p4), .val (.int (2 : Int32)), .val (.int (1 : Int32)), .val (.ref b251), .val (.double x280), .second, .val (.int (1 : Int32)), .val (.double x421), .second, .unset, .unset, .unset, .unset, .unset]) rfl ?_
        refine g_iload C X420 at_92 (q := 94) rfl rfl ?_
        obtain ⟨x422, ex422⟩ : ∃ z, (FP.i2d p4) = z := ⟨_, rfl⟩
        refine g_i2d C X420 at_94 (q := 95) rfl (z := x422) ex422 ?_
        refine g_dstore C X420 at_95 (q := 97) rfl (L' := #[.val (.int p0), .val (.int p1), .val (.int p2), .val (.int p3), .val (.int p4), .val (.int (2 : Int32)), .val (.int (1 : Int32)), .val (.ref b251), .val (.double x280), .second, .val (.int (1 : Int32)), .val (.double x421), .second, .val (.double x422), .second, .unset, .unset, .unset]) rfl ?_
        refine g_aload C X420 at_97 (q := 99) rfl rfl rfl ?_
        refine g_dload C X420 at_99 (q := 101) rfl rfl ?_
        refine g_callV0 C X420 (y := (⟨"com/example/rondel/rondel/primitive/DoubleRingBuffer", "add", "(D)V"⟩ : MethodName)) (z := (⟨"com/example/rondel/rondel/primitive/DoubleRingBuffer", "add", "(D)V"⟩ : MethodName)) (a := b251) (by decide) (w13 hw) (w14 hw) (w16 hw) (w15 hw) (nf_sel (w16 hw)) f412 (w17 hw) (w3 hw) (rm_add_2 hw (o0 := b251) (o1 := b269) (i2 := (((0 : Int32) + (1 : Int32)) + (1 : Int32))) (kc3 := kA272) (x4 := x280) (x5 := 0) (x6 := x421) O417 f412 f413 f414 f415 f416 f418 ge259 ge270 (Nat.ne_of_lt (Nat.lt_of_lt_of_le A257.lt sz271))) (W := 0) (by decide) (by decide) (k' := 2) rfl (n' := 6) rfl (by decide) (by decide) rfl pd_56 (argsL := [(.double x421)]) rfl (rest := []) rfl rfl rfl at_101 (q := 104) rfl ?_
        rintro T423 h425 X424 ⟨K426, f427, f428, f429, f430, f431, f432⟩
        have O433 := O417.keep K426 (allS ge270 (allS ge259 all0))
        refine g_aload C X424 at_104 (q := 106) rfl rfl rfl ?_
        refine g_dload C X424 at_106 (q := 108) rfl rfl ?_
        refine g_callV0 C X424 (y := (⟨"com/example/rondel/rondel/primitive/DoubleRingBuffer", "add", "(D)V"⟩ : MethodName)) (z := (⟨"com/example/rondel/rondel/primitive/DoubleRingBuffer", "add", "(D)V"⟩ : MethodName)) (a := b251) (by decide) (w13 hw) (w14 hw) (w16 hw) (w15 hw) (nf_sel (w16 hw)) f427 (w17 hw) (w3 hw) (rm_add_3 hw (o0 := b251) (o1 := b269) (i2 := ((((0 : Int32) + (1 : Int32)) + (1 : Int32)) + (1 : Int32))) (kc3 := kA272) (x4 := x421) (x5 := 0) (x6 := x422) O433 f427 f428 f429 f430 f431 f432 ge259 ge270 (Nat.ne_of_lt (Nat.lt_of_lt_of_le A257.lt sz271))) (W := 0) (by decide) (by decide) (k' := 2) rfl (n' := 6) rfl (by decide) (by decide) rfl pd_56 (argsL := [(.double x422)]) rfl (rest := []) rfl rfl rfl at_108 (q := 111) rfl ?_
        rintro T434 h436 X435 ⟨K437, f438, f439, f440, f441, f442, f443⟩
        have O444 := O433.keep K437 (allS ge270 (allS ge259 all0))
        refine g_iload C X435 at_111 (q := 113) rfl rfl ?_
        refine g_iconst C X435 at_113 (q := 114) rfl (z := (1 : Int32)) rfl ?_
        refine g_icY C X435 at_114 (by decide) (q := 122) (by decide) (by decide) ?_
        refine g_dload C X435 at_122 (q := 124) rfl rfl ?_
        refine g_dstore C X435 at_124 (q := 126) rfl (L' := #[.val (.int p0), .val (.int p1), .val (.int p2), .val (.int p3), .val (.int p4), .val (.int (2 : Int32)), .val (.int (1 : Int32)), .val (.ref b251), .val (.double x280), .second, .val (.int (1 : Int32)), .val (.double x421), .second, .val (.double x422), .second, .val (.double x421), .second, .unset]) rfl ?_
        refine g_iload C X435 at_126 (q := 128) rfl rfl ?_
        refine g_iconst C X435 at_128 (q := 129) rfl (z := (1 : Int32)) rfl ?_
        refine g_icY C X435 at_129 (by decide) (q := 136) (by decide) (by decide) ?_
        refine g_iconst C X435 at_136 (q := 137) rfl (z := (2 : Int32)) rfl ?_
        refine g_istore C X435 at_137 (q := 139) rfl (L' := #[.val (.int p0), .val (.int p1), .val (.int p2), .val (.int p3), .val (.int p4), .val (.int (2 : Int32)), .val (.int (1 : Int32)), .val (.ref b251), .val (.double x280), .second, .val (.int (1 : Int32)), .val (.double x421), .second, .val (.double x422), .second, .val (.double x421), .second, .val (.int (2 : Int32))]) rfl ?_
        refine g_iload C X435 at_139 (q := 141) rfl rfl ?_
        refine g_ifN C X435 at_141 (q := 144) rfl (by decide) ?_
        refine g_aload C X435 at_144 (q := 146) rfl rfl rfl ?_
        refine g_callV1 C X435 (y := (⟨"com/example/rondel/rondel/primitive/DoubleRingBuffer", "getFirst", "()D"⟩ : MethodName)) (z := (⟨"com/example/rondel/rondel/primitive/DoubleRingBuffer", "getFirst", "()D"⟩ : MethodName)) (a := b251) (by decide) (w42 hw) (w43 hw) (w45 hw) (w44 hw) (nf_sel (w45 hw)) f438 (w46 hw) (w3 hw) (rm_getFirst_2 hw (o0 := b251) (o1 := b269) (i2 := (((((0 : Int32) + (1 : Int32)) + (1 : Int32)) + (1 : Int32)) + (1 : Int32))) (kc3 := kA272) (x4 := x421) (x5 := x422) O444 f438 f439 f440 f441 f442 f443 ge259 ge270 (Nat.ne_of_lt (Nat.lt_of_lt_of_le A257.lt sz271))) (W := 0) (by decide) (by decide) (k' := 2) rfl (n' := 6) rfl (by decide) (by decide) rfl pd_107 (argsL := []) rfl (rest := []) rfl rfl rfl at_146 (q := 149) rfl ?_
        rintro _ T445 _ X446 ⟨rfl, rfl⟩
        refine g_dload C X446 at_149 (q := 151) rfl rfl ?_
        refine g_dcmp C X446 at_151 (q := 152) rfl (z := 0) (dcmpV_self (own_nn ex421) _) ?_
        refine g_ifN C X446 at_152 (q := 155) rfl (by decide) ?_
        refine g_aload C X446 at_155 (q := 157) rfl rfl rfl ?_
        refine g_callV1 C X446 (y := (⟨"com/example/rondel/rondel/primitive/DoubleRingBuffer", "getLast", "()D"⟩ : MethodName)) (z := (⟨"com/example/rondel/rondel/primitive/DoubleRingBuffer", "getLast", "()D"⟩ : MethodName)) (a := b251) (by decide) (w51 hw) (w52 hw) (w54 hw) (w53 hw) (nf_sel (w54 hw)) f438 (w55 hw) (w3 hw) (rm_getLast_2 hw (o0 := b251) (o1 := b269) (i2 := (((((0 : Int32) + (1 : Int32)) + (1 : Int32)) + (1 : Int32)) + (1 : Int32))) (kc3 := kA272) (x4 := x421) (x5 := x422) O444 f438 f439 f440 f441 f442 f443 ge259 ge270 (Nat.ne_of_lt (Nat.lt_of_lt_of_le A257.lt sz271))) (W := 0) (by decide) (by decide) (k' := 2) rfl (n' := 6) rfl (by decide) (by decide) rfl pd_107 (argsL := []) rfl (rest := []) rfl rfl rfl at_157 (q := 160) rfl ?_
        rintro _ T447 _ X448 ⟨rfl, rfl⟩
        refine g_dload C X448 at_160 (q := 162) rfl rfl ?_
        refine g_dcmp C X448 at_162 (q := 163) rfl (z := 0) (dcmpV_self (own_nn ex422) _) ?_
        refine g_ifN C X448 at_163 (q := 166) rfl (by decide) ?_
        refine g_aload C X448 at_166 (q := 168) rfl rfl rfl ?_
        refine g_callV1 C X448 (y := (⟨"com/example/rondel/rondel/primitive/DoubleRingBuffer", "size", "()I"⟩ : MethodName)) (z := (⟨"com/example/rondel/rondel/primitive/DoubleRingBuffer", "size", "()I"⟩ : MethodName)) (a := b251) (by decide) (w37 hw) (w38 hw) (w40 hw) (w39 hw) (nf_sel (w40 hw)) f438 (w41 hw) (w3 hw) (rm_size_5 hw (o0 := b251) (o1 := b269) (i2 := (((((0 : Int32) + (1 : Int32)) + (1 : Int32)) + (1 : Int32)) + (1 : Int32))) (kc3 := kA272) (x4 := x421) (x5 := x422) O444 f438 f439 f440 f441 f442 f443 ge259 ge270 (Nat.ne_of_lt (Nat.lt_of_lt_of_le A257.lt sz271))) (W := 0) (by decide) (by decide) (k' := 2) rfl (n' := 6) rfl (by decide) (by decide) rfl pd_94 (argsL := []) rfl (rest := []) rfl rfl rfl at_168 (q := 171) rfl ?_
        rintro _ T449 _ X450 ⟨rfl, rfl⟩
        refine g_iload C X450 at_171 (q := 173) rfl rfl ?_
        refine g_icN C X450 at_173 (q := 176) rfl (by decide) ?_
        refine g_iconst C X450 at_176 (q := 177) rfl (z := (1 : Int32)) rfl ?_
        refine g_goto C X450 at_177 (by decide) (q := 181) (by decide) ?_
        exact g_retN C X450 (Or.inl rfl) (z' := 1) (by decide) at_181 (by decide) (by decide) ⟨_, rfl, rfl, trivial⟩
    · refine g_ifY C X266 at_32 (by decide) (q := 42) (by decide) (flt hc281).2.2.2 ?_
      have hr451 : v248.toInt ≤ 0 := own_f4 hc281 (by decide)
      obtain rfl : v248 = (0 : Int32) := own_f0 hl249 hr451 (by decide)
      refine g_iload C X266 at_42 (q := 44) rfl rfl ?_
      refine g_iconst C X266 at_44 (q := 45) rfl (z := (1 : Int32)) rfl ?_
      refine g_icY C X266 at_45 (by decide) (q := 55) (by decide) (by decide) ?_
      refine g_iload C X266 at_55 (q := 57) rfl rfl ?_
      refine g_iconst C X266 at_57 (q := 58) rfl (z := (2 : Int32)) rfl ?_
      refine g_icY C X266 at_58 (by decide) (q := 68) (by decide) (by decide) ?_
      refine g_aload C X266 at_68 (q := 70) rfl rfl rfl ?_
      refine g_callV0 C X266 (y := (⟨"com/example/rondel/rondel/primitive/DoubleRingBuffer", "clear", "()V"⟩ : MethodName)) (z := (⟨"com/example/rondel/rondel/primitive/DoubleRingBuffer", "clear", "()V"⟩ : MethodName)) (a := b251) (by decide) (w32 hw) (w33 hw) (w35 hw) (w34 hw) (nf_sel (w35 hw)) f273 (w36 hw) (w3 hw) (rm_clear_5 hw (o0 := b251) (o1 := b269) (i2 := (0 : Int32)) (kc3 := kA272) (x4 := 0) (x5 := 0) O279 f273 f274 f275 f276 f277 f278 ge259 ge270 (Nat.ne_of_lt (Nat.lt_of_lt_of_le A257.lt sz271))) (W := 0) (by decide) (by decide) (k' := 2) rfl (n' := 6) rfl (by decide) (by decide) rfl pd_90 (argsL := []) rfl (rest := []) rfl rfl rfl at_70 (q := 73) rfl ?_
      rintro T452 h454 X453 ⟨K455, f456, f457, f458, f459, f460⟩
      have O461 := O279.keep K455 (allS ge259 all0)
      refine g_aload C X453 at_73 (q := 75) rfl rfl rfl ?_
      have f462 := (f278.keep K455 (ninS (Ne.symm (Nat.ne_of_lt (Nat.lt_of_lt_of_le A257.lt sz271))) nin0))
      refine g_callV1 C X453 (y := (⟨"com/example/rondel/rondel/primitive/DoubleRingBuffer", "size", "()I"⟩ : MethodName)) (z := (⟨"com/example/rondel/rondel/primitive/DoubleRingBuffer", "size", "()I"⟩ : MethodName)) (a := b251) (by decide) (w37 hw) (w38 hw) (w40 hw) (w39 hw) (nf_sel (w40 hw)) f456 (w41 hw) (w3 hw) (rm_size_4 hw (o0 := b251) (o1 := b269) (i2 := ((0 : Int32) + (1 : Int32))) (kc3 := kA272) (x4 := 0) (x5 := 0) O461 f456 f457 f458 f459 f460 f462 ge259 ge270 (Nat.ne_of_lt (Nat.lt_of_lt_of_le A257.lt sz271))) (W := 0) (by decide) (by decide) (k' := 2) rfl (n' := 6) rfl (by decide) (by decide) rfl pd_94 (argsL := []) rfl (rest := []) rfl rfl rfl at_75 (q := 78) rfl ?_
      rintro _ T463 _ X464 ⟨rfl, rfl⟩
      refine g_ifN C X464 at_78 (q := 81) rfl (by decide) ?_
      refine g_iconst C X464 at_81 (q := 82) rfl (z := (1 : Int32)) rfl ?_
      refine g_goto C X464 at_82 (by decide) (q := 86) (by decide) ?_
      refine g_istore C X464 at_86 (q := 88) rfl (L' := #[.val (.int p0), .val (.int p1), .val (.int p2), .val (.int p3), .val (.int p4), .val (.int (2 : Int32)), .val (.int (0 : Int32)), .val (.ref b251), .val (.double x280), .second, .val (.int (1 : Int32)), .unset, .unset, .unset, .unset, .unset, .unset, .unset]) rfl ?_
      refine g_iloadN C X464 at_88 (q := 89) rfl rfl ?_
      obtain ⟨x465, ex465⟩ : ∃ z, (FP.i2d p3) = z := ⟨_, rfl⟩
      refine g_i2d C X464 at_89 (q := 90) rfl (z := x465) ex465 ?_
      refine g_dstore C X464 at_90 (q := 92) rfl (L' := #[.val (.int p0), .val (.int p1), .val (.int p2), .val (.int p3), .val (.int p4), .val (.int (2 : Int32)), .val (.int (0 : Int32)), .val (.ref b251), .val (.double x280), .second, .val (.int (1 : Int32)), .val (.double x465), .second, .unset, .unset, .unset, .unset, .unset]) rfl ?_
      refine g_iload C X464 at_92 (q := 94) rfl rfl ?_
      obtain ⟨x466, ex466⟩ : ∃ z, (FP.i2d p4) = z := ⟨_, rfl⟩
      refine g_i2d C X464 at_94 (q := 95) rfl (z := x466) ex466 ?_
      refine g_dstore C X464 at_95 (q := 97) rfl (L' := #[.val (.int p0), .val (.int p1), .val (.int p2), .val (.int p3), .val (.int p4), .val (.int (2 : Int32)), .val (.int (0 : Int32)), .val (.ref b251), .val (.double x280), .second, .val (.int (1 : Int32)), .val (.double x465), .second, .val (.double x466), .second, .unset, .unset, .unset]) rfl ?_
      refine g_aload C X464 at_97 (q := 99) rfl rfl rfl ?_
      refine g_dload C X464 at_99 (q := 101) rfl rfl ?_
      refine g_callV0 C X464 (y := (⟨"com/example/rondel/rondel/primitive/DoubleRingBuffer", "add", "(D)V"⟩ : MethodName)) (z := (⟨"com/example/rondel/rondel/primitive/DoubleRingBuffer", "add", "(D)V"⟩ : MethodName)) (a := b251) (by decide) (w13 hw) (w14 hw) (w16 hw) (w15 hw) (nf_sel (w16 hw)) f456 (w17 hw) (w3 hw) (rm_add_2 hw (o0 := b251) (o1 := b269) (i2 := ((0 : Int32) + (1 : Int32))) (kc3 := kA272) (x4 := 0) (x5 := 0) (x6 := x465) O461 f456 f457 f458 f459 f460 f462 ge259 ge270 (Nat.ne_of_lt (Nat.lt_of_lt_of_le A257.lt sz271))) (W := 0) (by decide) (by decide) (k' := 2) rfl (n' := 6) rfl (by decide) (by decide) rfl pd_56 (argsL := [(.double x465)]) rfl (rest := []) rfl rfl rfl at_101 (q := 104) rfl ?_
      rintro T467 h469 X468 ⟨K470, f471, f472, f473, f474, f475, f476⟩
      have O477 := O461.keep K470 (allS ge270 (allS ge259 all0))
      refine g_aload C X468 at_104 (q := 106) rfl rfl rfl ?_
      refine g_dload C X468 at_106 (q := 108) rfl rfl ?_
      refine g_callV0 C X468 (y := (⟨"com/example/rondel/rondel/primitive/DoubleRingBuffer", "add", "(D)V"⟩ : MethodName)) (z := (⟨"com/example/rondel/rondel/primitive/DoubleRingBuffer", "add", "(D)V"⟩ : MethodName)) (a := b251) (by decide) (w13 hw) (w14 hw) (w16 hw) (w15 hw) (nf_sel (w16 hw)) f471 (w17 hw) (w3 hw) (rm_add_3 hw (o0 := b251) (o1 := b269) (i2 := (((0 : Int32) + (1 : Int32)) + (1 : Int32))) (kc3 := kA272) (x4 := x465) (x5 := 0) (x6 := x466) O477 f471 f472 f473 f474 f475 f476 ge259 ge270 (Nat.ne_of_lt (Nat.lt_of_lt_of_le A257.lt sz271))) (W := 0) (by decide) (by decide) (k' := 2) rfl (n' := 6) rfl (by decide) (by decide) rfl pd_56 (argsL := [(.double x466)]) rfl (rest := []) rfl rfl rfl at_108 (q := 111) rfl ?_
      rintro T478 h480 X479 ⟨K481, f482, f483, f484, f485, f486, f487⟩
      have O488 := O477.keep K481 (allS ge270 (allS ge259 all0))
      refine g_iload C X479 at_111 (q := 113) rfl rfl ?_
      refine g_iconst C X479 at_113 (q := 114) rfl (z := (1 : Int32)) rfl ?_
      refine g_icY C X479 at_114 (by decide) (q := 122) (by decide) (by decide) ?_
      refine g_dload C X479 at_122 (q := 124) rfl rfl ?_
      refine g_dstore C X479 at_124 (q := 126) rfl (L' := #[.val (.int p0), .val (.int p1), .val (.int p2), .val (.int p3), .val (.int p4), .val (.int (2 : Int32)), .val (.int (0 : Int32)), .val (.ref b251), .val (.double x280), .second, .val (.int (1 : Int32)), .val (.double x465), .second, .val (.double x466), .second, .val (.double x465), .second, .unset]) rfl ?_
      refine g_iload C X479 at_126 (q := 128) rfl rfl ?_
      refine g_iconst C X479 at_128 (q := 129) rfl (z := (1 : Int32)) rfl ?_
      refine g_icY C X479 at_129 (by decide) (q := 136) (by decide) (by decide) ?_
      refine g_iconst C X479 at_136 (q := 137) rfl (z := (2 : Int32)) rfl ?_
      refine g_istore C X479 at_137 (q := 139) rfl (L' := #[.val (.int p0), .val (.int p1), .val (.int p2), .val (.int p3), .val (.int p4), .val (.int (2 : Int32)), .val (.int (0 : Int32)), .val (.ref b251), .val (.double x280), .second, .val (.int (1 : Int32)), .val (.double x465), .second, .val (.double x466), .second, .val (.double x465), .second, .val (.int (2 : Int32))]) rfl ?_
      refine g_iload C X479 at_139 (q := 141) rfl rfl ?_
      refine g_ifN C X479 at_141 (q := 144) rfl (by decide) ?_
      refine g_aload C X479 at_144 (q := 146) rfl rfl rfl ?_
      refine g_callV1 C X479 (y := (⟨"com/example/rondel/rondel/primitive/DoubleRingBuffer", "getFirst", "()D"⟩ : MethodName)) (z := (⟨"com/example/rondel/rondel/primitive/DoubleRingBuffer", "getFirst", "()D"⟩ : MethodName)) (a := b251) (by decide) (w42 hw) (w43 hw) (w45 hw) (w44 hw) (nf_sel (w45 hw)) f482 (w46 hw) (w3 hw) (rm_getFirst_2 hw (o0 := b251) (o1 := b269) (i2 := ((((0 : Int32) + (1 : Int32)) + (1 : Int32)) + (1 : Int32))) (kc3 := kA272) (x4 := x465) (x5 := x466) O488 f482 f483 f484 f485 f486 f487 ge259 ge270 (Nat.ne_of_lt (Nat.lt_of_lt_of_le A257.lt sz271))) (W := 0) (by decide) (by decide) (k' := 2) rfl (n' := 6) rfl (by decide) (by decide) rfl pd_107 (argsL := []) rfl (rest := []) rfl rfl rfl at_146 (q := 149) rfl ?_
      rintro _ T489 _ X490 ⟨rfl, rfl⟩
      refine g_dload C X490 at_149 (q := 151) rfl rfl ?_
      refine g_dcmp C X490 at_151 (q := 152) rfl (z := 0) (dcmpV_self (own_nn ex465) _) ?_
      refine g_ifN C X490 at_152 (q := 155) rfl (by decide) ?_
      refine g_aload C X490 at_155 (q := 157) rfl rfl rfl ?_
      refine g_callV1 C X490 (y := (⟨"com/example/rondel/rondel/primitive/DoubleRingBuffer", "getLast", "()D"⟩ : MethodName)) (z := (⟨"com/example/rondel/rondel/primitive/DoubleRingBuffer", "getLast", "()D"⟩ : MethodName)) (a := b251) (by decide) (w51 hw) (w52 hw) (w54 hw) (w53 hw) (nf_sel (w54 hw)) f482 (w55 hw) (w3 hw) (rm_getLast_2 hw (o0 := b251) (o1 := b269) (i2 := ((((0 : Int32) + (1 : Int32)) + (1 : Int32)) + (1 : Int32))) (kc3 := kA272) (x4 := x465) (x5 := x466) O488 f482 f483 f484 f485 f486 f487 ge259 ge270 (Nat.ne_of_lt (Nat.lt_of_lt_of_le A257.lt sz271))) (W := 0) (by decide) (by decide) (k' := 2) rfl (n' := 6) rfl (by decide) (by decide) rfl pd_107 (argsL := []) rfl (rest := []) rfl rfl rfl at_157 (q := 160) rfl ?_
      rintro _ T491 _ X492 ⟨rfl, rfl⟩
      refine g_dload C X492 at_160 (q := 162) rfl rfl ?_
      refine g_dcmp C X492 at_162 (q := 163) rfl (z := 0) (dcmpV_self (own_nn ex466) _) ?_
      refine g_ifN C X492 at_163 (q := 166) rfl (by decide) ?_
      refine g_aload C X492 at_166 (q := 168) rfl rfl rfl ?_
      refine g_callV1 C X492 (y := (⟨"com/example/rondel/rondel/primitive/DoubleRingBuffer", "size", "()I"⟩ : MethodName)) (z := (⟨"com/example/rondel/rondel/primitive/DoubleRingBuffer", "size", "()I"⟩ : MethodName)) (a := b251) (by decide) (w37 hw) (w38 hw) (w40 hw) (w39 hw) (nf_sel (w40 hw)) f482 (w41 hw) (w3 hw) (rm_size_5 hw (o0 := b251) (o1 := b269) (i2 := ((((0 : Int32) + (1 : Int32)) + (1 : Int32)) + (1 : Int32))) (kc3 := kA272) (x4 := x465) (x5 := x466) O488 f482 f483 f484 f485 f486 f487 ge259 ge270 (Nat.ne_of_lt (Nat.lt_of_lt_of_le A257.lt sz271))) (W := 0) (by decide) (by decide) (k' := 2) rfl (n' := 6) rfl (by decide) (by decide) rfl pd_94 (argsL := []) rfl (rest := []) rfl rfl rfl at_168 (q := 171) rfl ?_
      rintro _ T493 _ X494 ⟨rfl, rfl⟩
      refine g_iload C X494 at_171 (q := 173) rfl rfl ?_
      refine g_icN C X494 at_173 (q := 176) rfl (by decide) ?_
      refine g_iconst C X494 at_176 (q := 177) rfl (z := (1 : Int32)) rfl ?_
      refine g_goto C X494 at_177 (by decide) (q := 181) (by decide) ?_
      exact g_retN C X494 (Or.inl rfl) (z' := 1) (by decide) at_181 (by decide) (by decide) ⟨_, rfl, rfl, trivial⟩
  · refine g_iloadN C X at_0 (q := 1) rfl rfl ?_
    refine g_ldcI C X (w0 hw) at_1 (q := 3) rfl ?_
    refine g_iand C X at_3 (q := 4) rfl (z := (p0 &&& (2147483647 : Int32))) rfl ?_
    refine g_iconst C X at_4 (q := 5) rfl (z := (3 : Int32)) rfl ?_
    refine g_irem C X at_5 (q := 6) rfl (by decide) (z := (2 : Int32)) hk ?_
    refine g_iconst C X at_6 (q := 7) rfl (z := (1 : Int32)) rfl ?_
    refine g_iadd C X at_7 (q := 8) rfl (z := (3 : Int32)) (by decide) ?_
    refine g_istore C X at_8 (q := 10) rfl (L' := #[.val (.int p0), .val (.int p1), .val (.int p2), .val (.int p3), .val (.int p4), .val (.int (3 : Int32)), .unset, .unset, .unset, .unset, .unset, .unset, .unset, .unset, .unset, .unset, .unset, .unset]) rfl ?_
    refine g_iloadN C X at_10 (q := 11) rfl rfl ?_
    refine g_iconst C X at_11 (q := 12) rfl (z := (3 : Int32)) rfl ?_
    obtain ⟨v495, ev495⟩ : ∃ z, (p1 &&& (3 : Int32)) = z := ⟨_, rfl⟩
    have hl496 : 0 ≤ v495.toInt := by rw [← ev495]; exact (c_and p1 (3 : Int32) (by decide)).1
    have hh497 : v495.toInt ≤ 3 := by rw [← ev495]; exact (c_and p1 (3 : Int32) (by decide)).2
    refine g_iand C X at_12 (q := 13) rfl (z := v495) ev495 ?_
    refine g_istore C X at_13 (q := 15) rfl (L' := #[.val (.int p0), .val (.int p1), .val (.int p2), .val (.int p3), .val (.int p4), .val (.int (3 : Int32)), .val (.int v495), .unset, .unset, .unset, .unset, .unset, .unset, .unset, .unset, .unset, .unset, .unset]) rfl ?_
    refine g_new C X (w1 hw) (w2 hw) (w3 hw) at_15 (q := 18) rfl (k' := 1) rfl (n' := 4) rfl (by decide) (by decide) ?_
    intro T499 h500 b498 g502 X501 E503 A504 D505
    have ge506 : n0 ≤ b498 := own_ge O g502
    have O507 := O.ext E503
    have f508 : Fld Z h500 b498 "com/example/rondel/rondel/primitive/DoubleRingBuffer" "readings" "[D" .null := D505 (Or.inr (w12 hw)) (ty := (.array .double)) (by decide)
    have f509 : Fld Z h500 b498 "com/example/rondel/rondel/primitive/DoubleRingBuffer" "size" "I" (.int (0 : Int32)) := D505 (Or.inl (w19 hw)) (ty := .int) (by decide)
    have f510 : Fld Z h500 b498 "com/example/rondel/rondel/primitive/DoubleRingBuffer" "head" "I" (.int (0 : Int32)) := D505 (Or.inl (w25 hw)) (ty := .int) (by decide)
    have f511 : Fld Z h500 b498 "com/example/rondel/rondel/primitive/DoubleRingBuffer" "modCount" "I" (.int (0 : Int32)) := D505 (Or.inl (w27 hw)) (ty := .int) (by decide)
    refine g_dup C X501 at_18 (q := 19) rfl rfl ?_
    refine g_iload C X501 at_19 (q := 21) rfl rfl ?_
    refine g_callI0 C X501 (y := (⟨"com/example/rondel/rondel/primitive/DoubleRingBuffer", "<init>", "(I)V"⟩ : MethodName)) (a := b498) (by decide) rfl (w4 hw) (w5 hw) (w6 hw) (w3 hw) (rm_init_2 hw (o0 := b498) (i1 := (0 : Int32)) O507 A504 f508 f509 f510 f511 ge506) (W := 1) (by decide) (by decide) (k' := 2) rfl (n' := 7) rfl (by decide) (by decide) rfl pd_11 (argsL := [(.int (3 : Int32))]) rfl (rest := [(.ref b498)]) rfl rfl rfl at_21 (q := 24) rfl ?_
    rintro T512 h514 X513 ⟨b516, kA519, K515, ge517, sz518, f520, f521, f522, f523, f524, f525⟩
    have O526 := O507.keep K515 (allS ge506 all0)
    refine g_astore C X513 at_24 (q := 26) rfl rfl (L' := #[.val (.int p0), .val (.int p1), .val (.int p2), .val (.int p3), .val (.int p4), .val (.int (3 : Int32)), .val (.int v495), .val (.ref b498), .unset, .unset, .unset, .unset, .unset, .unset, .unset, .unset, .unset, .unset]) rfl ?_
    refine g_iloadN C X513 at_26 (q := 27) rfl rfl ?_
    obtain ⟨x527, ex527⟩ : ∃ z, (FP.i2d p2) = z := ⟨_, rfl⟩
    refine g_i2d C X513 at_27 (q := 28) rfl (z := x527) ex527 ?_
    refine g_dstore C X513 at_28 (q := 30) rfl (L' := #[.val (.int p0), .val (.int p1), .val (.int p2), .val (.int p3), .val (.int p4), .val (.int (3 : Int32)), .val (.int v495), .val (.ref b498), .val (.double x527), .second, .unset, .unset, .unset, .unset, .unset, .unset, .unset, .unset]) rfl ?_
    refine g_iload C X513 at_30 (q := 32) rfl rfl ?_
    by_cases hc528 : (0 : Int32) < v495
    · refine g_ifN C X513 at_32 (q := 35) rfl (tlt hc528).2.2.2 ?_
      have hr529 : 1 ≤ v495.toInt := own_f3 hc528 (by decide)
      refine g_aload C X513 at_35 (q := 37) rfl rfl rfl ?_
      refine g_dload C X513 at_37 (q := 39) rfl rfl ?_
      refine g_callV0 C X513 (y := (⟨"com/example/rondel/rondel/primitive/DoubleRingBuffer", "add", "(D)V"⟩ : MethodName)) (z := (⟨"com/example/rondel/rondel/primitive/DoubleRingBuffer", "add", "(D)V"⟩ : MethodName)) (a := b498) (by decide) (w13 hw) (w14 hw) (w16 hw) (w15 hw) (nf_sel (w16 hw)) f520 (w17 hw) (w3 hw) (rm_add_7 hw (o0 := b498) (o1 := b516) (i2 := (0 : Int32)) (kc3 := kA519) (x4 := 0) (x5 := 0) (x6 := 0) (x7 := x527) O526 f520 f521 f522 f523 f524 f525 ge506 ge517 (Nat.ne_of_lt (Nat.lt_of_lt_of_le A504.lt sz518))) (W := 0) (by decide) (by decide) (k' := 2) rfl (n' := 7) rfl (by decide) (by decide) rfl pd_56 (argsL := [(.double x527)]) rfl (rest := []) rfl rfl rfl at_39 (q := 42) rfl ?_
      rintro T530 h532 X531 ⟨K533, f534, f535, f536, f537, f538, f539⟩
      have O540 := O526.keep K533 (allS ge517 (allS ge506 all0))
      refine g_iload C X531 at_42 (q := 44) rfl rfl ?_
      refine g_iconst C X531 at_44 (q := 45) rfl (z := (1 : Int32)) rfl ?_
      by_cases hc541 : (1 : Int32) < v495
      · refine g_icN C X531 at_45 (q := 48) rfl (tlt hc541).2.2.2 ?_
        have hr542 : 2 ≤ v495.toInt := own_f3 hc541 (by decide)
        refine g_aload C X531 at_48 (q := 50) rfl rfl rfl ?_
        refine g_dload C X531 at_50 (q := 52) rfl rfl ?_
        refine g_callV0 C X531 (y := (⟨"com/example/rondel/rondel/primitive/DoubleRingBuffer", "add", "(D)V"⟩ : MethodName)) (z := (⟨"com/example/rondel/rondel/primitive/DoubleRingBuffer", "add", "(D)V"⟩ : MethodName)) (a := b498) (by decide) (w13 hw) (w14 hw) (w16 hw) (w15 hw) (nf_sel (w16 hw)) f534 (w17 hw) (w3 hw) (rm_add_8 hw (o0 := b498) (o1 := b516) (i2 := ((0 : Int32) + (1 : Int32))) (kc3 := kA519) (x4 := x527) (x5 := 0) (x6 := 0) (x7 := x527) O540 f534 f535 f536 f537 f538 f539 ge506 ge517 (Nat.ne_of_lt (Nat.lt_of_lt_of_le A504.lt sz518))) (W := 0) (by decide) (by decide) (k' := 2) rfl (n' := 7) rfl (by decide) (by decide) rfl pd_56 (argsL := [(.double x527)]) rfl (rest := []) rfl rfl rfl at_52 (q := 55) rfl ?_
        rintro T543 h545 X544 ⟨K546, f547, f548, f549, f550, f551, f552⟩
        have O553 := O540.keep K546 (allS ge517 (allS ge506 all0))
        refine g_iload C X544 at_55 (q := 57) rfl rfl ?_
        refine g_iconst C X544 at_57 (q := 58) rfl (z := (2 : Int32)) rfl ?_
        by_cases hc554 : (2 : Int32) < v495
        · refine g_icN C X544 at_58 (q := 61) rfl (tlt hc554).2.2.2 ?_
          have hr555 : 3 ≤ v495.toInt := own_f3 hc554 (by decide)
          obtain rfl : v495 = (3 : Int32) := own_f0 hr555 hh497 (by decide)
          refine g_aload C X544 at_61 (q := 63) rfl rfl rfl ?_
          refine g_dload C X544 at_63 (q := 65) rfl rfl ?_
          refine g_callV0 C X544 (y := (⟨"com/example/rondel/rondel/primitive/DoubleRingBuffer", "add", "(D)V"⟩ : MethodName)) (z := (⟨"com/example/rondel/rondel/primitive/DoubleRingBuffer", "add", "(D)V"⟩ : MethodName)) (a := b498) (by decide) (w13 hw) (w14 hw) (w16 hw) (w15 hw) (nf_sel (w16 hw)) f547 (w17 hw) (w3 hw) (rm_add_9 hw (o0 := b498) (o1 := b516) (i2 := (((0 : Int32) + (1 : Int32)) + (1 : Int32))) (kc3 := kA519) (x4 := x527) (x5 := x527) (x6 := 0) (x7 := x527) O553 f547 f548 f549 f550 f551 f552 ge506 ge517 (Nat.ne_of_lt (Nat.lt_of_lt_of_le A504.lt sz518))) (W := 0) (by decide) (by decide) (k' := 2) rfl (n' := 7) rfl (by decide) (by decide) rfl pd_56 (argsL := [(.double x527)]) rfl (rest := []) rfl rfl rfl at_65 (q := 68) rfl ?_
          rintro T556 h558 X557 ⟨K559, f560, f561, f562, f563, f564, f565⟩
          have O566 := O553.keep K559 (allS ge517 (allS ge506 all0))
          refine g_aload C X557 at_68 (q := 70) rfl rfl rfl ?_
          refine g_callV0 C X557 (y := (⟨"com/example/rondel/rondel/primitive/DoubleRingBuffer", "clear", "()V"⟩ : MethodName)) (z := (⟨"com/example/rondel/rondel/primitive/DoubleRingBuffer", "clear", "()V"⟩ : MethodName)) (a := b498) (by decide) (w32 hw) (w33 hw) (w35 hw) (w34 hw) (nf_sel (w35 hw)) f560 (w36 hw) (w3 hw) (rm_clear_6 hw (o0 := b498) (o1 := b516) (i2 := ((((0 : Int32) + (1 : Int32)) + (1 : Int32)) + (1 : Int32))) (kc3 := kA519) (x4 := x527) (x5 := x527) (x6 := x527) O566 f560 f561 f562 f563 f564 f565 ge506 ge517 (Nat.ne_of_lt (Nat.lt_of_lt_of_le A504.lt sz518))) (W := 0) (by decide) (by decide) (k' := 2) rfl (n' := 7) rfl (by decide) (by decide) rfl pd_90 (argsL := []) rfl (rest := []) rfl rfl rfl at_70 (q := 73) rfl ?_
          rintro T567 h569 X568 ⟨K570, f571, f572, f573, f574, f575⟩
          have O576 := O566.keep K570 (allS ge506 all0)
          refine g_aload C X568 at_73 (q := 75) rfl rfl rfl ?_
          have f577 := (f565.keep K570 (ninS (Ne.symm (Nat.ne_of_lt (Nat.lt_of_lt_of_le A504.lt sz518))) nin0))
          refine g_callV1 C X568 (y := (⟨"com/example/rondel/rondel/primitive/DoubleRingBuffer", "size", "()I"⟩ : MethodName)) (z := (⟨"com/example/rondel/rondel/primitive/DoubleRingBuffer", "size", "()I"⟩ : MethodName)) (a := b498) (by decide) (w37 hw) (w38 hw) (w40 hw) (w39 hw) (nf_sel (w40 hw)) f571 (w41 hw) (w3 hw) (rm_size_6 hw (o0 := b498) (o1 := b516) (i2 := (((((0 : Int32) + (1 : Int32)) + (1 : Int32)) + (1 : Int32)) + (1 : Int32))) (kc3 := kA519) (x4 := x527) (x5 := x527) (x6 := x527) O576 f571 f572 f573 f574 f575 f577 ge506 ge517 (Nat.ne_of_lt (Nat.lt_of_lt_of_le A504.lt sz518))) (W := 0) (by decide) (by decide) (k' := 2) rfl (n' := 7) rfl (by decide) (by decide) rfl pd_94 (argsL := []) rfl (rest := []) rfl rfl rfl at_75 (q := 78) rfl ?_
          rintro _ T578 _ X579 ⟨rfl, rfl⟩
          refine g_ifN C X579 at_78 (q := 81) rfl (by decide) ?_
          refine g_iconst C X579 at_81 (q := 82) rfl (z := (1 : Int32)) rfl ?_
          refine g_goto C X579 at_82 (by decide) (q := 86) (by decide) ?_
          refine g_istore C X579 at_86 (q := 88) rfl (L' := #[.val (.int p0), .val (.int p1), .val (.int p2), .val (.int p3), .val (.int p4), .val (.int (3 : Int32)), .val (.int (3 : Int32)), .val (.ref b498), .val (.double x527), .second, .val (.int (1 : Int32)), .unset, .unset, .unset, .unset, .unset, .unset, .unset]) rfl ?_
          refine g_iloadN C X579 at_88 (q := 89) rfl rfl ?_
          obtain ⟨x580, ex580⟩ : ∃ z, (FP.i2d p3) = z := ⟨_, rfl⟩
          refine g_i2d C X579 at_89 (q := 90) rfl (z := x580) ex580 ?_
          refine g_dstore C X579 at_90 (q := 92) rfl (L' := #[.val (.int p0), .val (.int p1), .val (.int p2), .val (.int p3), .val (.int p4), .val (.int (3 : Int32)), .val (.int (3 : Int32)), .val (.ref b498), .val (.double x527), .second, .val (.int (1 : Int32)), .val (.double x580), .second, .unset, .unset, .unset, .unset, .unset]) rfl ?_
          refine g_iload C X579 at_92 (q := 94) rfl rfl ?_
          obtain ⟨x581, ex581⟩ : ∃ z, (FP.i2d p4) = z := ⟨_, rfl⟩
          refine g_i2d C X579 at_94 (q := 95) rfl (z := x581) ex581 ?_
          refine g_dstore C X579 at_95 (q := 97) rfl (L' := #[.val (.int p0), .val (.int p1), .val (.int p2), .val (.int p3), .val (.int p4), .val (.int (3 : Int32)), .val (.int (3 : Int32)), .val (.ref b498), .val (.double x527), .second, .val (.int (1 : Int32)), .val (.double x580), .second, .val (.double x581), .second, .unset, .unset, .unset]) rfl ?_
          refine g_aload C X579 at_97 (q := 99) rfl rfl rfl ?_
          refine g_dload C X579 at_99 (q := 101) rfl rfl ?_
          refine g_callV0 C X579 (y := (⟨"com/example/rondel/rondel/primitive/DoubleRingBuffer", "add", "(D)V"⟩ : MethodName)) (z := (⟨"com/example/rondel/rondel/primitive/DoubleRingBuffer", "add", "(D)V"⟩ : MethodName)) (a := b498) (by decide) (w13 hw) (w14 hw) (w16 hw) (w15 hw) (nf_sel (w16 hw)) f571 (w17 hw) (w3 hw) (rm_add_7 hw (o0 := b498) (o1 := b516) (i2 := (((((0 : Int32) + (1 : Int32)) + (1 : Int32)) + (1 : Int32)) + (1 : Int32))) (kc3 := kA519) (x4 := x527) (x5 := x527) (x6 := x527) (x7 := x580) O576 f571 f572 f573 f574 f575 f577 ge506 ge517 (Nat.ne_of_lt (Nat.lt_of_lt_of_le A504.lt sz518))) (W := 0) (by decide) (by decide) (k' := 2) rfl (n' := 7) rfl (by decide) (by decide) rfl pd_56 (argsL := [(.double x580)]) rfl (rest := []) rfl rfl rfl at_101 (q := 104) rfl ?_
          rintro T582 h584 X583 ⟨K585, f586, f587, f588, f589, f590, f591⟩
          have O592 := O576.keep K585 (allS ge517 (allS ge506 all0))
          refine g_aload C X583 at_104 (q := 106) rfl rfl rfl ?_
          refine g_dload C X583 at_106 (q := 108) rfl rfl ?_
          refine g_callV0 C X583 (y := (⟨"com/example/rondel/rondel/primitive/DoubleRingBuffer", "add", "(D)V"⟩ : MethodName)) (z := (⟨"com/example/rondel/rondel/primitive/DoubleRingBuffer", "add", "(D)V"⟩ : MethodName)) (a := b498) (by decide) (w13 hw) (w14 hw) (w16 hw) (w15 hw) (nf_sel (w16 hw)) f586 (w17 hw) (w3 hw) (rm_add_8 hw (o0 := b498) (o1 := b516) (i2 := ((((((0 : Int32) + (1 : Int32)) + (1 : Int32)) + (1 : Int32)) + (1 : Int32)) + (1 : Int32))) (kc3 := kA519) (x4 := x580) (x5 := x527) (x6 := x527) (x7 := x581) O592 f586 f587 f588 f589 f590 f591 ge506 ge517 (Nat.ne_of_lt (Nat.lt_of_lt_of_le A504.lt sz518))) (W := 0) (by decide) (by decide) (k' := 2) rfl (n' := 7) rfl (by decide) (by decide) rfl pd_56 (argsL := [(.double x581)]) rfl (rest := []) rfl rfl rfl at_108 (q := 111) rfl ?_
          rintro T593 h595 X594 ⟨K596, f597, f598, f599, f600, f601, f602⟩
          have O603 := O592.keep K596 (allS ge517 (allS ge506 all0))
          refine g_iload C X594 at_111 (q := 113) rfl rfl ?_
          refine g_iconst C X594 at_113 (q := 114) rfl (z := (1 : Int32)) rfl ?_
          refine g_icY C X594 at_114 (by decide) (q := 122) (by decide) (by decide) ?_
          refine g_dload C X594 at_122 (q := 124) rfl rfl ?_
          refine g_dstore C X594 at_124 (q := 126) rfl (L' := #[.val (.int p0), .val (.int p1), .val (.int p2), .val (.int p3), .val (.int p4), .val (.int (3 : Int32)), .val (.int (3 : Int32)), .val (.ref b498), .val (.double x527), .second, .val (.int (1 : Int32)), .val (.double x580), .second, .val (.double x581), .second, .val (.double x580), .second, .unset]) rfl ?_
          refine g_iload C X594 at_126 (q := 128) rfl rfl ?_
          refine g_iconst C X594 at_128 (q := 129) rfl (z := (1 : Int32)) rfl ?_
          refine g_icY C X594 at_129 (by decide) (q := 136) (by decide) (by decide) ?_
          refine g_iconst C X594 at_136 (q := 137) rfl (z := (2 : Int32)) rfl ?_
          refine g_istore C X594 at_137 (q := 139) rfl (L' := #[.val (.int p0), .val (.int p1), .val (.int p2), .val (.int p3), .val (.int p4), .val (.int (3 : Int32)), .val (.int (3 : Int32)), .val (.ref b498), .val (.double x527), .second, .val (.int (1 : Int32)), .val (.double x580), .second, .val (.double x581), .second, .val (.double x580), .second, .val (.int (2 : Int32))]) rfl ?_
          refine g_iload C X594 at_139 (q := 141) rfl rfl ?_
          refine g_ifN C X594 at_141 (q := 144) rfl (by decide) ?_
          refine g_aload C X594 at_144 (q := 146) rfl rfl rfl ?_
          refine g_callV1 C X594 (y := (⟨"com/example/rondel/rondel/primitive/DoubleRingBuffer", "getFirst", "()D"⟩ : MethodName)) (z := (⟨"com/example/rondel/rondel/primitive/DoubleRingBuffer", "getFirst", "()D"⟩ : MethodName)) (a := b498) (by decide) (w42 hw) (w43 hw) (w45 hw) (w44 hw) (nf_sel (w45 hw)) f597 (w46 hw) (w3 hw) (rm_getFirst_3 hw (o0 := b498) (o1 := b516) (i2 := (((((((0 : Int32) + (1 : Int32)) + (1 : Int32)) + (1 : Int32)) + (1 : Int32)) + (1 : Int32)) + (1 : Int32))) (kc3 := kA519) (x4 := x580) (x5 := x581) (x6 := x527) O603 f597 f598 f599 f600 f601 f602 ge506 ge517 (Nat.ne_of_lt (Nat.lt_of_lt_of_le A504.lt sz518))) (W := 0) (by decide) (by decide) (k' := 2) rfl (n' := 7) rfl (by decide) (by decide) rfl pd_107 (argsL := []) rfl (rest := []) rfl rfl rfl at_146 (q := 149) rfl ?_
          rintro _ T604 _ X605 ⟨rfl, rfl⟩
          refine g_dload C X605 at_149 (q := 151) rfl rfl ?_
          refine g_dcmp C X605 at_151 (q := 152) rfl (z := 0) (dcmpV_self (own_nn ex580) _) ?_
          refine g_ifN C X605 at_152 (q := 155) rfl (by decide) ?_
          refine g_aload C X605 at_155 (q := 157) rfl rfl rfl ?_
          refine g_callV1 C X605 (y := (⟨"com/example/rondel/rondel/primitive/DoubleRingBuffer", "getLast", "()D"⟩ : MethodName)) (z := (⟨"com/example/rondel/rondel/primitive/DoubleRingBuffer", "getLast", "()D"⟩ : MethodName)) (a := b498) (by decide) (w51 hw) (w52 hw) (w54 hw) (w53 hw) (nf_sel (w54 hw)) f597 (w55 hw) (w3 hw) (rm_getLast_3 hw (o0 := b498) (o1 := b516) (i2 := (((((((0 : Int32) + (1 : Int32)) + (1 : Int32)) + (1 : Int32)) + (1 : Int32)) + (1 : Int32)) + (1 : Int32))) (kc3 := kA519) (x4 := x580) (x5 := x581) (x6 := x527) O603 f597 f598 f599 f600 f601 f602 ge506 ge517 (Nat.ne_of_lt (Nat.lt_of_lt_of_le A504.lt sz518))) (W := 0) (by decide) (by decide) (k' := 2) rfl (n' := 7) rfl (by decide) (by decide) rfl pd_107 (argsL := []) rfl (rest := []) rfl rfl rfl at_157 (q := 160) rfl ?_
          rintro _ T606 _ X607 ⟨rfl, rfl⟩
          refine g_dload C X607 at_160 (q := 162) rfl rfl ?_
          refine g_dcmp C X607 at_162 (q := 163) rfl (z := 0) (dcmpV_self (own_nn ex581) _) ?_
          refine g_ifN C X607 at_163 (q := 166) rfl (by decide) ?_
          refine g_aload C X607 at_166 (q := 168) rfl rfl rfl ?_
          refine g_callV1 C X607 (y := (⟨"com/example/rondel/rondel/primitive/DoubleRingBuffer", "size", "()I"⟩ : MethodName)) (z := (⟨"com/example/rondel/rondel/primitive/DoubleRingBuffer", "size", "()I"⟩ : MethodName)) (a := b498) (by decide) (w37 hw) (w38 hw) (w40 hw) (w39 hw) (nf_sel (w40 hw)) f597 (w41 hw) (w3 hw) (rm_size_7 hw (o0 := b498) (o1 := b516) (i2 := (((((((0 : Int32) + (1 : Int32)) + (1 : Int32)) + (1 : Int32)) + (1 : Int32)) + (1 : Int32)) + (1 : Int32))) (kc3 := kA519) (x4 := x580) (x5 := x581) (x6 := x527) O603 f597 f598 f599 f600 f601 f602 ge506 ge517 (Nat.ne_of_lt (Nat.lt_of_lt_of_le A504.lt sz518))) (W := 0) (by decide) (by decide) (k' := 2) rfl (n' := 7) rfl (by decide) (by decide) rfl pd_94 (argsL := []) rfl (rest := []) rfl rfl rfl at_168 (q := 171) rfl ?_
          rintro _ T608 _ X609 ⟨rfl, rfl⟩
          refine g_iload C X609 at_171 (q := 173) rfl rfl ?_
          refine g_icN C X609 at_173 (q := 176) rfl (by decide) ?_
          refine g_iconst C X609 at_176 (q := 177) rfl (z := (1 : Int32)) rfl ?_
          refine g_goto C X609 at_177 (by decide) (q := 181) (by decide) ?_
          exact g_retN C X609 (Or.inl rfl) (z' := 1) (by decide) at_181 (by decide) (by decide) ⟨_, rfl, rfl, trivial⟩
        · refine g_icY C X544 at_58 (by decide) (q := 68) (by decide) (flt hc554).2.2.2 ?_
          have hr610 : v495.toInt ≤ 2 := own_f4 hc554 (by decide)
          obtain rfl : v495 = (2 : Int32) := own_f0 hr542 hr610 (by decide)
          refine g_aload C X544 at_68 (q := 70) rfl rfl rfl ?_
          refine g_callV0 C X544 (y := (⟨"com/example/rondel/rondel/primitive/DoubleRingBuffer", "clear", "()V"⟩ : MethodName)) (z := (⟨"com/example/rondel/rondel/primitive/DoubleRingBuffer", "clear", "()V"⟩ : MethodName)) (a := b498) (by decide) (w32 hw) (w33 hw) (w35 hw) (w34 hw) (nf_sel (w35 hw)) f547 (w36 hw) (w3 hw) (rm_clear_7 hw (o0 := b498) (o1 := b516) (i2 := (((0 : Int32) + (1 : Int32)) + (1 : Int32))) (kc3 := kA519) (x4 := x527) (x5 := x527) (x6 := 0) O553 f547 f548 f549 f550 f551 f552 ge506 ge517 (Nat.ne_of_lt (Nat.lt_of_lt_of_le A504.lt sz518))) (W := 0) (by decide) (by decide) (k' := 2) rfl (n' := 7) rfl (by decide) (by decide) rfl pd_90 (argsL := []) rfl (rest := []) rfl rfl rfl at_70 (q := 73) rfl ?_
          rintro T611 h613 X612 ⟨K614, f615, f616, f617, f618, f619⟩
          have O620 := O553.keep K614 (allS ge506 all0)
          refine g_aload C X612 at_73 (q := 75) rfl rfl rfl ?_
          have f621 := (f552.keep K614 (ninS (Ne.symm (Nat.ne_of_lt (Nat.lt_of_lt_of_le A504.lt sz518))) nin0))
          refine g_callV1 C X612 (y := (⟨"com/example/rondel/rondel/primitive/DoubleRingBuffer", "size", "()I"⟩ : MethodName)) (z := (⟨"com/example/rondel/rondel/primitive/DoubleRingBuffer", "size", "()I"⟩ : MethodName)) (a := b498) (by decide) (w37 hw) (w38 hw) (w40 hw) (w39 hw) (nf_sel (w40 hw)) f615 (w41 hw) (w3 hw) (rm_size_6 hw (o0 := b498) (o1 := b516) (i2 := ((((0 : Int32) + (1 : Int32)) + (1 : Int32)) + (1 : Int32))) (kc3 := kA519) (x4 := x527) (x5 := x527) (x6 := 0) O620 f615 f616 f617 f618 f619 f621 ge506 ge517 (Nat.ne_of_lt (Nat.lt_of_lt_of_le A504.lt sz518))) (W := 0) (by decide) (by decide) (k' := 2) rfl (n' := 7) rfl (by decide) (by decide) rfl pd_94 (argsL := []) rfl (rest := []) rfl rfl rfl at_75 (q := 78) rfl ?_
          rintro _ T622 _ X623 ⟨rfl, rfl⟩
          refine g_ifN C X623 at_78 (q := 81) rfl (by decide) ?_
          refine g_iconst C X623 at_81 (q := 82) rfl (z := (1 : Int32)) rfl ?_
          refine g_goto C X623 at_82 (by decide) (q := 86) (by decide) ?_
          refine g_istore C X623 at_86 (q := 88) rfl (L' := #[.val (.int p0), .val (.int p1), .val (.int p2), .val (.int p3), .val (.int p4), .val (.int (3 : Int32)), .val (.int (2 : Int32)), .val (.ref b498), .val (.double x527), .second, .val (.int (1 : Int32)), .unset, .unset, .unset, .unset, .unset, .unset, .unset]) rfl ?_
          refine g_iloadN C X623 at_88 (q := 89) rfl rfl ?_
          obtain ⟨x624, ex624⟩ : ∃ z, (FP.i2d p3) = z := ⟨_, rfl⟩
          refine g_i2d C X623 at_89 (q := 90) rfl (z := x624) ex624 ?_
          refine g_dstore C X623 at_90 (q := 92) rfl (L' := #[.val (.int p0), .val (.int p1), .val (.int p2), .val (.int p3), .val (.int p4), .val (.int (3 : Int32)), .val (.int (2 : Int32)), .val (.ref b498), .val (.double x527), .second, .val (.int (1 : Int32)), .val (.double x624), .second, .unset, .unset, .unset, .unset, .unset]) rfl ?_
          refine g_iload C X623 at_92 (q := 94) rfl rfl ?_
          obtain ⟨x625, ex625⟩ : ∃ z, (FP.i2d p4) = z := ⟨_, rfl⟩
          refine g_i2d C X623 at_94 (q := 95) rfl (z := x625) ex625 ?_
          refine g_dstore C X623 at_95 (q := 97) rfl (L' := #[.val (.int p0), .val (.int p1), .val (.int p2), .val (.int p3), .val (.int p4), .val (.int (3 : Int32)), .val (.int (2 : Int32)), .val (.ref b498), .val (.double x527), .second, .val (.int (1 : Int32)), .val (.double x624), .second, .val (.double x625), .second, .unset, .unset, .unset]) rfl ?_
          refine g_aload C X623 at_97 (q := 99) rfl rfl rfl ?_
          refine g_dload C X623 at_99 (q := 101) rfl rfl ?_
          refine g_callV0 C X623 (y := (⟨"com/example/rondel/rondel/primitive/DoubleRingBuffer", "add", "(D)V"⟩ : MethodName)) (z := (⟨"com/example/rondel/rondel/primitive/DoubleRingBuffer", "add", "(D)V"⟩ : MethodName)) (a := b498) (by decide) (w13 hw) (w14 hw) (w16 hw) (w15 hw) (nf_sel (w16 hw)) f615 (w17 hw) (w3 hw) (rm_add_7 hw (o0 := b498) (o1 := b516) (i2 := ((((0 : Int32) + (1 : Int32)) + (1 : Int32)) + (1 : Int32))) (kc3 := kA519) (x4 := x527) (x5 := x527) (x6 := 0) (x7 := x624) O620 f615 f616 f617 f618 f619 f621 ge506 ge517 (Nat.ne_of_lt (Nat.lt_of_lt_of_le A504.lt sz518))) (W := 0) (by decide) (by decide) (k' := 2) rfl (n' := 7) rfl (by decide) (by decide) rfl pd_56 (argsL := [(.double x624)]) rfl (rest := []) rfl rfl rfl at_101 (q := 104) rfl ?_
          rintro T626 h628 X627 ⟨K629, f630, f631, f632, f633, f634, f635⟩
          have O636 := O620.keep K629 (allS ge517 (allS ge506 all0))
          refine g_aload C X627 at_104 (q := 106) rfl rfl rfl ?_
          refine g_dload C X627 at_106 (q := 108) rfl rfl ?_
          refine g_callV0 C X627 (y := (⟨"com/example/rondel/rondel/primitive/DoubleRingBuffer", "add", "(D)V"⟩ : MethodName)) (z := (⟨"com/example/rondel/rondel/primitive/DoubleRingBuffer", "add", "(D)V"⟩ : MethodName)) (a := b498) (by decide) (w13 hw) (w14 hw) (w16 hw) (w15 hw) (nf_sel (w16 hw)) f630 (w17 hw) (w3 hw) (rm_add_8 hw (o0 := b498) (o1 := b516) (i2 := (((((0 : Int32) + (1 : Int32)) + (1 : Int32)) + (1 : Int32)) + (1 : Int32))) (kc3 := kA519) (x4 := x624) (x5 := x527) (x6 := 0) (x7 := x625) O636 f630 f631 f632 f633 f634 f635 ge506 ge517 (Nat.ne_of_lt (Nat.lt_of_lt_of_le A504.lt sz518))) (W := 0) (by decide) (by decide) (k' := 2) rfl (n' := 7) rfl (by decide) (by decide) rfl pd_56 (argsL := [(.double x625)]) rfl (rest := []) rfl rfl rfl at_108 (q := 111) rfl ?_
          rintro T637 h639 X638 ⟨K640, f641, f642, f643, f644, f645, f646⟩
          have O647 := O636.keep K640 (allS ge517 (allS ge506 all0))
          refine g_iload C X638 at_111 (q := 113) rfl rfl ?_
          refine g_iconst C X638 at_113 (q := 114) rfl (z := (1 : Int32)) rfl ?_
          refine g_icY C X638 at_114 (by decide) (q := 122) (by decide) (by decide) ?_
          refine g_dload C X638 at_122 (q := 124) rfl rfl ?_
          refine g_dstore C X638 at_124 (q := 126) rfl (L' := #[.val (.int p0), .val (.int p1), .val (.int p2), .val (.int p3), .val (.int p4), .val (.int (3 : Int32)), .val (.int (2 : Int32)), .val (.ref b498), .val (.double x527), .second, .val (.int (1 : Int32)), .val (.double x624), .second, .val (.double x625), .second, .val (.double x624), .second, .unset]) rfl ?_
          refine g_iload C X638 at_126 (q := 128) rfl rfl ?_
          refine g_iconst C X638 at_128 (q := 129) rfl (z := (1 : Int32)) rfl ?_
          refine g_icY C X638 at_129 (by decide) (q := 136) (by decide) (by decide) ?_
          refine g_iconst C X638 at_136 (q := 137) rfl (z := (2 : Int32)) rfl ?_
          refine g_istore C X638 at_137 (q := 139) rfl (L' := #[.val (.int p0), .val (.int p1), .val (.int p2), .val (.int p3), .val (.int p4), .val (.int (3 : Int32)), .val (.int (2 : Int32)), .val (.ref b498), .val (.double x527), .second, .val (.int (1 : Int32)), .val (.double x624), .second, .val (.double x625), .second, .val (.double x624), .second, .val (.int (2 : Int32))]) rfl ?_
          refine g_iload C X638 at_139 (q := 141) rfl rfl ?_
          refine g_ifN C X638 at_141 (q := 144) rfl (by decide) ?_
          refine g_aload C X638 at_144 (q := 146) rfl rfl rfl ?_
          refine g_callV1 C X638 (y := (⟨"com/example/rondel/rondel/primitive/DoubleRingBuffer", "getFirst", "()D"⟩ : MethodName)) (z := (⟨"com/example/rondel/rondel/primitive/DoubleRingBuffer", "getFirst", "()D"⟩ : MethodName)) (a := b498) (by decide) (w42 hw) (w43 hw) (w45 hw) (w44 hw) (nf_sel (w45 hw)) f641 (w46 hw) (w3 hw) (rm_getFirst_3 hw (o0 := b498) (o1 := b516) (i2 := ((((((0 : Int32) + (1 : Int32)) + (1 : Int32)) + (1 : Int32)) + (1 : Int32)) + (1 : Int32))) (kc3 := kA519) (x4 := x624) (x5 := x625) (x6 := 0) O647 f641 f642 f643 f644 f645 f646 ge506 ge517 (Nat.ne_of_lt (Nat.lt_of_lt_of_le A504.lt sz518))) (W := 0) (by decide) (by decide) (k' := 2) rfl (n' := 7) rfl (by decide) (by decide) rfl pd_107 (argsL := []) rfl (rest := []) rfl rfl rfl at_146 (q := 149) rfl ?_
          rintro _ T648 _ X649 ⟨rfl, rfl⟩
          refine g_dload C X649 at_149 (q := 151) rfl rfl ?_
          refine g_dcmp C X649 at_151 (q := 152) rfl (z := 0) (dcmpV_self (own_nn ex624) _) ?_
          refine g_ifN C X649 at_152 (q := 155) rfl (by decide) ?_
          refine g_aload C X649 at_155 (q := 157) rfl rfl rfl ?_
          refine g_callV1 C X649 (y := (⟨"com/example/rondel/rondel/primitive/DoubleRingBuffer", "getLast", "()D"⟩ : MethodName)) (z := (⟨"com/example/rondel/rondel/primitive/DoubleRingBuffer", "getLast", "()D"⟩ : MethodName)) (a := b498) (by decide) (w51 hw) (w52 hw) (w54 hw) (w53 hw) (nf_sel (w54 hw)) f641 (w55 hw) (w3 hw) (rm_getLast_3 hw (o0 := b498) (o1 := b516) (i2 := ((((((0 : Int32) + (1 : Int32)) + (1 : Int32)) + (1 : Int32)) + (1 : Int32)) + (1 : Int32))) (kc3 := kA519) (x4 := x624) (x5 := x625) (x6 := 0) O647 f641 f642 f643 f644 f645 f646 ge506 ge517 (Nat.ne_of_lt (Nat.lt_of_lt_of_le A504.lt sz518))) (W := 0) (by decide) (by decide) (k' := 2) rfl (n' := 7) rfl (by decide) (by decide) rfl pd_107 (argsL := []) rfl (rest := []) rfl rfl rfl at_157 (q := 160) rfl ?_
          rintro _ T650 _ X651 ⟨rfl, rfl⟩
          refine g_dload C X651 at_160 (q := 162) rfl rfl ?_
          refine g_dcmp C X651 at_162 (q := 163) rfl (z := 0) (dcmpV_self (own_nn ex625) _) ?_
          refine g_ifN C X651 at_163 (q := 166) rfl (by decide) ?_
          refine g_aload C X651 at_166 (q := 168) rfl rfl rfl ?_
          refine g_callV1 C X651 (y := (⟨"com/example/rondel/rondel/primitive/DoubleRingBuffer", "size", "()I"⟩ : MethodName)) (z := (⟨"com/example/rondel/rondel/primitive/DoubleRingBuffer", "size", "()I"⟩ : MethodName)) (a := b498) (by decide) (w37 hw) (w38 hw) (w40 hw) (w39 hw) (nf_sel (w40 hw)) f641 (w41 hw) (w3 hw) (rm_size_7 hw (o0 := b498) (o1 := b516) (i2 := ((((((0 : Int32) + (1 : Int32)) + (1 : Int32)) + (1 : Int32)) + (1 : Int32)) + (1 : Int32))) (kc3 := kA519) (x4 := x624) (x5 := x625) (x6 := 0) O647 f641 f642 f643 f644 f645 f646 ge506 ge517 (Nat.ne_of_lt (Nat.lt_of_lt_of_le A504.lt sz518))) (W := 0) (by decide) (by decide) (k' := 2) rfl (n' := 7) rfl (by decide) (by decide) rfl pd_94 (argsL := []) rfl (rest := []) rfl rfl rfl at_168 (q := 171) rfl ?_
          rintro _ T652 _ X653 ⟨rfl, rfl⟩
          refine g_iload C X653 at_171 (q := 173) rfl rfl ?_
          refine g_icN C X653 at_173 (q := 176) rfl (by decide) ?_
          refine g_iconst C X653 at_176 (q := 177) rfl (z := (1 : Int32)) rfl ?_
          refine g_goto C X653 at_177 (by decide) (q := 181) (by decide) ?_
          exact g_retN C X653 (Or.inl rfl) (z' := 1) (by decide) at_181 (by decide) (by decide) ⟨_, rfl, rfl, trivial⟩
      · refine g_icY C X531 at_45 (by decide) (q := 55) (by decide) (flt hc541).2.2.2 ?_
        have hr654 : v495.toInt ≤ 1 := own_f4 hc541 (by decide)
        obtain rfl : v495 = (1 : Int32) := own_f0 hr529 hr654 (by decide)
        refine g_iload C X531 at_55 (q := 57) rfl rfl ?_
        refine g_iconst C X531 at_57 (q := 58) rfl (z := (2 : Int32)) rfl ?_
        refine g_icY C X531 at_58 (by decide) (q := 68) (by decide) (by decide) ?_
        refine g_aload C X531 at_68 (q := 70) rfl rfl rfl ?_
        refine g_callV0 C X531 (y := (⟨"com/example/rondel/rondel/primitive/DoubleRingBuffer", "clear", "()V"⟩ : MethodName)) (z := (⟨"com/example/rondel/rondel/primitive/DoubleRingBuffer", "clear", "()V"⟩ : MethodName)) (a := b498) (by decide) (w32 hw) (w33 hw) (w35 hw) (w34 hw) (nf_sel (w35 hw)) f534 (w36 hw) (w3 hw) (rm_clear_8 hw (o0 := b498) (o1 := b516) (i2 := ((0 : Int32) + (1 : Int32))) (kc3 := kA519) (x4 := x527) (x5 := 0) (x6 := 0) O540 f534 f535 f536 f537 f538 f539 ge506 ge517 (Nat.ne_of_lt (Nat.lt_of_lt_of_le A504.lt sz518))) (W := 0) (by decide) (by decide) (k' := 2) rfl (n' := 7) rfl (by decide) (by decide) rfl pd_90 (argsL := []) rfl (rest := []) rfl rfl rfl at_70 (q := 73) rfl ?_
        rintro T655 h657 X656 ⟨K658, f659, f660, f661, f662, f663⟩
        have O664 := O540.keep K658 (allS ge506 all0)
        refine g_aload C X656 at_73 (q := 75) rfl rfl rfl ?_
        have f665 := (f539.keep K658 (ninS (Ne.symm (Nat.ne_of_lt (Nat.lt_of_lt_of_le A504.lt sz518))) nin0))
        refine g_callV1 C X656 (y := (⟨"com/example/rondel/rondel/primitive/DoubleRingBuffer", "size", "()I"⟩ : MethodName)) (z := (⟨"com/example/rondel/rondel/primitive/DoubleRingBuffer", "size", "()I"⟩ : MethodName)) (a := b498) (by decide) (w37 hw) (w38 hw) (w40 hw) (w39 hw) (nf_sel (w40 hw)) f659 (w41 hw) (w3 hw) (rm_size_6 hw (o0 := b498) (o1 := b516) (i2 := (((0 : Int32) + (1 : Int32)) + (1 : Int32))) (kc3 := kA519) (x4 := x527) (x5 := 0) (x6 := 0) O664 f659 f660 f661 f662 f663 f665 ge506 ge517 (Nat.ne_of_lt (Nat.lt_of_lt_of_le A504.lt sz518))) (W := 0) (by decide) (by decide) (k' := 2) rfl (n' := 7) rfl (by decide) (by decide) rfl pd_94 (argsL := []) rfl (rest := []) rfl rfl rfl at_75 (q := 78) rfl ?_
        rintro _ T666 _ X667 ⟨rfl, rfl⟩
        refine g_ifN C X667 at_78 (q := 81) rfl (by decide) ?_
        refine g_iconst C X667 at_81 (q := 82) rfl (z := (1 : Int32)) rfl ?_
        refine g_goto C X667 at_82 (by decide) (q := 86) (by decide) ?_
        refine g_istore C X667 at_86 (q := 88) rfl (L' := #[.val (.int p0), .val (.int p1), .val (.int p2), .val (.int p3), .val (.int p4), .val (.int (3 : Int32)), .val (.int (1 : Int32)), .val (.ref b498), .val (.double x527), .second, .val (.int (1 : Int32)), .unset, .unset, .unset, .unset, .unset, .unset, .unset]) rfl ?_
        refine g_iloadN C X667 at_88 (q := 89) rfl rfl ?_
        obtain ⟨x668, ex668⟩ : ∃ z, (FP.i2d p3) = z := ⟨_, rfl⟩
        refine g_i2d C X667 at_89 (q := 90) rfl (z := x668) ex668 ?_
        refine g_dstore C X667 at_90 (q := 92) rfl (L' := #[.val (.int p0), .val (.int p1), .val (.int p2), .val (.int p3), .val (.int p4), .val (.int (3 : Int32)), .val (.int (1 : Int32)), .val (.ref b498), .val (.double x527), .second, .val (.int (1 : Int32)), .val (.double x668), .second, .unset, .unset, .unset, .unset, .unset]) rfl ?_
        refine g_iload C X667 at_92 (q := 94) rfl rfl ?_
        obtain ⟨x669, ex669⟩ : ∃ z, (FP.i2d p4) = z := ⟨_, rfl⟩
        refine g_i2d C X667 at_94 (q := 95) rfl (z := x669) ex669 ?_
        refine g_dstore C X667 at_95 (q := 97) rfl (L' := #[.val (.int p0), .val (.int p1), .val (.int p2), .val (.int p3), .val (.int p4), .val (.int (3 : Int32)), .val (.int (1 : Int32)), .val (.ref b498), .val (.double x527), .second, .val (.int (1 : Int32)), .val (.double x668), .second, .val (.double x669), .second, .unset, .unset, .unset]) rfl ?_
        refine g_aload C X667 at_97 (q := 99) rfl rfl rfl ?_
        refine g_dload C X667 at_99 (q := 101) rfl rfl ?_
        refine g_callV0 C X667 (y := (⟨"com/example/rondel/rondel/primitive/DoubleRingBuffer", "add", "(D)V"⟩ : MethodName)) (z := (⟨"com/example/rondel/rondel/primitive/DoubleRingBuffer", "add", "(D)V"⟩ : MethodName)) (a := b498) (by decide) (w13 hw) (w14 hw) (w16 hw) (w15 hw) (nf_sel (w16 hw)) f659 (w17 hw) (w3 hw) (rm_add_7 hw (o0 := b498) (o1 := b516) (i2 := (((0 : Int32) + (1 : Int32)) + (1 : Int32))) (kc3 := kA519) (x4 := x527) (x5 := 0) (x6 := 0) (x7 := x668) O664 f659 f660 f661 f662 f663 f665 ge506 ge517 (Nat.ne_of_lt (Nat.lt_of_lt_of_le A504.lt sz518))) (W := 0) (by decide) (by decide) (k' := 2) rfl (n' := 7) rfl (by decide) (by decide) rfl pd_56 (argsL := [(.double x668)]) rfl (rest := []) rfl rfl rfl at_101 (q := 104) rfl ?_
        rintro T670 h672 X671 ⟨K673, f674, f675, f676, f677, f678, f679⟩
        have O680 := O664.keep K673 (allS ge517 (allS ge506 all0))
        refine g_aload C X671 at_104 (q := 106) rfl rfl rfl ?_
        refine g_dload C X671 at_106 (q := 108) rfl rfl ?_
        refine g_callV0 C X671 (y := (⟨"com/example/rondel/rondel/primitive/DoubleRingBuffer", "add", "(D)V"⟩ : MethodName)) (z := (⟨"com/example/rondel/rondel/primitive/DoubleRingBuffer", "add", "(D)V"⟩ : MethodName)) (a := b498) (by decide) (w13 hw) (w14 hw) (w16 hw) (w15 hw) (nf_sel (w16 hw)) f674 (w17 hw) (w3 hw) (rm_add_8 hw (o0 := b498) (o1 := b516) (i2 := ((((0 : Int32) + (1 : Int32)) + (1 : Int32)) + (1 : Int32))) (kc3 := kA519) (x4 := x668) (x5 := 0) (x6 := 0) (x7 := x669) O680 f674 f675 f676 f677 f678 f679 ge506 ge517 (Nat.ne_of_lt (Nat.lt_of_lt_of_le A504.lt sz518))) (W := 0) (by decide) (by decide) (k' := 2) rfl (n' := 7) rfl (by decide) (by decide) rfl pd_56 (argsL := [(.double x669)]) rfl (rest := []) rfl rfl rfl at_108 (q := 111) rfl ?_
        rintro T681 h683 X682 ⟨K684, f685, f686, f687, f688, f689, f690⟩
        have O691 := O680.keep K684 (allS ge517 (allS ge506 all0))
        refine g_iload C X682 at_111 (q := 113) rfl rfl ?_
        refine g_iconst C X682 at_113 (q := 114) rfl (z := (1 : Int32)) rfl ?_
        refine g_icY C X682 at_114 (by decide) (q := 122) (by decide) (by decide) ?_
        refine g_dload C X682 at_122 (q := 124) rfl rfl ?_
        refine g_dstore C X682 at_124 (q := 126) rfl (L' := #[.val (.int p0), .val (.int p1), .val (.int p2), .val (.int p3), .val (.int p4), .val (.int (3 : Int32)), .val (.int (1 : Int32)), .val (.ref b498), .val (.double x527), .second, .val (.int (1 : Int32)), .val (.double x668), .second, .val (.double x669), .second, .val (.double x668), .second, .unset]) rfl ?_
        refine g_iload C X682 at_126 (q := 128) rfl rfl ?_
        refine g_iconst C X682 at_128 (q := 129) rfl (z := (1 : Int32)) rfl ?_
        refine g_icY C X682 at_129 (by decide) (q := 136) (by decide) (by decide) ?_
        refine g_iconst C X682 at_136 (q := 137) rfl (z := (2 : Int32)) rfl ?_
        refine g_istore C X682 at_137 (q := 139) rfl (L' := #[.val (.int p0), .val (.int p1), .val (.int p2), .val (.int p3), .val (.int p4), .val (.int (3 : Int32)), .val (.int (1 : Int32)), .val (.ref b498), .val (.double x527), .second, .val (.int (1 : Int32)), .val (.double x668), .second, .val (.double x669), .second, .val (.double x668), .second, .val (.int (2 : Int32))]) rfl ?_
        refine g_iload C X682 at_139 (q := 141) rfl rfl ?_
        refine g_ifN C X682 at_141 (q := 144) rfl (by decide) ?_
        refine g_aload C X682 at_144 (q := 146) rfl rfl rfl ?_
        refine g_callV1 C X682 (y := (⟨"com/example/rondel/rondel/primitive/DoubleRingBuffer", "getFirst", "()D"⟩ : MethodName)) (z := (⟨"com/example/rondel/rondel/primitive/DoubleRingBuffer", "getFirst", "()D"⟩ : MethodName)) (a := b498) (by decide) (w42 hw) (w43 hw) (w45 hw) (w44 hw) (nf_sel (w45 hw)) f685 (w46 hw) (w3 hw) (rm_getFirst_3 hw (o0 := b498) (o1 := b516) (i2 := (((((0 : Int32) + (1 : Int32)) + (1 : Int32)) + (1 : Int32)) + (1 : Int32))) (kc3 := kA519) (x4 := x668) (x5 := x669) (x6 := 0) O691 f685 f686 f687 f688 f689 f690 ge506 ge517 (Nat.ne_of_lt (Nat.lt_of_lt_of_le A504.lt sz518))) (W := 0) (by decide) (by decide) (k' := 2) rfl (n' := 7) rfl (by decide) (by decide) rfl pd_107 (argsL := []) rfl (rest := []) rfl rfl rfl at_146 (q := 149) rfl ?_
        rintro _ T692 _ X693 ⟨rfl, rfl⟩
        refine g_dload C X693 at_149 (q := 151) rfl rfl ?_
        refine g_dcmp C X693 at_151 (q := 152) rfl (z := 0) (dcmpV_self (own_nn ex668) _) ?_
        refine g_ifN C X693 at_152 (q := 155) rfl (by decide) ?_
        refine g_aload C X693 at_155 (q := 157) rfl rfl rfl ?_
        refine g_callV1 C X693 (y := (⟨"com/example/rondel/rondel/primitive/DoubleRingBuffer", "getLast", "()D"⟩ : MethodName)) (z := (⟨"com/example/rondel/rondel/primitive/DoubleRingBuffer", "getLast", "()D"⟩ : MethodName)) (a := b498) (by decide) (w51 hw) (w52 hw) (w54 hw) (w53 hw) (nf_sel (w54 hw)) f685 (w55 hw) (w3 hw) (rm_getLast_3 hw (o0 := b498) (o1 := b516) (i2 := (((((0 : Int32) + (1 : Int32)) + (1 : Int32)) + (1 : Int32)) + (1 : Int32))) (kc3 := kA519) (x4 := x668) (x5 := x669) (x6 := 0) O691 f685 f686 f687 f688 f689 f690 ge506 ge517 (Nat.ne_of_lt (Nat.lt_of_lt_of_le A504.lt sz518))) (W := 0) (by decide) (by decide) (k' := 2) rfl (n' := 7) rfl (by decide) (by decide) rfl pd_107 (argsL := []) rfl (rest := []) rfl rfl rfl at_157 (q := 160) rfl ?_
        rintro _ T694 _ X695 ⟨rfl, rfl⟩
        refine g_dload C X695 at_160 (q := 162) rfl rfl ?_
        refine g_dcmp C X695 at_162 (q := 163) rfl (z := 0) (dcmpV_self (own_nn ex669) _) ?_
        refine g_ifN C X695 at_163 (q := 166) rfl (by decide) ?_
        refine g_aload C X695 at_166 (q := 168) rfl rfl rfl ?_
        refine g_callV1 C X695 (y := (⟨"com/example/rondel/rondel/primitive/DoubleRingBuffer", "size", "()I"⟩ : MethodName)) (z := (⟨"com/example/rondel/rondel/primitive/DoubleRingBuffer", "size", "()I"⟩ : MethodName)) (a := b498) (by decide) (w37 hw) (w38 hw) (w40 hw) (w39 hw) (nf_sel (w40 hw)) f685 (w41 hw) (w3 hw) (rm_size_7 hw (o0 := b498) (o1 := b516) (i2 := (((((0 : Int32) + (1 : Int32)) + (1 : Int32)) + (1 : Int32)) + (1 : Int32))) (kc3 := kA519) (x4 := x668) (x5 := x669) (x6 := 0) O691 f685 f686 f687 f688 f689 f690 ge506 ge517 (Nat.ne_of_lt (Nat.lt_of_lt_of_le A504.lt sz518))) (W := 0) (by decide) (by decide) (k' := 2) rfl (n' := 7) rfl (by decide) (by decide) rfl pd_94 (argsL := []) rfl (rest := []) rfl rfl rfl at_168 (q := 171) rfl ?_
        rintro _ T696 _ X697 ⟨rfl, rfl⟩
        refine g_iload C X697 at_171 (q := 173) rfl rfl ?_
        refine g_icN C X697 at_173 (q := 176) rfl (by decide) ?_
        refine g_iconst C X697 at_176 (q := 177) rfl (z := (1 : Int32)) rfl ?_
        refine g_goto C X697 at_177 (by decide) (q := 181) (by decide) ?_
        exact g_retN C X697 (Or.inl rfl) (z' := 1) (by decide) at_181 (by decide) (by decide) ⟨_, rfl, rfl, trivial⟩
    · refine g_ifY C X513 at_32 (by decide) (q := 42) (by decide) (flt hc528).2.2.2 ?_
      have hr698 : v495.toInt ≤ 0 := own_f4 hc528 (by decide)
      obtain rfl : v495 = (0 : Int32) := own_f0 hl496 hr698 (by decide)
      refine g_iload C X513 at_42 (q := 44) rfl rfl ?_
      refine g_iconst C X513 at_44 (q := 45) rfl (z := (1 : Int32)) rfl ?_
      refine g_icY C X513 at_45 (by decide) (q := 55) (by decide) (by decide) ?_
      refine g_iload C X513 at_55 (q := 57) rfl rfl ?_
      refine g_iconst C X513 at_57 (q := 58) rfl (z := (2 : Int32)) rfl ?_
      refine g_icY C X513 at_58 (by decide) (q := 68) (by decide) (by decide) ?_
      refine g_aload C X513 at_68 (q := 70) rfl rfl rfl ?_
      refine g_callV0 C X513 (y := (⟨"com/example/rondel/rondel/primitive/DoubleRingBuffer", "clear", "()V"⟩ : MethodName)) (z := (⟨"com/example/rondel/rondel/primitive/DoubleRingBuffer", "clear", "()V"⟩ : MethodName)) (a := b498) (by decide) (w32 hw) (w33 hw) (w35 hw) (w34 hw) (nf_sel (w35 hw)) f520 (w36 hw) (w3 hw) (rm_clear_9 hw (o0 := b498) (o1 := b516) (i2 := (0 : Int32)) (kc3 := kA519) (x4 := 0) (x5 := 0) (x6 := 0) O526 f520 f521 f522 f523 f524 f525 ge506 ge517 (Nat.ne_of_lt (Nat.lt_of_lt_of_le A504.lt sz518))) (W := 0) (by decide) (by decide) (k' := 2) rfl (n' := 7) rfl (by decide) (by decide) rfl pd_90 (argsL := []) rfl (rest := []) rfl rfl rfl at_70 (q := 73) rfl ?_
      rintro T699 h701 X700 ⟨K702, f703, f704, f705, f706, f707⟩
      have O708 := O526.keep K702 (allS ge506 all0)
      refine g_aload C X700 at_73 (q := 75) rfl rfl rfl ?_
      have f709 := (f525.keep K702 (ninS (Ne.symm (Nat.ne_of_lt (Nat.lt_of_lt_of_le A504.lt sz518))) nin0))
      refine g_callV1 C X700 (y := (⟨"com/example/rondel/rondel/primitive/DoubleRingBuffer", "size", "()I"⟩ : MethodName)) (z := (⟨"com/example/rondel/rondel/primitive/DoubleRingBuffer", "size", "()I"⟩ : MethodName)) (a := b498) (by decide) (w37 hw) (w38 hw) (w40 hw) (w39 hw) (nf_sel (w40 hw)) f703 (w41 hw) (w3 hw) (rm_size_6 hw (o0 := b498) (o1 := b516) (i2 := ((0 : Int32) + (1 : Int32))) (kc3 := kA519) (x4 := 0) (x5 := 0) (x6 := 0) O708 f703 f704 f705 f706 f707 f709 ge506 ge517 (Nat.ne_of_lt (Nat.lt_of_lt_of_le A504.lt sz518))) (W := 0) (by decide) (by decide) (k' := 2) rfl (n' := 7) rfl (by decide) (by decide) rfl pd_94 (argsL := []) rfl (rest := []) rfl rfl rfl at_75 (q := 78) rfl ?_
      rintro _ T710 _ X711 ⟨rfl, rfl⟩
      refine g_ifN C X711 at_78 (q := 81) rfl (by decide) ?_
      refine g_iconst C X711 at_81 (q := 82) rfl (z := (1 : Int32)) rfl ?_
      refine g_goto C X711 at_82 (by decide) (q := 86) (by decide) ?_
      refine g_istore C X711 at_86 (q := 88) rfl (L' := #[.val (.int p0), .val (.int p1), .val (.int p2), .val (.int p3), .val (.int p4), .val (.int (3 : Int32)), .val (.int (0 : Int32)), .val (.ref b498), .val (.double x527), .second, .val (.int (1 : Int32)), .unset, .unset, .unset, .unset, .unset, .unset, .unset]) rfl ?_
      refine g_iloadN C X711 at_88 (q := 89) rfl rfl ?_
      obtain ⟨x712, ex712⟩ : ∃ z, (FP.i2d p3) = z := ⟨_, rfl⟩
      refine g_i2d C X711 at_89 (q := 90) rfl (z := x712) ex712 ?_
      refine g_dstore C X711 at_90 (q := 92) rfl (L' := #[.val (.int p0), .val (.int p1), .val (.int p2), .val (.int p3), .val (.int p4), .val (.int (3 : Int32)), .val (.int (0 : Int32)), .val (.ref b498), .val (.double x527), .second, .val (.int (1 : Int32)), .val (.double x712), .second, .unset, .unset, .unset, .unset, .unset]) rfl ?_
      refine g_iload C X711 at_92 (q := 94) rfl rfl ?_
      obtain ⟨x713, ex713⟩ : ∃ z, (FP.i2d p4) = z := ⟨_, rfl⟩
      refine g_i2d C X711 at_94 (q := 95) rfl (z := x713) ex713 ?_
      refine g_dstore C X711 at_95 (q := 97) rfl (L' := #[.val (.int p0), .val (.int p1), .val (.int p2), .val (.int p3), .val (.int p4), .val (.int (3 : Int32)), .val (.int (0 : Int32)), .val (.ref b498), .val (.double x527), .second, .val (.int (1 : Int32)), .val (.double x712), .second, .val (.double x713), .second, .unset, .unset, .unset]) rfl ?_
      refine g_aload C X711 at_97 (q := 99) rfl rfl rfl ?_
      refine g_dload C X711 at_99 (q := 101) rfl rfl ?_
      refine g_callV0 C X711 (y := (⟨"com/example/rondel/rondel/primitive/DoubleRingBuffer", "add", "(D)V"⟩ : MethodName)) (z := (⟨"com/example/rondel/rondel/primitive/DoubleRingBuffer", "add", "(D)V"⟩ : MethodName)) (a := b498) (by decide) (w13 hw) (w14 hw) (w16 hw) (w15 hw) (nf_sel (w16 hw)) f703 (w17 hw) (w3 hw) (rm_add_7 hw (o0 := b498) (o1 := b516) (i2 := ((0 : Int32) + (1 : Int32))) (kc3 := kA519) (x4 := 0) (x5 := 0) (x6 := 0) (x7 := x712) O708 f703 f704 f705 f706 f707 f709 ge506 ge517 (Nat.ne_of_lt (Nat.lt_of_lt_of_le A504.lt sz518))) (W := 0) (by decide) (by decide) (k' := 2) rfl (n' := 7) rfl (by decide) (by decide) rfl pd_56 (argsL := [(.double x712)]) rfl (rest := []) rfl rfl rfl at_101 (q := 104) rfl ?_
      rintro T714 h716 X715 ⟨K717, f718, f719, f720, f721, f722, f723⟩
      have O724 := O708.keep K717 (allS ge517 (allS ge506 all0))
      refine g_aload C X715 at_104 (q := 106) rfl rfl rfl ?_
      refine g_dload C X715 at_106 (q := 108) rfl rfl ?_
      refine g_callV0 C X715 (y := (⟨"com/example/rondel/rondel/primitive/DoubleRingBuffer", "add", "(D)V"⟩ : MethodName)) (z := (⟨"com/example/rondel/rondel/primitive/DoubleRingBuffer", "add", "(D)V"⟩ : MethodName)) (a := b498) (by decide) (w13 hw) (w14 hw) (w16 hw) (w15 hw) (nf_sel (w16 hw)) f718 (w17 hw) (w3 hw) (rm_add_8 hw (o0 := b498) (o1 := b516) (i2 := (((0 : Int32) + (1 : Int32)) + (1 : Int32))) (kc3 := kA519) (x4 := x712) (x5 := 0) (x6 := 0) (x7 := x713) O724 f718 f719 f720 f721 f722 f723 ge506 ge517 (Nat.ne_of_lt (Nat.lt_of_lt_of_le A504.lt sz518))) (W := 0) (by decide) (by decide) (k' := 2) rfl (n' := 7) rfl (by decide) (by decide) rfl pd_56 (argsL := [(.double x713)]) rfl (rest := []) rfl rfl rfl at_108 (q := 111) rfl ?_
      rintro T725 h727 X726 ⟨K728, f729, f730, f731, f732, f733, f734⟩
      have O735 := O724.keep K728 (allS ge517 (allS ge506 all0))
      refine g_iload C X726 at_111 (q := 113) rfl rfl ?_
      refine g_iconst C X726 at_113 (q := 114) rfl (z := (1 : Int32)) rfl ?_
      refine g_icY C X726 at_114 (by decide) (q := 122) (by decide) (by decide) ?_
      refine g_dload C X726 at_122 (q := 124) rfl rfl ?_
      refine g_dstore C X726 at_124 (q := 126) rfl (L' := #[.val (.int p0), .val (.int p1), .val (.int p2), .val (.int p3), .val (.int p4), .val (.int (3 : Int32)), .val (.int (0 : Int32)), .val (.ref b498), .val (.double x527), .second, .val (.int (1 : Int32)), .val (.double x712), .second, .val (.double x713), .second, .val (.double x712), .second, .unset]) rfl ?_
      refine g_iload C X726 at_126 (q := 128) rfl rfl ?_
      refine g_iconst C X726 at_128 (q := 129) rfl (z := (1 : Int32)) rfl ?_
      refine g_icY C X726 at_129 (by decide) (q := 136) (by decide) (by decide) ?_
      refine g_iconst C X726 at_136 (q := 137) rfl (z := (2 : Int32)) rfl ?_
      refine g_istore C X726 at_137 (q := 139) rfl (L' := #[.val (.int p0), .val (.int p1), .val (.int p2), .val (.int p3), .val (.int p4), .val (.int (3 : Int32)), .val (.int (0 : Int32)), .val (.ref b498), .val (.double x527), .second, .val (.int (1 : Int32)), .val (.double x712), .second, .val (.double x713), .second, .val (.double x712), .second, .val (.int (2 : Int32))]) rfl ?_
      refine g_iload C X726 at_139 (q := 141) rfl rfl ?_
      refine g_ifN C X726 at_141 (q := 144) rfl (by decide) ?_
      refine g_aload C X726 at_144 (q := 146) rfl rfl rfl ?_
      refine g_callV1 C X726 (y := (⟨"com/example/rondel/rondel/primitive/DoubleRingBuffer", "getFirst", "()D"⟩ : MethodName)) (z := (⟨"com/example/rondel/rondel/primitive/DoubleRingBuffer", "getFirst", "()D"⟩ : MethodName)) (a := b498) (by decide) (w42 hw) (w43 hw) (w45 hw) (w44 hw) (nf_sel (w45 hw)) f729 (w46 hw) (w3 hw) (rm_getFirst_3 hw (o0 := b498) (o1 := b516) (i2 := ((((0 : Int32) + (1 : Int32)) + (1 : Int32)) + (1 : Int32))) (kc3 := kA519) (x4 := x712) (x5 := x713) (x6 := 0) O735 f729 f730 f731 f732 f733 f734 ge506 ge517 (Nat.ne_of_lt (Nat.lt_of_lt_of_le A504.lt sz518))) (W := 0) (by decide) (by decide) (k' := 2) rfl (n' := 7) rfl (by decide) (by decide) rfl pd_107 (argsL := []) rfl (rest := []) rfl rfl rfl at_146 (q := 149) rfl ?_
      rintro _ T736 _ X737 ⟨rfl, rfl⟩
      refine g_dload C X737 at_149 (q := 151) rfl rfl ?_
      refine g_dcmp C X737 at_151 (q := 152) rfl (z := 0) (dcmpV_self (own_nn ex712) _) ?_
      refine g_ifN C X737 at_152 (q := 155) rfl (by decide) ?_
      refine g_aload C X737 at_155 (q := 157) rfl rfl rfl ?_
      refine g_callV1 C X737 (y := (⟨"com/example/rondel/rondel/primitive/DoubleRingBuffer", "getLast", "()D"⟩ : MethodName)) (z := (⟨"com/example/rondel/rondel/primitive/DoubleRingBuffer", "getLast", "()D"⟩ : MethodName)) (a := b498) (by decide) (w51 hw) (w52 hw) (w54 hw) (w53 hw) (nf_sel (w54 hw)) f729 (w55 hw) (w3 hw) (rm_getLast_3 hw (o0 := b498) (o1 := b516) (i2 := ((((0 : Int32) + (1 : Int32)) + (1 : Int32)) + (1 : Int32))) (kc3 := kA519) (x4 := x712) (x5 := x713) (x6 := 0) O735 f729 f730 f731 f732 f733 f734 ge506 ge517 (Nat.ne_of_lt (Nat.lt_of_lt_of_le A504.lt sz518))) (W := 0) (by decide) (by decide) (k' := 2) rfl (n' := 7) rfl (by decide) (by decide) rfl pd_107 (argsL := []) rfl (rest := []) rfl rfl rfl at_157 (q := 160) rfl ?_
      rintro _ T738 _ X739 ⟨rfl, rfl⟩
      refine g_dload C X739 at_160 (q := 162) rfl rfl ?_
      refine g_dcmp C X739 at_162 (q := 163) rfl (z := 0) (dcmpV_self (own_nn ex713) _) ?_
      refine g_ifN C X739 at_163 (q := 166) rfl (by decide) ?_
      refine g_aload C X739 at_166 (q := 168) rfl rfl rfl ?_
      refine g_callV1 C X739 (y := (⟨"com/example/rondel/rondel/primitive/DoubleRingBuffer", "size", "()I"⟩ : MethodName)) (z := (⟨"com/example/rondel/rondel/primitive/DoubleRingBuffer", "size", "()I"⟩ : MethodName)) (a := b498) (by decide) (w37 hw) (w38 hw) (w40 hw) (w39 hw) (nf_sel (w40 hw)) f729 (w41 hw) (w3 hw) (rm_size_7 hw (o0 := b498) (o1 := b516) (i2 := ((((0 : Int32) + (1 : Int32)) + (1 : Int32)) + (1 : Int32))) (kc3 := kA519) (x4 := x712) (x5 := x713) (x6 := 0) O735 f729 f730 f731 f732 f733 f734 ge506 ge517 (Nat.ne_of_lt (Nat.lt_of_lt_of_le A504.lt sz518))) (W := 0) (by decide) (by decide) (k' := 2) rfl (n' := 7) rfl (by decide) (by decide) rfl pd_94 (argsL := []) rfl (rest := []) rfl rfl rfl at_168 (q := 171) rfl ?_
      rintro _ T740 _ X741 ⟨rfl, rfl⟩
      refine g_iload C X741 at_171 (q := 173) rfl rfl ?_
      refine g_icN C X741 at_173 (q := 176) rfl (by decide) ?_
      refine g_iconst C X741 at_176 (q := 177) rfl (z := (1 : Int32)) rfl ?_
      refine g_goto C X741 at_177 (by decide) (q := 181) (by decide) ?_
      exact g_retN C X741 (Or.inl rfl) (z' := 1) (by decide) at_181 (by decide) (by decide) ⟨_, rfl, rfl, trivial⟩
set_option maxRecDepth 65536 in
set_option maxHeartbeats 40000000 in
theorem comes_1 {Post : Tables → Env → Array Value → State → Outcome → State → Prop} (hpost : ∀ tb e args s v u, (limb_1_1.after args s (.returned v) u = true ∧ limb_1_2.after args s (.returned v) u = true ∧ True) → FrameEnd s (.returned v) u (Jvm.fieldLocs frame_1_writes args s ++ Jvm.arrayLocs frame_1_arrays args s ++ Jvm.staticLocs frame_1_statics s) 16 128 → Post tb e args s (.returned v) u) :
    ArmFor flags0 classFile x code maxLocals ret World_1 tables_1 room_1 Calls_1 rest_1 Pre_1 Post := by
  intro l hfl _ _ p e ha hc hk s m args below hf hA hF happ hP
  obtain ⟨hcalls, hrest, hpre⟩ := hP
  obtain ⟨-, -, -, hnamed, -, -, -, hat⟩ := (Spec.applies_iff hf).mp happ
  obtain ⟨hg, hn⟩ := and_e (Cond.before_iff.mp (show (Jvm.Cond.and given_1 narrow_1).before args s = true from hpre))
  obtain ⟨y1, y2⟩ := and_e hg
  obtain ⟨y3, y4⟩ := and_e y2
  obtain ⟨y5, y6⟩ := and_e y4
  obtain ⟨y7, y8⟩ := and_e y6
  obtain ⟨y9, y10⟩ := and_e y8
  obtain ⟨u0, u1, u2, u3, u4, rfl⟩ : ∃ u0 u1 u2 u3 u4 : Value, args = #[u0, u1, u2, u3, u4] := by
    have hs : args.size = 5 := by simpa [Cond.value, given_1] using y1
    obtain ⟨L⟩ := args
    match L, hs with
    | [u0, u1, u2, u3, u4], _ => exact ⟨u0, u1, u2, u3, u4, rfl⟩
  have hw := fun d (hd : d ∈ tables_1) => atoms_spec (ws := Jvm.Cond.code x code maxLocals ret :: tables_1) hat d (List.mem_cons_of_mem _ hd)
  have hfit : Fit s := fun {y c} hc i hi => by
    obtain ⟨ha, rfl⟩ := Array.getElem?_eq_some_iff.mp hc
    have q := List.all_eq_true.mp ((Array.all_eq_true_iff_forall_mem.mp hF) _ (Array.getElem_mem ha)) i (List.mem_range.mpr hi)
    simpa [Array.getElem?_eq_getElem hi] using q
  obtain ⟨i0, ei0⟩ := is_v y3
  obtain rfl : u0 = (.int i0) := Option.some.inj ei0
  obtain ⟨i1, ei1⟩ := is_v y5
  obtain rfl : u1 = (.int i1) := Option.some.inj ei1
  obtain ⟨i2, ei2⟩ := is_v y7
  obtain rfl : u2 = (.int i2) := Option.some.inj ei2
  obtain ⟨i3, ei3⟩ := is_v y9
  obtain rfl : u3 = (.int i3) := Option.some.inj ei3
  obtain ⟨i4, ei4⟩ := is_v y10
  obtain rfl : u4 = (.int i4) := Option.some.inj ei4
  have hM := rmLaw (l := l) hw (p0 := i0) (p1 := i1) (p2 := i2) (p3 := i3) (p4 := i4) (Old.start s)
  obtain ⟨n, o, h1, h2, h3, _, L, rfl, ⟨N, _, rfl, rfl, -⟩, hq⟩ := hM tables_1 p e ha hc hk s m _ below hf ((Spec.applies_iff_loose hf).mp happ).1 ⟨rfl, State.Warmed39.refl s, rfl⟩ trivial
  refine ⟨n, _, h1, h2, h3, hpost _ _ _ _ _ _ ⟨Cond.after_iff.mpr rfl, Cond.after_iff.mpr (eq_i res_at (Term.int_eval (1)) rfl), trivial⟩ ⟨hq.1, hq.2.1, (hq.2.2.sift fun y hy => Or.inr (N y hy)).mono (by decide) (by decide)⟩⟩
theorem main_1_1 : Claimed_1_1 := comes_1 fun _ _ _ _ _ _ h hF => ⟨h.1, hF⟩
theorem main_1_2 : Claimed_1_2 := comes_1 fun _ _ _ _ _ _ h hF => ⟨h.2.1, hF⟩
end Jvm.Pilot.@@N@@
namespace Jvm.Pilot.@@N@@
open Jvm Jvm.ClassFile Sem Op Lib Jvm.Free Jvm.Stand Jvm.Pilot.@@N@@.Jvm.D
/-! MADE BY PROGRAM (witnessworld.py) out of the Statement's table words and the real class files: 9 classes; the members and pool entries that the words name. The judged class is class 1, her method 1. -/
namespace start1
open Jvm.ClassFile
def u (s : String) : CpInfo := .utf8 (stringToUtf16 s)
/-- a pool by its gaps: so many unusable entries, then the entry; so many at the end -/
def gap : Nat → List CpInfo → List CpInfo
  | 0, r => r
  | n + 1, r => .unusable :: gap n r
def poolList (es : List (Nat × CpInfo)) (last : Nat) : List CpInfo := es.foldr (fun e r => gap e.1 (e.2 :: r)) (gap last [])
def pool (es : List (Nat × CpInfo)) (last : Nat) : Array CpInfo := ⟨poolList es last⟩
def fileOf (pool : Array CpInfo) (this : Nat) (attrs : Array Attribute := #[]) (ms : Array MethodInfo := #[]) (fl : Nat := 33) (sup : Nat := 0) (ifs : Array Nat := #[]) (fds : Array FieldInfo := #[]) : ClassFile where
  minorVersion := 0
  majorVersion := 65
  constantPool := pool
  accessFlags := fl
  thisClass := this
  superClass := sup
  interfaces := ifs
  fields := fds
  methods := ms
  attributes := attrs
def plain (name : String) (sup : Option ClassId) : Class where
  name := name
  kind := .ordinary
  loader := none
  accessFlags := 33
  super := sup
  interfaces := #[]
  cf := none
  fields := #[]
  methods := #[]
  instanceTypes := #[]
  staticTypes := #[]
  resolved := #[]
  callSites := []
  init := .initialized
  statics := none
  mirror := none

def pool0 : Array CpInfo := pool [(5, u "<init>"), (0, u "()V"), (1, .class_ 10), (1, u "java/lang/Object")] 113

def k0c0 : Code := { maxStack := 0, maxLocals := 1, code := object_method_1_code, exceptionTable := #[], attributes := #[] }
def k0m0 : Method := { name := "<init>", desc := "()V", sig := { parameters := [], returnType := none }, accessFlags := 1, code := some k0c0 }
/-- java/lang/Object -/
def k0 : Class := { plain "java/lang/Object" none with
  accessFlags := 33
  interfaces := #[]
  cf := some (fileOf pool0 8 #[] #[{ accessFlags := 1, nameIndex := 5, descriptorIndex := 6, attributes := #[] }] 33 0 #[] #[])
  fields := #[]
  methods := #[k0m0]
  instanceTypes := #[]
  staticTypes := #[]
  resolved := Array.replicate 124 none
  statics := none }

def pool1 : Array CpInfo := pool [(2, .class_ 4), (1, u "java/lang/Object"), (0, u "<init>"), (0, u "()V"), (0, .integer 2147483647), (0, .class_ 9), (0, u "com/example/rondel/rondel/primitive/DoubleRingBuffer"), (0, .methodref 8 11), (0, .nameAndType 5 12), (0, u "(I)V"), (0, .methodref 8 14), (0, .nameAndType 15 16), (0, u "add"), (0, u "(D)V"), (0, .methodref 8 18), (0, .nameAndType 19 6), (0, u "clear"), (0, .methodref 8 21), (0, .nameAndType 22 23), (0, u "size"), (0, u "()I"), (0, .methodref 8 25), (0, .nameAndType 26 27), (0, u "getFirst"), (0, u "()D"), (0, .methodref 8 29), (0, .nameAndType 30 27), (0, u "getLast"), (0, .class_ 32), (0, u "com/example/rondel/rondel/primitive/DoubleRingBufferClearPinLaw"), (2, u "law"), (0, u "(IIIII)Z")] 3

def k1m0 : Method := { name := "<init>", desc := "()V", sig := { parameters := [], returnType := none }, accessFlags := 1, code := none }
def k1c1 : Code := { maxStack := 4, maxLocals := 18, code := code, exceptionTable := #[], attributes := #[] }
def k1m1 : Method := { name := "law", desc := "(IIIII)Z", sig := { parameters := [.int, .int, .int, .int, .int], returnType := some .boolean }, accessFlags := 9, code := some k1c1 }
/-- com/example/rondel/rondel/primitive/DoubleRingBufferClearPinLaw -/
def k1 : Class := { plain "com/example/rondel/rondel/primitive/DoubleRingBufferClearPinLaw" (some 0) with
  accessFlags := 49
  interfaces := #[]
  cf := some (fileOf pool1 31 #[] #[{ accessFlags := 1, nameIndex := 5, descriptorIndex := 6, attributes := #[] }, { accessFlags := 9, nameIndex := 35, descriptorIndex := 36, attributes := #[] }] 49 2 #[] #[])
  fields := #[]
  methods := #[k1m0, k1m1]
  instanceTypes := #[]
  staticTypes := #[]
  resolved := Array.replicate 40 none
  statics := none }

def pool2 : Array CpInfo := pool [(1, .class_ 2), (0, u "java/io/Serializable"), (0, .class_ 4), (0, u "java/lang/Object")] 2

/-- java/io/Serializable -/
def k2 : Class := { plain "java/io/Serializable" (some 0) with
  accessFlags := 1537
  interfaces := #[]
  cf := some (fileOf pool2 1 #[] #[] 1537 3 #[] #[])
  fields := #[]
  methods := #[]
  instanceTypes := #[]
  staticTypes := #[]
  resolved := Array.replicate 7 none
  statics := none }

def pool3 : Array CpInfo := pool [(3, .methodref 4 5), (0, .class_ 6), (0, .nameAndType 7 8), (0, u "java/lang/Object"), (0, u "<init>"), (0, u "()V"), (9, .fieldref 19 20), (0, .class_ 21), (0, .nameAndType 22 23), (0, u "com/example/rondel/rondel/primitive/DoubleRingBuffer"), (0, u "readings"), (0, u "[D"), (0, .fieldref 19 25), (0, .nameAndType 26 27), (0, u "size"), (0, u "I"), (0, .fieldref 19 29), (0, .nameAndType 30 27), (0, u "head"), (0, .methodref 19 32), (0, .nameAndType 33 34), (0, u "next"), (0, u "(I)I"), (0, .methodref 19 36), (0, .nameAndType 37 34), (0, u "slot"), (0, .fieldref 19 39), (0, .nameAndType 40 27), (0, u "modCount"), (2, u "getFirst"), (0, u "()D"), (2, u "getLast"), (0, .methodref 19 49), (0, .nameAndType 50 8), (0, u "checkNotEmpty"), (17, .class_ 69), (0, u "com/example/rondel/rondel/primitive/DoubleRingBuffer$Walk"), (32, .class_ 103), (0, u "com/example/rondel/rondel/primitive/DoubleRingBuffer$SerializedForm"), (3, u "()I"), (8, .class_ 117), (0, u "java/io/Serializable"), (0, u "serialVersionUID"), (0, u "J"), (3, u "WALK_CHARACTERISTICS"), (1, u "(I)V"), (6, u "add"), (0, u "(D)V"), (3, u "clear")] 46

def k3c0 : Code := { maxStack := 3, maxLocals := 2, code := prog_11_method_1_code, exceptionTable := #[], attributes := #[] }
def k3m0 : Method := { name := "<init>", desc := "(I)V", sig := { parameters := [.int], returnType := none }, accessFlags := 1, code := some k3c0 }
def k3c1 : Code := { maxStack := 1, maxLocals := 1, code := prog_11_method_3_code, exceptionTable := #[], attributes := #[] }
def k3m1 : Method := { name := "size", desc := "()I", sig := { parameters := [], returnType := some .int }, accessFlags := 1, code := some k3c1 }
def k3c2 : Code := { maxStack := 4, maxLocals := 3, code := prog_11_method_6_code, exceptionTable := #[], attributes := #[] }
def k3m2 : Method := { name := "add", desc := "(D)V", sig := { parameters := [.double], returnType := none }, accessFlags := 1, code := some k3c2 }
def k3c3 : Code := { maxStack := 2, maxLocals := 1, code := prog_11_method_9_code, exceptionTable := #[], attributes := #[] }
def k3m3 : Method := { name := "getFirst", desc := "()D", sig := { parameters := [], returnType := some .double }, accessFlags := 1, code := some k3c3 }
def k3c4 : Code := { maxStack := 4, maxLocals := 1, code := prog_11_method_10_code, exceptionTable := #[], attributes := #[] }
def k3m4 : Method := { name := "getLast", desc := "()D", sig := { parameters := [], returnType := some .double }, accessFlags := 1, code := some k3c4 }
def k3c5 : Code := { maxStack := 3, maxLocals := 1, code := prog_11_method_12_code, exceptionTable := #[], attributes := #[] }
def k3m5 : Method := { name := "clear", desc := "()V", sig := { parameters := [], returnType := none }, accessFlags := 1, code := some k3c5 }
def k3c6 : Code := { maxStack := 3, maxLocals := 1, code := prog_11_method_17_code, exceptionTable := #[], attributes := #[] }
def k3m6 : Method := { name := "checkNotEmpty", desc := "()V", sig := { parameters := [], returnType := none }, accessFlags := 2, code := some k3c6 }
def k3c7 : Code := { maxStack := 2, maxLocals := 3, code := prog_11_method_18_code, exceptionTable := #[], attributes := #[] }
def k3m7 : Method := { name := "slot", desc := "(I)I", sig := { parameters := [.int], returnType := some .int }, accessFlags := 2, code := some k3c7 }
def k3c8 : Code := { maxStack := 3, maxLocals := 2, code := prog_11_method_19_code, exceptionTable := #[], attributes := #[] }
def k3m8 : Method := { name := "next", desc := "(I)I", sig := { parameters := [.int], returnType := some .int }, accessFlags := 2, code := some k3c8 }
/-- com/example/rondel/rondel/primitive/DoubleRingBuffer -/
def k3 : Class := { plain "com/example/rondel/rondel/primitive/DoubleRingBuffer" (some 0) with
  accessFlags := 49
  interfaces := #[2]
  cf := some (fileOf pool3 19 #[.nestMembers #[102, 68]] #[{ accessFlags := 1, nameIndex := 7, descriptorIndex := 125, attributes := #[] }, { accessFlags := 1, nameIndex := 26, descriptorIndex := 107, attributes := #[] }, { accessFlags := 1, nameIndex := 132, descriptorIndex := 133, attributes := #[] }, { accessFlags := 1, nameIndex := 43, descriptorIndex := 44, attributes := #[] }, { accessFlags := 1, nameIndex := 47, descriptorIndex := 44, attributes := #[] }, { accessFlags := 1, nameIndex := 137, descriptorIndex := 8, attributes := #[] }, { accessFlags := 2, nameIndex := 50, descriptorIndex := 8, attributes := #[] }, { accessFlags := 2, nameIndex := 37, descriptorIndex := 34, attributes := #[] }, { accessFlags := 2, nameIndex := 33, descriptorIndex := 34, attributes := #[] }] 49 4 #[116] #[{ accessFlags := 26, nameIndex := 118, descriptorIndex := 119, attributes := #[] }, { accessFlags := 26, nameIndex := 123, descriptorIndex := 27, attributes := #[] }, { accessFlags := 146, nameIndex := 22, descriptorIndex := 23, attributes := #[] }, { accessFlags := 130, nameIndex := 30, descriptorIndex := 27, attributes := #[] }, { accessFlags := 130, nameIndex := 26, descriptorIndex := 27, attributes := #[] }, { accessFlags := 130, nameIndex := 40, descriptorIndex := 27, attributes := #[] }])
  fields := #[{ name := "serialVersionUID", type := .long, accessFlags := 26, slot := 0, constantValue := 0 }, { name := "WALK_CHARACTERISTICS", type := .int, accessFlags := 26, slot := 1, constantValue := 0 }, { name := "readings", type := (.array .double), accessFlags := 146, slot := 0, constantValue := 0 }, { name := "head", type := .int, accessFlags := 130, slot := 1, constantValue := 0 }, { name := "size", type := .int, accessFlags := 130, slot := 2, constantValue := 0 }, { name := "modCount", type := .int, accessFlags := 130, slot := 3, constantValue := 0 }]
  methods := #[k3m0, k3m1, k3m2, k3m3, k3m4, k3m5, k3m6, k3m7, k3m8]
  instanceTypes := #[(.array .double), .int, .int, .int]
  staticTypes := #[.long, .int]
  resolved := Array.replicate 184 none
  statics := none }

def pool4 : Array CpInfo := pool [(1, u "java/lang/Cloneable"), (0, .class_ 1), (0, u "java/lang/Object"), (0, .class_ 3)] 3

/-- java/lang/Cloneable -/
def k4 : Class := { plain "java/lang/Cloneable" (some 0) with
  accessFlags := 1537
  interfaces := #[]
  cf := some (fileOf pool4 2 #[] #[] 1537 4 #[] #[])
  fields := #[]
  methods := #[]
  instanceTypes := #[]
  staticTypes := #[]
  resolved := Array.replicate 8 none
  statics := none }

/-- the primitive byte -/
def k5 : Class := { plain "byte" none with kind := .primitive 'B', accessFlags := 0x411 }
/-- [B -/
def k6 : Class := { plain "[B" (some 0) with kind := .array 5 .byte, interfaces := #[4, 2], accessFlags := 1041 }

/-- the primitive int -/
def k7 : Class := { plain "int" none with kind := .primitive 'I', accessFlags := 0x411 }
/-- [I -/
def k8 : Class := { plain "[I" (some 0) with kind := .array 7 .int, interfaces := #[4, 2], accessFlags := 1041 }

def k9 : Class := { plain "double" none with kind := .primitive 'D', accessFlags := 0x411 }
def k10 : Class := { plain "[D" (some 0) with kind := .array 9 .double, interfaces := #[4, 2], accessFlags := 1041 }
def heap : Heap := #[]
def classes : Array Class := #[k0, k1, k2, k3, k4, k5, k6, k7, k8, k9, k10]
def interned : List (Array UInt16 × Addr) := []
def slotsUsed : Nat := 0
def theMethod : MethodId := ⟨1, 1⟩
def args0 : Array Value := #[.int 5, .int 3, .int 2, .int 7, .int 9]
def aboutOver (below : List Frame) : State where
  vm := { classes := classes, interned := interned.toArray }
  heap := heap
  slotsUsed := slotsUsed
  threads := #[{ frames := .invoking theMethod args0 :: below }]
def below0 : List Frame := [.native { method := ⟨0, 0⟩, args := #[] }]
def about1 : State := aboutOver below0
def p0 : Program := .bare "" "" ""
def e0 : Env := launch0.env 0 0 0
theorem w_frames : about1.frames = Frame.invoking theMethod args0 :: below0 := rfl
set_option maxRecDepth 65536 in
theorem w_args : argsFit about1.vm theMethod args0 = true := by decide +kernel
set_option maxRecDepth 65536 in
theorem w_heap : heapFits about1 = true := by decide +kernel
set_option maxRecDepth 65536 in
theorem w_runnable : about1.curStatus? = some .runnable := by decide +kernel
set_option maxRecDepth 65536 in
theorem w_alone : about1.alone = true := by decide +kernel
set_option maxRecDepth 65536 in
theorem w_named : about1.methodNamed? x = some theMethod := by decide +kernel
set_option maxRecDepth 65536 in
theorem w_hears : about1.hears theMethod below0 = true := by decide +kernel
set_option maxRecDepth 65536 in
theorem w_ripe : about1.ripe theMethod args0 below0 = true := by decide +kernel
theorem w_running : about1.status = .running := rfl
set_option maxRecDepth 65536 in
theorem w_room : about1.hasRoom e0.platform room_1 = true :=
  launch0.hasRoom_least _ room_1 (by decide +kernel) (by decide +kernel) (by decide +kernel) (by decide +kernel) (by decide +kernel) (by decide +kernel)
theorem allAtoms_all (ts : List Jvm.Cond) (a : Array Jvm.Value) (st : Jvm.State) : (allAtoms ts).before a st = ts.all (fun c => c.before a st) := by
  induction ts with
  | nil => rfl
  | cons c t ih =>
    show (Jvm.Cond.and c (allAtoms t)).before a st = _
    rw [Jvm.Cond.before_and, ih, List.all_cons]
def words1 : List Jvm.Cond := Jvm.Cond.code x code maxLocals ret :: tables_1
/-- a 'code' word, met by the world's own term for the bytes: nothing is compared byte by byte -/
theorem code_word {y : MethodName} {bytes : ByteArray} {mx : Nat} {rt : Option FieldType} {a : Array Value} {s : State} {m : MethodId} {meth : Method} {c : Code} (h1 : s.methodNamed? y = some m) (h2 : s.vm.method? m = some meth) (h3 : meth.code = some c) (h4 : c.code = bytes)
    (h5 : (c.maxLocals == mx && c.exceptionTable.isEmpty && decide (c.maxStack ≤ mostOperands) && decide (meth.sig.returnType = rt) && !meth.locks && decide (parseMethodDescriptor y.desc = some meth.sig)) = true) : (Jvm.Cond.code y bytes mx rt).before a s = true := by
  simp only [Bool.and_eq_true, beq_iff_eq, Bool.not_eq_true', decide_eq_true_eq] at h5
  obtain ⟨⟨⟨⟨⟨g1, g2⟩, g3⟩, g4⟩, g5⟩, g6⟩ := h5
  simp [Cond.before, Cond.holds, Cond.value, h1, h2, h3, h4, g1, g2, g3, g4, g5, g6]
def isCode : Jvm.Cond → Bool
  | .code _ _ _ _ => true
  | _ => false
theorem all_split {L : List Jvm.Cond} {P : Jvm.Cond → Bool} (h1 : L.all (fun c => isCode c || P c) = true) (h2 : ∀ c ∈ L.filter isCode, P c = true) : L.all P = true := by
  refine List.all_eq_true.mpr fun c hc => ?_
  have h := List.all_eq_true.mp h1 c hc
  rcases Bool.eq_false_or_eq_true (isCode c) with hi | hi
  · exact h2 c (List.mem_filter.mpr ⟨hc, hi⟩)
  · simpa [hi] using h
set_option maxRecDepth 65536 in
theorem w_c0 : (Jvm.Cond.code x code maxLocals ret).before args0 about1 = true := code_word (m := ⟨1, 1⟩) (meth := k1m1) (c := k1c1) (by decide +kernel) rfl rfl rfl (by decide +kernel)
set_option maxRecDepth 65536 in
theorem w_c1 : (Jvm.Cond.code ({ cls := "com/example/rondel/rondel/primitive/DoubleRingBuffer", name := "<init>", desc := "(I)V" } : Jvm.MethodName) prog_11_method_1_code (2 : Nat) (Option.none : Option Jvm.ClassFile.FieldType)).before args0 about1 = true := code_word (m := ⟨3, 0⟩) (meth := k3m0) (c := k3c0) (by decide +kernel) rfl rfl rfl (by decide +kernel)
set_option maxRecDepth 65536 in
theorem w_c2 : (Jvm.Cond.code ({ cls := "java/lang/Object", name := "<init>", desc := "()V" } : Jvm.MethodName) object_method_1_code (1 : Nat) (Option.none : Option Jvm.ClassFile.FieldType)).before args0 about1 = true := code_word (m := ⟨0, 0⟩) (meth := k0m0) (c := k0c0) (by decide +kernel) rfl rfl rfl (by decide +kernel)
set_option maxRecDepth 65536 in
theorem w_c3 : (Jvm.Cond.code ({ cls := "com/example/rondel/rondel/primitive/DoubleRingBuffer", name := "add", desc := "(D)V" } : Jvm.MethodName) prog_11_method_6_code (3 : Nat) (Option.none : Option Jvm.ClassFile.FieldType)).before args0 about1 = true := code_word (m := ⟨3, 2⟩) (meth := k3m2) (c := k3c2) (by decide +kernel) rfl rfl rfl (by decide +kernel)
set_option maxRecDepth 65536 in
theorem w_c4 : (Jvm.Cond.code ({ cls := "com/example/rondel/rondel/primitive/DoubleRingBuffer", name := "slot", desc := "(I)I" } : Jvm.MethodName) prog_11_method_18_code (3 : Nat) (Option.some Jvm.ClassFile.FieldType.int)).before args0 about1 = true := code_word (m := ⟨3, 7⟩) (meth := k3m7) (c := k3c7) (by decide +kernel) rfl rfl rfl (by decide +kernel)
set_option maxRecDepth 65536 in
theorem w_c5 : (Jvm.Cond.code ({ cls := "com/example/rondel/rondel/primitive/DoubleRingBuffer", name := "next", desc := "(I)I" } : Jvm.MethodName) prog_11_method_19_code (2 : Nat) (Option.some Jvm.ClassFile.FieldType.int)).before args0 about1 = true := code_word (m := ⟨3, 8⟩) (meth := k3m8) (c := k3c8) (by decide +kernel) rfl rfl rfl (by decide +kernel)
set_option maxRecDepth 65536 in
theorem w_c6 : (Jvm.Cond.code ({ cls := "com/example/rondel/rondel/primitive/DoubleRingBuffer", name := "clear", desc := "()V" } : Jvm.MethodName) prog_11_method_12_code (1 : Nat) (Option.none : Option Jvm.ClassFile.FieldType)).before args0 about1 = true := code_word (m := ⟨3, 5⟩) (meth := k3m5) (c := k3c5) (by decide +kernel) rfl rfl rfl (by decide +kernel)
set_option maxRecDepth 65536 in
theorem w_c7 : (Jvm.Cond.code ({ cls := "com/example/rondel/rondel/primitive/DoubleRingBuffer", name := "size", desc := "()I" } : Jvm.MethodName) prog_11_method_3_code (1 : Nat) (Option.some Jvm.ClassFile.FieldType.int)).before args0 about1 = true := code_word (m := ⟨3, 1⟩) (meth := k3m1) (c := k3c1) (by decide +kernel) rfl rfl rfl (by decide +kernel)
set_option maxRecDepth 65536 in
theorem w_c8 : (Jvm.Cond.code ({ cls := "com/example/rondel/rondel/primitive/DoubleRingBuffer", name := "getFirst", desc := "()D" } : Jvm.MethodName) prog_11_method_9_code (1 : Nat) (Option.some Jvm.ClassFile.FieldType.double)).before args0 about1 = true := code_word (m := ⟨3, 3⟩) (meth := k3m3) (c := k3c3) (by decide +kernel) rfl rfl rfl (by decide +kernel)
set_option maxRecDepth 65536 in
theorem w_c9 : (Jvm.Cond.code ({ cls := "com/example/rondel/rondel/primitive/DoubleRingBuffer", name := "checkNotEmpty", desc := "()V" } : Jvm.MethodName) prog_11_method_17_code (1 : Nat) (Option.none : Option Jvm.ClassFile.FieldType)).before args0 about1 = true := code_word (m := ⟨3, 6⟩) (meth := k3m6) (c := k3c6) (by decide +kernel) rfl rfl rfl (by decide +kernel)
set_option maxRecDepth 65536 in
theorem w_c10 : (Jvm.Cond.code ({ cls := "com/example/rondel/rondel/primitive/DoubleRingBuffer", name := "getLast", desc := "()D" } : Jvm.MethodName) prog_11_method_10_code (1 : Nat) (Option.some Jvm.ClassFile.FieldType.double)).before args0 about1 = true := code_word (m := ⟨3, 4⟩) (meth := k3m4) (c := k3c4) (by decide +kernel) rfl rfl rfl (by decide +kernel)
def codes1 : List Jvm.Cond := [Jvm.Cond.code x code maxLocals ret, Jvm.Cond.code ({ cls := "com/example/rondel/rondel/primitive/DoubleRingBuffer", name := "<init>", desc := "(I)V" } : Jvm.MethodName) prog_11_method_1_code (2 : Nat) (Option.none : Option Jvm.ClassFile.FieldType), Jvm.Cond.code ({ cls := "java/lang/Object", name := "<init>", desc := "()V" } : Jvm.MethodName) object_method_1_code (1 : Nat) (Option.none : Option Jvm.ClassFile.FieldType), Jvm.Cond.code ({ cls := "com/example/rondel/rondel/primitive/DoubleRingBuffer", name := "add", desc := "(D)V" } : Jvm.MethodName) prog_11_method_6_code (3 : Nat) (Option.none : Option Jvm.ClassFile.FieldType), Jvm.Cond.code ({ cls := "com/example/rondel/rondel/primitive/DoubleRingBuffer", name := "slot", desc := "(I)I" } : Jvm.MethodName) prog_11_method_18_code (3 : Nat) (Option.some Jvm.ClassFile.FieldType.int), Jvm.Cond.code ({ cls := "com/example/rondel/rondel/primitive/DoubleRingBuffer", name := "next", desc := "(I)I" } : Jvm.MethodName) prog_11_method_19_code (2 : Nat) (Option.some Jvm.ClassFile.FieldType.int), Jvm.Cond.code ({ cls := "com/example/rondel/rondel/primitive/DoubleRingBuffer", name := "clear", desc := "()V" } : Jvm.MethodName) prog_11_method_12_code (1 : Nat) (Option.none : Option Jvm.ClassFile.FieldType), Jvm.Cond.code ({ cls := "com/example/rondel/rondel/primitive/DoubleRingBuffer", name := "size", desc := "()I" } : Jvm.MethodName) prog_11_method_3_code (1 : Nat) (Option.some Jvm.ClassFile.FieldType.int), Jvm.Cond.code ({ cls := "com/example/rondel/rondel/primitive/DoubleRingBuffer", name := "getFirst", desc := "()D" } : Jvm.MethodName) prog_11_method_9_code (1 : Nat) (Option.some Jvm.ClassFile.FieldType.double), Jvm.Cond.code ({ cls := "com/example/rondel/rondel/primitive/DoubleRingBuffer", name := "checkNotEmpty", desc := "()V" } : Jvm.MethodName) prog_11_method_17_code (1 : Nat) (Option.none : Option Jvm.ClassFile.FieldType), Jvm.Cond.code ({ cls := "com/example/rondel/rondel/primitive/DoubleRingBuffer", name := "getLast", desc := "()D" } : Jvm.MethodName) prog_11_method_10_code (1 : Nat) (Option.some Jvm.ClassFile.FieldType.double)]
set_option maxRecDepth 65536 in
theorem codes_eq : words1.filter isCode = codes1 := rfl
theorem w_codes : ∀ c ∈ words1.filter isCode, c.before args0 about1 = true := by
  rw [codes_eq]
  intro c hc
  simp only [codes1, List.mem_cons, List.not_mem_nil, or_false] at hc
  rcases hc with rfl | rfl | rfl | rfl | rfl | rfl | rfl | rfl | rfl | rfl | rfl
  · exact w_c0
  · exact w_c1
  · exact w_c2
  · exact w_c3
  · exact w_c4
  · exact w_c5
  · exact w_c6
  · exact w_c7
  · exact w_c8
  · exact w_c9
  · exact w_c10
set_option maxRecDepth 65536 in
theorem w_t1 : (words1.take 24).all (fun c => isCode c || c.before args0 about1) = true := by decide +kernel
set_option maxRecDepth 65536 in
theorem w_t2 : ((words1.drop 24).take 24).all (fun c => isCode c || c.before args0 about1) = true := by decide +kernel
set_option maxRecDepth 65536 in
theorem w_t3 : ((words1.drop 24).drop 24).all (fun c => isCode c || c.before args0 about1) = true := by decide +kernel
theorem w_tables : (allAtoms (Jvm.Cond.code x code maxLocals ret :: tables_1)).before args0 about1 = true := by
  rw [allAtoms_all]
  show words1.all (fun c => c.before args0 about1) = true
  refine all_split ?_ w_codes
  rw [← List.take_append_drop 24 words1, List.all_append, w_t1, ← List.take_append_drop 24 (words1.drop 24), List.all_append, w_t2, w_t3]
  rfl
set_option maxRecDepth 65536 in
theorem w_case : (Jvm.Cond.and given_1 narrow_1).before args0 about1 = true := by decide +kernel
theorem w_applies : (headSpec (Jvm.Cond.code x code maxLocals ret :: tables_1) room_1).applies x e0.platform about1 = true :=
  (Spec.applies_iff w_frames).mpr ⟨w_running, w_runnable, w_alone, w_named, w_hears, w_ripe, w_room, w_tables⟩
theorem atStart : AtStart classFile x code maxLocals ret World_1 tables_1 room_1 Calls_1 rest_1 Pre_1 launch0 p0 e0 about1 theMethod args0 below0 :=
  ⟨lists_1, trivial, launch0.admits_env _ _ _, launch0.least_env, fairChoices_fair.cas, fairChoices_fair.clock, w_frames, w_args, w_heap, w_applies, trivial, trivial, w_case⟩
end start1
theorem witness_1 : WitnessClaimed_1 := ⟨start1.p0, start1.e0, start1.about1, start1.theMethod, start1.args0, start1.below0, start1.atStart⟩
end Jvm.Pilot.@@N@@
