import JvmDerived
import JvmDerived.Pilot.@@N@@Statement
import JvmDerived.Pilot.@@N@@Code
set_option linter.unusedVariables false
set_option linter.unusedSimpArgs false
namespace Jvm.Pilot.@@N@@
open Jvm Jvm.ClassFile Sem Op Lib Jvm.Free Jvm.Stand Jvm.LawKit Jvm.RoadKit Bundle Jvm.Pilot.@@N@@.Jvm.D
section OwnKit
variable {p : Program} {l : Launch} {e : Env} {R : Room} {s : State} {m : MethodId} {args : Array Value} {below : List Frame} {meth : Method} {c : Code} {T : State} {Z : State} {own mn : String} {bytes : ByteArray} {ml n0 k n : Nat} {rt : Option FieldType} {h : Heap} {G : Outcome → State → Prop} {pc q : Nat} {L : Array Slot} {st rest : List Value} {a0 : Array Value}
/-- the run from S comes to an end of which G speaks -/
def Goes (p : Program) (e : Env) (below : List Frame) (G : Outcome → State → Prop) (S : State) : Prop := ∃ s₂ o, Steps p.tables e below S s₂ ∧ s₂.status = .running ∧ Ended s₂ below o ∧ G o s₂
theorem go_st {S S' : State} (f : ∀ t, Steps p.tables e below S' t → Steps p.tables e below S t) (r : Goes p e below G S') : Goes p e below G S := by
  obtain ⟨s₂, o, a, b⟩ := r; exact ⟨s₂, o, f _ a, b⟩
theorem go_tr {S S' : State} (f : Steps p.tables e below S S') (r : Goes p e below G S') : Goes p e below G S := by
  obtain ⟨s₂, o, a, b⟩ := r; exact ⟨s₂, o, f.trans a, b⟩
/-- what a body's walk knows from its start on -/
def Cx (p : Program) (s : State) (m : MethodId) (meth : Method) (c : Code) (Z : State) (own : String) (bytes : ByteArray) (ml : Nat) (rt : Option FieldType) (mn : String) : Prop :=
  p.tables.exec = Jvm.exec ∧ Z.Warmed39 s.vm ∧ s.vm.findClass own = some m.cls ∧ c.code = bytes ∧ c.maxLocals = ml ∧ meth.sig.returnType = rt ∧ meth.locks = false ∧ meth.name = mn
/-- where it stands: the heap is h; all that was written lies at n0 or above; at most k cells and n slots are new -/
def St (p : Program) (l : Launch) (e : Env) (R : Room) (s : State) (m : MethodId) (args : Array Value) (below : List Frame) (meth : Method) (c : Code) (n0 : Nat) (T : State) (h : Heap) (k n : Nat) : Prop :=
  ∃ locs cells slots, Stand p l e R s m args below meth c T locs cells slots ∧ Fr n0 locs ∧ T.heap = h ∧ cells ≤ k ∧ slots ≤ n
def FinN (Q : Option Value → Heap → Prop) (s : State) (n0 k n : Nat) (o : Outcome) (U : State) : Prop := ∃ v L, o = .returned v ∧ (Fr n0 L ∧ Q v U.heap) ∧ FrameEnd s o U L k n
def Met (l : Launch) (Z : State) (y : MethodName) (bytes : ByteArray) (ml : Nat) (rt : Option FieldType) (rm : Room) (as' : Array Value) (h0 : Heap) (n0 : Nat) (Q : Option Value → Heap → Prop) : Prop :=
  ∀ ws : List Jvm.Cond, MetFree l y (head1 (Jvm.Cond.code y bytes ml rt :: ws) rm) (fun a U => a = as' ∧ Z.Warmed39 U.vm ∧ U.heap = h0) (fun _ _ _ _ _ => True) (fun _ U o U' => ∃ v L, o = .returned v ∧ (Fr n0 L ∧ Q v U'.heap) ∧ FrameEnd U o U' L rm.cells rm.slots)
abbrev Met1 (l : Launch) (Z : State) (y : MethodName) (bytes : ByteArray) (ml : Nat) (rt : Option FieldType) (rm : Room) (as' : Array Value) (h0 : Heap) (n0 : Nat) (Q : Value → Heap → Prop) : Prop := Met l Z y bytes ml rt rm as' h0 n0 (fun v h => ∃ w, v = some w ∧ Q w h)
abbrev Met0 (l : Launch) (Z : State) (y : MethodName) (bytes : ByteArray) (ml : Nat) (rt : Option FieldType) (rm : Room) (as' : Array Value) (h0 : Heap) (n0 : Nat) (Q : Heap → Prop) : Prop := Met l Z y bytes ml rt rm as' h0 n0 (fun v h => v = none ∧ Q h)
theorem met_of {y : MethodName} {rm : Room} {as' : Array Value} {Q : Option Value → Heap → Prop} (hp : plainFor y = true) (hef : ∀ m, entryFrame m as' ml = mkF m 0 L [])
    (body : ∀ (p : Program) (e : Env) (s : State) (m : MethodId) (below : List Frame) (meth : Method) (c : Code) (T : State), Cx p s m meth c Z y.cls bytes ml rt y.name → St p l e rm s m as' below meth c n0 T h 0 0 → Goes p e below (FinN Q s n0 rm.cells rm.slots) (T.setTop (mkF m 0 L []))) :
    Met l Z y bytes ml rt rm as' h n0 Q := by
  intro ws
  refine MetFree.of_bodySF hp hisR ?_
  intro p e s m args below meth c s₁ Bd hml hP hK
  obtain ⟨rfl, hZ, hh⟩ := hP
  have e0 : s₁.heap = h := by rw [← hh, Bd.state]; rfl
  have b := body p e s m below meth c s₁ ⟨Bd.exec, hZ, findClass_of_methodNamed Bd.named, Bd.bytes, hml, Bd.returns, BodyLoose.notSynchronized Bd, (name_of_methodNamed Bd.named Bd.method).1⟩ ⟨[], 0, 0, Stand.of_body Bd, Fr.nil _, e0, Nat.le_refl _, Nat.le_refl _⟩
  rw [hef m]
  exact b
theorem St.mono {k' n' : Nat} (X : St p l e R s m args below meth c n0 T h k n) (hk : k ≤ k') (hn : n ≤ n') : St p l e R s m args below meth c n0 T h k' n' := by
  obtain ⟨a, b, d, x, y, z, u, v⟩ := X; exact ⟨a, b, d, x, y, z, Nat.le_trans u hk, Nat.le_trans v hn⟩
theorem g_aloadN (C : Cx p s m meth c Z own bytes ml rt mn) (X : St p l e R s m args below meth c n0 T h k n) {j : Fin 4} {v : Value} (hd : decode bytes pc = .ok (.aload_n j, 1)) (hq : pc + 1 = q) (hl : L[j.val]? = some (.val v)) (hv : v.isRef = true) (r : Goes p e below G (T.setTop (mkF m q L (v :: st)))) : Goes p e below G (T.setTop (mkF m pc L (st))) := by
  obtain ⟨hx, -, -, hby, -⟩ := C
  obtain ⟨_, _, _, X, -⟩ := X
  subst hq 
  exact go_st (fun t k => XS.aloadN X.here hx rfl (hb hby hd) hl hv k) r
theorem g_aload (C : Cx p s m meth c Z own bytes ml rt mn) (X : St p l e R s m args below meth c n0 T h k n) {j : Nat} {v : Value} (hd : decode bytes pc = .ok (.aload j, 2)) (hq : pc + 2 = q) (hl : L[j]? = some (.val v)) (hv : v.isRef = true) (r : Goes p e below G (T.setTop (mkF m q L (v :: st)))) : Goes p e below G (T.setTop (mkF m pc L (st))) := by
  obtain ⟨hx, -, -, hby, -⟩ := C
  obtain ⟨_, _, _, X, -⟩ := X
  subst hq 
  exact go_st (fun t k => XS.aload X.here hx rfl (hb hby hd) hl hv k) r
theorem g_iloadN (C : Cx p s m meth c Z own bytes ml rt mn) (X : St p l e R s m args below meth c n0 T h k n) {j : Fin 4} {v : Int32} (hd : decode bytes pc = .ok (.iload_n j, 1)) (hq : pc + 1 = q) (hl : L[j.val]? = some (.val (.int v))) (r : Goes p e below G (T.setTop (mkF m q L (.int v :: st)))) : Goes p e below G (T.setTop (mkF m pc L (st))) := by
  obtain ⟨hx, -, -, hby, -⟩ := C
  obtain ⟨_, _, _, X, -⟩ := X
  subst hq 
  exact go_st (fun t k => XS.iloadN X.here hx rfl (hb hby hd) hl k) r
theorem g_iload (C : Cx p s m meth c Z own bytes ml rt mn) (X : St p l e R s m args below meth c n0 T h k n) {j : Nat} {v : Int32} (hd : decode bytes pc = .ok (.iload j, 2)) (hq : pc + 2 = q) (hl : L[j]? = some (.val (.int v))) (r : Goes p e below G (T.setTop (mkF m q L (.int v :: st)))) : Goes p e below G (T.setTop (mkF m pc L (st))) := by
  obtain ⟨hx, -, -, hby, -⟩ := C
  obtain ⟨_, _, _, X, -⟩ := X
  subst hq 
  exact go_st (fun t k => XS.iload X.here hx rfl (hb hby hd) hl k) r
theorem g_lloadN (C : Cx p s m meth c Z own bytes ml rt mn) (X : St p l e R s m args below meth c n0 T h k n) {j : Fin 4} {v : Int64} (hd : decode bytes pc = .ok (.lload_n j, 1)) (hq : pc + 1 = q) (hl : L[j.val]? = some (.val (.long v))) (r : Goes p e below G (T.setTop (mkF m q L (.long v :: st)))) : Goes p e below G (T.setTop (mkF m pc L (st))) := by
  obtain ⟨hx, -, -, hby, -⟩ := C
  obtain ⟨_, _, _, X, -⟩ := X
  subst hq 
  exact go_st (fun t k => XS.lloadN X.here hx rfl (hb hby hd) hl k) r
theorem g_lload (C : Cx p s m meth c Z own bytes ml rt mn) (X : St p l e R s m args below meth c n0 T h k n) {j : Nat} {v : Int64} (hd : decode bytes pc = .ok (.lload j, 2)) (hq : pc + 2 = q) (hl : L[j]? = some (.val (.long v))) (r : Goes p e below G (T.setTop (mkF m q L (.long v :: st)))) : Goes p e below G (T.setTop (mkF m pc L (st))) := by
  obtain ⟨hx, -, -, hby, -⟩ := C
  obtain ⟨_, _, _, X, -⟩ := X
  subst hq 
  exact go_st (fun t k => XS.lload X.here hx rfl (hb hby hd) hl k) r
theorem g_iconst (C : Cx p s m meth c Z own bytes ml rt mn) (X : St p l e R s m args below meth c n0 T h k n) {i : Int} {z : Int32} (hd : decode bytes pc = .ok (.iconst i, 1)) (hq : pc + 1 = q) (hz : Int32.ofInt i = z) (r : Goes p e below G (T.setTop (mkF m q L (.int z :: st)))) : Goes p e below G (T.setTop (mkF m pc L (st))) := by
  obtain ⟨hx, -, -, hby, -⟩ := C
  obtain ⟨_, _, _, X, -⟩ := X
  subst hq hz
  exact go_st (fun t k => XS.iconst X.here hx rfl (hb hby hd)  k) r
theorem g_bipush (C : Cx p s m meth c Z own bytes ml rt mn) (X : St p l e R s m args below meth c n0 T h k n) {i : Int} {z : Int32} (hd : decode bytes pc = .ok (.bipush i, 2)) (hq : pc + 2 = q) (hz : (Int8.ofInt i).toInt32 = z) (r : Goes p e below G (T.setTop (mkF m q L (.int z :: st)))) : Goes p e below G (T.setTop (mkF m pc L (st))) := by
  obtain ⟨hx, -, -, hby, -⟩ := C
  obtain ⟨_, _, _, X, -⟩ := X
  subst hq hz
  exact go_st (fun t k => XS.bipush X.here hx rfl (hb hby hd)  k) r
theorem g_sipush (C : Cx p s m meth c Z own bytes ml rt mn) (X : St p l e R s m args below meth c n0 T h k n) {i : Int} {z : Int32} (hd : decode bytes pc = .ok (.sipush i, 3)) (hq : pc + 3 = q) (hz : (Int16.ofInt i).toInt32 = z) (r : Goes p e below G (T.setTop (mkF m q L (.int z :: st)))) : Goes p e below G (T.setTop (mkF m pc L (st))) := by
  obtain ⟨hx, -, -, hby, -⟩ := C
  obtain ⟨_, _, _, X, -⟩ := X
  subst hq hz
  exact go_st (fun t k => XS.sipush X.here hx rfl (hb hby hd)  k) r
theorem g_aconstNull (C : Cx p s m meth c Z own bytes ml rt mn) (X : St p l e R s m args below meth c n0 T h k n)  (hd : decode bytes pc = .ok (.aconst_null, 1)) (hq : pc + 1 = q)  (r : Goes p e below G (T.setTop (mkF m q L (.null :: st)))) : Goes p e below G (T.setTop (mkF m pc L (st))) := by
  obtain ⟨hx, -, -, hby, -⟩ := C
  obtain ⟨_, _, _, X, -⟩ := X
  subst hq 
  exact go_st (fun t k => XS.aconstNull X.here hx rfl (hb hby hd)  k) r
theorem g_iadd (C : Cx p s m meth c Z own bytes ml rt mn) (X : St p l e R s m args below meth c n0 T h k n) {x y z : Int32} (hd : decode bytes pc = .ok (.iadd, 1)) (hq : pc + 1 = q) (hz : x + y = z) (r : Goes p e below G (T.setTop (mkF m q L (.int z :: st)))) : Goes p e below G (T.setTop (mkF m pc L (.int y :: .int x :: st))) := by
  obtain ⟨hx, -, -, hby, -⟩ := C
  obtain ⟨_, _, _, X, -⟩ := X
  subst hq hz
  exact go_st (fun t k => XS.iadd X.here hx rfl (hb hby hd) rfl k) r
theorem g_isub (C : Cx p s m meth c Z own bytes ml rt mn) (X : St p l e R s m args below meth c n0 T h k n) {x y z : Int32} (hd : decode bytes pc = .ok (.isub, 1)) (hq : pc + 1 = q) (hz : x - y = z) (r : Goes p e below G (T.setTop (mkF m q L (.int z :: st)))) : Goes p e below G (T.setTop (mkF m pc L (.int y :: .int x :: st))) := by
  obtain ⟨hx, -, -, hby, -⟩ := C
  obtain ⟨_, _, _, X, -⟩ := X
  subst hq hz
  exact go_st (fun t k => XS.isub X.here hx rfl (hb hby hd) rfl k) r
theorem g_imul (C : Cx p s m meth c Z own bytes ml rt mn) (X : St p l e R s m args below meth c n0 T h k n) {x y z : Int32} (hd : decode bytes pc = .ok (.imul, 1)) (hq : pc + 1 = q) (hz : x * y = z) (r : Goes p e below G (T.setTop (mkF m q L (.int z :: st)))) : Goes p e below G (T.setTop (mkF m pc L (.int y :: .int x :: st))) := by
  obtain ⟨hx, -, -, hby, -⟩ := C
  obtain ⟨_, _, _, X, -⟩ := X
  subst hq hz
  exact go_st (fun t k => XS.imul X.here hx rfl (hb hby hd) rfl k) r
theorem g_iand (C : Cx p s m meth c Z own bytes ml rt mn) (X : St p l e R s m args below meth c n0 T h k n) {x y z : Int32} (hd : decode bytes pc = .ok (.iand, 1)) (hq : pc + 1 = q) (hz : x &&& y = z) (r : Goes p e below G (T.setTop (mkF m q L (.int z :: st)))) : Goes p e below G (T.setTop (mkF m pc L (.int y :: .int x :: st))) := by
  obtain ⟨hx, -, -, hby, -⟩ := C
  obtain ⟨_, _, _, X, -⟩ := X
  subst hq hz
  exact go_st (fun t k => XS.iand X.here hx rfl (hb hby hd) rfl k) r
theorem g_ior (C : Cx p s m meth c Z own bytes ml rt mn) (X : St p l e R s m args below meth c n0 T h k n) {x y z : Int32} (hd : decode bytes pc = .ok (.ior, 1)) (hq : pc + 1 = q) (hz : x ||| y = z) (r : Goes p e below G (T.setTop (mkF m q L (.int z :: st)))) : Goes p e below G (T.setTop (mkF m pc L (.int y :: .int x :: st))) := by
  obtain ⟨hx, -, -, hby, -⟩ := C
  obtain ⟨_, _, _, X, -⟩ := X
  subst hq hz
  exact go_st (fun t k => XS.ior X.here hx rfl (hb hby hd) rfl k) r
theorem g_ixor (C : Cx p s m meth c Z own bytes ml rt mn) (X : St p l e R s m args below meth c n0 T h k n) {x y z : Int32} (hd : decode bytes pc = .ok (.ixor, 1)) (hq : pc + 1 = q) (hz : x ^^^ y = z) (r : Goes p e below G (T.setTop (mkF m q L (.int z :: st)))) : Goes p e below G (T.setTop (mkF m pc L (.int y :: .int x :: st))) := by
  obtain ⟨hx, -, -, hby, -⟩ := C
  obtain ⟨_, _, _, X, -⟩ := X
  subst hq hz
  exact go_st (fun t k => XS.ixor X.here hx rfl (hb hby hd) rfl k) r
theorem g_ishl (C : Cx p s m meth c Z own bytes ml rt mn) (X : St p l e R s m args below meth c n0 T h k n) {x y z : Int32} (hd : decode bytes pc = .ok (.ishl, 1)) (hq : pc + 1 = q) (hz : x <<< (y &&& 31) = z) (r : Goes p e below G (T.setTop (mkF m q L (.int z :: st)))) : Goes p e below G (T.setTop (mkF m pc L (.int y :: .int x :: st))) := by
  obtain ⟨hx, -, -, hby, -⟩ := C
  obtain ⟨_, _, _, X, -⟩ := X
  subst hq hz
  exact go_st (fun t k => XS.ishl X.here hx rfl (hb hby hd) rfl k) r
theorem g_ishr (C : Cx p s m meth c Z own bytes ml rt mn) (X : St p l e R s m args below meth c n0 T h k n) {x y z : Int32} (hd : decode bytes pc = .ok (.ishr, 1)) (hq : pc + 1 = q) (hz : x >>> (y &&& 31) = z) (r : Goes p e below G (T.setTop (mkF m q L (.int z :: st)))) : Goes p e below G (T.setTop (mkF m pc L (.int y :: .int x :: st))) := by
  obtain ⟨hx, -, -, hby, -⟩ := C
  obtain ⟨_, _, _, X, -⟩ := X
  subst hq hz
  exact go_st (fun t k => XS.ishr X.here hx rfl (hb hby hd) rfl k) r
theorem g_iushr (C : Cx p s m meth c Z own bytes ml rt mn) (X : St p l e R s m args below meth c n0 T h k n) {x y z : Int32} (hd : decode bytes pc = .ok (.iushr, 1)) (hq : pc + 1 = q) (hz : (x.toUInt32 >>> (y &&& 31).toUInt32).toInt32 = z) (r : Goes p e below G (T.setTop (mkF m q L (.int z :: st)))) : Goes p e below G (T.setTop (mkF m pc L (.int y :: .int x :: st))) := by
  obtain ⟨hx, -, -, hby, -⟩ := C
  obtain ⟨_, _, _, X, -⟩ := X
  subst hq hz
  exact go_st (fun t k => XS.iushr X.here hx rfl (hb hby hd) rfl k) r
theorem g_idiv (C : Cx p s m meth c Z own bytes ml rt mn) (X : St p l e R s m args below meth c n0 T h k n) {x y z : Int32} (hd : decode bytes pc = .ok (.idiv, 1)) (hq : pc + 1 = q) (hy : y ≠ 0) (hz : x / y = z) (r : Goes p e below G (T.setTop (mkF m q L (.int z :: st)))) : Goes p e below G (T.setTop (mkF m pc L (.int y :: .int x :: st))) := by
  obtain ⟨hx, -, -, hby, -⟩ := C
  obtain ⟨_, _, _, X, -⟩ := X
  subst hq hz
  exact go_st (fun t k => XS.idiv X.here hx rfl (hb hby hd) rfl hy k) r
theorem g_irem (C : Cx p s m meth c Z own bytes ml rt mn) (X : St p l e R s m args below meth c n0 T h k n) {x y z : Int32} (hd : decode bytes pc = .ok (.irem, 1)) (hq : pc + 1 = q) (hy : y ≠ 0) (hz : x % y = z) (r : Goes p e below G (T.setTop (mkF m q L (.int z :: st)))) : Goes p e below G (T.setTop (mkF m pc L (.int y :: .int x :: st))) := by
  obtain ⟨hx, -, -, hby, -⟩ := C
  obtain ⟨_, _, _, X, -⟩ := X
  subst hq hz
  exact go_st (fun t k => iremM X hx rfl (hb hby hd) rfl hy k) r
theorem g_ineg (C : Cx p s m meth c Z own bytes ml rt mn) (X : St p l e R s m args below meth c n0 T h k n) {x z : Int32} (hd : decode bytes pc = .ok (.ineg, 1)) (hq : pc + 1 = q) (hz : -x = z) (r : Goes p e below G (T.setTop (mkF m q L (.int z :: st)))) : Goes p e below G (T.setTop (mkF m pc L (.int x :: st))) := by
  obtain ⟨hx, -, -, hby, -⟩ := C
  obtain ⟨_, _, _, X, -⟩ := X
  subst hq hz
  exact go_st (fun t k => XS.ineg X.here hx rfl (hb hby hd) rfl k) r
theorem g_ladd (C : Cx p s m meth c Z own bytes ml rt mn) (X : St p l e R s m args below meth c n0 T h k n) {x y z : Int64} (hd : decode bytes pc = .ok (.ladd, 1)) (hq : pc + 1 = q) (hz : x + y = z) (r : Goes p e below G (T.setTop (mkF m q L (.long z :: st)))) : Goes p e below G (T.setTop (mkF m pc L (.long y :: .long x :: st))) := by
  obtain ⟨hx, -, -, hby, -⟩ := C
  obtain ⟨_, _, _, X, -⟩ := X
  subst hq hz
  exact go_st (fun t k => XS.ladd X.here hx rfl (hb hby hd) rfl k) r
theorem g_lsub (C : Cx p s m meth c Z own bytes ml rt mn) (X : St p l e R s m args below meth c n0 T h k n) {x y z : Int64} (hd : decode bytes pc = .ok (.lsub, 1)) (hq : pc + 1 = q) (hz : x - y = z) (r : Goes p e below G (T.setTop (mkF m q L (.long z :: st)))) : Goes p e below G (T.setTop (mkF m pc L (.long y :: .long x :: st))) := by
  obtain ⟨hx, -, -, hby, -⟩ := C
  obtain ⟨_, _, _, X, -⟩ := X
  subst hq hz
  exact go_st (fun t k => XS.lsub X.here hx rfl (hb hby hd) rfl k) r
theorem g_lmul (C : Cx p s m meth c Z own bytes ml rt mn) (X : St p l e R s m args below meth c n0 T h k n) {x y z : Int64} (hd : decode bytes pc = .ok (.lmul, 1)) (hq : pc + 1 = q) (hz : x * y = z) (r : Goes p e below G (T.setTop (mkF m q L (.long z :: st)))) : Goes p e below G (T.setTop (mkF m pc L (.long y :: .long x :: st))) := by
  obtain ⟨hx, -, -, hby, -⟩ := C
  obtain ⟨_, _, _, X, -⟩ := X
  subst hq hz
  exact go_st (fun t k => XS.lmul X.here hx rfl (hb hby hd) rfl k) r
theorem g_land (C : Cx p s m meth c Z own bytes ml rt mn) (X : St p l e R s m args below meth c n0 T h k n) {x y z : Int64} (hd : decode bytes pc = .ok (.land, 1)) (hq : pc + 1 = q) (hz : x &&& y = z) (r : Goes p e below G (T.setTop (mkF m q L (.long z :: st)))) : Goes p e below G (T.setTop (mkF m pc L (.long y :: .long x :: st))) := by
  obtain ⟨hx, -, -, hby, -⟩ := C
  obtain ⟨_, _, _, X, -⟩ := X
  subst hq hz
  exact go_st (fun t k => XS.land X.here hx rfl (hb hby hd) rfl k) r
theorem g_lor (C : Cx p s m meth c Z own bytes ml rt mn) (X : St p l e R s m args below meth c n0 T h k n) {x y z : Int64} (hd : decode bytes pc = .ok (.lor, 1)) (hq : pc + 1 = q) (hz : x ||| y = z) (r : Goes p e below G (T.setTop (mkF m q L (.long z :: st)))) : Goes p e below G (T.setTop (mkF m pc L (.long y :: .long x :: st))) := by
  obtain ⟨hx, -, -, hby, -⟩ := C
  obtain ⟨_, _, _, X, -⟩ := X
  subst hq hz
  exact go_st (fun t k => XS.lor X.here hx rfl (hb hby hd) rfl k) r
theorem g_lxor (C : Cx p s m meth c Z own bytes ml rt mn) (X : St p l e R s m args below meth c n0 T h k n) {x y z : Int64} (hd : decode bytes pc = .ok (.lxor, 1)) (hq : pc + 1 = q) (hz : x ^^^ y = z) (r : Goes p e below G (T.setTop (mkF m q L (.long z :: st)))) : Goes p e below G (T.setTop (mkF m pc L (.long y :: .long x :: st))) := by
  obtain ⟨hx, -, -, hby, -⟩ := C
  obtain ⟨_, _, _, X, -⟩ := X
  subst hq hz
  exact go_st (fun t k => XS.lxor X.here hx rfl (hb hby hd) rfl k) r
theorem g_lshl (C : Cx p s m meth c Z own bytes ml rt mn) (X : St p l e R s m args below meth c n0 T h k n) {x z : Int64} {y : Int32} (hd : decode bytes pc = .ok (.lshl, 1)) (hq : pc + 1 = q) (hz : x <<< (y &&& 0x3f).toInt64 = z) (r : Goes p e below G (T.setTop (mkF m q L (.long z :: st)))) : Goes p e below G (T.setTop (mkF m pc L (.int y :: .long x :: st))) := by
  obtain ⟨hx, -, -, hby, -⟩ := C
  obtain ⟨_, _, _, X, -⟩ := X
  subst hq hz
  exact go_st (fun t k => XS.lshl X.here hx rfl (hb hby hd) rfl k) r
theorem g_lshr (C : Cx p s m meth c Z own bytes ml rt mn) (X : St p l e R s m args below meth c n0 T h k n) {x z : Int64} {y : Int32} (hd : decode bytes pc = .ok (.lshr, 1)) (hq : pc + 1 = q) (hz : x >>> (y &&& 0x3f).toInt64 = z) (r : Goes p e below G (T.setTop (mkF m q L (.long z :: st)))) : Goes p e below G (T.setTop (mkF m pc L (.int y :: .long x :: st))) := by
  obtain ⟨hx, -, -, hby, -⟩ := C
  obtain ⟨_, _, _, X, -⟩ := X
  subst hq hz
  exact go_st (fun t k => XS.lshr X.here hx rfl (hb hby hd) rfl k) r
theorem g_lushr (C : Cx p s m meth c Z own bytes ml rt mn) (X : St p l e R s m args below meth c n0 T h k n) {x z : Int64} {y : Int32} (hd : decode bytes pc = .ok (.lushr, 1)) (hq : pc + 1 = q) (hz : (x.toUInt64 >>> (y &&& 0x3f).toInt64.toUInt64).toInt64 = z) (r : Goes p e below G (T.setTop (mkF m q L (.long z :: st)))) : Goes p e below G (T.setTop (mkF m pc L (.int y :: .long x :: st))) := by
  obtain ⟨hx, -, -, hby, -⟩ := C
  obtain ⟨_, _, _, X, -⟩ := X
  subst hq hz
  exact go_st (fun t k => XS.lushr X.here hx rfl (hb hby hd) rfl k) r
theorem g_ldiv (C : Cx p s m meth c Z own bytes ml rt mn) (X : St p l e R s m args below meth c n0 T h k n) {x y z : Int64} (hd : decode bytes pc = .ok (.ldiv, 1)) (hq : pc + 1 = q) (hy : y ≠ 0) (hz : x / y = z) (r : Goes p e below G (T.setTop (mkF m q L (.long z :: st)))) : Goes p e below G (T.setTop (mkF m pc L (.long y :: .long x :: st))) := by
  obtain ⟨hx, -, -, hby, -⟩ := C
  obtain ⟨_, _, _, X, -⟩ := X
  subst hq hz
  exact go_st (fun t k => XS.ldiv X.here hx rfl (hb hby hd) rfl hy k) r
theorem g_lrem (C : Cx p s m meth c Z own bytes ml rt mn) (X : St p l e R s m args below meth c n0 T h k n) {x y z : Int64} (hd : decode bytes pc = .ok (.lrem, 1)) (hq : pc + 1 = q) (hy : y ≠ 0) (hz : x % y = z) (r : Goes p e below G (T.setTop (mkF m q L (.long z :: st)))) : Goes p e below G (T.setTop (mkF m pc L (.long y :: .long x :: st))) := by
  obtain ⟨hx, -, -, hby, -⟩ := C
  obtain ⟨_, _, _, X, -⟩ := X
  subst hq hz
  have w := lrem_mod x y
  exact go_st (fun t k => XS.lrem X.here hx rfl (hb hby hd) rfl hy (by rw [w]; exact k)) r
theorem g_lneg (C : Cx p s m meth c Z own bytes ml rt mn) (X : St p l e R s m args below meth c n0 T h k n) {x z : Int64} (hd : decode bytes pc = .ok (.lneg, 1)) (hq : pc + 1 = q) (hz : -x = z) (r : Goes p e below G (T.setTop (mkF m q L (.long z :: st)))) : Goes p e below G (T.setTop (mkF m pc L (.long x :: st))) := by
  obtain ⟨hx, -, -, hby, -⟩ := C
  obtain ⟨_, _, _, X, -⟩ := X
  subst hq hz
  exact go_st (fun t k => XS.lneg X.here hx rfl (hb hby hd) rfl k) r
theorem g_i2l (C : Cx p s m meth c Z own bytes ml rt mn) (X : St p l e R s m args below meth c n0 T h k n) {x : Int32} {z : Int64} (hd : decode bytes pc = .ok (.i2l, 1)) (hq : pc + 1 = q) (hz : x.toInt64 = z) (r : Goes p e below G (T.setTop (mkF m q L (.long z :: st)))) : Goes p e below G (T.setTop (mkF m pc L (.int x :: st))) := by
  obtain ⟨hx, -, -, hby, -⟩ := C
  obtain ⟨_, _, _, X, -⟩ := X
  subst hq hz
  exact go_st (fun t k => XS.i2l X.here hx rfl (hb hby hd) rfl k) r
theorem g_l2i (C : Cx p s m meth c Z own bytes ml rt mn) (X : St p l e R s m args below meth c n0 T h k n) {x : Int64} {z : Int32} (hd : decode bytes pc = .ok (.l2i, 1)) (hq : pc + 1 = q) (hz : x.toInt32 = z) (r : Goes p e below G (T.setTop (mkF m q L (.int z :: st)))) : Goes p e below G (T.setTop (mkF m pc L (.long x :: st))) := by
  obtain ⟨hx, -, -, hby, -⟩ := C
  obtain ⟨_, _, _, X, -⟩ := X
  subst hq hz
  exact go_st (fun t k => XS.l2i X.here hx rfl (hb hby hd) rfl k) r
theorem g_i2b (C : Cx p s m meth c Z own bytes ml rt mn) (X : St p l e R s m args below meth c n0 T h k n) {x z : Int32} (hd : decode bytes pc = .ok (.i2b, 1)) (hq : pc + 1 = q) (hz : x.toInt8.toInt32 = z) (r : Goes p e below G (T.setTop (mkF m q L (.int z :: st)))) : Goes p e below G (T.setTop (mkF m pc L (.int x :: st))) := by
  obtain ⟨hx, -, -, hby, -⟩ := C
  obtain ⟨_, _, _, X, -⟩ := X
  subst hq hz
  exact go_st (fun t k => XS.i2b X.here hx rfl (hb hby hd) rfl k) r
theorem g_i2s (C : Cx p s m meth c Z own bytes ml rt mn) (X : St p l e R s m args below meth c n0 T h k n) {x z : Int32} (hd : decode bytes pc = .ok (.i2s, 1)) (hq : pc + 1 = q) (hz : x.toInt16.toInt32 = z) (r : Goes p e below G (T.setTop (mkF m q L (.int z :: st)))) : Goes p e below G (T.setTop (mkF m pc L (.int x :: st))) := by
  obtain ⟨hx, -, -, hby, -⟩ := C
  obtain ⟨_, _, _, X, -⟩ := X
  subst hq hz
  exact go_st (fun t k => XS.i2s X.here hx rfl (hb hby hd) rfl k) r
theorem g_i2c (C : Cx p s m meth c Z own bytes ml rt mn) (X : St p l e R s m args below meth c n0 T h k n) {x z : Int32} (hd : decode bytes pc = .ok (.i2c, 1)) (hq : pc + 1 = q) (hz : x.toUInt32.toUInt16.toUInt32.toInt32 = z) (r : Goes p e below G (T.setTop (mkF m q L (.int z :: st)))) : Goes p e below G (T.setTop (mkF m pc L (.int x :: st))) := by
  obtain ⟨hx, -, -, hby, -⟩ := C
  obtain ⟨_, _, _, X, -⟩ := X
  subst hq hz
  exact go_st (fun t k => XS.i2c X.here hx rfl (hb hby hd) rfl k) r
theorem g_lconst (C : Cx p s m meth c Z own bytes ml rt mn) (X : St p l e R s m args below meth c n0 T h k n) {i : Fin 2} {z : Int64} (hd : decode bytes pc = .ok (.lconst i, 1)) (hq : pc + 1 = q) (hz : (i.val.toInt64) = z) (r : Goes p e below G (T.setTop (mkF m q L (.long z :: st)))) : Goes p e below G (T.setTop (mkF m pc L (st))) := by
  obtain ⟨hx, -, -, hby, -⟩ := C
  obtain ⟨_, _, _, X, -⟩ := X
  subst hq hz
  exact go_st (fun t k => XS.lconst X.here hx rfl (hb hby hd) k) r
theorem own_lcW (x y : Int64) : (if x > y then (1 : Int32) else if x = y then 0 else -1) = lcmpW x y := rfl
theorem g_lcmp (C : Cx p s m meth c Z own bytes ml rt mn) (X : St p l e R s m args below meth c n0 T h k n) {x y : Int64} {z : Int32} (hd : decode bytes pc = .ok (.lcmp, 1)) (hq : pc + 1 = q) (hz : lcmpW x y = z) (r : Goes p e below G (T.setTop (mkF m q L (.int z :: st)))) : Goes p e below G (T.setTop (mkF m pc L (.long y :: .long x :: st))) := by
  obtain ⟨hx, -, -, hby, -⟩ := C
  obtain ⟨_, _, _, X, -⟩ := X
  subst hq hz
  exact go_st (fun t k => XS.lcmp X.here hx rfl (hb hby hd) rfl k) r
theorem g_dup (C : Cx p s m meth c Z own bytes ml rt mn) (X : St p l e R s m args below meth c n0 T h k n) {x : Value} (hd : decode bytes pc = .ok (.dup, 1)) (hq : pc + 1 = q) (hc : x.category = 1) (r : Goes p e below G (T.setTop (mkF m q L (x :: x :: st)))) : Goes p e below G (T.setTop (mkF m pc L (x :: st))) := by
  obtain ⟨hx, -, -, hby, -⟩ := C
  obtain ⟨_, _, _, X, -⟩ := X
  subst hq 
  exact go_st (fun t k => XS.dup X.here hx rfl (hb hby hd) rfl hc k) r
theorem g_pop (C : Cx p s m meth c Z own bytes ml rt mn) (X : St p l e R s m args below meth c n0 T h k n) {x : Value} (hd : decode bytes pc = .ok (.pop, 1)) (hq : pc + 1 = q) (hc : x.category = 1) (r : Goes p e below G (T.setTop (mkF m q L (st)))) : Goes p e below G (T.setTop (mkF m pc L (x :: st))) := by
  obtain ⟨hx, -, -, hby, -⟩ := C
  obtain ⟨_, _, _, X, -⟩ := X
  subst hq 
  exact go_st (fun t k => XS.pop X.here hx rfl (hb hby hd) rfl hc k) r
theorem g_dupX1 (C : Cx p s m meth c Z own bytes ml rt mn) (X : St p l e R s m args below meth c n0 T h k n) {x y : Value} (hd : decode bytes pc = .ok (.dup_x1, 1)) (hq : pc + 1 = q) (hc : x.category = 1) (hc' : y.category = 1) (r : Goes p e below G (T.setTop (mkF m q L (x :: y :: x :: st)))) : Goes p e below G (T.setTop (mkF m pc L (x :: y :: st))) := by
  obtain ⟨hx, -, -, hby, -⟩ := C
  obtain ⟨_, _, _, X, -⟩ := X
  subst hq 
  exact go_st (fun t k => XS.dupX1 X.here hx rfl (hb hby hd) rfl hc hc' k) r
theorem g_dup2 (C : Cx p s m meth c Z own bytes ml rt mn) (X : St p l e R s m args below meth c n0 T h k n) {x y : Value} (hd : decode bytes pc = .ok (.dup2, 1)) (hq : pc + 1 = q) (hc : x.category = 1) (hc' : y.category = 1) (r : Goes p e below G (T.setTop (mkF m q L (x :: y :: x :: y :: st)))) : Goes p e below G (T.setTop (mkF m pc L (x :: y :: st))) := by
  obtain ⟨hx, -, -, hby, -⟩ := C
  obtain ⟨_, _, _, X, -⟩ := X
  subst hq 
  exact go_st (fun t k => Jvm.Free.XT.dup2 X.here hx rfl (hb hby hd) rfl hc hc' k) r
theorem g_istoreN (C : Cx p s m meth c Z own bytes ml rt mn) (X : St p l e R s m args below meth c n0 T h k n) {j : Fin 4} {x : Int32} {L' : Array Slot} (hd : decode bytes pc = .ok (.istore_n j, 1)) (hq : pc + 1 = q) (hl : storeLocals L j.val (.int x) = some L') (r : Goes p e below G (T.setTop (mkF m q L' (st)))) : Goes p e below G (T.setTop (mkF m pc L (.int x :: st))) := by
  obtain ⟨hx, -, -, hby, -⟩ := C
  obtain ⟨_, _, _, X, -⟩ := X
  subst hq 
  exact go_st (fun t k => XS.istoreN X.here hx rfl (hb hby hd) rfl hl k) r
theorem g_istore (C : Cx p s m meth c Z own bytes ml rt mn) (X : St p l e R s m args below meth c n0 T h k n) {j : Nat} {x : Int32} {L' : Array Slot} (hd : decode bytes pc = .ok (.istore j, 2)) (hq : pc + 2 = q) (hl : storeLocals L j (.int x) = some L') (r : Goes p e below G (T.setTop (mkF m q L' (st)))) : Goes p e below G (T.setTop (mkF m pc L (.int x :: st))) := by
  obtain ⟨hx, -, -, hby, -⟩ := C
  obtain ⟨_, _, _, X, -⟩ := X
  subst hq 
  exact go_st (fun t k => XS.istore X.here hx rfl (hb hby hd) rfl hl k) r
theorem g_lstoreN (C : Cx p s m meth c Z own bytes ml rt mn) (X : St p l e R s m args below meth c n0 T h k n) {j : Fin 4} {x : Int64} {L' : Array Slot} (hd : decode bytes pc = .ok (.lstore_n j, 1)) (hq : pc + 1 = q) (hl : storeLocals L j.val (.long x) = some L') (r : Goes p e below G (T.setTop (mkF m q L' (st)))) : Goes p e below G (T.setTop (mkF m pc L (.long x :: st))) := by
  obtain ⟨hx, -, -, hby, -⟩ := C
  obtain ⟨_, _, _, X, -⟩ := X
  subst hq 
  exact go_st (fun t k => XS.lstoreN X.here hx rfl (hb hby hd) rfl hl k) r
theorem g_lstore (C : Cx p s m meth c Z own bytes ml rt mn) (X : St p l e R s m args below meth c n0 T h k n) {j : Nat} {x : Int64} {L' : Array Slot} (hd : decode bytes pc = .ok (.lstore j, 2)) (hq : pc + 2 = q) (hl : storeLocals L j (.long x) = some L') (r : Goes p e below G (T.setTop (mkF m q L' (st)))) : Goes p e below G (T.setTop (mkF m pc L (.long x :: st))) := by
  obtain ⟨hx, -, -, hby, -⟩ := C
  obtain ⟨_, _, _, X, -⟩ := X
  subst hq 
  exact go_st (fun t k => XS.lstore X.here hx rfl (hb hby hd) rfl hl k) r
theorem g_astoreN (C : Cx p s m meth c Z own bytes ml rt mn) (X : St p l e R s m args below meth c n0 T h k n) {j : Fin 4} {x : Value} {L' : Array Slot} (hd : decode bytes pc = .ok (.astore_n j, 1)) (hq : pc + 1 = q) (hv : x.isRef = true) (hl : storeLocals L j.val x = some L') (r : Goes p e below G (T.setTop (mkF m q L' (st)))) : Goes p e below G (T.setTop (mkF m pc L (x :: st))) := by
  obtain ⟨hx, -, -, hby, -⟩ := C
  obtain ⟨_, _, _, X, -⟩ := X
  subst hq 
  exact go_st (fun t k => XS.astoreN X.here hx rfl (hb hby hd) rfl hv hl k) r
theorem g_astore (C : Cx p s m meth c Z own bytes ml rt mn) (X : St p l e R s m args below meth c n0 T h k n) {j : Nat} {x : Value} {L' : Array Slot} (hd : decode bytes pc = .ok (.astore j, 2)) (hq : pc + 2 = q) (hv : x.isRef = true) (hl : storeLocals L j x = some L') (r : Goes p e below G (T.setTop (mkF m q L' (st)))) : Goes p e below G (T.setTop (mkF m pc L (x :: st))) := by
  obtain ⟨hx, -, -, hby, -⟩ := C
  obtain ⟨_, _, _, X, -⟩ := X
  subst hq 
  exact go_st (fun t k => XS.astore X.here hx rfl (hb hby hd) rfl hv hl k) r
theorem g_iinc (C : Cx p s m meth c Z own bytes ml rt mn) (X : St p l e R s m args below meth c n0 T h k n) {j : Nat} {i : Int} {x z : Int32} {L' : Array Slot} (hd : decode bytes pc = .ok (.iinc j i, 3)) (hq : pc + 3 = q) (hl : L[j]? = some (.val (.int x))) (hz : x + Int32.ofInt i = z) (hl' : storeLocals L j (.int z) = some L') (r : Goes p e below G (T.setTop (mkF m q L' (st)))) : Goes p e below G (T.setTop (mkF m pc L (st))) := by
  obtain ⟨hx, -, -, hby, -⟩ := C
  obtain ⟨_, _, _, X, -⟩ := X
  subst hq hz
  exact go_st (fun t k => XS.iinc X.here hx rfl (hb hby hd) hl hl' k) r
theorem g_goto (C : Cx p s m meth c Z own bytes ml rt mn) (X : St p l e R s m args below meth c n0 T h k n)  {o : Int} (hd : decode bytes pc = .ok (.goto o, 3)) (ho : 0 ≤ (pc : Int) + o) (hq : ((pc : Int) + o).toNat = q)  (r : Goes p e below G (T.setTop (mkF m q L st))) : Goes p e below G (T.setTop (mkF m pc L (st))) := by
  obtain ⟨hx, -, -, hby, -⟩ := C
  obtain ⟨_, _, _, X, -⟩ := X
  exact go_st (fun t k => XS.goto X.here hx rfl rfl (hb hby hd) ho hq k) r
theorem g_ifY (C : Cx p s m meth c Z own bytes ml rt mn) (X : St p l e R s m args below meth c n0 T h k n) {cd : ClassFile.Cond} {x : Int32} {o : Int} (hd : decode bytes pc = .ok (.ifCond cd o, 3)) (ho : 0 ≤ (pc : Int) + o) (hq : ((pc : Int) + o).toNat = q) (hc : if_icmp.holds cd x 0 = true) (r : Goes p e below G (T.setTop (mkF m q L st))) : Goes p e below G (T.setTop (mkF m pc L (.int x :: st))) := by
  obtain ⟨hx, -, -, hby, -⟩ := C
  obtain ⟨_, _, _, X, -⟩ := X
  exact go_st (fun t k => XS.ifYes X.here hx rfl rfl (hb hby hd) rfl ((if0 _ _).trans hc) ho hq k) r
theorem g_ifN (C : Cx p s m meth c Z own bytes ml rt mn) (X : St p l e R s m args below meth c n0 T h k n) {cd : ClassFile.Cond} {x : Int32} {o : Int} (hd : decode bytes pc = .ok (.ifCond cd o, 3)) (hq : pc + 3 = q) (hc : if_icmp.holds cd x 0 = false) (r : Goes p e below G (T.setTop (mkF m q L st))) : Goes p e below G (T.setTop (mkF m pc L (.int x :: st))) := by
  obtain ⟨hx, -, -, hby, -⟩ := C
  obtain ⟨_, _, _, X, -⟩ := X
  subst hq
  exact go_st (fun t k => XS.ifNo X.here hx rfl (hb hby hd) rfl ((if0 _ _).trans hc) k) r
theorem g_icY (C : Cx p s m meth c Z own bytes ml rt mn) (X : St p l e R s m args below meth c n0 T h k n) {cd : ClassFile.Cond} {x y : Int32} {o : Int} (hd : decode bytes pc = .ok (.if_icmp cd o, 3)) (ho : 0 ≤ (pc : Int) + o) (hq : ((pc : Int) + o).toNat = q) (hc : if_icmp.holds cd x y = true) (r : Goes p e below G (T.setTop (mkF m q L st))) : Goes p e below G (T.setTop (mkF m pc L (.int y :: .int x :: st))) := by
  obtain ⟨hx, -, -, hby, -⟩ := C
  obtain ⟨_, _, _, X, -⟩ := X
  exact go_st (fun t k => XS.icmpYes X.here hx rfl rfl (hb hby hd) rfl hc ho hq k) r
theorem g_icN (C : Cx p s m meth c Z own bytes ml rt mn) (X : St p l e R s m args below meth c n0 T h k n) {cd : ClassFile.Cond} {x y : Int32} {o : Int} (hd : decode bytes pc = .ok (.if_icmp cd o, 3)) (hq : pc + 3 = q) (hc : if_icmp.holds cd x y = false) (r : Goes p e below G (T.setTop (mkF m q L st))) : Goes p e below G (T.setTop (mkF m pc L (.int y :: .int x :: st))) := by
  obtain ⟨hx, -, -, hby, -⟩ := C
  obtain ⟨_, _, _, X, -⟩ := X
  subst hq
  exact go_st (fun t k => XS.icmpNo X.here hx rfl (hb hby hd) rfl hc k) r
theorem g_nulY (C : Cx p s m meth c Z own bytes ml rt mn) (X : St p l e R s m args below meth c n0 T h k n)  {o : Int} (hd : decode bytes pc = .ok (.ifnull o, 3)) (ho : 0 ≤ (pc : Int) + o) (hq : ((pc : Int) + o).toNat = q)  (r : Goes p e below G (T.setTop (mkF m q L st))) : Goes p e below G (T.setTop (mkF m pc L (.null :: st))) := by
  obtain ⟨hx, -, -, hby, -⟩ := C
  obtain ⟨_, _, _, X, -⟩ := X
  exact go_st (fun t k => XS.ifnullYes X.here hx rfl rfl (hb hby hd) rfl ho hq k) r
theorem g_nulN (C : Cx p s m meth c Z own bytes ml rt mn) (X : St p l e R s m args below meth c n0 T h k n) {b : Addr} {o : Int} (hd : decode bytes pc = .ok (.ifnull o, 3)) (hq : pc + 3 = q)  (r : Goes p e below G (T.setTop (mkF m q L st))) : Goes p e below G (T.setTop (mkF m pc L (.ref b :: st))) := by
  obtain ⟨hx, -, -, hby, -⟩ := C
  obtain ⟨_, _, _, X, -⟩ := X
  subst hq
  exact go_st (fun t k => XS.ifnullNo X.here hx rfl (hb hby hd) rfl k) r
theorem g_nonY (C : Cx p s m meth c Z own bytes ml rt mn) (X : St p l e R s m args below meth c n0 T h k n) {b : Addr} {o : Int} (hd : decode bytes pc = .ok (.ifnonnull o, 3)) (ho : 0 ≤ (pc : Int) + o) (hq : ((pc : Int) + o).toNat = q)  (r : Goes p e below G (T.setTop (mkF m q L st))) : Goes p e below G (T.setTop (mkF m pc L (.ref b :: st))) := by
  obtain ⟨hx, -, -, hby, -⟩ := C
  obtain ⟨_, _, _, X, -⟩ := X
  exact go_st (fun t k => XS.ifnonnullYes X.here hx rfl rfl (hb hby hd) rfl ho hq k) r
theorem g_nonN (C : Cx p s m meth c Z own bytes ml rt mn) (X : St p l e R s m args below meth c n0 T h k n)  {o : Int} (hd : decode bytes pc = .ok (.ifnonnull o, 3)) (hq : pc + 3 = q)  (r : Goes p e below G (T.setTop (mkF m q L st))) : Goes p e below G (T.setTop (mkF m pc L (.null :: st))) := by
  obtain ⟨hx, -, -, hby, -⟩ := C
  obtain ⟨_, _, _, X, -⟩ := X
  subst hq
  exact go_st (fun t k => XS.ifnonnullNo X.here hx rfl (hb hby hd) rfl k) r
theorem g_boolF (C : Cx p s m meth c Z own bytes ml rt mn) (X : St p l e R s m args below meth c n0 T h k n) {cd : ClassFile.Cond} {x : Int32} (hd : decode bytes pc = .ok (.ifCond cd 7, 3)) (hd1 : decode bytes (pc + 3) = .ok (.iconst 1, 1)) (hd2 : decode bytes (pc + 4) = .ok (.goto 4, 3)) (hd3 : decode bytes (pc + 7) = .ok (.iconst 0, 1)) (hq : pc + 8 = q) (r : ∀ b : Int32, (if_icmp.holds cd x 0 = true → b = 0) → (if_icmp.holds cd x 0 = false → b = 1) → Goes p e below G (T.setTop (mkF m q L (.int b :: st)))) : Goes p e below G (T.setTop (mkF m pc L (.int x :: st))) := by
  subst hq
  cases hc : if_icmp.holds cd x 0
  · refine g_ifN C X hd (q := pc + 3) rfl hc ?_
    refine g_iconst C X hd1 (q := pc + 4) rfl (z := 1) rfl ?_
    refine g_goto C X hd2 (by omega) (q := pc + 8) (by omega) ?_
    exact r 1 (fun z => by rw [hc] at z; cases z) (fun _ => rfl)
  · refine g_ifY C X hd (by omega) (q := pc + 7) (by omega) hc ?_
    refine g_iconst C X hd3 (q := pc + 8) rfl (z := 0) rfl ?_
    exact r 0 (fun _ => rfl) (fun z => by rw [hc] at z; cases z)
theorem g_selF (C : Cx p s m meth c Z own bytes ml rt mn) (X : St p l e R s m args below meth c n0 T h k n) {cd : ClassFile.Cond} {x v1 v2 : Int32} {j1 j2 : Fin 4} (hd : decode bytes pc = .ok (.ifCond cd 7, 3)) (hd1 : decode bytes (pc + 3) = .ok (.iload_n j1, 1)) (hd2 : decode bytes (pc + 4) = .ok (.goto 4, 3)) (hd3 : decode bytes (pc + 7) = .ok (.iload_n j2, 1)) (hq : pc + 8 = q) (l1 : L[j1.val]? = some (.val (.int v1))) (l2 : L[j2.val]? = some (.val (.int v2))) (r : ∀ b : Int32, (if_icmp.holds cd x 0 = true → b = v2) → (if_icmp.holds cd x 0 = false → b = v1) → Goes p e below G (T.setTop (mkF m q L (.int b :: st)))) : Goes p e below G (T.setTop (mkF m pc L (.int x :: st))) := by
  subst hq
  cases hc : if_icmp.holds cd x 0
  · refine g_ifN C X hd (q := pc + 3) rfl hc ?_
    refine g_iloadN C X hd1 (q := pc + 4) rfl l1 ?_
    refine g_goto C X hd2 (by omega) (q := pc + 8) (by omega) ?_
    exact r v1 (fun z => by rw [hc] at z; cases z) (fun _ => rfl)
  · refine g_ifY C X hd (by omega) (q := pc + 7) (by omega) hc ?_
    refine g_iloadN C X hd3 (q := pc + 8) rfl l2 ?_
    exact r v2 (fun _ => rfl) (fun z => by rw [hc] at z; cases z)
theorem g_boolC (C : Cx p s m meth c Z own bytes ml rt mn) (X : St p l e R s m args below meth c n0 T h k n) {cd : ClassFile.Cond} {x y : Int32} (hd : decode bytes pc = .ok (.if_icmp cd 7, 3)) (hd1 : decode bytes (pc + 3) = .ok (.iconst 1, 1)) (hd2 : decode bytes (pc + 4) = .ok (.goto 4, 3)) (hd3 : decode bytes (pc + 7) = .ok (.iconst 0, 1)) (hq : pc + 8 = q) (r : ∀ b : Int32, (if_icmp.holds cd x y = true → b = 0) → (if_icmp.holds cd x y = false → b = 1) → Goes p e below G (T.setTop (mkF m q L (.int b :: st)))) : Goes p e below G (T.setTop (mkF m pc L (.int y :: .int x :: st))) := by
  subst hq
  cases hc : if_icmp.holds cd x y
  · refine g_icN C X hd (q := pc + 3) rfl hc ?_
    refine g_iconst C X hd1 (q := pc + 4) rfl (z := 1) rfl ?_
    refine g_goto C X hd2 (by omega) (q := pc + 8) (by omega) ?_
    exact r 1 (fun z => by rw [hc] at z; cases z) (fun _ => rfl)
  · refine g_icY C X hd (by omega) (q := pc + 7) (by omega) hc ?_
    refine g_iconst C X hd3 (q := pc + 8) rfl (z := 0) rfl ?_
    exact r 0 (fun _ => rfl) (fun z => by rw [hc] at z; cases z)
theorem g_acmp (C : Cx p s m meth c Z own bytes ml rt mn) (X : St p l e R s m args below meth c n0 T h k n) {cd : ACond} {x y : Value} {o : Int} {same : Bool} (hd : decode bytes pc = .ok (.if_acmp cd o, 3)) (h1 : x.isRef = true) (h2 : y.isRef = true) (hs : decide (x = y) = same) (ho : 0 ≤ (pc : Int) + o) (hq : q = if acV cd same = true then ((pc : Int) + o).toNat else pc + 3) (r : Goes p e below G (T.setTop (mkF m q L st))) : Goes p e below G (T.setTop (mkF m pc L (y :: x :: st))) := by
  obtain ⟨hx, -, -, hby, -⟩ := C
  obtain ⟨_, _, _, X, -⟩ := X
  exact go_st (fun t k => Jvm.RoadKit.acmp (g := mkF m pc L (y :: x :: st)) X hx rfl h1 h2 rfl (hb hby hd) rfl hs ho hq k) r
theorem g_lsw (C : Cx p s m meth c Z own bytes ml rt mn) (X : St p l e R s m args below meth c n0 T h k n) {d o : Int} {ps : Array (Int × Int)} {i : Int32} {len : Nat} (hd : decode bytes pc = .ok (.lookupswitch d ps, len)) (hinc : (ps.toList.zip (ps.toList.drop 1)).all (fun (a, next) => a.1 < next.1) = true) (hoff : lookupswitch.offset ps.toList d i.toInt = o) (ho : 0 ≤ (pc : Int) + o) (hq : ((pc : Int) + o).toNat = q) (r : Goes p e below G (T.setTop (mkF m q L st))) : Goes p e below G (T.setTop (mkF m pc L (.int i :: st))) := by
  obtain ⟨hx, -, -, hby, -⟩ := C
  obtain ⟨_, _, _, X, -⟩ := X
  subst hq
  refine go_st (fun t k => ?_) r
  have hd' := hb hby hd
  show Steps p.tables e below (T.setTop { method := m, pc := pc, locals := L, stack := .int i :: st, locked := none }) _
  jvm_step X.here [X.here.top, hx, hd', lookupswitch.wp_chain, hoff, ho]
  refine ⟨?_, k⟩
  intro a b a1 b1 hm
  simpa using List.all_eq_true.mp hinc ((a, b), a1, b1) (by simpa using hm)
theorem g_tswI (C : Cx p s m meth c Z own bytes ml rt mn) (X : St p l e R s m args below meth c n0 T h k n) {d lo hi o : Int} {offs : Array Int} {i : Int32} {len : Nat} (hd : decode bytes pc = .ok (.tableswitch d lo hi offs, len)) (hin : ¬ (i.toInt < lo ∨ i.toInt > hi)) (hoff : offs[(i.toInt - lo).toNat]? = some o) (ho : 0 ≤ (pc : Int) + o) (hq : ((pc : Int) + o).toNat = q) (r : Goes p e below G (T.setTop (mkF m q L st))) : Goes p e below G (T.setTop (mkF m pc L (.int i :: st))) := by
  obtain ⟨hx, -, -, hby, -⟩ := C
  obtain ⟨_, _, _, X, -⟩ := X
  exact go_st (fun t k => XS.tswIn X.here hx rfl rfl (hb hby hd) rfl hin hoff ho hq k) r
theorem g_tswO (C : Cx p s m meth c Z own bytes ml rt mn) (X : St p l e R s m args below meth c n0 T h k n) {d lo hi : Int} {offs : Array Int} {i : Int32} {len : Nat} (hd : decode bytes pc = .ok (.tableswitch d lo hi offs, len)) (hin : i.toInt < lo ∨ i.toInt > hi) (ho : 0 ≤ (pc : Int) + d) (hq : ((pc : Int) + d).toNat = q) (r : Goes p e below G (T.setTop (mkF m q L st))) : Goes p e below G (T.setTop (mkF m pc L (.int i :: st))) := by
  obtain ⟨hx, -, -, hby, -⟩ := C
  obtain ⟨_, _, _, X, -⟩ := X
  exact go_st (fun t k => XS.tswOut X.here hx rfl rfl (hb hby hd) rfl hin ho hq k) r
theorem g_ldcI (C : Cx p s m meth c Z own bytes ml rt mn) (X : St p l e R s m args below meth c n0 T h k n) {i : Nat} {v : Int32} (w : (Cond.constant own i v).before a0 Z = true) (hd : decode bytes pc = .ok (.ldc i, 2)) (hq : pc + 2 = q) (r : Goes p e below G (T.setTop (mkF m q L (.int v :: st)))) : Goes p e below G (T.setTop (mkF m pc L st)) := by
  obtain ⟨hx, hZ, hown, hby, -⟩ := C
  obtain ⟨_, _, _, X, -⟩ := X
  subst hq
  exact go_st (fun t k => X.ldcInt hx hown (mvT hZ w) (g := mkF m pc L st) rfl (hb hby hd) t k) r
theorem g_ldcJ (C : Cx p s m meth c Z own bytes ml rt mn) (X : St p l e R s m args below meth c n0 T h k n) {i : Nat} {v : Int64} (w : (Cond.constantLong own i v).before a0 Z = true) (hd : decode bytes pc = .ok (.ldc2_w i, 3)) (hq : pc + 3 = q) (r : Goes p e below G (T.setTop (mkF m q L (.long v :: st)))) : Goes p e below G (T.setTop (mkF m pc L st)) := by
  obtain ⟨hx, hZ, hown, hby, -⟩ := C
  obtain ⟨_, _, _, X, -⟩ := X
  subst hq
  exact go_st (fun t k => X.ldc2Long hx hown (mvT hZ w) (g := mkF m pc L st) rfl (hb hby hd) t k) r
theorem own_end (C : Cx p s m meth c Z own bytes ml rt mn) (X : St p l e R s m args below meth c n0 T h k n) {Q : Option Value → Heap → Prop} {K N : Nat} {S : State} {v : Option Value} (hv : rt = none → v = none) (hk : k ≤ K) (hn : n ≤ N) (hQ : Q v h)
    (f : ∀ locs cells slots fs, Stand p l e R s m args below meth c T locs cells slots → (∀ (f : JFrame) (acts : List Action), f.method = m → f.locked = none → f.entered = [] → (doReturn e (T.setTop f) acts v).1 = T.setFrames fs) → Steps p.tables e below S (T.setFrames fs)) : Goes p e below (FinN Q s n0 K N) S := by
  obtain ⟨hx, -, -, hby, -, hret, hlk, -⟩ := C
  obtain ⟨locs, cells, slots, X, hF, rfl, h1, h2⟩ := X
  obtain ⟨fs, hr, hrun, hended, hW, hsame⟩ := X.leave (v := v) (fun h => hv (hret.symm.trans h)) hlk
  exact ⟨_, _, f _ _ _ fs X hr, hrun, hended, _, _, rfl, ⟨hF, hQ⟩, ⟨_, rfl⟩, hW, hsame.mono (Nat.le_trans h1 hk) (Nat.le_trans h2 hn)⟩
theorem g_retI (C : Cx p s m meth c Z own bytes ml (some .int) mn) (X : St p l e R s m args below meth c n0 T h k n) {Q : Option Value → Heap → Prop} {K N : Nat} {z : Int32} (hd : decode bytes pc = .ok (.ireturn, 1)) (hk : k ≤ K) (hn : n ≤ N) (hQ : Q (some (.int z)) h) : Goes p e below (FinN Q s n0 K N) (T.setTop (mkF m pc L (.int z :: st))) := by
  refine own_end C X (by simp) hk hn hQ fun locs cells slots fs X hr => ?_
  obtain ⟨hx, -, -, hby, -, hret, hlk, -⟩ := C
  exact retOut X hx hret rfl (Or.inl ⟨rfl, Or.inl rfl, _, rfl⟩) (hb hby hd) hr
theorem g_retN {t : FieldType} (C : Cx p s m meth c Z own bytes ml (some t) mn) (X : St p l e R s m args below meth c n0 T h k n) {Q : Option Value → Heap → Prop} {K N : Nat} {z z' : Int32} (ht : t = .boolean ∨ t = .byte ∨ t = .char ∨ t = .short) (hz : nar t z = z') (hd : decode bytes pc = .ok (.ireturn, 1)) (hk : k ≤ K) (hn : n ≤ N) (hQ : Q (some (.int z')) h) : Goes p e below (FinN Q s n0 K N) (T.setTop (mkF m pc L (.int z :: st))) := by
  subst hz
  refine own_end C X (by simp) hk hn hQ fun locs cells slots fs X hr => ?_
  obtain ⟨hx, -, -, hby, -, hret, hlk, -⟩ := C
  exact retN X hx hret ht (hb hby hd) hr
theorem g_retA {t : FieldType} (C : Cx p s m meth c Z own bytes ml (some t) mn) (X : St p l e R s m args below meth c n0 T h k n) {Q : Option Value → Heap → Prop} {K N : Nat} {v : Value} (ht : t.isReference = true) (hv : v.isRef = true) (hd : decode bytes pc = .ok (.areturn, 1)) (hk : k ≤ K) (hn : n ≤ N) (hQ : Q (some v) h) : Goes p e below (FinN Q s n0 K N) (T.setTop (mkF m pc L (v :: st))) := by
  refine own_end C X (by simp) hk hn hQ fun locs cells slots fs X hr => ?_
  obtain ⟨hx, -, -, hby, -, hret, hlk, -⟩ := C
  have hn' : narrow t v = v := by rcases ref_cases hv with rfl | ⟨b, rfl⟩ <;> cases t <;> first | rfl | (cases ht)
  exact retOut X hx hret hn' (Or.inr (Or.inr (Or.inr (Or.inr ⟨rfl, ht, hv⟩)))) (hb hby hd) hr
theorem g_retJ (C : Cx p s m meth c Z own bytes ml (some .long) mn) (X : St p l e R s m args below meth c n0 T h k n) {Q : Option Value → Heap → Prop} {K N : Nat} {z : Int64} (hd : decode bytes pc = .ok (.lreturn, 1)) (hk : k ≤ K) (hn : n ≤ N) (hQ : Q (some (.long z)) h) : Goes p e below (FinN Q s n0 K N) (T.setTop (mkF m pc L (.long z :: st))) := by
  refine own_end C X (by simp) hk hn hQ fun locs cells slots fs X hr => ?_
  obtain ⟨hx, -, -, hby, -, hret, hlk, -⟩ := C
  exact retOut X hx hret rfl (Or.inr (Or.inl ⟨rfl, rfl, _, rfl⟩)) (hb hby hd) hr
theorem g_retV (C : Cx p s m meth c Z own bytes ml none mn) (X : St p l e R s m args below meth c n0 T h k n) {Q : Option Value → Heap → Prop} {K N : Nat} (hd : decode bytes pc = .ok (.return_, 1)) (hk : k ≤ K) (hn : n ≤ N) (hQ : Q none h) : Goes p e below (FinN Q s n0 K N) (T.setTop (mkF m pc L [])) := by
  refine own_end C X (fun _ => rfl) hk hn hQ fun locs cells slots fs X hr => ?_
  obtain ⟨hx, -, -, hby, -, hret, hlk, -⟩ := C
  exact X.returnOut hx hret (hb hby hd) hr
theorem g_dloadN (C : Cx p s m meth c Z own bytes ml rt mn) (X : St p l e R s m args below meth c n0 T h k n) {j : Fin 4} {v : UInt64} (hd : decode bytes pc = .ok (.dload_n j, 1)) (hq : pc + 1 = q) (hl : L[j.val]? = some (.val (.double v))) (r : Goes p e below G (T.setTop (mkF m q L (.double v :: st)))) : Goes p e below G (T.setTop (mkF m pc L (st))) := by
  obtain ⟨hx, -, -, hby, -⟩ := C
  obtain ⟨_, _, _, X, -⟩ := X
  subst hq 
  exact go_st (fun t k => XS.dloadN X.here hx rfl (hb hby hd) hl k) r
theorem g_dload (C : Cx p s m meth c Z own bytes ml rt mn) (X : St p l e R s m args below meth c n0 T h k n) {j : Nat} {v : UInt64} (hd : decode bytes pc = .ok (.dload j, 2)) (hq : pc + 2 = q) (hl : L[j]? = some (.val (.double v))) (r : Goes p e below G (T.setTop (mkF m q L (.double v :: st)))) : Goes p e below G (T.setTop (mkF m pc L (st))) := by
  obtain ⟨hx, -, -, hby, -⟩ := C
  obtain ⟨_, _, _, X, -⟩ := X
  subst hq 
  exact go_st (fun t k => XS.dload X.here hx rfl (hb hby hd) hl k) r
theorem g_dstoreN (C : Cx p s m meth c Z own bytes ml rt mn) (X : St p l e R s m args below meth c n0 T h k n) {j : Fin 4} {x : UInt64} {L' : Array Slot} (hd : decode bytes pc = .ok (.dstore_n j, 1)) (hq : pc + 1 = q) (hl : storeLocals L j.val (.double x) = some L') (r : Goes p e below G (T.setTop (mkF m q L' (st)))) : Goes p e below G (T.setTop (mkF m pc L (.double x :: st))) := by
  obtain ⟨hx, -, -, hby, -⟩ := C
  obtain ⟨_, _, _, X, -⟩ := X
  subst hq 
  exact go_st (fun t k => XS.dstoreN X.here hx rfl (hb hby hd) rfl hl k) r
theorem g_dstore (C : Cx p s m meth c Z own bytes ml rt mn) (X : St p l e R s m args below meth c n0 T h k n) {j : Nat} {x : UInt64} {L' : Array Slot} (hd : decode bytes pc = .ok (.dstore j, 2)) (hq : pc + 2 = q) (hl : storeLocals L j (.double x) = some L') (r : Goes p e below G (T.setTop (mkF m q L' (st)))) : Goes p e below G (T.setTop (mkF m pc L (.double x :: st))) := by
  obtain ⟨hx, -, -, hby, -⟩ := C
  obtain ⟨_, _, _, X, -⟩ := X
  subst hq 
  exact go_st (fun t k => XS.dstore X.here hx rfl (hb hby hd) rfl hl k) r
theorem g_i2d (C : Cx p s m meth c Z own bytes ml rt mn) (X : St p l e R s m args below meth c n0 T h k n) {x : Int32} {z : UInt64} (hd : decode bytes pc = .ok (.i2d, 1)) (hq : pc + 1 = q) (hz : FP.i2d x = z) (r : Goes p e below G (T.setTop (mkF m q L (.double z :: st)))) : Goes p e below G (T.setTop (mkF m pc L (.int x :: st))) := by
  obtain ⟨hx, -, -, hby, -⟩ := C
  obtain ⟨_, _, _, X, -⟩ := X
  subst hq 
  exact go_st (fun t k => XS.i2dS X.here hx rfl (hb hby hd) rfl hz k) r
theorem g_dcmp (C : Cx p s m meth c Z own bytes ml rt mn) (X : St p l e R s m args below meth c n0 T h k n) {o : CmpOp} {x y : UInt64} {z : Int32} (hd : decode bytes pc = .ok (.dcmp o, 1)) (hq : pc + 1 = q) (hz : cmpValue (FP.dcmp x y) o = z) (r : Goes p e below G (T.setTop (mkF m q L (.int z :: st)))) : Goes p e below G (T.setTop (mkF m pc L (.double y :: .double x :: st))) := by
  obtain ⟨hx, -, -, hby, -⟩ := C
  obtain ⟨_, _, _, X, -⟩ := X
  subst hq 
  exact go_st (fun t k => XS.dcmpS X.here hx rfl (hb hby hd) rfl hz k) r
theorem g_pop2 (C : Cx p s m meth c Z own bytes ml rt mn) (X : St p l e R s m args below meth c n0 T h k n) {x : Value} (hd : decode bytes pc = .ok (.pop2, 1)) (hq : pc + 1 = q) (hc : x.category = 2) (r : Goes p e below G (T.setTop (mkF m q L st))) : Goes p e below G (T.setTop (mkF m pc L (x :: st))) := by
  obtain ⟨hx, -, -, hby, -⟩ := C
  obtain ⟨_, _, _, X, -⟩ := X
  subst hq
  refine go_st (fun t k => ?_) r
  have hd' := hb hby hd
  show Steps p.tables e below (T.setTop { method := m, pc := pc, locals := L, stack := x :: st, locked := none }) _
  jvm_step X.here [X.here.top, hx, hd', hc]
  exact k
theorem g_dmul (C : Cx p s m meth c Z own bytes ml rt mn) (X : St p l e R s m args below meth c n0 T h k n) {x y z : UInt64} (hd : decode bytes pc = .ok (.dmul, 1)) (hq : pc + 1 = q) (hn : Jvm.Free.Fl.NoNaN64 (FP.dmul x y)) (hz : FP.dmul x y = z) (r : Goes p e below G (T.setTop (mkF m q L (.double z :: st)))) : Goes p e below G (T.setTop (mkF m pc L (.double y :: .double x :: st))) := by
  obtain ⟨hx, -, -, hby, -⟩ := C
  obtain ⟨_, _, _, X, -⟩ := X
  subst hq 
  exact go_st (fun t k => XS.dmulS X.here hx rfl (hb hby hd) rfl hn hz k) r
theorem g_ddiv (C : Cx p s m meth c Z own bytes ml rt mn) (X : St p l e R s m args below meth c n0 T h k n) {x y z : UInt64} (hd : decode bytes pc = .ok (.ddiv, 1)) (hq : pc + 1 = q) (hn : Jvm.Free.Fl.NoNaN64 (FP.ddiv x y)) (hz : FP.ddiv x y = z) (r : Goes p e below G (T.setTop (mkF m q L (.double z :: st)))) : Goes p e below G (T.setTop (mkF m pc L (.double y :: .double x :: st))) := by
  obtain ⟨hx, -, -, hby, -⟩ := C
  obtain ⟨_, _, _, X, -⟩ := X
  subst hq 
  exact go_st (fun t k => XS.ddivS X.here hx rfl (hb hby hd) rfl hn hz k) r
theorem g_ldcD (C : Cx p s m meth c Z own bytes ml rt mn) (X : St p l e R s m args below meth c n0 T h k n) {i : Nat} {v : UInt64} (w : (Cond.constantDouble own i v).before a0 Z = true) (hd : decode bytes pc = .ok (.ldc2_w i, 3)) (hq : pc + 3 = q) (r : Goes p e below G (T.setTop (mkF m q L (.double v :: st)))) : Goes p e below G (T.setTop (mkF m pc L st)) := by
  obtain ⟨hx, hZ, hown, hby, -⟩ := C
  obtain ⟨_, _, _, X, -⟩ := X
  subst hq
  exact go_st (fun t k => X.ldc2DoubleC hx hown (mvT hZ w) (g := mkF m pc L st) rfl (hb hby hd) t k) r
theorem g_dconst0 (C : Cx p s m meth c Z own bytes ml rt mn) (X : St p l e R s m args below meth c n0 T h k n) {z : UInt64} (hd : decode bytes pc = .ok (.dconst 0, 1)) (hq : pc + 1 = q) (hz : FP.dconst0 = z) (r : Goes p e below G (T.setTop (mkF m q L (.double z :: st)))) : Goes p e below G (T.setTop (mkF m pc L (st))) := by
  obtain ⟨hx, -, -, hby, -⟩ := C
  obtain ⟨_, _, _, X, -⟩ := X
  subst hq 
  exact go_st (fun t k => XS.dconst0 X.here hx rfl (hb hby hd) hz k) r
theorem g_dconst1 (C : Cx p s m meth c Z own bytes ml rt mn) (X : St p l e R s m args below meth c n0 T h k n) {z : UInt64} (hd : decode bytes pc = .ok (.dconst 1, 1)) (hq : pc + 1 = q) (hz : FP.dconst1 = z) (r : Goes p e below G (T.setTop (mkF m q L (.double z :: st)))) : Goes p e below G (T.setTop (mkF m pc L (st))) := by
  obtain ⟨hx, -, -, hby, -⟩ := C
  obtain ⟨_, _, _, X, -⟩ := X
  subst hq 
  exact go_st (fun t k => XS.dconst1 X.here hx rfl (hb hby hd) hz k) r
theorem g_retD (C : Cx p s m meth c Z own bytes ml (some .double) mn) (X : St p l e R s m args below meth c n0 T h k n) {Q : Option Value → Heap → Prop} {K N : Nat} {z : UInt64} (hd : decode bytes pc = .ok (.dreturn, 1)) (hk : k ≤ K) (hn : n ≤ N) (hQ : Q (some (.double z)) h) : Goes p e below (FinN Q s n0 K N) (T.setTop (mkF m pc L (.double z :: st))) := by
  refine own_end C X (by simp) hk hn hQ fun locs cells slots fs X hr => ?_
  obtain ⟨hx, -, -, hby, -, hret, hlk, -⟩ := C
  exact retOut X hx hret rfl (Or.inr (Or.inr (Or.inl ⟨rfl, rfl, _, rfl⟩))) (hb hby hd) hr
theorem g_getS (C : Cx p s m meth c Z own bytes ml rt mn) (X : St p l e R s m args below meth c n0 T h k n) {R0 O f d host : String} {i : Nat} {v : Value} (w : (Cond.fieldLink own i R0 f d).before a0 Z = true ∨ (Cond.fieldLinkNest own i R0 f d host).before a0 Z = true) (via : Via Z R0 O f d) (F : Sta Z h O f d v) (hd : decode bytes pc = .ok (.getstatic i, 3)) (hq : pc + 3 = q) (r : ∀ T', St p l e R s m args below meth c n0 T' h k n → Goes p e below G (T'.setTop (mkF m q L (v :: st)))) : Goes p e below G (T.setTop (mkF m pc L st)) := by
  obtain ⟨hx, hZ, hown, hby, -⟩ := C
  obtain ⟨_, _, _, X, hF, eT, h1, h2⟩ := X
  subst hq
  obtain ⟨T', X', e', st'⟩ := getS2 X hx hZ hown w via eT F (g := mkF m pc L st) rfl (hb hby hd)
  exact go_st st' (r T' ⟨_, _, _, X', hF, e', h1, h2⟩)
theorem g_getF (C : Cx p s m meth c Z own bytes ml rt mn) (X : St p l e R s m args below meth c n0 T h k n) {R0 O f d host : String} {i : Nat} {a : Addr} {v : Value} (w : (Cond.fieldLink own i R0 f d).before a0 Z = true ∨ (Cond.fieldLinkNest own i R0 f d host).before a0 Z = true) (via : Via Z R0 O f d) (F : Fld Z h a O f d v) (hd : decode bytes pc = .ok (.getfield i, 3)) (hq : pc + 3 = q) (r : ∀ T', St p l e R s m args below meth c n0 T' h k n → Goes p e below G (T'.setTop (mkF m q L (v :: st)))) : Goes p e below G (T.setTop (mkF m pc L (.ref a :: st))) := by
  obtain ⟨hx, hZ, hown, hby, -⟩ := C
  obtain ⟨_, _, _, X, hF, eT, h1, h2⟩ := X
  subst hq
  obtain ⟨T', X', e', st'⟩ := getF X hx hZ hown w via eT F (g := mkF m pc L (.ref a :: st)) rfl rfl (hb hby hd)
  exact go_st st' (r T' ⟨_, _, _, X', hF, e', h1, h2⟩)
theorem g_putF (C : Cx p s m meth c Z own bytes ml rt mn) (X : St p l e R s m args below meth c n0 T h k n) {R0 O f d host K : String} {i kk : Nat} {ty : FieldType} {a : Addr} {v old : Value} (w : (Cond.fieldLink own i R0 f d).before a0 Z = true ∨ (Cond.fieldLinkNest own i R0 f d host).before a0 Z = true) (via : Via Z R0 O f d) (F : Fld Z h a O f d old) (E : Exa Z h a K) (Ly : (Cond.lays K O f d).before a0 Z = true ∨ ((Cond.laysFinal K O f d).before a0 Z = true ∧ own = O ∧ mn = "<init>")) (wi : (Cond.instantiable K kk).before a0 Z = true)
    (hty : parseFieldDescriptor d = some ty) (hnn : narrow ty v = v) (hff : fits ty v = true) (hd : decode bytes pc = .ok (.putfield i, 3)) (hq : pc + 3 = q) (ha : n0 ≤ a) (r : ∀ T' h', St p l e R s m args below meth c n0 T' h' k n → Wr h h' a (Jvm.RoadKit.slotOf Z O f d) v → Goes p e below G (T'.setTop (mkF m q L st))) : Goes p e below G (T.setTop (mkF m pc L (v :: .ref a :: st))) := by
  obtain ⟨hx, hZ, hown, hby, -, -, -, hnm⟩ := C
  obtain ⟨_, _, _, X, hF, eT, h1, h2⟩ := X
  subst hq
  obtain ⟨T', h', X', e', W', st'⟩ := putF X hx hZ hown w via eT F E (Ly.imp id fun z => ⟨z.1, z.2.1, hnm.trans z.2.2⟩) wi hty hnn hff (g := mkF m pc L (v :: .ref a :: st)) rfl rfl (hb hby hd)
  exact go_st st' (r T' h' ⟨_, _, _, X', Fr.snoc X' hF ha, e', h1, h2⟩ W')
theorem g_putFN (C : Cx p s m meth c Z own bytes ml rt mn) (X : St p l e R s m args below meth c n0 T h k n) {R0 O f d K : String} {i kk : Nat} {ty : FieldType} {a : Addr} {v v' old : Value} (w : (Cond.fieldLink own i R0 f d).before a0 Z = true) (via : Via Z R0 O f d) (F : Fld Z h a O f d old) (E : Exa Z h a K) (Ly : (Cond.lays K O f d).before a0 Z = true ∨ ((Cond.laysFinal K O f d).before a0 Z = true ∧ own = O ∧ mn = "<init>")) (wi : (Cond.instantiable K kk).before a0 Z = true)
    (hty : parseFieldDescriptor d = some ty) (hnn : narrow ty v = v') (hff : fits ty v' = true) (hd : decode bytes pc = .ok (.putfield i, 3)) (hq : pc + 3 = q) (ha : n0 ≤ a) (r : ∀ T' h', St p l e R s m args below meth c n0 T' h' k n → Wr h h' a (Jvm.RoadKit.slotOf Z O f d) v' → Goes p e below G (T'.setTop (mkF m q L st))) : Goes p e below G (T.setTop (mkF m pc L (v :: .ref a :: st))) := by
  obtain ⟨hx, hZ, hown, hby, -, -, -, hnm⟩ := C
  obtain ⟨_, _, _, X, hF, eT, h1, h2⟩ := X
  subst hq
  obtain ⟨T', h', X', e', W', st'⟩ := putFN X hx hZ hown w via eT F E (Ly.imp id fun z => ⟨z.1, z.2.1, hnm.trans z.2.2⟩) wi hty hnn hff (g := mkF m pc L (v :: .ref a :: st)) rfl rfl (hb hby hd)
  exact go_st st' (r T' h' ⟨_, _, _, X', Fr.snoc X' hF ha, e', h1, h2⟩ W')
theorem g_new (C : Cx p s m meth c Z own bytes ml rt mn) (X : St p l e R s m args below meth c n0 T h k n) {K : String} {i z k' n' : Nat} (w : (Cond.classLink own i K).before a0 Z = true) (wi : (Cond.instantiable K z).before a0 Z = true) (wz : (Cond.initialized K).before a0 Z = true) (hd : decode bytes pc = .ok (.new i, 3)) (hq : pc + 3 = q) (hk : k + 1 = k') (hn : n + z = n') (hkR : k' ≤ R.cells) (hnR : n' ≤ R.slots)
    (r : ∀ T' h' a, a = h.size → St p l e R s m args below meth c n0 T' h' k' n' → Ext h h' → Exa Z h' a K → (∀ {O nm d : String} {ty : FieldType}, Laid Z a0 K O nm d → parseFieldDescriptor d = some ty → Fld Z h' a O nm d (defaultValue ty)) → Goes p e below G (T'.setTop (mkF m q L (.ref a :: st)))) : Goes p e below G (T.setTop (mkF m pc L st)) := by
  obtain ⟨hx, hZ, hown, hby, -⟩ := C
  obtain ⟨_, _, _, X, hF, eT, h1, h2⟩ := X
  subst hq hk hn
  obtain ⟨T', h', X', e', E', A', D', -, st'⟩ := newO X hx hZ hown w wi wz eT (g := mkF m pc L st) rfl (hb hby hd) (Nat.le_trans (Nat.add_le_add_right h1 1) hkR) (Nat.le_trans (Nat.add_le_add_right h2 z) hnR)
  exact go_st st' (r T' h' _ rfl ⟨_, _, _, X', hF, e', Nat.add_le_add_right h1 1, Nat.add_le_add_right h2 z⟩ E' A' D')
theorem g_newP (C : Cx p s m meth c Z own bytes ml rt mn) (X : St p l e R s m args below meth c n0 T h k n) {aty : ArrayType} {ty : FieldType} {z : Int32} {cap k' n' : Nat} (w : (Cond.arrayClass ty).before a0 Z = true) (hty : newarray.typeOf aty = ty) (hd : decode bytes pc = .ok (.newarray aty, 2)) (hq : pc + 2 = q) (hz : ¬ z < 0) (hcap : z.toNatClampNeg ≤ cap) (hcb : cap * 8 ≤ 536870912) (hk : k + 1 = k') (hn : n + cap = n') (hkR : k' ≤ R.cells) (hnR : n' ≤ R.slots)
    (r : ∀ T' h' cA a, a = h.size → St p l e R s m args below meth c n0 T' h' k' n' → Ext h h' → Arv Z h' a cA ty z [] (defaultValue ty) → Goes p e below G (T'.setTop (mkF m q L (.ref a :: st)))) : Goes p e below G (T.setTop (mkF m pc L (.int z :: st))) := by
  obtain ⟨hx, hZ, hown, hby, -⟩ := C
  obtain ⟨_, _, _, X, hF, eT, h1, h2⟩ := X
  subst hq hk hn hty
  obtain ⟨T', h', cA, X', e', E', A', st'⟩ := newP X hx hZ w eT (g := mkF m pc L (.int z :: st)) rfl (hb hby hd) rfl hz (cap := cap) hcap hcb (Nat.le_trans (Nat.add_le_add_right h1 1) hkR) (Nat.le_trans (Nat.add_le_add_right h2 cap) hnR)
  exact go_st st' (r T' h' cA _ rfl ⟨_, _, _, X', hF, e', Nat.add_le_add_right h1 1, Nat.add_le_add_right h2 cap⟩ E' (Arv.new A' hz))
theorem g_initO (C : Cx p s m meth c Z own bytes ml rt mn) (X : St p l e R s m args below meth c n0 T h k n) {i : Nat} {a : Addr} (w1 : (Cond.methodLink own i Lib.objectInit).before a0 Z = true) (w2 : (Cond.instanceMethod Lib.objectInit).before a0 Z = true) (w3 : (Cond.code Lib.objectInit ⟨#[0xb1]⟩ 1 none).before a0 Z = true) (hsz : L.size = ml) (hd : decode bytes pc = .ok (.invokespecial i, 3)) (hq : pc + 3 = q) (hf : 1 ≤ R.frames) (hW : (st.map fun v => v.category).sum + 12 ≤ R.locals)
    (r : ∀ T', St p l e R s m args below meth c n0 T' h k n → Goes p e below G (T'.setTop (mkF m q L st))) : Goes p e below G (T.setTop (mkF m pc L (.ref a :: st))) := by
  obtain ⟨hx, hZ, hown, hby, hml, -⟩ := C
  obtain ⟨_, _, _, X, hF, eT, h1, h2⟩ := X
  subst hq
  obtain ⟨T', X', e', st'⟩ := initO X hx hZ hown w1 w2 w3 eT (g := mkF m pc L (.ref a :: st)) rfl (hsz.trans hml.symm) rfl (hb hby hd) hf (W := (st.map fun v => v.category).sum) (by show 2 * 0 + _ ≤ _; omega) hW
  exact go_st st' (r T' ⟨_, _, _, X', hF, e', h1, h2⟩)
theorem g_iastore (C : Cx p s m meth c Z own bytes ml rt mn) (X : St p l e R s m args below meth c n0 T h k n) {a : Addr} {cA : ClassId} {z j : Int32} {vs vs' : List Value} {dv : Value} {i : Nat} {v : Int32} (V : Arv Z h a cA .int z vs dv) (hj : ¬ j < 0 ∧ j < z) (hi : j.toNatClampNeg = i) (hlt : i < vs.length) (hvs : vs.set i (.int v) = vs') (ha : n0 ≤ a) (hd : decode bytes pc = .ok (.iastore, 1)) (hq : pc + 1 = q)
    (r : ∀ T' h', St p l e R s m args below meth c n0 T' h' k n → Wr h h' a i (.int v) → Arv Z h' a cA .int z vs' dv → Goes p e below G (T'.setTop (mkF m q L st))) : Goes p e below G (T.setTop (mkF m pc L (.int v :: .int j :: .ref a :: st))) := by
  obtain ⟨hx, hZ, hown, hby, -⟩ := C
  obtain ⟨_, _, _, X, hF, eT, h1, h2⟩ := X
  subst hq hi hvs
  obtain ⟨cl, A, q1, Sz, q3, H, Gf⟩ := V
  obtain ⟨T', h', X', e', W', st'⟩ := stI X hx hZ eT A (j := j) (inb_of Sz hj) (g := mkF m pc L (.int v :: .int j :: .ref a :: st)) rfl rfl (hb hby hd)
  exact go_st st' (r T' h' ⟨_, _, _, X', Fr.snoc X' hF ha, e', h1, h2⟩ W' (Arv.set A q1 Sz q3 H Gf rfl W' _ rfl hlt))
theorem g_castore (C : Cx p s m meth c Z own bytes ml rt mn) (X : St p l e R s m args below meth c n0 T h k n) {a : Addr} {cA : ClassId} {z j : Int32} {vs vs' : List Value} {dv : Value} {i : Nat} {v : Int32} (V : Arv Z h a cA .char z vs dv) (hj : ¬ j < 0 ∧ j < z) (hi : j.toNatClampNeg = i) (hlt : i < vs.length) (hvs : vs.set i (.int (nar .char v)) = vs') (ha : n0 ≤ a) (hd : decode bytes pc = .ok (.castore, 1)) (hq : pc + 1 = q)
    (r : ∀ T' h', St p l e R s m args below meth c n0 T' h' k n → Wr h h' a i (.int (nar .char v)) → Arv Z h' a cA .char z vs' dv → Goes p e below G (T'.setTop (mkF m q L st))) : Goes p e below G (T.setTop (mkF m pc L (.int v :: .int j :: .ref a :: st))) := by
  obtain ⟨hx, hZ, hown, hby, -⟩ := C
  obtain ⟨_, _, _, X, hF, eT, h1, h2⟩ := X
  subst hq hi hvs
  obtain ⟨cl, A, q1, Sz, q3, H, Gf⟩ := V
  obtain ⟨T', h', X', e', W', st'⟩ := stC X hx hZ eT A (j := j) (inb_of Sz hj) (g := mkF m pc L (.int v :: .int j :: .ref a :: st)) rfl rfl (hb hby hd)
  exact go_st st' (r T' h' ⟨_, _, _, X', Fr.snoc X' hF ha, e', h1, h2⟩ W' (Arv.set A q1 Sz q3 H Gf (fits_nar_char _) W' _ rfl hlt))
theorem g_bastore (C : Cx p s m meth c Z own bytes ml rt mn) (X : St p l e R s m args below meth c n0 T h k n) {a : Addr} {cA : ClassId} {z j : Int32} {vs vs' : List Value} {dv : Value} {i : Nat} {v : Int32} (V : Arv Z h a cA .byte z vs dv) (hj : ¬ j < 0 ∧ j < z) (hi : j.toNatClampNeg = i) (hlt : i < vs.length) (hvs : vs.set i (.int (nar .byte v)) = vs') (ha : n0 ≤ a) (hd : decode bytes pc = .ok (.bastore, 1)) (hq : pc + 1 = q)
    (r : ∀ T' h', St p l e R s m args below meth c n0 T' h' k n → Wr h h' a i (.int (nar .byte v)) → Arv Z h' a cA .byte z vs' dv → Goes p e below G (T'.setTop (mkF m q L st))) : Goes p e below G (T.setTop (mkF m pc L (.int v :: .int j :: .ref a :: st))) := by
  obtain ⟨hx, hZ, hown, hby, -⟩ := C
  obtain ⟨_, _, _, X, hF, eT, h1, h2⟩ := X
  subst hq hi hvs
  obtain ⟨cl, A, q1, Sz, q3, H, Gf⟩ := V
  obtain ⟨T', h', X', e', W', st'⟩ := stB X hx hZ eT A (j := j) (inb_of Sz hj) (g := mkF m pc L (.int v :: .int j :: .ref a :: st)) rfl rfl (hb hby hd)
  exact go_st st' (r T' h' ⟨_, _, _, X', Fr.snoc X' hF ha, e', h1, h2⟩ W' (Arv.set A q1 Sz q3 H Gf (fits_nar_byte _) W' _ rfl hlt))
theorem g_zastore (C : Cx p s m meth c Z own bytes ml rt mn) (X : St p l e R s m args below meth c n0 T h k n) {a : Addr} {cA : ClassId} {z j : Int32} {vs vs' : List Value} {dv : Value} {i : Nat} {v : Int32} (V : Arv Z h a cA .boolean z vs dv) (hj : ¬ j < 0 ∧ j < z) (hi : j.toNatClampNeg = i) (hlt : i < vs.length) (hvs : vs.set i (.int (nar .boolean v)) = vs') (ha : n0 ≤ a) (hd : decode bytes pc = .ok (.bastore, 1)) (hq : pc + 1 = q)
    (r : ∀ T' h', St p l e R s m args below meth c n0 T' h' k n → Wr h h' a i (.int (nar .boolean v)) → Arv Z h' a cA .boolean z vs' dv → Goes p e below G (T'.setTop (mkF m q L st))) : Goes p e below G (T.setTop (mkF m pc L (.int v :: .int j :: .ref a :: st))) := by
  obtain ⟨hx, hZ, hown, hby, -⟩ := C
  obtain ⟨_, _, _, X, hF, eT, h1, h2⟩ := X
  subst hq hi hvs
  obtain ⟨cl, A, q1, Sz, q3, H, Gf⟩ := V
  obtain ⟨T', h', X', e', W', st'⟩ := stZ X hx hZ eT A (j := j) (inb_of Sz hj) (g := mkF m pc L (.int v :: .int j :: .ref a :: st)) rfl rfl (hb hby hd)
  exact go_st st' (r T' h' ⟨_, _, _, X', Fr.snoc X' hF ha, e', h1, h2⟩ W' (Arv.set A q1 Sz q3 H Gf (fits_nar_bool _) W' _ rfl hlt))
theorem g_lastore (C : Cx p s m meth c Z own bytes ml rt mn) (X : St p l e R s m args below meth c n0 T h k n) {a : Addr} {cA : ClassId} {z j : Int32} {vs vs' : List Value} {dv : Value} {i : Nat} {v : Int64} (V : Arv Z h a cA .long z vs dv) (hj : ¬ j < 0 ∧ j < z) (hi : j.toNatClampNeg = i) (hlt : i < vs.length) (hvs : vs.set i (.long v) = vs') (ha : n0 ≤ a) (hd : decode bytes pc = .ok (.lastore, 1)) (hq : pc + 1 = q)
    (r : ∀ T' h', St p l e R s m args below meth c n0 T' h' k n → Wr h h' a i (.long v) → Arv Z h' a cA .long z vs' dv → Goes p e below G (T'.setTop (mkF m q L st))) : Goes p e below G (T.setTop (mkF m pc L (.long v :: .int j :: .ref a :: st))) := by
  obtain ⟨hx, hZ, hown, hby, -⟩ := C
  obtain ⟨_, _, _, X, hF, eT, h1, h2⟩ := X
  subst hq hi hvs
  obtain ⟨cl, A, q1, Sz, q3, H, Gf⟩ := V
  obtain ⟨T', h', X', e', W', st'⟩ := stJ X hx hZ eT A (j := j) (inb_of Sz hj) (g := mkF m pc L (.long v :: .int j :: .ref a :: st)) rfl rfl (hb hby hd)
  exact go_st st' (r T' h' ⟨_, _, _, X', Fr.snoc X' hF ha, e', h1, h2⟩ W' (Arv.set A q1 Sz q3 H Gf rfl W' _ rfl hlt))
theorem g_dastore (C : Cx p s m meth c Z own bytes ml rt mn) (X : St p l e R s m args below meth c n0 T h k n) {a : Addr} {cA : ClassId} {z j : Int32} {vs vs' : List Value} {dv : Value} {i : Nat} {v : UInt64} (V : Arv Z h a cA .double z vs dv) (hj : ¬ j < 0 ∧ j < z) (hi : j.toNatClampNeg = i) (hlt : i < vs.length) (hvs : vs.set i (.double v) = vs') (ha : n0 ≤ a) (hd : decode bytes pc = .ok (.dastore, 1)) (hq : pc + 1 = q)
    (r : ∀ T' h', St p l e R s m args below meth c n0 T' h' k n → Wr h h' a i (.double v) → Arv Z h' a cA .double z vs' dv → Goes p e below G (T'.setTop (mkF m q L st))) : Goes p e below G (T.setTop (mkF m pc L (.double v :: .int j :: .ref a :: st))) := by
  obtain ⟨hx, hZ, hown, hby, -⟩ := C
  obtain ⟨_, _, _, X, hF, eT, h1, h2⟩ := X
  subst hq hi hvs
  obtain ⟨cl, A, q1, Sz, q3, H, Gf⟩ := V
  obtain ⟨T', h', X', e', W', st'⟩ := stD X hx hZ eT A (j := j) (inb_of Sz hj) (g := mkF m pc L (.double v :: .int j :: .ref a :: st)) rfl rfl (hb hby hd)
  exact go_st st' (r T' h' ⟨_, _, _, X', Fr.snoc X' hF ha, e', h1, h2⟩ W' (Arv.set A q1 Sz q3 H Gf rfl W' _ rfl hlt))
theorem g_aastore (C : Cx p s m meth c Z own bytes ml rt mn) (X : St p l e R s m args below meth c n0 T h k n) {a : Addr} {cA : ClassId} {z j : Int32} {vs vs' : List Value} {dv v : Value} {ty : FieldType} {i : Nat} (V : Arv Z h a cA ty z vs dv) (hty : ty.isReference = true) (F : Sto Z h a v) (hfv : fits ty v = true) (hj : ¬ j < 0 ∧ j < z) (hi : j.toNatClampNeg = i) (hlt : i < vs.length) (hvs : vs.set i v = vs') (ha : n0 ≤ a) (hd : decode bytes pc = .ok (.aastore, 1)) (hq : pc + 1 = q)
    (r : ∀ T' h', St p l e R s m args below meth c n0 T' h' k n → Wr h h' a i v → Arv Z h' a cA ty z vs' dv → Goes p e below G (T'.setTop (mkF m q L st))) : Goes p e below G (T.setTop (mkF m pc L (v :: .int j :: .ref a :: st))) := by
  obtain ⟨hx, hZ, hown, hby, -⟩ := C
  obtain ⟨_, _, _, X, hF, eT, h1, h2⟩ := X
  subst hq hi hvs
  obtain ⟨cl, A, q1, Sz, q3, H, Gf⟩ := V
  obtain ⟨T', h', X', e', W', st'⟩ := stR X hx hZ eT A (j := j) (inb_of Sz hj) hty F (g := mkF m pc L (v :: .int j :: .ref a :: st)) rfl rfl (hb hby hd)
  exact go_st st' (r T' h' ⟨_, _, _, X', Fr.snoc X' hF ha, e', h1, h2⟩ W' (Arv.set A q1 Sz q3 H Gf hfv W' _ rfl hlt))
theorem g_iaload (C : Cx p s m meth c Z own bytes ml rt mn) (X : St p l e R s m args below meth c n0 T h k n) {a : Addr} {cA : ClassId} {z j : Int32} {vs : List Value} {dv w : Value}  (V : Arv Z h a cA .int z vs dv) (hj : ¬ j < 0 ∧ j < z) (hv : vs.getD j.toNatClampNeg dv = w) (hd : decode bytes pc = .ok (.iaload, 1)) (hq : pc + 1 = q) (r : Goes p e below G (T.setTop (mkF m q L (w :: st)))) : Goes p e below G (T.setTop (mkF m pc L (.int j :: .ref a :: st))) := by
  obtain ⟨hx, hZ, hown, hby, -⟩ := C
  obtain ⟨_, _, _, X, hF, eT, h1, h2⟩ := X
  subst hq
  obtain ⟨cl, A, q1, Sz, q3, H, Gf⟩ := V
  exact go_st (fun t k => X.iaload hx (j := j) (v := w) (by rw [eT]; exact A.1) (State.isArrayOf_alike hZ.alike A.2.1) A.2.2 (inb_of Sz hj) (H.at (inb_of Sz hj) hv) (g := mkF m pc L (.int j :: .ref a :: st)) rfl rfl (hb hby hd) t k) r
theorem g_caload (C : Cx p s m meth c Z own bytes ml rt mn) (X : St p l e R s m args below meth c n0 T h k n) {a : Addr} {cA : ClassId} {z j : Int32} {vs : List Value} {dv w : Value}  (V : Arv Z h a cA .char z vs dv) (hj : ¬ j < 0 ∧ j < z) (hv : vs.getD j.toNatClampNeg dv = w) (hd : decode bytes pc = .ok (.caload, 1)) (hq : pc + 1 = q) (r : Goes p e below G (T.setTop (mkF m q L (w :: st)))) : Goes p e below G (T.setTop (mkF m pc L (.int j :: .ref a :: st))) := by
  obtain ⟨hx, hZ, hown, hby, -⟩ := C
  obtain ⟨_, _, _, X, hF, eT, h1, h2⟩ := X
  subst hq
  obtain ⟨cl, A, q1, Sz, q3, H, Gf⟩ := V
  exact go_st (fun t k => X.caload hx (j := j) (v := w) (by rw [eT]; exact A.1) (State.isArrayOf_alike hZ.alike A.2.1) A.2.2 (inb_of Sz hj) (H.at (inb_of Sz hj) hv) (g := mkF m pc L (.int j :: .ref a :: st)) rfl rfl (hb hby hd) t k) r
theorem g_baload (C : Cx p s m meth c Z own bytes ml rt mn) (X : St p l e R s m args below meth c n0 T h k n) {a : Addr} {cA : ClassId} {z j : Int32} {vs : List Value} {dv w : Value}  (V : Arv Z h a cA .byte z vs dv) (hj : ¬ j < 0 ∧ j < z) (hv : vs.getD j.toNatClampNeg dv = w) (hd : decode bytes pc = .ok (.baload, 1)) (hq : pc + 1 = q) (r : Goes p e below G (T.setTop (mkF m q L (w :: st)))) : Goes p e below G (T.setTop (mkF m pc L (.int j :: .ref a :: st))) := by
  obtain ⟨hx, hZ, hown, hby, -⟩ := C
  obtain ⟨_, _, _, X, hF, eT, h1, h2⟩ := X
  subst hq
  obtain ⟨cl, A, q1, Sz, q3, H, Gf⟩ := V
  exact go_st (fun t k => X.baloadBytes hx (j := j) (v := w) (by rw [eT]; exact A.1) (State.isArrayOf_alike hZ.alike A.2.1) A.2.2 (inb_of Sz hj) (H.at (inb_of Sz hj) hv) (g := mkF m pc L (.int j :: .ref a :: st)) rfl rfl (hb hby hd) t k) r
theorem g_zaload (C : Cx p s m meth c Z own bytes ml rt mn) (X : St p l e R s m args below meth c n0 T h k n) {a : Addr} {cA : ClassId} {z j : Int32} {vs : List Value} {dv w : Value}  (V : Arv Z h a cA .boolean z vs dv) (hj : ¬ j < 0 ∧ j < z) (hv : vs.getD j.toNatClampNeg dv = w) (hd : decode bytes pc = .ok (.baload, 1)) (hq : pc + 1 = q) (r : Goes p e below G (T.setTop (mkF m q L (w :: st)))) : Goes p e below G (T.setTop (mkF m pc L (.int j :: .ref a :: st))) := by
  obtain ⟨hx, hZ, hown, hby, -⟩ := C
  obtain ⟨_, _, _, X, hF, eT, h1, h2⟩ := X
  subst hq
  obtain ⟨cl, A, q1, Sz, q3, H, Gf⟩ := V
  exact go_st (fun t k => X.baloadBooleans hx (j := j) (v := w) (by rw [eT]; exact A.1) (State.isArrayOf_alike hZ.alike A.2.1) A.2.2 (inb_of Sz hj) (H.at (inb_of Sz hj) hv) (g := mkF m pc L (.int j :: .ref a :: st)) rfl rfl (hb hby hd) t k) r
theorem g_laload (C : Cx p s m meth c Z own bytes ml rt mn) (X : St p l e R s m args below meth c n0 T h k n) {a : Addr} {cA : ClassId} {z j : Int32} {vs : List Value} {dv w : Value}  (V : Arv Z h a cA .long z vs dv) (hj : ¬ j < 0 ∧ j < z) (hv : vs.getD j.toNatClampNeg dv = w) (hd : decode bytes pc = .ok (.laload, 1)) (hq : pc + 1 = q) (r : Goes p e below G (T.setTop (mkF m q L (w :: st)))) : Goes p e below G (T.setTop (mkF m pc L (.int j :: .ref a :: st))) := by
  obtain ⟨hx, hZ, hown, hby, -⟩ := C
  obtain ⟨_, _, _, X, hF, eT, h1, h2⟩ := X
  subst hq
  obtain ⟨cl, A, q1, Sz, q3, H, Gf⟩ := V
  exact go_st (fun t k => X.laload hx (j := j) (v := w) (by rw [eT]; exact A.1) (State.isArrayOf_alike hZ.alike A.2.1) A.2.2 (inb_of Sz hj) (H.at (inb_of Sz hj) hv) (g := mkF m pc L (.int j :: .ref a :: st)) rfl rfl (hb hby hd) t k) r
theorem g_daload (C : Cx p s m meth c Z own bytes ml rt mn) (X : St p l e R s m args below meth c n0 T h k n) {a : Addr} {cA : ClassId} {z j : Int32} {vs : List Value} {dv w : Value}  (V : Arv Z h a cA .double z vs dv) (hj : ¬ j < 0 ∧ j < z) (hv : vs.getD j.toNatClampNeg dv = w) (hd : decode bytes pc = .ok (.daload, 1)) (hq : pc + 1 = q) (r : Goes p e below G (T.setTop (mkF m q L (w :: st)))) : Goes p e below G (T.setTop (mkF m pc L (.int j :: .ref a :: st))) := by
  obtain ⟨hx, hZ, hown, hby, -⟩ := C
  obtain ⟨_, _, _, X, hF, eT, h1, h2⟩ := X
  subst hq
  obtain ⟨cl, A, q1, Sz, q3, H, Gf⟩ := V
  exact go_st (fun t k => X.daload hx (j := j) (v := w) (by rw [eT]; exact A.1) (State.isArrayOf_alike hZ.alike A.2.1) A.2.2 (inb_of Sz hj) (H.at (inb_of Sz hj) hv) (g := mkF m pc L (.int j :: .ref a :: st)) rfl rfl (hb hby hd) t k) r
theorem g_aaload (C : Cx p s m meth c Z own bytes ml rt mn) (X : St p l e R s m args below meth c n0 T h k n) {a : Addr} {cA : ClassId} {z j : Int32} {vs : List Value} {dv w : Value} {ty : FieldType} (hty : ty.isReference = true) (V : Arv Z h a cA ty z vs dv) (hj : ¬ j < 0 ∧ j < z) (hv : vs.getD j.toNatClampNeg dv = w) (hd : decode bytes pc = .ok (.aaload, 1)) (hq : pc + 1 = q) (r : Goes p e below G (T.setTop (mkF m q L (w :: st)))) : Goes p e below G (T.setTop (mkF m pc L (.int j :: .ref a :: st))) := by
  obtain ⟨hx, hZ, hown, hby, -⟩ := C
  obtain ⟨_, _, _, X, hF, eT, h1, h2⟩ := X
  subst hq
  obtain ⟨cl, A, q1, Sz, q3, H, Gf⟩ := V
  exact go_st (fun t k => X.aaload hx (j := j) (v := w) (by rw [eT]; exact A.1) (State.isArrayOf_alike hZ.alike A.2.1) hty A.2.2 (inb_of Sz hj) (H.at (inb_of Sz hj) hv) (g := mkF m pc L (.int j :: .ref a :: st)) rfl rfl (hb hby hd) t k) r
theorem g_alen (C : Cx p s m meth c Z own bytes ml rt mn) (X : St p l e R s m args below meth c n0 T h k n) {a : Addr} {cA : ClassId} {z : Int32} {vs : List Value} {dv : Value} {ty : FieldType} (V : Arv Z h a cA ty z vs dv) (hd : decode bytes pc = .ok (.arraylength, 1)) (hq : pc + 1 = q) (r : Goes p e below G (T.setTop (mkF m q L (.int z :: st)))) : Goes p e below G (T.setTop (mkF m pc L (.ref a :: st))) := by
  obtain ⟨hx, hZ, hown, hby, -⟩ := C
  obtain ⟨_, _, _, X, hF, eT, h1, h2⟩ := X
  subst hq
  obtain ⟨cl, A, q1, Sz, q3, H, Gf⟩ := V
  exact go_st (fun t k => X.arraylength hx (by rw [eT]; exact A.1) (State.isArrayOf_alike hZ.alike A.2.1) (g := mkF m pc L (.ref a :: st)) rfl rfl (hb hby hd) t (by rw [len_of Sz q3]; exact k)) r
theorem g_newR (C : Cx p s m meth c Z own bytes ml rt mn) (X : St p l e R s m args below meth c n0 T h k n) {K : String} {i cap k' n' : Nat} {z : Int32} (w1 : (Cond.classLink own i K).before a0 Z = true) (w2 : (Cond.arrayOver (.object K)).before a0 Z = true) (hd : decode bytes pc = .ok (.anewarray i, 3)) (hq : pc + 3 = q) (hz : ¬ z < 0) (hcap : z.toNatClampNeg ≤ cap) (hcb : cap * 8 ≤ 536870912) (hk : k + 1 = k') (hn : n + cap = n') (hkR : k' ≤ R.cells) (hnR : n' ≤ R.slots)
    (r : ∀ T' h' cA a, a = h.size → St p l e R s m args below meth c n0 T' h' k' n' → Ext h h' → Arv Z h' a cA (.object K) z [] .null → Ovr Z cA K → Goes p e below G (T'.setTop (mkF m q L (.ref a :: st)))) : Goes p e below G (T.setTop (mkF m pc L (.int z :: st))) := by
  obtain ⟨hx, hZ, hown, hby, -⟩ := C
  obtain ⟨_, _, _, X, hF, eT, h1, h2⟩ := X
  subst hq hk hn
  obtain ⟨T', h', cA, X', e', E', A', O', st'⟩ := newR X hx hZ hown w1 w2 eT (g := mkF m pc L (.int z :: st)) rfl (hb hby hd) rfl hz (cap := cap) hcap hcb (Nat.le_trans (Nat.add_le_add_right h1 1) hkR) (Nat.le_trans (Nat.add_le_add_right h2 cap) hnR)
  exact go_st st' (r T' h' cA _ rfl ⟨_, _, _, X', hF, e', Nat.add_le_add_right h1 1, Nat.add_le_add_right h2 cap⟩ E' (Arv.new A' hz) O')
theorem g_castY (C : Cx p s m meth c Z own bytes ml rt mn) (X : St p l e R s m args below meth c n0 T h k n) {K : String} {i : Nat} {a : Addr} (w : (Cond.classLink own i K).before a0 Z = true) (I : Ins Z h a K true) (hd : decode bytes pc = .ok (.checkcast i, 3)) (hq : pc + 3 = q) (r : ∀ T', St p l e R s m args below meth c n0 T' h k n → Goes p e below G (T'.setTop (mkF m q L (.ref a :: st)))) : Goes p e below G (T.setTop (mkF m pc L (.ref a :: st))) := by
  obtain ⟨hx, hZ, hown, hby, -⟩ := C
  obtain ⟨_, _, _, X, hF, eT, h1, h2⟩ := X
  subst hq
  obtain ⟨T', X', e', st'⟩ := castY X hx hZ hown w eT I (g := mkF m pc L (.ref a :: st)) rfl rfl (hb hby hd)
  exact go_st st' (r T' ⟨_, _, _, X', hF, e', h1, h2⟩)
theorem g_instY (C : Cx p s m meth c Z own bytes ml rt mn) (X : St p l e R s m args below meth c n0 T h k n) {K : String} {i : Nat} {a : Addr} (w : (Cond.classLink own i K).before a0 Z = true) (I : Ins Z h a K true) (hd : decode bytes pc = .ok (.instanceof i, 3)) (hq : pc + 3 = q) (r : ∀ T', St p l e R s m args below meth c n0 T' h k n → Goes p e below G (T'.setTop (mkF m q L (.int 1 :: st)))) : Goes p e below G (T.setTop (mkF m pc L (.ref a :: st))) := by
  obtain ⟨hx, hZ, hown, hby, -⟩ := C
  obtain ⟨_, _, _, X, hF, eT, h1, h2⟩ := X
  subst hq
  obtain ⟨T', X', e', st'⟩ := instY X hx hZ hown w eT I (g := mkF m pc L (.ref a :: st)) rfl rfl (hb hby hd)
  exact go_st st' (r T' ⟨_, _, _, X', hF, e', h1, h2⟩)
theorem g_instNo (C : Cx p s m meth c Z own bytes ml rt mn) (X : St p l e R s m args below meth c n0 T h k n) {K K' : String} {i : Nat} {a : Addr} (w : (Cond.classLink own i K).before a0 Z = true) (E : Exa Z h a K') (F : ∃ c t, Z.vm.findClass K' = some c ∧ Z.vm.findClass K = some t ∧ Z.vm.assignable c t = false) (hd : decode bytes pc = .ok (.instanceof i, 3)) (hq : pc + 3 = q) (r : ∀ T', St p l e R s m args below meth c n0 T' h k n → Goes p e below G (T'.setTop (mkF m q L (.int 0 :: st)))) : Goes p e below G (T.setTop (mkF m pc L (.ref a :: st))) := by
  obtain ⟨hx, hZ, hown, hby, -⟩ := C
  obtain ⟨_, _, _, X, hF, eT, h1, h2⟩ := X
  subst hq
  obtain ⟨T', X', e', st'⟩ := instNo X hx hZ hown w eT E F (g := mkF m pc L (.ref a :: st)) rfl rfl (hb hby hd)
  exact go_st st' (r T' ⟨_, _, _, X', hF, e', h1, h2⟩)
theorem g_instNull (C : Cx p s m meth c Z own bytes ml rt mn) (X : St p l e R s m args below meth c n0 T h k n) {i : Nat} (hd : decode bytes pc = .ok (.instanceof i, 3)) (hq : pc + 3 = q) (r : Goes p e below G (T.setTop (mkF m q L (.int 0 :: st)))) : Goes p e below G (T.setTop (mkF m pc L (.null :: st))) := by
  obtain ⟨hx, hZ, hown, hby, -⟩ := C
  obtain ⟨_, _, _, X, hF, eT, h1, h2⟩ := X
  subst hq
  exact go_st (fun t k => X.instanceofNull hx (g := mkF m pc L (.null :: st)) rfl rfl (hb hby hd) t k) r
theorem g_castNull (C : Cx p s m meth c Z own bytes ml rt mn) (X : St p l e R s m args below meth c n0 T h k n) {i : Nat} (hd : decode bytes pc = .ok (.checkcast i, 3)) (hq : pc + 3 = q) (r : Goes p e below G (T.setTop (mkF m q L (.null :: st)))) : Goes p e below G (T.setTop (mkF m pc L (.null :: st))) := by
  obtain ⟨hx, hZ, hown, hby, -⟩ := C
  obtain ⟨_, _, _, X, hF, eT, h1, h2⟩ := X
  subst hq
  exact go_st (fun t k => X.checkcastNull hx (g := mkF m pc L (.null :: st)) rfl rfl (hb hby hd) t k) r
theorem g_getClass (C : Cx p s m meth c Z own bytes ml rt mn) (X : St p l e R s m args below meth c n0 T h k n) {K : String} {i : Nat} {a mr : Addr} (w1 : (Cond.methodLink own i ⟨"java/lang/Object", "getClass", "()Ljava/lang/Class;"⟩).before a0 Z = true) (w2 : (Cond.declares ⟨"java/lang/Object", "getClass", "()Ljava/lang/Class;"⟩).before a0 Z = true) (w4 : (Cond.selects K ⟨"java/lang/Object", "getClass", "()Ljava/lang/Class;"⟩ ⟨"java/lang/Object", "getClass", "()Ljava/lang/Class;"⟩).before a0 Z = true)
    (w5 : (Cond.instanceMethod ⟨"java/lang/Object", "getClass", "()Ljava/lang/Class;"⟩).before a0 Z = true) (w6 : (Cond.native ⟨"java/lang/Object", "getClass", "()Ljava/lang/Class;"⟩).before a0 Z = true) (E : Exa Z h a K) (M : ∃ c k, Z.vm.findClass K = some c ∧ Z.vm.classes[c]? = some k ∧ k.mirror = some mr) (hsz : L.size = ml) (hd : decode bytes pc = .ok (.invokevirtual i, 3)) (hq : pc + 3 = q) (hf : 1 ≤ R.frames) (hl : (st.map fun v => v.category).sum + (nativeFrameWords "java/lang/Object" "getClass" 1 + 11) ≤ R.locals)
    (r : ∀ T', St p l e R s m args below meth c n0 T' h k n → Goes p e below G (T'.setTop (mkF m q L (.ref mr :: st)))) : Goes p e below G (T.setTop (mkF m pc L (.ref a :: st))) := by
  obtain ⟨hx, hZ, hown, hby, hml, -⟩ := C
  obtain ⟨_, _, _, X, hF, eT, h1, h2⟩ := X
  subst hq
  obtain ⟨cB, kB, i1, i2, i3⟩ := isOf hZ eT E
  obtain ⟨cc, kc, m1, m2, m3⟩ := M
  rw [hZ.alike.findClass] at i1
  cases i1.symm.trans m1
  obtain ⟨k', q, ek⟩ := hZ.alike.2.2 _ _ m2
  obtain ⟨vm', X', st'⟩ := X.getClassOf hx hown (mvT hZ w1) (mvT hZ w2) (notFace_of_selects (args := #[]) (mvT hZ w4)) (mvT hZ w4) (mvT hZ w5) (mvT hZ w6) (by rw [hZ.alike.findClass]; exact m1) i3 q (by rw [ek]; exact m3) (g := mkF m pc L (.ref a :: st)) rfl (hsz.trans hml.symm) rfl (hb hby hd) hf (by show 2 * 0 + _ + _ ≤ _; omega)
  exact go_st st' (r _ ⟨_, _, _, X', hF, eT, h1, h2⟩)
theorem g_callSb (C : Cx p s m meth c Z own bytes ml rt mn) (X : St p l e R s m args below meth c n0 T h k n) {as' : Array Value} {argsL : List Value} {ps : List FieldType} {rt' : Option FieldType} {k' n' W kc ks : Nat} {QL : Option Value → Heap → List Loc → Prop} {y : MethodName} {i : Nat} (hy : y.cls ≠ "java/lang/invoke/MethodHandle" ∧ y.cls ≠ "java/lang/invoke/VarHandle") (w1 : (Cond.methodLink own i y).before a0 Z = true) (w2 : (Cond.static y).before a0 Z = true) {bts : ByteArray} {mxl : Nat} {rty : Option FieldType} (w8 : (Cond.code y bts mxl rty).before a0 Z = true) (w9 : (Cond.initialized y.cls).before a0 Z = true) (bk : Back l R p e below s args y 3 W (fun A a => a = as' ∧ A.U.heap = h ∧ A.cells + kc ≤ R.cells ∧ A.slots + ks ≤ R.slots) (fun A _ v B => ∃ L, QL v B.U.heap L ∧ B.locs = A.locs ++ L ∧ B.cells = A.cells + kc ∧ B.slots = A.slots + ks)) (hk : k + kc = k') (hn : n + ks = n') (hkR : k' ≤ R.cells) (hnR : n' ≤ R.slots) (hsz : L.size = ml) (hdd : parseMethodDescriptor y.desc = some ⟨ps, rt'⟩) (hlen : argsL.length = ps.length) (hst : st = argsL.reverse ++ rest) (has : argsL.toArray = as') (hW : (rest.map fun v => v.category).sum = W) (hd : decode bytes pc = .ok (.invokestatic i, 3)) (hq : pc + 3 = q)
    (r : ∀ v T' h' L', St p l e R s m args below meth c n0 T' h' k' n' ∨ ¬ Fr n0 L' → QL v h' L' → Goes p e below G (T'.setTop (mkF m q L (v.toList ++ rest)))) : Goes p e below G (T.setTop (mkF m pc L st)) := by
  obtain ⟨hx, hZ, hown, hby, hml, -⟩ := C
  obtain ⟨_, cells, slots, X, hF, eT, h1, h2⟩ := X
  subst hq hk hn has hst hW
  obtain ⟨_, _, ⟨T', Lo, kk, nn⟩, -, X', ⟨Lc, hQ, q1, q2, q3⟩, st'⟩ := Jvm.LawKit.callS X hx hown (mvT hZ w1) (mvT hZ w2) (mvT hZ w9) (mvT hZ w8) hy bk (g := mkF m pc L (argsL.reverse ++ rest)) rfl (hsz.trans hml.symm) (argsL := argsL) (rest := rest) (lenOf hdd hlen) rfl (by show 2 * 0 + _ ≤ _; omega) (hb hby hd) (fun _ _ => ⟨rfl, eT, Nat.le_trans (Nat.add_le_add_right h1 _) hkR, Nat.le_trans (Nat.add_le_add_right h2 _) hnR⟩)
  dsimp only [Pt.U, Pt.locs, Pt.cells, Pt.slots] at X' q1 q2 q3 st' hQ
  subst q1 q2 q3
  refine go_st st' (r _ T' _ Lc ?_ hQ)
  by_cases hFr : Fr n0 Lc
  · exact Or.inl ⟨_, _, _, X', Fr.app hF hFr, rfl, Nat.add_le_add_right h1 _, Nat.add_le_add_right h2 _⟩
  · exact Or.inr hFr
theorem g_callS1 (C : Cx p s m meth c Z own bytes ml rt mn) (X : St p l e R s m args below meth c n0 T h k n) {rm : Room} {as' : Array Value} {bts : ByteArray} {mxl : Nat} {rty : Option FieldType} {argsL : List Value} {ps : List FieldType} {rt' : Option FieldType} {k' n' W : Nat} {Q : Value → Heap → Prop} {y : MethodName} {i : Nat} (hy : y.cls ≠ "java/lang/invoke/MethodHandle" ∧ y.cls ≠ "java/lang/invoke/VarHandle") (w1 : (Cond.methodLink own i y).before a0 Z = true) (w2 : (Cond.static y).before a0 Z = true) (w8 : (Cond.code y bts mxl rty).before a0 Z = true) (w9 : (Cond.initialized y.cls).before a0 Z = true) (hM : Met1 l Z y bts mxl rty rm as' h n0 Q) (hf : rm.frames + 1 ≤ R.frames) (hl : W + (mxl + 11) + rm.locals ≤ R.locals) (hk : k + rm.cells = k') (hn : n + rm.slots = n') (hkR : k' ≤ R.cells) (hnR : n' ≤ R.slots) (hsz : L.size = ml) (hdd : parseMethodDescriptor y.desc = some ⟨ps, rt'⟩) (hlen : argsL.length = ps.length) (hst : st = argsL.reverse ++ rest) (has : argsL.toArray = as') (hW : (rest.map fun v => v.category).sum = W) (hd : decode bytes pc = .ok (.invokestatic i, 3)) (hq : pc + 3 = q)
    (r : ∀ w T' h', St p l e R s m args below meth c n0 T' h' k' n' → Q w h' → Goes p e below G (T'.setTop (mkF m q L (w :: rest)))) : Goes p e below G (T.setTop (mkF m pc L st)) := by
  have bk := backOf (Q := fun v h L => Fr n0 L ∧ (∃ w, v = some w ∧ Q w h)) (R := R) (p := p) (e := e) (below := below) (s := s) (args := args) (len := 3) (W := W) (hM []) C.2.1 w8 w9 hf hl
  refine g_callSb C X (QL := fun v h L => Fr n0 L ∧ (∃ w, v = some w ∧ Q w h)) hy w1 w2 w8 w9 bk hk hn hkR hnR hsz hdd hlen hst has hW hd hq ?_
  rintro v T' h' L' hX ⟨hFr, hQ⟩
  obtain ⟨w, rfl, hQ⟩ := hQ
  exact r w T' h' (hX.resolve_right fun z => z hFr) hQ
theorem g_callS0 (C : Cx p s m meth c Z own bytes ml rt mn) (X : St p l e R s m args below meth c n0 T h k n) {rm : Room} {as' : Array Value} {bts : ByteArray} {mxl : Nat} {rty : Option FieldType} {argsL : List Value} {ps : List FieldType} {rt' : Option FieldType} {k' n' W : Nat} {Q : Heap → Prop} {y : MethodName} {i : Nat} (hy : y.cls ≠ "java/lang/invoke/MethodHandle" ∧ y.cls ≠ "java/lang/invoke/VarHandle") (w1 : (Cond.methodLink own i y).before a0 Z = true) (w2 : (Cond.static y).before a0 Z = true) (w8 : (Cond.code y bts mxl rty).before a0 Z = true) (w9 : (Cond.initialized y.cls).before a0 Z = true) (hM : Met0 l Z y bts mxl rty rm as' h n0 Q) (hf : rm.frames + 1 ≤ R.frames) (hl : W + (mxl + 11) + rm.locals ≤ R.locals) (hk : k + rm.cells = k') (hn : n + rm.slots = n') (hkR : k' ≤ R.cells) (hnR : n' ≤ R.slots) (hsz : L.size = ml) (hdd : parseMethodDescriptor y.desc = some ⟨ps, rt'⟩) (hlen : argsL.length = ps.length) (hst : st = argsL.reverse ++ rest) (has : argsL.toArray = as') (hW : (rest.map fun v => v.category).sum = W) (hd : decode bytes pc = .ok (.invokestatic i, 3)) (hq : pc + 3 = q)
    (r : ∀ T' h', St p l e R s m args below meth c n0 T' h' k' n' → Q h' → Goes p e below G (T'.setTop (mkF m q L rest))) : Goes p e below G (T.setTop (mkF m pc L st)) := by
  have bk := backOf (Q := fun v h L => Fr n0 L ∧ (v = none ∧ Q h)) (R := R) (p := p) (e := e) (below := below) (s := s) (args := args) (len := 3) (W := W) (hM []) C.2.1 w8 w9 hf hl
  refine g_callSb C X (QL := fun v h L => Fr n0 L ∧ (v = none ∧ Q h)) hy w1 w2 w8 w9 bk hk hn hkR hnR hsz hdd hlen hst has hW hd hq ?_
  rintro v T' h' L' hX ⟨hFr, hQ⟩
  obtain ⟨rfl, hQ⟩ := hQ
  exact r T' h' (hX.resolve_right fun z => z hFr) hQ
theorem g_callIb (C : Cx p s m meth c Z own bytes ml rt mn) (X : St p l e R s m args below meth c n0 T h k n) {as' : Array Value} {argsL : List Value} {ps : List FieldType} {rt' : Option FieldType} {k' n' W kc ks : Nat} {QL : Option Value → Heap → List Loc → Prop} {y : MethodName} {i : Nat} {a : Addr} (hy : y.cls ≠ "java/lang/invoke/MethodHandle" ∧ y.cls ≠ "java/lang/invoke/VarHandle") (hy1 : y.name = "<init>") (w1 : (Cond.methodLink own i y).before a0 Z = true) (w2 : (Cond.instanceMethod y).before a0 Z = true) {bts : ByteArray} {mxl : Nat} (w8 : (Cond.code y bts mxl none).before a0 Z = true) (bk : Back l R p e below s args y 3 W (fun A a => a = as' ∧ A.U.heap = h ∧ A.cells + kc ≤ R.cells ∧ A.slots + ks ≤ R.slots) (fun A _ v B => ∃ L, QL v B.U.heap L ∧ B.locs = A.locs ++ L ∧ B.cells = A.cells + kc ∧ B.slots = A.slots + ks)) (hk : k + kc = k') (hn : n + ks = n') (hkR : k' ≤ R.cells) (hnR : n' ≤ R.slots) (hsz : L.size = ml) (hdd : parseMethodDescriptor y.desc = some ⟨ps, rt'⟩) (hlen : argsL.length = ps.length) (hst : st = argsL.reverse ++ .ref a :: rest) (has : (.ref a :: argsL).toArray = as') (hW : (rest.map fun v => v.category).sum = W) (hd : decode bytes pc = .ok (.invokespecial i, 3)) (hq : pc + 3 = q)
    (r : ∀ v T' h' L', St p l e R s m args below meth c n0 T' h' k' n' ∨ ¬ Fr n0 L' → QL v h' L' → Goes p e below G (T'.setTop (mkF m q L (v.toList ++ rest)))) : Goes p e below G (T.setTop (mkF m pc L st)) := by
  obtain ⟨hx, hZ, hown, hby, hml, -⟩ := C
  obtain ⟨_, cells, slots, X, hF, eT, h1, h2⟩ := X
  subst hq hk hn has hst hW
  obtain ⟨_, _, ⟨T', Lo, kk, nn⟩, -, X', ⟨Lc, hQ, q1, q2, q3⟩, st'⟩ := X.specialBack hx hy1 hown (mvT hZ w1) (mvT hZ w2) (mvT hZ w8) hy bk (g := mkF m pc L (argsL.reverse ++ .ref a :: rest)) rfl (hsz.trans hml.symm) (Steps.refl _) (a := a) (argsL := argsL) (rest := rest) (lenOf hdd hlen) rfl (by show 2 * 0 + _ ≤ _; omega) (hb hby hd) (fun _ _ => ⟨rfl, eT, Nat.le_trans (Nat.add_le_add_right h1 _) hkR, Nat.le_trans (Nat.add_le_add_right h2 _) hnR⟩)
  dsimp only [Pt.U, Pt.locs, Pt.cells, Pt.slots] at X' q1 q2 q3 st' hQ
  subst q1 q2 q3
  refine go_tr st' (r _ T' _ Lc ?_ hQ)
  by_cases hFr : Fr n0 Lc
  · exact Or.inl ⟨_, _, _, X', Fr.app hF hFr, rfl, Nat.add_le_add_right h1 _, Nat.add_le_add_right h2 _⟩
  · exact Or.inr hFr
theorem g_callI0 (C : Cx p s m meth c Z own bytes ml rt mn) (X : St p l e R s m args below meth c n0 T h k n) {rm : Room} {as' : Array Value} {bts : ByteArray} {mxl : Nat} {argsL : List Value} {ps : List FieldType} {rt' : Option FieldType} {k' n' W : Nat} {Q : Heap → Prop} {y : MethodName} {i : Nat} {a : Addr} (hy : y.cls ≠ "java/lang/invoke/MethodHandle" ∧ y.cls ≠ "java/lang/invoke/VarHandle") (hy1 : y.name = "<init>") (w1 : (Cond.methodLink own i y).before a0 Z = true) (w2 : (Cond.instanceMethod y).before a0 Z = true) (w8 : (Cond.code y bts mxl none).before a0 Z = true) (w9 : (Cond.initialized y.cls).before a0 Z = true) (hM : Met0 l Z y bts mxl none rm as' h n0 Q) (hf : rm.frames + 1 ≤ R.frames) (hl : W + (mxl + 11) + rm.locals ≤ R.locals) (hk : k + rm.cells = k') (hn : n + rm.slots = n') (hkR : k' ≤ R.cells) (hnR : n' ≤ R.slots) (hsz : L.size = ml) (hdd : parseMethodDescriptor y.desc = some ⟨ps, rt'⟩) (hlen : argsL.length = ps.length) (hst : st = argsL.reverse ++ .ref a :: rest) (has : (.ref a :: argsL).toArray = as') (hW : (rest.map fun v => v.category).sum = W) (hd : decode bytes pc = .ok (.invokespecial i, 3)) (hq : pc + 3 = q)
    (r : ∀ T' h', St p l e R s m args below meth c n0 T' h' k' n' → Q h' → Goes p e below G (T'.setTop (mkF m q L rest))) : Goes p e below G (T.setTop (mkF m pc L st)) := by
  have bk := backOf (Q := fun v h L => Fr n0 L ∧ (v = none ∧ Q h)) (R := R) (p := p) (e := e) (below := below) (s := s) (args := args) (len := 3) (W := W) (hM []) C.2.1 w8 w9 hf hl
  refine g_callIb C X (QL := fun v h L => Fr n0 L ∧ (v = none ∧ Q h)) hy hy1 w1 w2 w8 bk hk hn hkR hnR hsz hdd hlen hst has hW hd hq ?_
  rintro v T' h' L' hX ⟨hFr, hQ⟩
  obtain ⟨rfl, hQ⟩ := hQ
  exact r T' h' (hX.resolve_right fun z => z hFr) hQ
theorem g_callVb (C : Cx p s m meth c Z own bytes ml rt mn) (X : St p l e R s m args below meth c n0 T h k n) {as' : Array Value} {argsL : List Value} {ps : List FieldType} {rt' : Option FieldType} {k' n' W kc ks : Nat} {QL : Option Value → Heap → List Loc → Prop} {y z : MethodName} {i : Nat} {a : Addr} {K : String} (hy : y.cls ≠ "java/lang/invoke/MethodHandle" ∧ y.cls ≠ "java/lang/invoke/VarHandle") (w1 : (Cond.methodLink own i y).before a0 Z = true) (w2 : (Cond.declares y).before a0 Z = true) (w3 : (Cond.selects K y z).before a0 Z = true) (w4 : (Cond.instanceMethod z).before a0 Z = true) (hnf : ∀ s' : State, Z.Warmed39 s'.vm → NotFace s' y) (E : Exa Z h a K) (bk : Back l R p e below s args z 3 W (fun A a => a = as' ∧ A.U.heap = h ∧ A.cells + kc ≤ R.cells ∧ A.slots + ks ≤ R.slots) (fun A _ v B => ∃ L, QL v B.U.heap L ∧ B.locs = A.locs ++ L ∧ B.cells = A.cells + kc ∧ B.slots = A.slots + ks)) (hk : k + kc = k') (hn : n + ks = n') (hkR : k' ≤ R.cells) (hnR : n' ≤ R.slots) (hsz : L.size = ml) (hdd : parseMethodDescriptor y.desc = some ⟨ps, rt'⟩) (hlen : argsL.length = ps.length) (hst : st = argsL.reverse ++ .ref a :: rest) (has : (.ref a :: argsL).toArray = as') (hW : (rest.map fun v => v.category).sum = W) (hd : decode bytes pc = .ok (.invokevirtual i, 3)) (hq : pc + 3 = q)
    (r : ∀ v T' h' L', St p l e R s m args below meth c n0 T' h' k' n' ∨ ¬ Fr n0 L' → QL v h' L' → Goes p e below G (T'.setTop (mkF m q L (v.toList ++ rest)))) : Goes p e below G (T.setTop (mkF m pc L st)) := by
  obtain ⟨hx, hZ, hown, hby, hml, -⟩ := C
  obtain ⟨_, cells, slots, X, hF, eT, h1, h2⟩ := X
  subst hq hk hn has hst hW
  obtain ⟨cB, kB, qa, qb, qc⟩ := isOf hZ eT E
  obtain ⟨_, _, ⟨T', Lo, kk, nn⟩, -, X', ⟨Lc, hQ, q1, q2, q3⟩, st'⟩ := X.virtualBack hx hown (mvT hZ w1) (mvT hZ w2) (hnf s hZ) (mvT hZ w3) (mvT hZ w4) hy bk qa qc (g := mkF m pc L (argsL.reverse ++ .ref a :: rest)) rfl (hsz.trans hml.symm) (Steps.refl _) (argsL := argsL) (rest := rest) (lenOf hdd hlen) rfl (by show 2 * 0 + _ ≤ _; omega) (hb hby hd) (fun _ _ => ⟨rfl, eT, Nat.le_trans (Nat.add_le_add_right h1 _) hkR, Nat.le_trans (Nat.add_le_add_right h2 _) hnR⟩)
  dsimp only [Pt.U, Pt.locs, Pt.cells, Pt.slots] at X' q1 q2 q3 st' hQ
  subst q1 q2 q3
  refine go_tr st' (r _ T' _ Lc ?_ hQ)
  by_cases hFr : Fr n0 Lc
  · exact Or.inl ⟨_, _, _, X', Fr.app hF hFr, rfl, Nat.add_le_add_right h1 _, Nat.add_le_add_right h2 _⟩
  · exact Or.inr hFr
theorem g_callV1 (C : Cx p s m meth c Z own bytes ml rt mn) (X : St p l e R s m args below meth c n0 T h k n) {rm : Room} {as' : Array Value} {bts : ByteArray} {mxl : Nat} {rty : Option FieldType} {argsL : List Value} {ps : List FieldType} {rt' : Option FieldType} {k' n' W : Nat} {Q : Value → Heap → Prop} {y z : MethodName} {i : Nat} {a : Addr} {K : String} (hy : y.cls ≠ "java/lang/invoke/MethodHandle" ∧ y.cls ≠ "java/lang/invoke/VarHandle") (w1 : (Cond.methodLink own i y).before a0 Z = true) (w2 : (Cond.declares y).before a0 Z = true) (w3 : (Cond.selects K y z).before a0 Z = true) (w4 : (Cond.instanceMethod z).before a0 Z = true) (hnf : ∀ s' : State, Z.Warmed39 s'.vm → NotFace s' y) (E : Exa Z h a K) (w8 : (Cond.code z bts mxl rty).before a0 Z = true) (w9 : (Cond.initialized z.cls).before a0 Z = true) (hM : Met1 l Z z bts mxl rty rm as' h n0 Q) (hf : rm.frames + 1 ≤ R.frames) (hl : W + (mxl + 11) + rm.locals ≤ R.locals) (hk : k + rm.cells = k') (hn : n + rm.slots = n') (hkR : k' ≤ R.cells) (hnR : n' ≤ R.slots) (hsz : L.size = ml) (hdd : parseMethodDescriptor y.desc = some ⟨ps, rt'⟩) (hlen : argsL.length = ps.length) (hst : st = argsL.reverse ++ .ref a :: rest) (has : (.ref a :: argsL).toArray = as') (hW : (rest.map fun v => v.category).sum = W) (hd : decode bytes pc = .ok (.invokevirtual i, 3)) (hq : pc + 3 = q)
    (r : ∀ w T' h', St p l e R s m args below meth c n0 T' h' k' n' → Q w h' → Goes p e below G (T'.setTop (mkF m q L (w :: rest)))) : Goes p e below G (T.setTop (mkF m pc L st)) := by
  have bk := backOf (Q := fun v h L => Fr n0 L ∧ (∃ w, v = some w ∧ Q w h)) (R := R) (p := p) (e := e) (below := below) (s := s) (args := args) (len := 3) (W := W) (hM []) C.2.1 w8 w9 hf hl
  refine g_callVb C X (QL := fun v h L => Fr n0 L ∧ (∃ w, v = some w ∧ Q w h)) hy w1 w2 w3 w4 hnf E bk hk hn hkR hnR hsz hdd hlen hst has hW hd hq ?_
  rintro v T' h' L' hX ⟨hFr, hQ⟩
  obtain ⟨w, rfl, hQ⟩ := hQ
  exact r w T' h' (hX.resolve_right fun z => z hFr) hQ
theorem g_callV0 (C : Cx p s m meth c Z own bytes ml rt mn) (X : St p l e R s m args below meth c n0 T h k n) {rm : Room} {as' : Array Value} {bts : ByteArray} {mxl : Nat} {rty : Option FieldType} {argsL : List Value} {ps : List FieldType} {rt' : Option FieldType} {k' n' W : Nat} {Q : Heap → Prop} {y z : MethodName} {i : Nat} {a : Addr} {K : String} (hy : y.cls ≠ "java/lang/invoke/MethodHandle" ∧ y.cls ≠ "java/lang/invoke/VarHandle") (w1 : (Cond.methodLink own i y).before a0 Z = true) (w2 : (Cond.declares y).before a0 Z = true) (w3 : (Cond.selects K y z).before a0 Z = true) (w4 : (Cond.instanceMethod z).before a0 Z = true) (hnf : ∀ s' : State, Z.Warmed39 s'.vm → NotFace s' y) (E : Exa Z h a K) (w8 : (Cond.code z bts mxl rty).before a0 Z = true) (w9 : (Cond.initialized z.cls).before a0 Z = true) (hM : Met0 l Z z bts mxl rty rm as' h n0 Q) (hf : rm.frames + 1 ≤ R.frames) (hl : W + (mxl + 11) + rm.locals ≤ R.locals) (hk : k + rm.cells = k') (hn : n + rm.slots = n') (hkR : k' ≤ R.cells) (hnR : n' ≤ R.slots) (hsz : L.size = ml) (hdd : parseMethodDescriptor y.desc = some ⟨ps, rt'⟩) (hlen : argsL.length = ps.length) (hst : st = argsL.reverse ++ .ref a :: rest) (has : (.ref a :: argsL).toArray = as') (hW : (rest.map fun v => v.category).sum = W) (hd : decode bytes pc = .ok (.invokevirtual i, 3)) (hq : pc + 3 = q)
    (r : ∀ T' h', St p l e R s m args below meth c n0 T' h' k' n' → Q h' → Goes p e below G (T'.setTop (mkF m q L rest))) : Goes p e below G (T.setTop (mkF m pc L st)) := by
  have bk := backOf (Q := fun v h L => Fr n0 L ∧ (v = none ∧ Q h)) (R := R) (p := p) (e := e) (below := below) (s := s) (args := args) (len := 3) (W := W) (hM []) C.2.1 w8 w9 hf hl
  refine g_callVb C X (QL := fun v h L => Fr n0 L ∧ (v = none ∧ Q h)) hy w1 w2 w3 w4 hnf E bk hk hn hkR hnR hsz hdd hlen hst has hW hd hq ?_
  rintro v T' h' L' hX ⟨hFr, hQ⟩
  obtain ⟨rfl, hQ⟩ := hQ
  exact r T' h' (hX.resolve_right fun z => z hFr) hQ
theorem g_callUb (C : Cx p s m meth c Z own bytes ml rt mn) (X : St p l e R s m args below meth c n0 T h k n) {as' : Array Value} {argsL : List Value} {ps : List FieldType} {rt' : Option FieldType} {k' n' W kc ks : Nat} {QL : Option Value → Heap → List Loc → Prop} {y z : MethodName} {i : Nat} {a : Addr} {K owner : String} (hy : owner ≠ "java/lang/invoke/MethodHandle" ∧ owner ≠ "java/lang/invoke/VarHandle") (w1 : (Cond.methodLink own i y).before a0 Z = true) (w2 : (Cond.sameMethod y.cls owner y.name y.desc).before a0 Z = true) (w2' : (Cond.declares ⟨owner, y.name, y.desc⟩).before a0 Z = true) (w3 : (Cond.selects K y z).before a0 Z = true) (w4 : (Cond.instanceMethod z).before a0 Z = true) (E : Exa Z h a K) (bk : Back l R p e below s args z 3 W (fun A a => a = as' ∧ A.U.heap = h ∧ A.cells + kc ≤ R.cells ∧ A.slots + ks ≤ R.slots) (fun A _ v B => ∃ L, QL v B.U.heap L ∧ B.locs = A.locs ++ L ∧ B.cells = A.cells + kc ∧ B.slots = A.slots + ks)) (hk : k + kc = k') (hn : n + ks = n') (hkR : k' ≤ R.cells) (hnR : n' ≤ R.slots) (hsz : L.size = ml) (hdd : parseMethodDescriptor y.desc = some ⟨ps, rt'⟩) (hlen : argsL.length = ps.length) (hst : st = argsL.reverse ++ .ref a :: rest) (has : (.ref a :: argsL).toArray = as') (hW : (rest.map fun v => v.category).sum = W) (hd : decode bytes pc = .ok (.invokevirtual i, 3)) (hq : pc + 3 = q)
    (r : ∀ v T' h' L', St p l e R s m args below meth c n0 T' h' k' n' ∨ ¬ Fr n0 L' → QL v h' L' → Goes p e below G (T'.setTop (mkF m q L (v.toList ++ rest)))) : Goes p e below G (T.setTop (mkF m pc L st)) := by
  obtain ⟨hx, hZ, hown, hby, hml, -⟩ := C
  obtain ⟨_, cells, slots, X, hF, eT, h1, h2⟩ := X
  subst hq hk hn has hst hW
  obtain ⟨cB, kB, qa, qb, qc⟩ := isOf hZ eT E
  obtain ⟨_, _, ⟨T', Lo, kk, nn⟩, -, X', ⟨Lc, hQ, q1, q2, q3⟩, st'⟩ := X.virtualBackUp hx hown (mvT hZ w1) (mvT hZ w2) (mvT hZ w2') hy (mvT hZ w3) (mvT hZ w4) bk qa qc (g := mkF m pc L (argsL.reverse ++ .ref a :: rest)) rfl (hsz.trans hml.symm) (Steps.refl _) (argsL := argsL) (rest := rest) (lenOf hdd hlen) rfl (by show 2 * 0 + _ ≤ _; omega) (hb hby hd) (fun _ _ => ⟨rfl, eT, Nat.le_trans (Nat.add_le_add_right h1 _) hkR, Nat.le_trans (Nat.add_le_add_right h2 _) hnR⟩)
  dsimp only [Pt.U, Pt.locs, Pt.cells, Pt.slots] at X' q1 q2 q3 st' hQ
  subst q1 q2 q3
  refine go_tr st' (r _ T' _ Lc ?_ hQ)
  by_cases hFr : Fr n0 Lc
  · exact Or.inl ⟨_, _, _, X', Fr.app hF hFr, rfl, Nat.add_le_add_right h1 _, Nat.add_le_add_right h2 _⟩
  · exact Or.inr hFr
theorem g_callU1 (C : Cx p s m meth c Z own bytes ml rt mn) (X : St p l e R s m args below meth c n0 T h k n) {rm : Room} {as' : Array Value} {bts : ByteArray} {mxl : Nat} {rty : Option FieldType} {argsL : List Value} {ps : List FieldType} {rt' : Option FieldType} {k' n' W : Nat} {Q : Value → Heap → Prop} {y z : MethodName} {i : Nat} {a : Addr} {K owner : String} (hy : owner ≠ "java/lang/invoke/MethodHandle" ∧ owner ≠ "java/lang/invoke/VarHandle") (w1 : (Cond.methodLink own i y).before a0 Z = true) (w2 : (Cond.sameMethod y.cls owner y.name y.desc).before a0 Z = true) (w2' : (Cond.declares ⟨owner, y.name, y.desc⟩).before a0 Z = true) (w3 : (Cond.selects K y z).before a0 Z = true) (w4 : (Cond.instanceMethod z).before a0 Z = true) (E : Exa Z h a K) (w8 : (Cond.code z bts mxl rty).before a0 Z = true) (w9 : (Cond.initialized z.cls).before a0 Z = true) (hM : Met1 l Z z bts mxl rty rm as' h n0 Q) (hf : rm.frames + 1 ≤ R.frames) (hl : W + (mxl + 11) + rm.locals ≤ R.locals) (hk : k + rm.cells = k') (hn : n + rm.slots = n') (hkR : k' ≤ R.cells) (hnR : n' ≤ R.slots) (hsz : L.size = ml) (hdd : parseMethodDescriptor y.desc = some ⟨ps, rt'⟩) (hlen : argsL.length = ps.length) (hst : st = argsL.reverse ++ .ref a :: rest) (has : (.ref a :: argsL).toArray = as') (hW : (rest.map fun v => v.category).sum = W) (hd : decode bytes pc = .ok (.invokevirtual i, 3)) (hq : pc + 3 = q)
    (r : ∀ w T' h', St p l e R s m args below meth c n0 T' h' k' n' → Q w h' → Goes p e below G (T'.setTop (mkF m q L (w :: rest)))) : Goes p e below G (T.setTop (mkF m pc L st)) := by
  have bk := backOf (Q := fun v h L => Fr n0 L ∧ (∃ w, v = some w ∧ Q w h)) (R := R) (p := p) (e := e) (below := below) (s := s) (args := args) (len := 3) (W := W) (hM []) C.2.1 w8 w9 hf hl
  refine g_callUb C X (QL := fun v h L => Fr n0 L ∧ (∃ w, v = some w ∧ Q w h)) hy w1 w2 w2' w3 w4 E bk hk hn hkR hnR hsz hdd hlen hst has hW hd hq ?_
  rintro v T' h' L' hX ⟨hFr, hQ⟩
  obtain ⟨w, rfl, hQ⟩ := hQ
  exact r w T' h' (hX.resolve_right fun z => z hFr) hQ
theorem g_callU0 (C : Cx p s m meth c Z own bytes ml rt mn) (X : St p l e R s m args below meth c n0 T h k n) {rm : Room} {as' : Array Value} {bts : ByteArray} {mxl : Nat} {rty : Option FieldType} {argsL : List Value} {ps : List FieldType} {rt' : Option FieldType} {k' n' W : Nat} {Q : Heap → Prop} {y z : MethodName} {i : Nat} {a : Addr} {K owner : String} (hy : owner ≠ "java/lang/invoke/MethodHandle" ∧ owner ≠ "java/lang/invoke/VarHandle") (w1 : (Cond.methodLink own i y).before a0 Z = true) (w2 : (Cond.sameMethod y.cls owner y.name y.desc).before a0 Z = true) (w2' : (Cond.declares ⟨owner, y.name, y.desc⟩).before a0 Z = true) (w3 : (Cond.selects K y z).before a0 Z = true) (w4 : (Cond.instanceMethod z).before a0 Z = true) (E : Exa Z h a K) (w8 : (Cond.code z bts mxl rty).before a0 Z = true) (w9 : (Cond.initialized z.cls).before a0 Z = true) (hM : Met0 l Z z bts mxl rty rm as' h n0 Q) (hf : rm.frames + 1 ≤ R.frames) (hl : W + (mxl + 11) + rm.locals ≤ R.locals) (hk : k + rm.cells = k') (hn : n + rm.slots = n') (hkR : k' ≤ R.cells) (hnR : n' ≤ R.slots) (hsz : L.size = ml) (hdd : parseMethodDescriptor y.desc = some ⟨ps, rt'⟩) (hlen : argsL.length = ps.length) (hst : st = argsL.reverse ++ .ref a :: rest) (has : (.ref a :: argsL).toArray = as') (hW : (rest.map fun v => v.category).sum = W) (hd : decode bytes pc = .ok (.invokevirtual i, 3)) (hq : pc + 3 = q)
    (r : ∀ T' h', St p l e R s m args below meth c n0 T' h' k' n' → Q h' → Goes p e below G (T'.setTop (mkF m q L rest))) : Goes p e below G (T.setTop (mkF m pc L st)) := by
  have bk := backOf (Q := fun v h L => Fr n0 L ∧ (v = none ∧ Q h)) (R := R) (p := p) (e := e) (below := below) (s := s) (args := args) (len := 3) (W := W) (hM []) C.2.1 w8 w9 hf hl
  refine g_callUb C X (QL := fun v h L => Fr n0 L ∧ (v = none ∧ Q h)) hy w1 w2 w2' w3 w4 E bk hk hn hkR hnR hsz hdd hlen hst has hW hd hq ?_
  rintro v T' h' L' hX ⟨hFr, hQ⟩
  obtain ⟨rfl, hQ⟩ := hQ
  exact r T' h' (hX.resolve_right fun z => z hFr) hQ
theorem g_callPb (C : Cx p s m meth c Z own bytes ml rt mn) (X : St p l e R s m args below meth c n0 T h k n) {as' : Array Value} {argsL : List Value} {ps : List FieldType} {rt' : Option FieldType} {k' n' W kc ks : Nat} {QL : Option Value → Heap → List Loc → Prop} {y : MethodName} {i : Nat} {a : Addr} {K : String} (hy : y.cls ≠ "java/lang/invoke/MethodHandle" ∧ y.cls ≠ "java/lang/invoke/VarHandle") (w1 : (Cond.methodLink own i y).before a0 Z = true) (w3 : (Cond.selects y.cls y y).before a0 Z = true) (w4 : (Cond.instanceMethod y).before a0 Z = true) (w5 : (Cond.privateMethod y).before a0 Z = true) (E : Exa Z h a K) {bts : ByteArray} {mxl : Nat} {rty : Option FieldType} (w8 : (Cond.code y bts mxl rty).before a0 Z = true) (bk : Back l R p e below s args y 3 W (fun A a => a = as' ∧ A.U.heap = h ∧ A.cells + kc ≤ R.cells ∧ A.slots + ks ≤ R.slots) (fun A _ v B => ∃ L, QL v B.U.heap L ∧ B.locs = A.locs ++ L ∧ B.cells = A.cells + kc ∧ B.slots = A.slots + ks)) (hk : k + kc = k') (hn : n + ks = n') (hkR : k' ≤ R.cells) (hnR : n' ≤ R.slots) (hsz : L.size = ml) (hdd : parseMethodDescriptor y.desc = some ⟨ps, rt'⟩) (hlen : argsL.length = ps.length) (hst : st = argsL.reverse ++ .ref a :: rest) (has : (.ref a :: argsL).toArray = as') (hW : (rest.map fun v => v.category).sum = W) (hd : decode bytes pc = .ok (.invokevirtual i, 3)) (hq : pc + 3 = q)
    (r : ∀ v T' h' L', St p l e R s m args below meth c n0 T' h' k' n' ∨ ¬ Fr n0 L' → QL v h' L' → Goes p e below G (T'.setTop (mkF m q L (v.toList ++ rest)))) : Goes p e below G (T.setTop (mkF m pc L st)) := by
  obtain ⟨hx, hZ, hown, hby, hml, -⟩ := C
  obtain ⟨_, cells, slots, X, hF, eT, h1, h2⟩ := X
  subst hq hk hn has hst hW
  obtain ⟨cq, qa, qb⟩ := E.cell
  obtain ⟨_, _, ⟨T', Lo, kk, nn⟩, -, X', ⟨Lc, hQ, q1, q2, q3⟩, st'⟩ := X.privateBack hx hown (mvT hZ w1) (mvT hZ w4) (mvT hZ w3) (Cond.privateMethod_at (mvP hZ w5 (args := #[]))) (mvT hZ w8) hy bk (g := mkF m pc L (argsL.reverse ++ .ref a :: rest)) rfl (hsz.trans hml.symm) (Steps.refl _) (a := a) (by rw [eT]; exact qa) qb (argsL := argsL) (rest := rest) (lenOf hdd hlen) rfl (by show 2 * 0 + _ ≤ _; omega) (hb hby hd) (fun _ _ => ⟨rfl, eT, Nat.le_trans (Nat.add_le_add_right h1 _) hkR, Nat.le_trans (Nat.add_le_add_right h2 _) hnR⟩)
  dsimp only [Pt.U, Pt.locs, Pt.cells, Pt.slots] at X' q1 q2 q3 st' hQ
  subst q1 q2 q3
  refine go_tr st' (r _ T' _ Lc ?_ hQ)
  by_cases hFr : Fr n0 Lc
  · exact Or.inl ⟨_, _, _, X', Fr.app hF hFr, rfl, Nat.add_le_add_right h1 _, Nat.add_le_add_right h2 _⟩
  · exact Or.inr hFr
theorem g_callP1 (C : Cx p s m meth c Z own bytes ml rt mn) (X : St p l e R s m args below meth c n0 T h k n) {rm : Room} {as' : Array Value} {bts : ByteArray} {mxl : Nat} {rty : Option FieldType} {argsL : List Value} {ps : List FieldType} {rt' : Option FieldType} {k' n' W : Nat} {Q : Value → Heap → Prop} {y : MethodName} {i : Nat} {a : Addr} {K : String} (hy : y.cls ≠ "java/lang/invoke/MethodHandle" ∧ y.cls ≠ "java/lang/invoke/VarHandle") (w1 : (Cond.methodLink own i y).before a0 Z = true) (w3 : (Cond.selects y.cls y y).before a0 Z = true) (w4 : (Cond.instanceMethod y).before a0 Z = true) (w5 : (Cond.privateMethod y).before a0 Z = true) (E : Exa Z h a K) (w8 : (Cond.code y bts mxl rty).before a0 Z = true) (w9 : (Cond.initialized y.cls).before a0 Z = true) (hM : Met1 l Z y bts mxl rty rm as' h n0 Q) (hf : rm.frames + 1 ≤ R.frames) (hl : W + (mxl + 11) + rm.locals ≤ R.locals) (hk : k + rm.cells = k') (hn : n + rm.slots = n') (hkR : k' ≤ R.cells) (hnR : n' ≤ R.slots) (hsz : L.size = ml) (hdd : parseMethodDescriptor y.desc = some ⟨ps, rt'⟩) (hlen : argsL.length = ps.length) (hst : st = argsL.reverse ++ .ref a :: rest) (has : (.ref a :: argsL).toArray = as') (hW : (rest.map fun v => v.category).sum = W) (hd : decode bytes pc = .ok (.invokevirtual i, 3)) (hq : pc + 3 = q)
    (r : ∀ w T' h', St p l e R s m args below meth c n0 T' h' k' n' → Q w h' → Goes p e below G (T'.setTop (mkF m q L (w :: rest)))) : Goes p e below G (T.setTop (mkF m pc L st)) := by
  have bk := backOf (Q := fun v h L => Fr n0 L ∧ (∃ w, v = some w ∧ Q w h)) (R := R) (p := p) (e := e) (below := below) (s := s) (args := args) (len := 3) (W := W) (hM []) C.2.1 w8 w9 hf hl
  refine g_callPb C X (QL := fun v h L => Fr n0 L ∧ (∃ w, v = some w ∧ Q w h)) hy w1 w3 w4 w5 E w8 bk hk hn hkR hnR hsz hdd hlen hst has hW hd hq ?_
  rintro v T' h' L' hX ⟨hFr, hQ⟩
  obtain ⟨w, rfl, hQ⟩ := hQ
  exact r w T' h' (hX.resolve_right fun z => z hFr) hQ
theorem g_callP0 (C : Cx p s m meth c Z own bytes ml rt mn) (X : St p l e R s m args below meth c n0 T h k n) {rm : Room} {as' : Array Value} {bts : ByteArray} {mxl : Nat} {rty : Option FieldType} {argsL : List Value} {ps : List FieldType} {rt' : Option FieldType} {k' n' W : Nat} {Q : Heap → Prop} {y : MethodName} {i : Nat} {a : Addr} {K : String} (hy : y.cls ≠ "java/lang/invoke/MethodHandle" ∧ y.cls ≠ "java/lang/invoke/VarHandle") (w1 : (Cond.methodLink own i y).before a0 Z = true) (w3 : (Cond.selects y.cls y y).before a0 Z = true) (w4 : (Cond.instanceMethod y).before a0 Z = true) (w5 : (Cond.privateMethod y).before a0 Z = true) (E : Exa Z h a K) (w8 : (Cond.code y bts mxl rty).before a0 Z = true) (w9 : (Cond.initialized y.cls).before a0 Z = true) (hM : Met0 l Z y bts mxl rty rm as' h n0 Q) (hf : rm.frames + 1 ≤ R.frames) (hl : W + (mxl + 11) + rm.locals ≤ R.locals) (hk : k + rm.cells = k') (hn : n + rm.slots = n') (hkR : k' ≤ R.cells) (hnR : n' ≤ R.slots) (hsz : L.size = ml) (hdd : parseMethodDescriptor y.desc = some ⟨ps, rt'⟩) (hlen : argsL.length = ps.length) (hst : st = argsL.reverse ++ .ref a :: rest) (has : (.ref a :: argsL).toArray = as') (hW : (rest.map fun v => v.category).sum = W) (hd : decode bytes pc = .ok (.invokevirtual i, 3)) (hq : pc + 3 = q)
    (r : ∀ T' h', St p l e R s m args below meth c n0 T' h' k' n' → Q h' → Goes p e below G (T'.setTop (mkF m q L rest))) : Goes p e below G (T.setTop (mkF m pc L st)) := by
  have bk := backOf (Q := fun v h L => Fr n0 L ∧ (v = none ∧ Q h)) (R := R) (p := p) (e := e) (below := below) (s := s) (args := args) (len := 3) (W := W) (hM []) C.2.1 w8 w9 hf hl
  refine g_callPb C X (QL := fun v h L => Fr n0 L ∧ (v = none ∧ Q h)) hy w1 w3 w4 w5 E w8 bk hk hn hkR hnR hsz hdd hlen hst has hW hd hq ?_
  rintro v T' h' L' hX ⟨hFr, hQ⟩
  obtain ⟨rfl, hQ⟩ := hQ
  exact r T' h' (hX.resolve_right fun z => z hFr) hQ
theorem sel_priv {y : MethodName} {kk : Nat} (wi : (Cond.instantiable y.cls kk).before a0 Z = true) (w4 : (Cond.instanceMethod y).before a0 Z = true) (w5 : (Cond.privateMethod y).before a0 Z = true) (hy : y.cls ≠ "java/lang/invoke/MethodHandle" ∧ y.cls ≠ "java/lang/invoke/VarHandle") : (Cond.selects y.cls y y).before a0 Z = true := by
  obtain ⟨c1, k1, i1, i2, -, i4, -⟩ := Cond.instantiable_spec wi
  exact Stand.selects_self_of_private i1 i2 (by simp only [Bool.or_eq_false_iff] at i4; exact i4.1) (Cond.privateMethod_at w5) w4 hy
theorem own_noInst {K O Ko : String} {nn : Nat} (wO : (Cond.noSuperclass O).before a0 Z = true) (wC : (Cond.superclass Ko O).before a0 Z = true) (wK : (Cond.instantiable K nn).before a0 Z = true) (h1 : Ko ≠ K) (h2 : O ≠ K) : ∃ c t, Z.vm.findClass Ko = some c ∧ Z.vm.findClass K = some t ∧ Z.vm.assignable c t = false := by
  obtain ⟨t, kt, g1, g2, g3, g4, -⟩ := Cond.instantiable_spec wK
  obtain ⟨o, ko, o1, o2, o3, -, -⟩ := Cond.noSuperclass_spec wO
  have neO := ids_ne o1 g1 h2
  have nO : NS Z O K := ⟨o, t, o1, g1, fun fuel => by
    cases fuel with
    | zero => rfl
    | succ f => simp [Vm.isSubclassAux, neO, o2, o3]⟩
  obtain ⟨c, t', h0, g0, n3⟩ := NS.step wC nO h1
  cases g1.symm.trans g0
  obtain ⟨p, k, kp, q1, q2, q3, q4, q5, -, q7⟩ := Cond.superclass_spec h0 wC
  have neC := ids_ne h0 g1 h1
  simp only [Bool.or_eq_false_iff] at g4
  refine ⟨c, t, h0, g1, ?_⟩
  show Z.vm.assignableAux (255 + 1) c t = false
  simp [Vm.assignableAux, neC, q2, g2, q5, g3, g4.1, Vm.isSubclass, n3]
theorem own_nb {b : Int32} {t : Bool} (h1 : t = true → b = 0) (h2 : t = false → b = 1) : nar .boolean b = b := by
  cases t
  · rw [h2 rfl]; decide
  · rw [h1 rfl]; decide
theorem nf_sel {y : MethodName} {K : String} (w : (Cond.selects K y y).before a0 Z = true) : ∀ s' : State, Z.Warmed39 s'.vm → NotFace s' y := fun s' hZ => notFace_of_selects (args := #[]) (mvT hZ w)
end OwnKit
theorem own_i32 {x y : Int32} (h : x.toInt = y.toInt) : x = y := Int32.toInt_inj.mp h
theorem own_r1 {u w : Int32} {hi : Int} (h : u.toInt ≤ hi) (hw : hi < w.toInt) : u < w := Int32.lt_iff_toInt_lt.mpr (Int.lt_of_le_of_lt h hw)
theorem own_r2 {u w : Int32} {lo : Int} (h : lo ≤ u.toInt) (hw : w.toInt ≤ lo) : ¬ u < w := fun q => by have := Int32.lt_iff_toInt_lt.mp q; omega
theorem own_r3 {u w : Int32} {lo : Int} (h : lo ≤ w.toInt) (hu : u.toInt < lo) : u < w := Int32.lt_iff_toInt_lt.mpr (by omega)
theorem own_r4 {u w : Int32} {hi : Int} (h : w.toInt ≤ hi) (hu : hi ≤ u.toInt) : ¬ u < w := fun q => by have := Int32.lt_iff_toInt_lt.mp q; omega
theorem own_r5 {u w : Int32} {lo : Int} (h : lo ≤ u.toInt) (hw : w.toInt < lo) : ¬ u = w := fun q => by subst q; omega
theorem own_r6 {u w : Int32} {hi : Int} (h : u.toInt ≤ hi) (hw : hi < w.toInt) : ¬ u = w := fun q => by subst q; omega
theorem own_f0 {u w : Int32} {z : Int} (h1 : z ≤ u.toInt) (h2 : u.toInt ≤ z) (hz : w.toInt = z) : u = w := own_i32 (by omega)
theorem own_f1 {u w : Int32} {z : Int} (h : u < w) (hz : w.toInt = z + 1) : u.toInt ≤ z := by have := Int32.lt_iff_toInt_lt.mp h; omega
theorem own_f2 {u w : Int32} {z : Int} (h : ¬ u < w) (hz : w.toInt = z) : z ≤ u.toInt := by rw [Int32.lt_iff_toInt_lt] at h; omega
theorem own_f3 {u w : Int32} {z : Int} (h : w < u) (hz : w.toInt + 1 = z) : z ≤ u.toInt := by have := Int32.lt_iff_toInt_lt.mp h; omega
theorem own_f4 {u w : Int32} {z : Int} (h : ¬ w < u) (hz : w.toInt = z) : u.toInt ≤ z := by rw [Int32.lt_iff_toInt_lt] at h; omega
theorem own_f5 {u w : Int32} {z lo : Int} (h : ¬ u = w) (hl : lo ≤ u.toInt) (hz : w.toInt = lo ∧ z = lo + 1) : z ≤ u.toInt := by
  have : u.toInt ≠ w.toInt := fun q => h (own_i32 q)
  omega
theorem own_f6 {u w : Int32} {z hi : Int} (h : ¬ u = w) (hl : u.toInt ≤ hi) (hz : w.toInt = hi ∧ z = hi - 1) : u.toInt ≤ z := by
  have : u.toInt ≠ w.toInt := fun q => h (own_i32 q)
  omega
theorem own_i2c {v : Int32} {lo hi : Int} (h1 : lo ≤ v.toInt) (h2 : v.toInt ≤ hi) (h3 : 0 ≤ lo) (h4 : hi ≤ 65535) : v.toUInt32.toUInt16.toUInt32.toInt32 = v := by
  have h := c_i2c v
  apply own_i32
  omega
theorem own_narC {v : Int32} {lo hi : Int} (h1 : lo ≤ v.toInt) (h2 : v.toInt ≤ hi) (h3 : 0 ≤ lo) (h4 : hi ≤ 65535) : nar .char v = v := own_i2c h1 h2 h3 h4
theorem own_ch {v : Int32} {lo hi : Int} (h1 : lo ≤ v.toInt) (h2 : v.toInt ≤ hi) (h3 : 0 ≤ lo) (h4 : hi ≤ 255) : ¬ v < 0 ∧ ¬ (255 : Int32) < v := ⟨own_r2 h1 h3, own_r4 h2 h4⟩
theorem own_rem {x y : Int32} {d : Int} (hy : y.toInt = d + 1) (hd : 0 < d + 1) (hx : 0 ≤ x.toInt) : 0 ≤ (x % y).toInt ∧ (x % y).toInt ≤ d := by
  have h := (c_irem x y (d + 1) hy).1 hx
  rw [h]
  have := Int.emod_nonneg x.toInt (show d + 1 ≠ 0 by omega)
  have := Int.emod_lt_of_pos x.toInt hd
  omega
theorem own_ne {a b : Addr} {h : Heap} (h1 : a < h.size) (h2 : b = h.size) : a ≠ b := fun q => by subst q; subst h2; exact Nat.lt_irrefl _ h1
theorem own_ge {Z : State} {n0 : Nat} {h : Heap} {a : Addr} (O : Old Z n0 h) (g : a = h.size) : n0 ≤ a := by rw [g, ← O.1]; exact O.2.1
theorem own_szO {Z : State} {n0 : Nat} {h : Heap} (O : Old Z n0 h) : n0 ≤ h.size := by rw [← O.1]; exact O.2.1
theorem own_sz {h h' : Heap} {a : Addr} (q : h.size ≤ h'.size) (g : a = h'.size) : h.size ≤ a := g ▸ q
theorem own_neO {Z : State} {n0 : Nat} {h : Heap} {a b : Addr} (q : a < Z.heap.size) (O : Old Z n0 h) (r : n0 ≤ b) : a ≠ b := O.ne q r
theorem own_sta {s : State} {args : Array Value} {C n d K : String} (h : (Jvm.Cond.exactly (.static C n d) K).value args s none s [] = some true) (hi : (Jvm.Cond.initializedFor C n d).before args s = true ∨ ((Jvm.Cond.initialized C).before args s = true ∧ (Jvm.Cond.laysStatic C n d).before args s = true)) : ∃ a, (Term.static C n d).eval args s none [] s = some (.ref a) ∧ Sta s s.heap C n d (.ref a) ∧ Exa s s.heap a K := by
  obtain ⟨a, ev⟩ := exa_v h
  exact ⟨a, ev, Sta.start ev hi, Exa.start ev h⟩
theorem own_fldI {s : State} {args : Array Value} {t : Term} {C n d : String} {v : Int32} {a : Addr} (ev : t.eval args s none [] s = some (.ref a)) (h : (Jvm.Cond.eq (.field t C n d) (.int v)).value args s none s [] = some true) : Fld s s.heap a C n d (.int v) := by
  apply Fld.start
  cases hf : s.fieldOf? a C n d with
  | none => simp [Cond.value, Term.eval, ev, hf] at h
  | some x => cases x <;> simp [Cond.value, Term.eval, ev, hf] at h; subst h; rfl
theorem own_fldN {s : State} {args : Array Value} {t : Term} {C n d : String} {a : Addr} (ev : t.eval args s none [] s = some (.ref a)) (h : (Jvm.Cond.eq (.field t C n d) .null).value args s none s [] = some true) : Fld s s.heap a C n d .null := by
  apply Fld.start
  have := null_v h
  rw [fld_at ev] at this
  exact this
theorem own_fldR {s : State} {args : Array Value} {t : Term} {C n d K : String} {a : Addr} (ev : t.eval args s none [] s = some (.ref a)) (h : (Jvm.Cond.exactly (.field t C n d) K).value args s none s [] = some true) : ∃ b, (Term.field t C n d).eval args s none [] s = some (.ref b) ∧ Fld s s.heap a C n d (.ref b) ∧ Exa s s.heap b K := by
  obtain ⟨b, e2⟩ := exa_v h
  refine ⟨b, e2, Fld.start ?_, Exa.start e2 h⟩
  rw [← fld_at ev]; exact e2
section OwnWide
variable {p : Program} {l : Launch} {e : Env} {R : Room} {s : State} {m : MethodId} {args : Array Value} {below : List Frame} {meth : Method} {c : Code} {T : State} {Z : State} {own mn : String} {bytes : ByteArray} {ml n0 k n : Nat} {rt : Option FieldType} {h h' : Heap} {G : Outcome → State → Prop} {pc q : Nat} {L : Array Slot} {st rest : List Value} {a0 : Array Value} {EL : List (String × Nat)} {vm : Vm}
def FinW (Z : State) (EL : List (String × Nat)) (Q : Option Value → Heap → Prop) (s : State) (n0 k n : Nat) (o : Outcome) (U : State) : Prop := ∃ v L, o = .returned v ∧ (Fr n0 L ∧ Q v U.heap) ∧ CHr Z EL s.vm s.heap U.vm U.heap ∧ ReturnedEndW s o U L k n
def MetW (l : Launch) (Z : State) (EL : List (String × Nat)) (y : MethodName) (bytes : ByteArray) (ml : Nat) (rt : Option FieldType) (rm : Room) (as' : Array Value) (h0 : Heap) (n0 : Nat) (Q : Option Value → Heap → Prop) : Prop :=
  ∀ ws : List Jvm.Cond, MetFree l y (head1 (Jvm.Cond.code y bytes ml rt :: ws) rm) (fun a U => a = as' ∧ Z.Warmed39 U.vm ∧ U.heap = h0 ∧ CHv Z EL U.vm h0) (fun _ _ _ _ _ => True) (fun _ U o U' => ∃ v L, o = .returned v ∧ (Fr n0 L ∧ Q v U'.heap) ∧ CHr Z EL U.vm U.heap U'.vm U'.heap ∧ ReturnedEndW U o U' L rm.cells rm.slots)
abbrev MetW1 (l : Launch) (Z : State) (EL : List (String × Nat)) (y : MethodName) (bytes : ByteArray) (ml : Nat) (rt : Option FieldType) (rm : Room) (as' : Array Value) (h0 : Heap) (n0 : Nat) (Q : Value → Heap → Prop) : Prop := MetW l Z EL y bytes ml rt rm as' h0 n0 (fun v h => ∃ w, v = some w ∧ Q w h)
abbrev MetW0 (l : Launch) (Z : State) (EL : List (String × Nat)) (y : MethodName) (bytes : ByteArray) (ml : Nat) (rt : Option FieldType) (rm : Room) (as' : Array Value) (h0 : Heap) (n0 : Nat) (Q : Heap → Prop) : Prop := MetW l Z EL y bytes ml rt rm as' h0 n0 (fun v h => v = none ∧ Q h)
/-- what a wide walk bears besides: its tables come of the start's, and what they book is said -/
def Wx (Z : State) (EL : List (String × Nat)) (s : State) (vm : Vm) (h : Heap) : Prop := (∃ k0, s.Since vm k0 ∧ k0 ≤ h.size) ∧ CHr Z EL s.vm s.heap vm h
theorem Wx.ext (Y : Wx Z EL s vm h) (E : Ext h h') : Wx Z EL s vm h' := by
  obtain ⟨⟨k0, h1, h2⟩, h3⟩ := Y
  exact ⟨⟨k0, h1, Nat.le_trans h2 E.1⟩, h3.trans (CHr.ext E h3.1)⟩
theorem Wx.wr (Y : Wx Z EL s vm h) {a : Addr} {sl : Nat} {v : Value} (W : Wr h h' a sl v) (S : Safe Z EL vm h a) : Wx Z EL s vm h' := by
  obtain ⟨⟨k0, h1, h2⟩, h3⟩ := Y
  exact ⟨⟨k0, h1, by rw [W.size]; exact h2⟩, h3.trans (CHr.wr W S h3.1)⟩
theorem Wx.keep (Y : Wx Z EL s vm h) {ws : List Addr} (K : Keep h h' ws) (S : ∀ x ∈ ws, Safe Z EL vm h x) : Wx Z EL s vm h' := by
  obtain ⟨⟨k0, h1, h2⟩, h3⟩ := Y
  exact ⟨⟨k0, h1, Nat.le_trans h2 K.1⟩, h3.trans (CHr.keep K S h3.1)⟩
theorem Wx.safe0 (Y : Wx Z EL s vm h) {x : Addr} (hx : h.size ≤ x) : Safe Z EL vm h x := Safe.new hx
theorem Wx.safeE (Y : Wx Z EL s vm h) {x : Addr} (S : Safe Z EL vm h x) (E : Ext h h') : Safe Z EL vm h' x := Safe.ext E Y.2.1 S
theorem Wx.safeW (Y : Wx Z EL s vm h) {a x : Addr} {sl : Nat} {v : Value} (S : Safe Z EL vm h x) (W : Wr h h' a sl v) (Sa : Safe Z EL vm h a) : Safe Z EL vm h' x := Safe.wr W Sa Y.2.1 S
theorem Wx.safeK (Y : Wx Z EL s vm h) {x : Addr} {ws : List Addr} (S : Safe Z EL vm h x) (K : Keep h h' ws) (Sa : ∀ x ∈ ws, Safe Z EL vm h x) : Safe Z EL vm h' x := Safe.keep K Sa Y.2.1 S
theorem Cx.alike (C : Cx p (s.setVm vm) m meth c Z own bytes ml rt mn) : Z.vm.Alike vm := C.2.1.alike
theorem metW_of {y : MethodName} {rm : Room} {as' : Array Value} {Q : Option Value → Heap → Prop} (hp : plainFor y = true) (hef : ∀ m, entryFrame m as' ml = mkF m 0 L [])
    (body : ∀ (p : Program) (e : Env) (s : State) (m : MethodId) (below : List Frame) (meth : Method) (c : Code) (T : State) (vm : Vm), Cx p (s.setVm vm) m meth c Z y.cls bytes ml rt y.name → St p l e rm (s.setVm vm) m as' below meth c n0 T h 0 0 → Wx Z EL s vm h → Goes p e below (FinW Z EL Q s n0 rm.cells rm.slots) (T.setTop (mkF m 0 L []))) :
    MetW l Z EL y bytes ml rt rm as' h n0 Q := by
  intro ws
  refine MetFree.of_bodySF hp hisR ?_
  intro p e s m args below meth c s₁ Bd hml hP hK
  obtain ⟨rfl, hZ, hh, hCH⟩ := hP
  have e0 : s₁.heap = h := by rw [← hh, Bd.state]; rfl
  have b := body p e s m below meth c s₁ s.vm ⟨Bd.exec, hZ, findClass_of_methodNamed Bd.named, Bd.bytes, hml, Bd.returns, BodyLoose.notSynchronized Bd, (name_of_methodNamed Bd.named Bd.method).1⟩ ⟨[], 0, 0, Stand.of_body Bd, Fr.nil _, e0, Nat.le_refl _, Nat.le_refl _⟩
    ⟨⟨0, (State.WarmedH.refl s).since 0, Nat.zero_le _⟩, by rw [hh]; exact CHr.refl hCH⟩
  rw [hef m]
  exact b
theorem own_endW (C : Cx p (s.setVm vm) m meth c Z own bytes ml rt mn) (X : St p l e R (s.setVm vm) m args below meth c n0 T h k n) (Y : Wx Z EL s vm h) (hEL : EW Z a0 EL) {Q : Option Value → Heap → Prop} {K N : Nat} {S : State} {v : Option Value} (hv : rt = none → v = none) (hk : k ≤ K) (hn : n ≤ N) (hQ : Q v h)
    (f : ∀ locs cells slots fs, Stand p l e R (s.setVm vm) m args below meth c T locs cells slots → (∀ (f : JFrame) (acts : List Action), f.method = m → f.locked = none → f.entered = [] → (doReturn e (T.setTop f) acts v).1 = T.setFrames fs) → Steps p.tables e below S (T.setFrames fs)) : Goes p e below (FinW Z EL Q s n0 K N) S := by
  obtain ⟨hx, hZ, -, hby, -, hret, hlk, -⟩ := C
  obtain ⟨locs, cells, slots, X, hF, rfl, h1, h2⟩ := X
  obtain ⟨⟨k0, hS, hk0⟩, hC⟩ := Y
  have hA := CHv.at X hZ hEL hC.1
  obtain ⟨fs, hr, hrun, hended, hW, hsame⟩ := X.leave (v := v) (fun h => hv (hret.symm.trans h)) hlk
  have hS2 : s.Since (T.setFrames fs).vm T.heap.size := hS.trans (hW.since _) hk0
  refine ⟨_, _, f _ _ _ fs X hr, hrun, hended, _, _, rfl, ⟨hF, hQ⟩, hC.trans hA, ⟨_, rfl⟩, hS2.1, ?_, ?_⟩
  · intro j pp hj hp
    exact hS2.2 j pp hj hp
  · exact (hsame.setVm s.vm).mono (Nat.le_trans h1 hk) (Nat.le_trans h2 hn)
theorem gW_retI (C : Cx p (s.setVm vm) m meth c Z own bytes ml (some .int) mn) (X : St p l e R (s.setVm vm) m args below meth c n0 T h k n) (Y : Wx Z EL s vm h) (hEL : EW Z a0 EL) {Q : Option Value → Heap → Prop} {K N : Nat} {z : Int32} (hd : decode bytes pc = .ok (.ireturn, 1)) (hk : k ≤ K) (hn : n ≤ N) (hQ : Q (some (.int z)) h) : Goes p e below (FinW Z EL Q s n0 K N) (T.setTop (mkF m pc L (.int z :: st))) := by
  refine own_endW C X Y hEL (by simp) hk hn hQ fun locs cells slots fs X hr => ?_
  obtain ⟨hx, -, -, hby, -, hret, hlk, -⟩ := C
  exact retOut X hx hret rfl (Or.inl ⟨rfl, Or.inl rfl, _, rfl⟩) (hb hby hd) hr
theorem gW_retN {t : FieldType} (C : Cx p (s.setVm vm) m meth c Z own bytes ml (some t) mn) (X : St p l e R (s.setVm vm) m args below meth c n0 T h k n) (Y : Wx Z EL s vm h) (hEL : EW Z a0 EL) {Q : Option Value → Heap → Prop} {K N : Nat} {z z' : Int32} (ht : t = .boolean ∨ t = .byte ∨ t = .char ∨ t = .short) (hz : nar t z = z') (hd : decode bytes pc = .ok (.ireturn, 1)) (hk : k ≤ K) (hn : n ≤ N) (hQ : Q (some (.int z')) h) : Goes p e below (FinW Z EL Q s n0 K N) (T.setTop (mkF m pc L (.int z :: st))) := by
  subst hz
  refine own_endW C X Y hEL (by simp) hk hn hQ fun locs cells slots fs X hr => ?_
  obtain ⟨hx, -, -, hby, -, hret, hlk, -⟩ := C
  exact retN X hx hret ht (hb hby hd) hr
theorem gW_retA {t : FieldType} (C : Cx p (s.setVm vm) m meth c Z own bytes ml (some t) mn) (X : St p l e R (s.setVm vm) m args below meth c n0 T h k n) (Y : Wx Z EL s vm h) (hEL : EW Z a0 EL) {Q : Option Value → Heap → Prop} {K N : Nat} {v : Value} (ht : t.isReference = true) (hv : v.isRef = true) (hd : decode bytes pc = .ok (.areturn, 1)) (hk : k ≤ K) (hn : n ≤ N) (hQ : Q (some v) h) : Goes p e below (FinW Z EL Q s n0 K N) (T.setTop (mkF m pc L (v :: st))) := by
  refine own_endW C X Y hEL (by simp) hk hn hQ fun locs cells slots fs X hr => ?_
  obtain ⟨hx, -, -, hby, -, hret, hlk, -⟩ := C
  have hn' : narrow t v = v := by rcases ref_cases hv with rfl | ⟨b, rfl⟩ <;> cases t <;> first | rfl | (cases ht)
  exact retOut X hx hret hn' (Or.inr (Or.inr (Or.inr (Or.inr ⟨rfl, ht, hv⟩)))) (hb hby hd) hr
theorem gW_retV (C : Cx p (s.setVm vm) m meth c Z own bytes ml none mn) (X : St p l e R (s.setVm vm) m args below meth c n0 T h k n) (Y : Wx Z EL s vm h) (hEL : EW Z a0 EL) {Q : Option Value → Heap → Prop} {K N : Nat} (hd : decode bytes pc = .ok (.return_, 1)) (hk : k ≤ K) (hn : n ≤ N) (hQ : Q none h) : Goes p e below (FinW Z EL Q s n0 K N) (T.setTop (mkF m pc L [])) := by
  refine own_endW C X Y hEL (fun _ => rfl) hk hn hQ fun locs cells slots fs X hr => ?_
  obtain ⟨hx, -, -, hby, -, hret, hlk, -⟩ := C
  exact X.returnOut hx hret (hb hby hd) hr
theorem gW_ldcO (C : Cx p (s.setVm vm) m meth c Z own bytes ml rt mn) (X : St p l e R (s.setVm vm) m args below meth c n0 T h k n) (Y : Wx Z EL s vm h) (hEL : EW Z a0 EL) {text : String} {i nn k' n' : Nat} (w : (Cond.stringLink own i text).before a0 Z = true) (wS : ∀ a ∈ Bundle.stringAtoms, a.before a0 Z = true) (hd : decode bytes pc = .ok (.ldc i, 2)) (hq : pc + 2 = q) (hnn : 4 * text.toList.length ≤ nn) (hbig : nn ≤ 536870912) (hk : k + 2 = k') (hn : n + (nn + 4) = n') (hkR : k' ≤ R.cells) (hnR : n' ≤ R.slots)
    (r : ∀ a T' h' vm', Cx p (s.setVm vm') m meth c Z own bytes ml rt mn → St p l e R (s.setVm vm') m args below meth c n0 T' h' k' n' → Wx Z EL s vm' h' → Ext h h' → CHr Z EL vm h vm' h' → Goes p e below G (T'.setTop (mkF m q L (.ref a :: st)))) : Goes p e below G (T.setTop (mkF m pc L st)) := by
  obtain ⟨hx, hZ, hown, hby, hml, hret, hlk, hnm⟩ := C
  obtain ⟨locs, cells, slots, X, hF, eT, h1, h2⟩ := X
  obtain ⟨⟨k0, hS, hk0⟩, hC⟩ := Y
  subst hq hk hn
  obtain ⟨a, T', h', k1, X', e', E', hS', hk1, hZ', hown', hC', -, st'⟩ := ldcOH X hx hZ hown w wS eT hS hk0 hEL hC.1 (g := mkF m pc L st) rfl (hb hby hd) hnn hbig (Nat.le_trans (Nat.add_le_add_right h1 2) hkR) (Nat.le_trans (Nat.add_le_add_right h2 _) hnR)
  exact go_st st' (r a T' h' T'.vm ⟨hx, hZ', hown', hby, hml, hret, hlk, hnm⟩ ⟨_, _, _, X', hF, e', Nat.add_le_add_right h1 2, Nat.add_le_add_right h2 _⟩ ⟨⟨k1, hS', hk1⟩, hC.trans hC'⟩ E' hC')
theorem gW_ldcC (C : Cx p (s.setVm vm) m meth c Z own bytes ml rt mn) (X : St p l e R (s.setVm vm) m args below meth c n0 T h k n) (Y : Wx Z EL s vm h) (hEL : EW Z a0 EL) {text : String} {i nn k' n' : Nat} {vs : List Value} {z : Int32} (w : (Cond.stringLink own i text).before a0 Z = true) (wS : ∀ a ∈ Bundle.stringAtoms, a.before a0 Z = true) (hmem : (own, i) ∈ EL) (ht : (∀ c ∈ text.toList, c.toNat < 256) ∧ text.toList.map (fun c => Value.int (Jvm.Lit.byteI c.toNat.toUInt16)) = vs) (hz : ¬ z < 0) (hl : z.toNatClampNeg = vs.length) (hd : decode bytes pc = .ok (.ldc i, 2)) (hq : pc + 2 = q) (hnn : 4 * text.toList.length ≤ nn) (hbig : nn ≤ 536870912) (hk : k + 2 = k') (hn : n + (nn + 4) = n') (hkR : k' ≤ R.cells) (hnR : n' ≤ R.slots)
    (r : ∀ a b kk T' h' vm', Cx p (s.setVm vm') m meth c Z own bytes ml rt mn → St p l e R (s.setVm vm') m args below meth c n0 T' h' k' n' → Wx Z EL s vm' h' → Ext h h' → CHr Z EL vm h vm' h' → Exa Z h' a "java/lang/String" → Fld Z h' a "java/lang/String" "coder" "B" (.int 0) → Fld Z h' a "java/lang/String" "value" "[B" (.ref b) → Arv Z h' b kk .byte z vs (.int 0) → (∀ x, Safe Z EL vm' h' x → x ≠ a ∧ x ≠ b) → Goes p e below G (T'.setTop (mkF m q L (.ref a :: st)))) : Goes p e below G (T.setTop (mkF m pc L st)) := by
  obtain ⟨hx, hZ, hown, hby, hml, hret, hlk, hnm⟩ := C
  obtain ⟨locs, cells, slots, X, hF, eT, h1, h2⟩ := X
  obtain ⟨⟨k0, hS, hk0⟩, hC⟩ := Y
  subst hq hk hn
  obtain ⟨a, T', h', k1, b, kk, X', e', E', hS', hk1, hZ', hown', f1, f2, f3, f4, -, -, hC', -, hsf, st'⟩ := ldcCH X hx hZ hown w wS eT hS hk0 hEL hmem hC.1 ht hz hl (g := mkF m pc L st) rfl (hb hby hd) hnn hbig (Nat.le_trans (Nat.add_le_add_right h1 2) hkR) (Nat.le_trans (Nat.add_le_add_right h2 _) hnR)
  exact go_st st' (r a b kk T' h' T'.vm ⟨hx, hZ', hown', hby, hml, hret, hlk, hnm⟩ ⟨_, _, _, X', hF, e', Nat.add_le_add_right h1 2, Nat.add_le_add_right h2 _⟩ ⟨⟨k1, hS', hk1⟩, hC.trans hC'⟩ E' hC' f1 f2 f3 f4 hsf)
theorem gW_callS1 (C : Cx p (s.setVm vm) m meth c Z own bytes ml rt mn) (X : St p l e R (s.setVm vm) m args below meth c n0 T h k n) (Y : Wx Z EL s vm h) (hEL : EW Z a0 EL) {rm : Room} {as' : Array Value} {bts : ByteArray} {mxl : Nat} {rty : Option FieldType} {argsL : List Value} {ps : List FieldType} {rt' : Option FieldType} {k' n' W : Nat} {Q : Value → Heap → Prop} {y : MethodName} {i : Nat} (hy : y.cls ≠ "java/lang/invoke/MethodHandle" ∧ y.cls ≠ "java/lang/invoke/VarHandle") (w1 : (Cond.methodLink own i y).before a0 Z = true) (w2 : (Cond.static y).before a0 Z = true) (w8 : (Cond.code y bts mxl rty).before a0 Z = true) (w9 : (Cond.initialized y.cls).before a0 Z = true) (hM : MetW1 l Z EL y bts mxl rty rm as' h n0 Q) (hf : rm.frames + 1 ≤ R.frames) (hl : W + (mxl + 11) + rm.locals ≤ R.locals) (hk : k + rm.cells = k') (hn : n + rm.slots = n') (hkR : k' ≤ R.cells) (hnR : n' ≤ R.slots) (hsz : L.size = ml) (hdd : parseMethodDescriptor y.desc = some ⟨ps, rt'⟩) (hlen : argsL.length = ps.length) (hst : st = argsL.reverse ++ rest) (has : argsL.toArray = as') (hW : (rest.map fun v => v.category).sum = W) (hd : decode bytes pc = .ok (.invokestatic i, 3)) (hq : pc + 3 = q)
    (r : ∀ w T' h' vm', Cx p (s.setVm vm') m meth c Z own bytes ml rt mn → St p l e R (s.setVm vm') m args below meth c n0 T' h' k' n' → Wx Z EL s vm' h' → CHr Z EL vm h vm' h' → Q w h' → Goes p e below G (T'.setTop (mkF m q L (w :: rest)))) : Goes p e below G (T.setTop (mkF m pc L st)) := by
  obtain ⟨hx, hZ, hown, hby, hml, hret, hlk, hnm⟩ := C
  obtain ⟨_, cells, slots, X, hF, eT, h1, h2⟩ := X
  obtain ⟨⟨k0, hS, hk0⟩, hC⟩ := Y
  subst hq hk hn has hst hW
  have bk := backOfSH (Q := fun v h L => Fr n0 L ∧ (∃ w, v = some w ∧ Q w h)) (R := R) (p := p) (e := e) (below := below) (s := s) (args := args) (len := 3) (W := (rest.map fun v => v.category).sum) (hM []) hZ w8 w9 hf hl hEL hC.1
  obtain ⟨_, _, ⟨T', Lo, kk, nn⟩, -, X', hS', hg', ⟨Lc, hQ, q1, q2, q3, hC'⟩, st'⟩ := callSS X hx hown (mvT hZ w1) (mvT hZ w2) (mvT hZ w9) (mvT hZ w8) hy bk (g := mkF m pc L (argsL.reverse ++ rest)) rfl (hsz.trans hml.symm) (argsL := argsL) (rest := rest) (lenOf hdd hlen) rfl (by show 2 * 0 + _ ≤ _; omega) (hb hby hd) (fun _ _ => ⟨rfl, eT, Nat.le_trans (Nat.add_le_add_right h1 _) hkR, Nat.le_trans (Nat.add_le_add_right h2 _) hnR⟩)
  dsimp only [Pt.U, Pt.locs, Pt.cells, Pt.slots] at X' hS' hg' q1 q2 q3 st' hQ hC'
  subst q1 q2 q3
  obtain ⟨hFr, hQ'⟩ := hQ
  obtain ⟨w, rfl, hQ'⟩ := hQ'
  rw [eT] at hg'
  obtain ⟨X2, hS2, hZ2, hown2⟩ := rebS hS hk0 X' hS' hg' hZ hown
  exact go_tr st' (r w T' _ T'.vm ⟨hx, hZ2, hown2, hby, hml, hret, hlk, hnm⟩ ⟨_, _, _, X2, Fr.app hF hFr, rfl, Nat.add_le_add_right h1 _, Nat.add_le_add_right h2 _⟩ ⟨⟨_, hS2, Nat.le_refl _⟩, hC.trans hC'⟩ hC' hQ')
theorem gW_callS0 (C : Cx p (s.setVm vm) m meth c Z own bytes ml rt mn) (X : St p l e R (s.setVm vm) m args below meth c n0 T h k n) (Y : Wx Z EL s vm h) (hEL : EW Z a0 EL) {rm : Room} {as' : Array Value} {bts : ByteArray} {mxl : Nat} {rty : Option FieldType} {argsL : List Value} {ps : List FieldType} {rt' : Option FieldType} {k' n' W : Nat} {Q : Heap → Prop} {y : MethodName} {i : Nat} (hy : y.cls ≠ "java/lang/invoke/MethodHandle" ∧ y.cls ≠ "java/lang/invoke/VarHandle") (w1 : (Cond.methodLink own i y).before a0 Z = true) (w2 : (Cond.static y).before a0 Z = true) (w8 : (Cond.code y bts mxl rty).before a0 Z = true) (w9 : (Cond.initialized y.cls).before a0 Z = true) (hM : MetW0 l Z EL y bts mxl rty rm as' h n0 Q) (hf : rm.frames + 1 ≤ R.frames) (hl : W + (mxl + 11) + rm.locals ≤ R.locals) (hk : k + rm.cells = k') (hn : n + rm.slots = n') (hkR : k' ≤ R.cells) (hnR : n' ≤ R.slots) (hsz : L.size = ml) (hdd : parseMethodDescriptor y.desc = some ⟨ps, rt'⟩) (hlen : argsL.length = ps.length) (hst : st = argsL.reverse ++ rest) (has : argsL.toArray = as') (hW : (rest.map fun v => v.category).sum = W) (hd : decode bytes pc = .ok (.invokestatic i, 3)) (hq : pc + 3 = q)
    (r : ∀ T' h' vm', Cx p (s.setVm vm') m meth c Z own bytes ml rt mn → St p l e R (s.setVm vm') m args below meth c n0 T' h' k' n' → Wx Z EL s vm' h' → CHr Z EL vm h vm' h' → Q h' → Goes p e below G (T'.setTop (mkF m q L rest))) : Goes p e below G (T.setTop (mkF m pc L st)) := by
  obtain ⟨hx, hZ, hown, hby, hml, hret, hlk, hnm⟩ := C
  obtain ⟨_, cells, slots, X, hF, eT, h1, h2⟩ := X
  obtain ⟨⟨k0, hS, hk0⟩, hC⟩ := Y
  subst hq hk hn has hst hW
  have bk := backOfSH (Q := fun v h L => Fr n0 L ∧ (v = none ∧ Q h)) (R := R) (p := p) (e := e) (below := below) (s := s) (args := args) (len := 3) (W := (rest.map fun v => v.category).sum) (hM []) hZ w8 w9 hf hl hEL hC.1
  obtain ⟨_, _, ⟨T', Lo, kk, nn⟩, -, X', hS', hg', ⟨Lc, hQ, q1, q2, q3, hC'⟩, st'⟩ := callSS X hx hown (mvT hZ w1) (mvT hZ w2) (mvT hZ w9) (mvT hZ w8) hy bk (g := mkF m pc L (argsL.reverse ++ rest)) rfl (hsz.trans hml.symm) (argsL := argsL) (rest := rest) (lenOf hdd hlen) rfl (by show 2 * 0 + _ ≤ _; omega) (hb hby hd) (fun _ _ => ⟨rfl, eT, Nat.le_trans (Nat.add_le_add_right h1 _) hkR, Nat.le_trans (Nat.add_le_add_right h2 _) hnR⟩)
  dsimp only [Pt.U, Pt.locs, Pt.cells, Pt.slots] at X' hS' hg' q1 q2 q3 st' hQ hC'
  subst q1 q2 q3
  obtain ⟨hFr, hQ'⟩ := hQ
  obtain ⟨rfl, hQ'⟩ := hQ'
  rw [eT] at hg'
  obtain ⟨X2, hS2, hZ2, hown2⟩ := rebS hS hk0 X' hS' hg' hZ hown
  exact go_tr st' (r T' _ T'.vm ⟨hx, hZ2, hown2, hby, hml, hret, hlk, hnm⟩ ⟨_, _, _, X2, Fr.app hF hFr, rfl, Nat.add_le_add_right h1 _, Nat.add_le_add_right h2 _⟩ ⟨⟨_, hS2, Nat.le_refl _⟩, hC.trans hC'⟩ hC' hQ')
theorem gW_callI1 (C : Cx p (s.setVm vm) m meth c Z own bytes ml rt mn) (X : St p l e R (s.setVm vm) m args below meth c n0 T h k n) (Y : Wx Z EL s vm h) (hEL : EW Z a0 EL) {rm : Room} {as' : Array Value} {bts : ByteArray} {mxl : Nat} {rty : Option FieldType} {argsL : List Value} {ps : List FieldType} {rt' : Option FieldType} {k' n' W : Nat} {Q : Value → Heap → Prop} {y : MethodName} {i : Nat} {a : Addr} (hy : y.cls ≠ "java/lang/invoke/MethodHandle" ∧ y.cls ≠ "java/lang/invoke/VarHandle") (hy1 : y.name = "<init>") (hrn : rty = none) (w1 : (Cond.methodLink own i y).before a0 Z = true) (w2 : (Cond.instanceMethod y).before a0 Z = true) (w8 : (Cond.code y bts mxl rty).before a0 Z = true) (w9 : (Cond.initialized y.cls).before a0 Z = true) (hM : MetW1 l Z EL y bts mxl rty rm as' h n0 Q) (hf : rm.frames + 1 ≤ R.frames) (hl : W + (mxl + 11) + rm.locals ≤ R.locals) (hk : k + rm.cells = k') (hn : n + rm.slots = n') (hkR : k' ≤ R.cells) (hnR : n' ≤ R.slots) (hsz : L.size = ml) (hdd : parseMethodDescriptor y.desc = some ⟨ps, rt'⟩) (hlen : argsL.length = ps.length) (hst : st = argsL.reverse ++ .ref a :: rest) (has : (.ref a :: argsL).toArray = as') (hW : (rest.map fun v => v.category).sum = W) (hd : decode bytes pc = .ok (.invokespecial i, 3)) (hq : pc + 3 = q)
    (r : ∀ w T' h' vm', Cx p (s.setVm vm') m meth c Z own bytes ml rt mn → St p l e R (s.setVm vm') m args below meth c n0 T' h' k' n' → Wx Z EL s vm' h' → CHr Z EL vm h vm' h' → Q w h' → Goes p e below G (T'.setTop (mkF m q L (w :: rest)))) : Goes p e below G (T.setTop (mkF m pc L st)) := by
  obtain ⟨hx, hZ, hown, hby, hml, hret, hlk, hnm⟩ := C
  obtain ⟨_, cells, slots, X, hF, eT, h1, h2⟩ := X
  obtain ⟨⟨k0, hS, hk0⟩, hC⟩ := Y
  subst hq hk hn has hst hW
  have bk := backOfSH (Q := fun v h L => Fr n0 L ∧ (∃ w, v = some w ∧ Q w h)) (R := R) (p := p) (e := e) (below := below) (s := s) (args := args) (len := 3) (W := (rest.map fun v => v.category).sum) (hM []) hZ w8 w9 hf hl hEL hC.1
  subst hrn
  obtain ⟨_, _, ⟨T', Lo, kk, nn⟩, -, X', hS', hg', ⟨Lc, hQ, q1, q2, q3, hC'⟩, st'⟩ := X.specialBackS hx hy1 hown (mvT hZ w1) (mvT hZ w2) (mvT hZ w8) hy bk (g := mkF m pc L (argsL.reverse ++ .ref a :: rest)) rfl (hsz.trans hml.symm) (Steps.refl _) (a := a) (argsL := argsL) (rest := rest) (lenOf hdd hlen) rfl (by show 2 * 0 + _ ≤ _; omega) (hb hby hd) (fun _ _ => ⟨rfl, eT, Nat.le_trans (Nat.add_le_add_right h1 _) hkR, Nat.le_trans (Nat.add_le_add_right h2 _) hnR⟩)
  dsimp only [Pt.U, Pt.locs, Pt.cells, Pt.slots] at X' hS' hg' q1 q2 q3 st' hQ hC'
  subst q1 q2 q3
  obtain ⟨hFr, hQ'⟩ := hQ
  obtain ⟨w, rfl, hQ'⟩ := hQ'
  rw [eT] at hg'
  obtain ⟨X2, hS2, hZ2, hown2⟩ := rebS hS hk0 X' hS' hg' hZ hown
  exact go_tr st' (r w T' _ T'.vm ⟨hx, hZ2, hown2, hby, hml, hret, hlk, hnm⟩ ⟨_, _, _, X2, Fr.app hF hFr, rfl, Nat.add_le_add_right h1 _, Nat.add_le_add_right h2 _⟩ ⟨⟨_, hS2, Nat.le_refl _⟩, hC.trans hC'⟩ hC' hQ')
theorem gW_callI0 (C : Cx p (s.setVm vm) m meth c Z own bytes ml rt mn) (X : St p l e R (s.setVm vm) m args below meth c n0 T h k n) (Y : Wx Z EL s vm h) (hEL : EW Z a0 EL) {rm : Room} {as' : Array Value} {bts : ByteArray} {mxl : Nat} {rty : Option FieldType} {argsL : List Value} {ps : List FieldType} {rt' : Option FieldType} {k' n' W : Nat} {Q : Heap → Prop} {y : MethodName} {i : Nat} {a : Addr} (hy : y.cls ≠ "java/lang/invoke/MethodHandle" ∧ y.cls ≠ "java/lang/invoke/VarHandle") (hy1 : y.name = "<init>") (hrn : rty = none) (w1 : (Cond.methodLink own i y).before a0 Z = true) (w2 : (Cond.instanceMethod y).before a0 Z = true) (w8 : (Cond.code y bts mxl rty).before a0 Z = true) (w9 : (Cond.initialized y.cls).before a0 Z = true) (hM : MetW0 l Z EL y bts mxl rty rm as' h n0 Q) (hf : rm.frames + 1 ≤ R.frames) (hl : W + (mxl + 11) + rm.locals ≤ R.locals) (hk : k + rm.cells = k') (hn : n + rm.slots = n') (hkR : k' ≤ R.cells) (hnR : n' ≤ R.slots) (hsz : L.size = ml) (hdd : parseMethodDescriptor y.desc = some ⟨ps, rt'⟩) (hlen : argsL.length = ps.length) (hst : st = argsL.reverse ++ .ref a :: rest) (has : (.ref a :: argsL).toArray = as') (hW : (rest.map fun v => v.category).sum = W) (hd : decode bytes pc = .ok (.invokespecial i, 3)) (hq : pc + 3 = q)
    (r : ∀ T' h' vm', Cx p (s.setVm vm') m meth c Z own bytes ml rt mn → St p l e R (s.setVm vm') m args below meth c n0 T' h' k' n' → Wx Z EL s vm' h' → CHr Z EL vm h vm' h' → Q h' → Goes p e below G (T'.setTop (mkF m q L rest))) : Goes p e below G (T.setTop (mkF m pc L st)) := by
  obtain ⟨hx, hZ, hown, hby, hml, hret, hlk, hnm⟩ := C
  obtain ⟨_, cells, slots, X, hF, eT, h1, h2⟩ := X
  obtain ⟨⟨k0, hS, hk0⟩, hC⟩ := Y
  subst hq hk hn has hst hW
  have bk := backOfSH (Q := fun v h L => Fr n0 L ∧ (v = none ∧ Q h)) (R := R) (p := p) (e := e) (below := below) (s := s) (args := args) (len := 3) (W := (rest.map fun v => v.category).sum) (hM []) hZ w8 w9 hf hl hEL hC.1
  subst hrn
  obtain ⟨_, _, ⟨T', Lo, kk, nn⟩, -, X', hS', hg', ⟨Lc, hQ, q1, q2, q3, hC'⟩, st'⟩ := X.specialBackS hx hy1 hown (mvT hZ w1) (mvT hZ w2) (mvT hZ w8) hy bk (g := mkF m pc L (argsL.reverse ++ .ref a :: rest)) rfl (hsz.trans hml.symm) (Steps.refl _) (a := a) (argsL := argsL) (rest := rest) (lenOf hdd hlen) rfl (by show 2 * 0 + _ ≤ _; omega) (hb hby hd) (fun _ _ => ⟨rfl, eT, Nat.le_trans (Nat.add_le_add_right h1 _) hkR, Nat.le_trans (Nat.add_le_add_right h2 _) hnR⟩)
  dsimp only [Pt.U, Pt.locs, Pt.cells, Pt.slots] at X' hS' hg' q1 q2 q3 st' hQ hC'
  subst q1 q2 q3
  obtain ⟨hFr, hQ'⟩ := hQ
  obtain ⟨rfl, hQ'⟩ := hQ'
  rw [eT] at hg'
  obtain ⟨X2, hS2, hZ2, hown2⟩ := rebS hS hk0 X' hS' hg' hZ hown
  exact go_tr st' (r T' _ T'.vm ⟨hx, hZ2, hown2, hby, hml, hret, hlk, hnm⟩ ⟨_, _, _, X2, Fr.app hF hFr, rfl, Nat.add_le_add_right h1 _, Nat.add_le_add_right h2 _⟩ ⟨⟨_, hS2, Nat.le_refl _⟩, hC.trans hC'⟩ hC' hQ')
theorem gW_callV1 (C : Cx p (s.setVm vm) m meth c Z own bytes ml rt mn) (X : St p l e R (s.setVm vm) m args below meth c n0 T h k n) (Y : Wx Z EL s vm h) (hEL : EW Z a0 EL) {rm : Room} {as' : Array Value} {bts : ByteArray} {mxl : Nat} {rty : Option FieldType} {argsL : List Value} {ps : List FieldType} {rt' : Option FieldType} {k' n' W : Nat} {Q : Value → Heap → Prop} {y z : MethodName} {i : Nat} {a : Addr} {K : String} (hy : y.cls ≠ "java/lang/invoke/MethodHandle" ∧ y.cls ≠ "java/lang/invoke/VarHandle") (w1 : (Cond.methodLink own i y).before a0 Z = true) (w2 : (Cond.declares y).before a0 Z = true) (w3 : (Cond.selects K y z).before a0 Z = true) (w4 : (Cond.instanceMethod z).before a0 Z = true) (hnf : ∀ s' : State, Z.Warmed39 s'.vm → NotFace s' y) (E : Exa Z h a K) (w8 : (Cond.code z bts mxl rty).before a0 Z = true) (w9 : (Cond.initialized z.cls).before a0 Z = true) (hM : MetW1 l Z EL z bts mxl rty rm as' h n0 Q) (hf : rm.frames + 1 ≤ R.frames) (hl : W + (mxl + 11) + rm.locals ≤ R.locals) (hk : k + rm.cells = k') (hn : n + rm.slots = n') (hkR : k' ≤ R.cells) (hnR : n' ≤ R.slots) (hsz : L.size = ml) (hdd : parseMethodDescriptor y.desc = some ⟨ps, rt'⟩) (hlen : argsL.length = ps.length) (hst : st = argsL.reverse ++ .ref a :: rest) (has : (.ref a :: argsL).toArray = as') (hW : (rest.map fun v => v.category).sum = W) (hd : decode bytes pc = .ok (.invokevirtual i, 3)) (hq : pc + 3 = q)
    (r : ∀ w T' h' vm', Cx p (s.setVm vm') m meth c Z own bytes ml rt mn → St p l e R (s.setVm vm') m args below meth c n0 T' h' k' n' → Wx Z EL s vm' h' → CHr Z EL vm h vm' h' → Q w h' → Goes p e below G (T'.setTop (mkF m q L (w :: rest)))) : Goes p e below G (T.setTop (mkF m pc L st)) := by
  obtain ⟨hx, hZ, hown, hby, hml, hret, hlk, hnm⟩ := C
  obtain ⟨_, cells, slots, X, hF, eT, h1, h2⟩ := X
  obtain ⟨⟨k0, hS, hk0⟩, hC⟩ := Y
  subst hq hk hn has hst hW
  have bk := backOfSH (Q := fun v h L => Fr n0 L ∧ (∃ w, v = some w ∧ Q w h)) (R := R) (p := p) (e := e) (below := below) (s := s) (args := args) (len := 3) (W := (rest.map fun v => v.category).sum) (hM []) hZ w8 w9 hf hl hEL hC.1
  obtain ⟨cB, kB, qa, qb, qc⟩ := isOf hZ eT E
  obtain ⟨_, _, ⟨T', Lo, kk, nn⟩, -, X', hS', hg', ⟨Lc, hQ, q1, q2, q3, hC'⟩, st'⟩ := X.virtualBackS hx hown (mvT hZ w1) (mvT hZ w2) (hnf _ hZ) (mvT hZ w3) (mvT hZ w4) hy bk qa qc (g := mkF m pc L (argsL.reverse ++ .ref a :: rest)) rfl (hsz.trans hml.symm) (Steps.refl _) (argsL := argsL) (rest := rest) (lenOf hdd hlen) rfl (by show 2 * 0 + _ ≤ _; omega) (hb hby hd) (fun _ _ => ⟨rfl, eT, Nat.le_trans (Nat.add_le_add_right h1 _) hkR, Nat.le_trans (Nat.add_le_add_right h2 _) hnR⟩)
  dsimp only [Pt.U, Pt.locs, Pt.cells, Pt.slots] at X' hS' hg' q1 q2 q3 st' hQ hC'
  subst q1 q2 q3
  obtain ⟨hFr, hQ'⟩ := hQ
  obtain ⟨w, rfl, hQ'⟩ := hQ'
  rw [eT] at hg'
  obtain ⟨X2, hS2, hZ2, hown2⟩ := rebS hS hk0 X' hS' hg' hZ hown
  exact go_tr st' (r w T' _ T'.vm ⟨hx, hZ2, hown2, hby, hml, hret, hlk, hnm⟩ ⟨_, _, _, X2, Fr.app hF hFr, rfl, Nat.add_le_add_right h1 _, Nat.add_le_add_right h2 _⟩ ⟨⟨_, hS2, Nat.le_refl _⟩, hC.trans hC'⟩ hC' hQ')
theorem gW_callV0 (C : Cx p (s.setVm vm) m meth c Z own bytes ml rt mn) (X : St p l e R (s.setVm vm) m args below meth c n0 T h k n) (Y : Wx Z EL s vm h) (hEL : EW Z a0 EL) {rm : Room} {as' : Array Value} {bts : ByteArray} {mxl : Nat} {rty : Option FieldType} {argsL : List Value} {ps : List FieldType} {rt' : Option FieldType} {k' n' W : Nat} {Q : Heap → Prop} {y z : MethodName} {i : Nat} {a : Addr} {K : String} (hy : y.cls ≠ "java/lang/invoke/MethodHandle" ∧ y.cls ≠ "java/lang/invoke/VarHandle") (w1 : (Cond.methodLink own i y).before a0 Z = true) (w2 : (Cond.declares y).before a0 Z = true) (w3 : (Cond.selects K y z).before a0 Z = true) (w4 : (Cond.instanceMethod z).before a0 Z = true) (hnf : ∀ s' : State, Z.Warmed39 s'.vm → NotFace s' y) (E : Exa Z h a K) (w8 : (Cond.code z bts mxl rty).before a0 Z = true) (w9 : (Cond.initialized z.cls).before a0 Z = true) (hM : MetW0 l Z EL z bts mxl rty rm as' h n0 Q) (hf : rm.frames + 1 ≤ R.frames) (hl : W + (mxl + 11) + rm.locals ≤ R.locals) (hk : k + rm.cells = k') (hn : n + rm.slots = n') (hkR : k' ≤ R.cells) (hnR : n' ≤ R.slots) (hsz : L.size = ml) (hdd : parseMethodDescriptor y.desc = some ⟨ps, rt'⟩) (hlen : argsL.length = ps.length) (hst : st = argsL.reverse ++ .ref a :: rest) (has : (.ref a :: argsL).toArray = as') (hW : (rest.map fun v => v.category).sum = W) (hd : decode bytes pc = .ok (.invokevirtual i, 3)) (hq : pc + 3 = q)
    (r : ∀ T' h' vm', Cx p (s.setVm vm') m meth c Z own bytes ml rt mn → St p l e R (s.setVm vm') m args below meth c n0 T' h' k' n' → Wx Z EL s vm' h' → CHr Z EL vm h vm' h' → Q h' → Goes p e below G (T'.setTop (mkF m q L rest))) : Goes p e below G (T.setTop (mkF m pc L st)) := by
  obtain ⟨hx, hZ, hown, hby, hml, hret, hlk, hnm⟩ := C
  obtain ⟨_, cells, slots, X, hF, eT, h1, h2⟩ := X
  obtain ⟨⟨k0, hS, hk0⟩, hC⟩ := Y
  subst hq hk hn has hst hW
  have bk := backOfSH (Q := fun v h L => Fr n0 L ∧ (v = none ∧ Q h)) (R := R) (p := p) (e := e) (below := below) (s := s) (args := args) (len := 3) (W := (rest.map fun v => v.category).sum) (hM []) hZ w8 w9 hf hl hEL hC.1
  obtain ⟨cB, kB, qa, qb, qc⟩ := isOf hZ eT E
  obtain ⟨_, _, ⟨T', Lo, kk, nn⟩, -, X', hS', hg', ⟨Lc, hQ, q1, q2, q3, hC'⟩, st'⟩ := X.virtualBackS hx hown (mvT hZ w1) (mvT hZ w2) (hnf _ hZ) (mvT hZ w3) (mvT hZ w4) hy bk qa qc (g := mkF m pc L (argsL.reverse ++ .ref a :: rest)) rfl (hsz.trans hml.symm) (Steps.refl _) (argsL := argsL) (rest := rest) (lenOf hdd hlen) rfl (by show 2 * 0 + _ ≤ _; omega) (hb hby hd) (fun _ _ => ⟨rfl, eT, Nat.le_trans (Nat.add_le_add_right h1 _) hkR, Nat.le_trans (Nat.add_le_add_right h2 _) hnR⟩)
  dsimp only [Pt.U, Pt.locs, Pt.cells, Pt.slots] at X' hS' hg' q1 q2 q3 st' hQ hC'
  subst q1 q2 q3
  obtain ⟨hFr, hQ'⟩ := hQ
  obtain ⟨rfl, hQ'⟩ := hQ'
  rw [eT] at hg'
  obtain ⟨X2, hS2, hZ2, hown2⟩ := rebS hS hk0 X' hS' hg' hZ hown
  exact go_tr st' (r T' _ T'.vm ⟨hx, hZ2, hown2, hby, hml, hret, hlk, hnm⟩ ⟨_, _, _, X2, Fr.app hF hFr, rfl, Nat.add_le_add_right h1 _, Nat.add_le_add_right h2 _⟩ ⟨⟨_, hS2, Nat.le_refl _⟩, hC.trans hC'⟩ hC' hQ')
theorem gW_callP1 (C : Cx p (s.setVm vm) m meth c Z own bytes ml rt mn) (X : St p l e R (s.setVm vm) m args below meth c n0 T h k n) (Y : Wx Z EL s vm h) (hEL : EW Z a0 EL) {rm : Room} {as' : Array Value} {bts : ByteArray} {mxl : Nat} {rty : Option FieldType} {argsL : List Value} {ps : List FieldType} {rt' : Option FieldType} {k' n' W : Nat} {Q : Value → Heap → Prop} {y : MethodName} {i : Nat} {a : Addr} {K : String} (hy : y.cls ≠ "java/lang/invoke/MethodHandle" ∧ y.cls ≠ "java/lang/invoke/VarHandle") (w1 : (Cond.methodLink own i y).before a0 Z = true) (w3 : (Cond.selects y.cls y y).before a0 Z = true) (w4 : (Cond.instanceMethod y).before a0 Z = true) (w5 : (Cond.privateMethod y).before a0 Z = true) (E : Exa Z h a K) (w8 : (Cond.code y bts mxl rty).before a0 Z = true) (w9 : (Cond.initialized y.cls).before a0 Z = true) (hM : MetW1 l Z EL y bts mxl rty rm as' h n0 Q) (hf : rm.frames + 1 ≤ R.frames) (hl : W + (mxl + 11) + rm.locals ≤ R.locals) (hk : k + rm.cells = k') (hn : n + rm.slots = n') (hkR : k' ≤ R.cells) (hnR : n' ≤ R.slots) (hsz : L.size = ml) (hdd : parseMethodDescriptor y.desc = some ⟨ps, rt'⟩) (hlen : argsL.length = ps.length) (hst : st = argsL.reverse ++ .ref a :: rest) (has : (.ref a :: argsL).toArray = as') (hW : (rest.map fun v => v.category).sum = W) (hd : decode bytes pc = .ok (.invokevirtual i, 3)) (hq : pc + 3 = q)
    (r : ∀ w T' h' vm', Cx p (s.setVm vm') m meth c Z own bytes ml rt mn → St p l e R (s.setVm vm') m args below meth c n0 T' h' k' n' → Wx Z EL s vm' h' → CHr Z EL vm h vm' h' → Q w h' → Goes p e below G (T'.setTop (mkF m q L (w :: rest)))) : Goes p e below G (T.setTop (mkF m pc L st)) := by
  obtain ⟨hx, hZ, hown, hby, hml, hret, hlk, hnm⟩ := C
  obtain ⟨_, cells, slots, X, hF, eT, h1, h2⟩ := X
  obtain ⟨⟨k0, hS, hk0⟩, hC⟩ := Y
  subst hq hk hn has hst hW
  have bk := backOfSH (Q := fun v h L => Fr n0 L ∧ (∃ w, v = some w ∧ Q w h)) (R := R) (p := p) (e := e) (below := below) (s := s) (args := args) (len := 3) (W := (rest.map fun v => v.category).sum) (hM []) hZ w8 w9 hf hl hEL hC.1
  obtain ⟨cq, qa, qb⟩ := E.cell
  obtain ⟨_, _, ⟨T', Lo, kk, nn⟩, -, X', hS', hg', ⟨Lc, hQ, q1, q2, q3, hC'⟩, st'⟩ := X.privateBackS hx hown (mvT hZ w1) (mvT hZ w4) (mvT hZ w3) (Cond.privateMethod_at (mvP hZ w5 (args := #[]))) (mvT hZ w8) hy bk (g := mkF m pc L (argsL.reverse ++ .ref a :: rest)) rfl (hsz.trans hml.symm) (Steps.refl _) (a := a) (by rw [eT]; exact qa) qb (argsL := argsL) (rest := rest) (lenOf hdd hlen) rfl (by show 2 * 0 + _ ≤ _; omega) (hb hby hd) (fun _ _ => ⟨rfl, eT, Nat.le_trans (Nat.add_le_add_right h1 _) hkR, Nat.le_trans (Nat.add_le_add_right h2 _) hnR⟩)
  dsimp only [Pt.U, Pt.locs, Pt.cells, Pt.slots] at X' hS' hg' q1 q2 q3 st' hQ hC'
  subst q1 q2 q3
  obtain ⟨hFr, hQ'⟩ := hQ
  obtain ⟨w, rfl, hQ'⟩ := hQ'
  rw [eT] at hg'
  obtain ⟨X2, hS2, hZ2, hown2⟩ := rebS hS hk0 X' hS' hg' hZ hown
  exact go_tr st' (r w T' _ T'.vm ⟨hx, hZ2, hown2, hby, hml, hret, hlk, hnm⟩ ⟨_, _, _, X2, Fr.app hF hFr, rfl, Nat.add_le_add_right h1 _, Nat.add_le_add_right h2 _⟩ ⟨⟨_, hS2, Nat.le_refl _⟩, hC.trans hC'⟩ hC' hQ')
theorem gW_callP0 (C : Cx p (s.setVm vm) m meth c Z own bytes ml rt mn) (X : St p l e R (s.setVm vm) m args below meth c n0 T h k n) (Y : Wx Z EL s vm h) (hEL : EW Z a0 EL) {rm : Room} {as' : Array Value} {bts : ByteArray} {mxl : Nat} {rty : Option FieldType} {argsL : List Value} {ps : List FieldType} {rt' : Option FieldType} {k' n' W : Nat} {Q : Heap → Prop} {y : MethodName} {i : Nat} {a : Addr} {K : String} (hy : y.cls ≠ "java/lang/invoke/MethodHandle" ∧ y.cls ≠ "java/lang/invoke/VarHandle") (w1 : (Cond.methodLink own i y).before a0 Z = true) (w3 : (Cond.selects y.cls y y).before a0 Z = true) (w4 : (Cond.instanceMethod y).before a0 Z = true) (w5 : (Cond.privateMethod y).before a0 Z = true) (E : Exa Z h a K) (w8 : (Cond.code y bts mxl rty).before a0 Z = true) (w9 : (Cond.initialized y.cls).before a0 Z = true) (hM : MetW0 l Z EL y bts mxl rty rm as' h n0 Q) (hf : rm.frames + 1 ≤ R.frames) (hl : W + (mxl + 11) + rm.locals ≤ R.locals) (hk : k + rm.cells = k') (hn : n + rm.slots = n') (hkR : k' ≤ R.cells) (hnR : n' ≤ R.slots) (hsz : L.size = ml) (hdd : parseMethodDescriptor y.desc = some ⟨ps, rt'⟩) (hlen : argsL.length = ps.length) (hst : st = argsL.reverse ++ .ref a :: rest) (has : (.ref a :: argsL).toArray = as') (hW : (rest.map fun v => v.category).sum = W) (hd : decode bytes pc = .ok (.invokevirtual i, 3)) (hq : pc + 3 = q)
    (r : ∀ T' h' vm', Cx p (s.setVm vm') m meth c Z own bytes ml rt mn → St p l e R (s.setVm vm') m args below meth c n0 T' h' k' n' → Wx Z EL s vm' h' → CHr Z EL vm h vm' h' → Q h' → Goes p e below G (T'.setTop (mkF m q L rest))) : Goes p e below G (T.setTop (mkF m pc L st)) := by
  obtain ⟨hx, hZ, hown, hby, hml, hret, hlk, hnm⟩ := C
  obtain ⟨_, cells, slots, X, hF, eT, h1, h2⟩ := X
  obtain ⟨⟨k0, hS, hk0⟩, hC⟩ := Y
  subst hq hk hn has hst hW
  have bk := backOfSH (Q := fun v h L => Fr n0 L ∧ (v = none ∧ Q h)) (R := R) (p := p) (e := e) (below := below) (s := s) (args := args) (len := 3) (W := (rest.map fun v => v.category).sum) (hM []) hZ w8 w9 hf hl hEL hC.1
  obtain ⟨cq, qa, qb⟩ := E.cell
  obtain ⟨_, _, ⟨T', Lo, kk, nn⟩, -, X', hS', hg', ⟨Lc, hQ, q1, q2, q3, hC'⟩, st'⟩ := X.privateBackS hx hown (mvT hZ w1) (mvT hZ w4) (mvT hZ w3) (Cond.privateMethod_at (mvP hZ w5 (args := #[]))) (mvT hZ w8) hy bk (g := mkF m pc L (argsL.reverse ++ .ref a :: rest)) rfl (hsz.trans hml.symm) (Steps.refl _) (a := a) (by rw [eT]; exact qa) qb (argsL := argsL) (rest := rest) (lenOf hdd hlen) rfl (by show 2 * 0 + _ ≤ _; omega) (hb hby hd) (fun _ _ => ⟨rfl, eT, Nat.le_trans (Nat.add_le_add_right h1 _) hkR, Nat.le_trans (Nat.add_le_add_right h2 _) hnR⟩)
  dsimp only [Pt.U, Pt.locs, Pt.cells, Pt.slots] at X' hS' hg' q1 q2 q3 st' hQ hC'
  subst q1 q2 q3
  obtain ⟨hFr, hQ'⟩ := hQ
  obtain ⟨rfl, hQ'⟩ := hQ'
  rw [eT] at hg'
  obtain ⟨X2, hS2, hZ2, hown2⟩ := rebS hS hk0 X' hS' hg' hZ hown
  exact go_tr st' (r T' _ T'.vm ⟨hx, hZ2, hown2, hby, hml, hret, hlk, hnm⟩ ⟨_, _, _, X2, Fr.app hF hFr, rfl, Nat.add_le_add_right h1 _, Nat.add_le_add_right h2 _⟩ ⟨⟨_, hS2, Nat.le_refl _⟩, hC.trans hC'⟩ hC' hQ')
end OwnWide
section OwnWith
variable {p : Program} {l : Launch} {e : Env} {R : Room} {s : State} {m : MethodId} {args : Array Value} {below : List Frame} {meth : Method} {c : Code} {T : State} {Z : State} {own mn : String} {bytes : ByteArray} {ml n0 k n : Nat} {rt : Option FieldType} {h h' : Heap} {G : Outcome → State → Prop} {pc q : Nat} {L : Array Slot} {st rest : List Value} {a0 : Array Value} {EL : List (String × Nat)} {vm : Vm} {y : MethodName} {hs : List (Nat × Nat × Nat × Nat)} {rm : Room}
/-- a wide contract of a constructor with an exception table -/
def MetH (l : Launch) (Z : State) (EL : List (String × Nat)) (y : MethodName) (bytes : ByteArray) (ml : Nat) (hs : List (Nat × Nat × Nat × Nat)) (rm : Room) (as' : Array Value) (h0 : Heap) (n0 : Nat) (Q : Heap → Prop) : Prop :=
  MetFree l y (head1 [Jvm.Cond.codeWith y bytes ml none hs] rm) (fun a U => a = as' ∧ Z.Warmed39 U.vm ∧ U.heap = h0 ∧ CHv Z EL U.vm h0) (fun _ _ _ _ _ => True) (fun _ U o U' => ∃ v L, o = .returned v ∧ (Fr n0 L ∧ (v = none ∧ Q U'.heap)) ∧ CHr Z EL U.vm U.heap U'.vm U'.heap ∧ ReturnedEndW U o U' L rm.cells rm.slots)
theorem metH_of {as' : Array Value} {Q : Heap → Prop} (hp : plainFor y = true) (hef : ∀ m, entryFrame m as' ml = mkF m 0 L [])
    (body : ∀ (p : Program) (e : Env) (s : State) (m : MethodId) (below : List Frame) (meth : Method) (c : Code) (T : State) (vm : Vm), Cx p (s.setVm vm) m meth c Z y.cls bytes ml none y.name → St p l e rm (s.setVm vm) m as' below meth c n0 T h 0 0 → Wx Z EL s vm h → Goes p e below (FinW Z EL (fun v h => v = none ∧ Q h) s n0 rm.cells rm.slots) (T.setTop (mkF m 0 L []))) :
    MetH l Z EL y bytes ml hs rm as' h n0 Q := by
  refine MetFree.of_bodySF hp hisWith ?_
  intro p e s m args below meth c s₁ Bd hml hP hK
  obtain ⟨rfl, hZ, hh, hCH⟩ := hP
  have e0 : s₁.heap = h := by rw [← hh, Bd.state]; rfl
  have b := body p e s m below meth c s₁ s.vm ⟨Bd.exec, hZ, findClass_of_methodNamed Bd.named, Bd.bytes, hml, Bd.returns, BodyLoose.notSynchronized Bd, (name_of_methodNamed Bd.named Bd.method).1⟩ ⟨[], 0, 0, Stand.of_body Bd, Fr.nil _, e0, Nat.le_refl _, Nat.le_refl _⟩
    ⟨⟨0, (State.WarmedH.refl s).since 0, Nat.zero_le _⟩, by rw [hh]; exact CHr.refl hCH⟩
  rw [hef m]
  exact b
/-- the call of such a constructor pays in a wide walk: the library's wide payers ask a method without a table -/
theorem own_paysH {as' : Array Value} {Q : Heap → Prop} {W : Nat} (hM : MetH l Z EL y bytes ml hs rm as' h n0 Q) (hZ : Z.Warmed39 vm) (wc : (Cond.codeWith y bytes ml none hs).before a0 Z = true) (wz : (Cond.initialized y.cls).before a0 Z = true) (hf : rm.frames + 1 ≤ R.frames) (hl : W + (ml + 11) + rm.locals ≤ R.locals) (hEL : EW Z a0 EL) (H : CHv Z EL vm h) :
    BackS l R p e below (s.setVm vm) args y 3 W (fun A a => a = as' ∧ A.U.heap = h ∧ A.cells + rm.cells ≤ R.cells ∧ A.slots + rm.slots ≤ R.slots)
      (fun A _ v B => ∃ L, (Fr n0 L ∧ (v = none ∧ Q B.U.heap)) ∧ B.locs = A.locs ++ L ∧ B.cells = A.cells + rm.cells ∧ B.slots = A.slots + rm.slots ∧ CHr Z EL vm h B.U.vm B.U.heap) := by
  rintro m meth c ⟨U, Ls, kc, ks⟩ g ig mk a X rfl hsize hdg hW hn ⟨rfl, hh, hc, hsl⟩
  dsimp only [Pt.U, Pt.locs, Pt.cells, Pt.slots] at X hn hh hc hsl ⊢
  have hU : Z.Warmed39 U.vm := wtrans (s := s.setVm vm) hZ X.warmed
  have wU : ∀ a' : Array Value, (Cond.codeWith y bytes ml none hs).before a' U = true := fun a' => mv hU wc rfl
  obtain ⟨mk', my, cy, y1, y2, y3, -, y5, -⟩ := Cond.codeWith_spec (wU a)
  cases hn.symm.trans y1
  obtain ⟨ky, z1, -⟩ := className_of_methodNamed hn
  have z2 : ky.init = .initialized := Cond.initialized_spec (args := a) (first := U) (o := none) (idx := []) (findClass_of_methodNamed hn) z1 (mv hU wz rfl)
  have here := X.here
  have ap : (head1 [Jvm.Cond.codeWith y bytes ml none hs] rm).appliesLoose y e.platform (U.calling g mk a) = true :=
    Spec.appliesLoose_calling (g := g) here hdg hn z1 z2 (X.room_calling (g := g) (R' := rm) hsize y2 y3 hf (by rw [y5]; omega) hc hsl) (by show (Cond.and _ .tt).before a U = true; rw [Cond.before_and, wU]; rfl)
  obtain ⟨mid, hmid⟩ := here.above
  have fr : (U.setTop g).frames = (.java g :: mid) ++ below := by rw [State.frames_setTop' g here.top, hmid]; rfl
  have H1 := CHv.at X hZ hEL H
  obtain ⟨o, t, run, -, fin, v, Lc, rfl, ⟨hFr, rfl, hQ⟩, hC, hE⟩ := Steps.callFree hM p X.admits X.cas X.clock (acts := []) fr ap ⟨rfl, hU, hh, by rw [← hh] at H1 ⊢; exact H1.1⟩ trivial
  obtain ⟨-, w39, bk, sm⟩ := id hE
  rw [State.frames_setTop' g here.top] at fin
  obtain ⟨c₂, i₂, len₂, f1, f2, f3⟩ := fin
  have al : U.Warmed39 t.vm := w39
  obtain rfl : c₂ = c := Option.some.inj (f1.symm.trans ((show t.code? g.method = U.code? g.method by rw [State.code?_eq, State.code?_eq, al.alike.method?]).trans here.code))
  obtain rfl : len₂ = 3 := by rw [hdg] at f2; cases f2; rfl
  obtain ⟨g₀, u1⟩ := Option.isSome_iff_exists.mp here.top
  obtain ⟨tl, u2⟩ := State.topJava?_eq_some.mp u1
  have et : t = (({ U with heap := t.heap, slotsUsed := t.slotsUsed } : State).setVm t.vm).setTop { g with pc := g.pc + 3, stack := g.stack } := by
    have u3 : (({ U with heap := t.heap, slotsUsed := t.slotsUsed } : State).setVm t.vm).frames = .java g₀ :: tl := u2
    have e1 : t = ({ t with vm := (U.calling g mk a).vm } : State).setVm t.vm := rfl
    rw [show ({ t with vm := (U.calling g mk a).vm } : State) = { (U.calling g mk a).setFrames t.frames with heap := t.heap, slotsUsed := t.slotsUsed } from sm.1] at e1
    refine e1.trans ?_
    rw [f3, State.calling_eq here.top, State.setFrames_setFrames, State.setTop_of_frames _ u3, u2]
    rfl
  have same : U.sameButNew ({ U with heap := t.heap, slotsUsed := t.slotsUsed } : State) Lc rm.cells rm.slots := by
    refine ⟨?_, sm.2⟩
    obtain ⟨th, u4, -⟩ := State.frames_cons u2
    show ({ U with heap := t.heap, slotsUsed := t.slotsUsed } : State) = { U.setFrames U.frames with heap := t.heap, slotsUsed := t.slotsUsed }
    rw [State.setFrames_self u4]
  obtain ⟨X', S'⟩ := X.movedW (T₂ := (({ U with heap := t.heap, slotsUsed := t.slotsUsed } : State).setVm t.vm)) ((X.here.setHeapUsed t.heap t.slotsUsed).setVm al.alike) X.tail rfl rfl al bk same
  refine ⟨none, ⟨(({ U with heap := t.heap, slotsUsed := t.slotsUsed } : State).setVm t.vm), Ls ++ Lc, kc + rm.cells, ks + rm.slots⟩, X', S', same.2.1, ⟨Lc, ⟨hFr, rfl, hQ⟩, rfl, rfl, rfl, H1.trans ?_⟩, ?_⟩
  · rw [← hh]; exact hC
  · show Steps p.tables e below _ ((({ U with heap := t.heap, slotsUsed := t.slotsUsed } : State).setVm t.vm).setTop { g with pc := g.pc + 3, stack := g.stack })
    rw [← et]; exact run
theorem gW_callIH (C : Cx p (s.setVm vm) m meth c Z own bytes ml rt mn) (X : St p l e R (s.setVm vm) m args below meth c n0 T h k n) (Y : Wx Z EL s vm h) (hEL : EW Z a0 EL) {as' : Array Value} {bts : ByteArray} {mxl : Nat} {argsL : List Value} {ps : List FieldType} {rt' : Option FieldType} {k' n' W : Nat} {Q : Heap → Prop} {i : Nat} {a : Addr} (hy : y.cls ≠ "java/lang/invoke/MethodHandle" ∧ y.cls ≠ "java/lang/invoke/VarHandle") (hy1 : y.name = "<init>") (w1 : (Cond.methodLink own i y).before a0 Z = true) (w2 : (Cond.instanceMethod y).before a0 Z = true) (w8 : (Cond.codeWith y bts mxl none hs).before a0 Z = true) (w9 : (Cond.initialized y.cls).before a0 Z = true) (hM : MetH l Z EL y bts mxl hs rm as' h n0 Q) (hf : rm.frames + 1 ≤ R.frames) (hl : W + (mxl + 11) + rm.locals ≤ R.locals) (hk : k + rm.cells = k') (hn : n + rm.slots = n') (hkR : k' ≤ R.cells) (hnR : n' ≤ R.slots) (hsz : L.size = ml) (hdd : parseMethodDescriptor y.desc = some ⟨ps, rt'⟩) (hlen : argsL.length = ps.length) (hst : st = argsL.reverse ++ .ref a :: rest) (has : (.ref a :: argsL).toArray = as') (hW : (rest.map fun v => v.category).sum = W) (hd : decode bytes pc = .ok (.invokespecial i, 3)) (hq : pc + 3 = q)
    (r : ∀ T' h' vm', Cx p (s.setVm vm') m meth c Z own bytes ml rt mn → St p l e R (s.setVm vm') m args below meth c n0 T' h' k' n' → Wx Z EL s vm' h' → CHr Z EL vm h vm' h' → Q h' → Goes p e below G (T'.setTop (mkF m q L rest))) : Goes p e below G (T.setTop (mkF m pc L st)) := by
  obtain ⟨hx, hZ, hown, hby, hml, hret, hlk, hnm⟩ := C
  obtain ⟨locs, cells, slots, X, hF, eT, h1, h2⟩ := X
  obtain ⟨⟨k0, hS, hk0⟩, hC⟩ := Y
  subst hq hk hn has hst hW
  have hpl : e.platform.magicAccessors = ({} : Platform).magicAccessors := by rw [X.admits.platform]
  have bk := own_paysH (R := R) (p := p) (e := e) (below := below) (s := s) (args := args) (W := (rest.map fun v => v.category).sum) hM hZ w8 w9 hf hl hEL hC.1
  obtain ⟨mk, my, cy, ky, vm₁, y1, y2, -, -, -, -, y7, -, hW₁, go⟩ := Steps.initColdArgsH (args := args) (e := e) X.here hx X.warmed hpl hown hy1 hy (mvT hZ w1) (mvT hZ w2) (mvT hZ w8) (f := mkF m pc L (argsL.reverse ++ .ref a :: rest)) rfl (lenOf hdd hlen) rfl (hb hby hd)
  have X₁ := X.noted hW₁
  obtain ⟨v, ⟨T', Lo, kk, nn⟩, X', hS', hg', ⟨Lc, ⟨hFr, rfl, hQ⟩, q1, q2, q3, hC'⟩, run⟩ := bk m meth c ⟨T.setVm vm₁, locs, cells, slots⟩ { mkF m pc L (argsL.reverse ++ .ref a :: rest) with stack := rest } (.invokespecial i) mk (.ref a :: argsL).toArray X₁ rfl (hsz.trans hml.symm) (hb hby hd) (by show 2 * 0 + (rest.map fun v => v.category).sum ≤ (rest.map fun v => v.category).sum; omega) (X₁.named y1) ⟨rfl, eT, Nat.le_trans (Nat.add_le_add_right h1 _) hkR, Nat.le_trans (Nat.add_le_add_right h2 _) hnR⟩
  dsimp only [Pt.U, Pt.locs, Pt.cells, Pt.slots] at X' hS' hg' q1 q2 q3 hC' hQ run
  subst q1 q2 q3
  have hg2 : h.size ≤ T'.heap.size := by rw [← eT]; exact hg'
  obtain ⟨X2, hS2, hZ2, hown2⟩ := rebS hS hk0 X' hS' hg2 hZ hown
  exact go_tr ((go _ fun acts => by rw [doInvoke_state]; exact Steps.refl _).trans run) (r T' _ T'.vm ⟨hx, hZ2, hown2, hby, hml, hret, hlk, hnm⟩ ⟨_, _, _, X2, Fr.app hF hFr, rfl, Nat.add_le_add_right h1 _, Nat.add_le_add_right h2 _⟩ ⟨⟨_, hS2, Nat.le_refl _⟩, hC.trans hC'⟩ hC' hQ)
end OwnWith
def Str (Z : State) (h : Heap) (x : Addr) (cs : List Int32) : Prop := ∃ (t : Addr) (kb : ClassId), Exa Z h x "java/lang/String" ∧ Fld Z h x "java/lang/String" "value" "[B" (.ref t) ∧ Fld Z h x "java/lang/String" "coder" "B" (.int 0) ∧ Arv Z h t kb .byte (Int32.ofNat cs.length) ((cs.map (fun c => c.toInt8.toInt32)).map Value.int) (.int 0) ∧ (∀ c ∈ cs, ¬ c < 0 ∧ ¬ (255 : Int32) < c) ∧ cs.length ≤ 4000
section OwnYar
variable {Z : State} {h h' : Heap} {o x : Addr} {ty : FieldType} {ws : List Addr} {sl : Nat} {v : Value}
def Yar (Z : State) (h : Heap) (a : Addr) (ty : FieldType) : Prop := ∃ c : Cell, Arr Z h a c ty
theorem Yar.of {cA : ClassId} {z : Int32} {vs : List Value} {dv : Value} (V : Arv Z h o cA ty z vs dv) : Yar Z h o ty := by obtain ⟨c, A, -⟩ := V; exact ⟨c, A⟩
theorem Yar.ext (Y : Yar Z h o ty) (E : Ext h h') : Yar Z h' o ty := by obtain ⟨c, A⟩ := Y; exact ⟨c, A.ext E⟩
theorem Yar.wr (Y : Yar Z h o ty) (W : Wr h h' x sl v) : Yar Z h' o ty := by
  obtain ⟨c, A⟩ := Y
  by_cases q : o = x
  · subst q; exact ⟨_, A.same W⟩
  · exact ⟨_, A.other W q⟩
theorem Yar.keep (Y : Yar Z h o ty) (K : Keep h h' ws) : Yar Z h' o ty := by
  obtain ⟨c, A1, ⟨A2, kc, A3, comp, A4⟩, A5⟩ := Y
  obtain ⟨c', q1, q2, q3, -⟩ := K.2.2 _ _ A1
  exact ⟨c', q1, ⟨fun r z => A2 r (by rw [← q3]; exact z), kc, by rw [q2]; exact A3, comp, A4⟩, by rw [q3]; exact A5⟩
theorem own_safeY {Z : State} {EL : List (String × Nat)} {vm : Vm} {h : Heap} {o : Addr} {ty : FieldType} (hal : Z.vm.Alike vm) (Y : Yar Z h o ty) (ht : ty ≠ .byte) : Safe Z EL vm h o := by obtain ⟨c, A⟩ := Y; exact Safe.arr hal A ht
end OwnYar
theorem own_safeN {Z : State} {EL : List (String × Nat)} {vm : Vm} {h : Heap} {x : Addr} (hal : Z.vm.Alike vm) (E : Exa Z h x "java/lang/String") (F : Fld Z h x "java/lang/String" "value" "[B" .null) : Safe Z EL vm h x := fun B => by
  obtain ⟨p, -, u, a, -, q, -, G, rfl | rfl⟩ := B
  · obtain ⟨cell, cf, k, i, f, h1, h2, h3, h4, h5, h6, h7⟩ := F
    cases (show h[q.sa]? = some q.sC from G.ha).symm.trans h1
    obtain ⟨cS, ⟨⟨-, -, -, ⟨c1, k1, i1, f1, -⟩, -, -, -, v1, -⟩, -⟩, -⟩ := G
    obtain ⟨k3, e3, -⟩ := State.fieldFound?_setVm (s := Z) hal h2
    have e4 := (show (Wst Z vm h).fieldFound? _ _ _ = _ from e3).symm.trans f1
    simp only [Option.some.injEq, Prod.mk.injEq] at e4
    rw [← e4.2.2.2, h7] at v1
    simp at v1
  · obtain ⟨cell, k, e1, e2, e3, -, -⟩ := E
    cases (show h[q.sd]? = some q.SA from G.hd).symm.trans e1
    obtain ⟨cS, -, -, f, -⟩ := G
    have f' : Z.vm.findClass "[B" = some q.SA.cls := by rw [← hal.findClass]; exact f
    obtain ⟨k1, q1, q2⟩ := Vm.findClass_spec f'
    obtain ⟨k2, q3, q4⟩ := Vm.findClass_spec e2
    cases q1.symm.trans q3
    exact absurd (q2.symm.trans q4) (by decide)
section OwnLine
abbrev o32 (n : Nat) : Int32 := Int32.ofNat n
def bV (cs : List Int32) : List Value := cs.map Value.int
def Gd (cs : List Int32) : Prop := ∀ x ∈ cs, 0 ≤ x.toInt ∧ x.toInt ≤ 127
def NoL (cs : List Int32) : Prop := ∀ x ∈ cs, x ≠ 10
/-- a line's length at its end: a carriage return is cut off -/
def cut (cs : List Int32) (k : Nat) : Nat := if 0 < k ∧ cs.getD (k - 1) 0 = 13 then k - 1 else k
def endS (q : List Int32 × Nat × List Int32) : List Int32 × Nat × List Int32 := (q.1, 0, if 0 < cut q.1 q.2.1 then q.1.take (cut q.1 q.2.1) else q.2.2)
def stp (q : List Int32 × Nat × List Int32) (x : Int32) : List Int32 × Nat × List Int32 := if x = 10 then endS q else if q.2.1 < q.1.length then (q.1.set q.2.1 x, q.2.1 + 1, q.2.2) else q
def kp (L : List Int32) (mx : Nat) : Nat := cut L (min mx L.length)
def res (L ls : List Int32) (mx : Nat) : List Int32 := if 0 < kp L mx then L.take (kp L mx) else ls
theorem endS_len (q : List Int32 × Nat × List Int32) : (endS q).1.length = q.1.length := rfl
theorem stp_len (q : List Int32 × Nat × List Int32) (x : Int32) : (stp q x).1.length = q.1.length := by
  unfold stp; split
  · rfl
  · split
    · simp
    · rfl
theorem cut_le (cs : List Int32) (k : Nat) : cut cs k ≤ k := by unfold cut; split <;> omega
theorem own_fold (L : List Int32) : ∀ (cs ls : List Int32) (k : Nat), NoL L → k ≤ cs.length → ∃ cs', L.foldl stp (cs, k, ls) = (cs', min (k + L.length) cs.length, ls) ∧ cs'.length = cs.length ∧ cs'.take (min (k + L.length) cs.length) = (cs.take k ++ L).take cs.length := by
  induction L with
  | nil => intro cs ls k _ hk; refine ⟨cs, ?_, rfl, ?_⟩ <;> simp [Nat.min_eq_left hk, Nat.min_eq_right hk, List.take_take]
  | cons x r ih =>
    intro cs ls k hN hk
    have hx : x ≠ 10 := hN x (List.mem_cons_self ..)
    have hr : NoL r := fun y hy => hN y (List.mem_cons_of_mem _ hy)
    by_cases hlt : k < cs.length
    · have e : stp (cs, k, ls) x = (cs.set k x, k + 1, ls) := by simp [stp, hx, hlt]
      obtain ⟨cs', h1, h2, h3⟩ := ih (cs.set k x) ls (k + 1) hr (by simp; omega)
      simp only [List.length_set] at h1 h2 h3
      refine ⟨cs', ?_, h2, ?_⟩
      · rw [List.foldl_cons, e, h1]; simp only [List.length_cons]; rw [show k + 1 + r.length = k + (r.length + 1) by omega]
      · simp only [List.length_cons]; rw [show k + (r.length + 1) = k + 1 + r.length by omega, h3]
        have : (cs.set k x).take (k + 1) = cs.take k ++ [x] := by
          rw [List.take_set, List.take_succ_eq_append_getElem hlt]
          rw [List.set_append]
          simp [Nat.min_eq_left (Nat.le_of_lt hlt)]
        rw [this]; simp
    · have hk' : k = cs.length := by omega
      have e : stp (cs, k, ls) x = (cs, k, ls) := by simp [stp, hx, hlt]
      obtain ⟨cs', h1, h2, h3⟩ := ih cs ls k hr hk
      refine ⟨cs', ?_, h2, ?_⟩
      · rw [List.foldl_cons, e, h1]; simp only [List.length_cons]; rw [show min (k + r.length) cs.length = min (k + (r.length + 1)) cs.length by omega]
      · simp only [List.length_cons]; rw [show min (k + (r.length + 1)) cs.length = min (k + r.length) cs.length by omega, h3]
        subst hk'
        simp
theorem own_cutT {cs L : List Int32} {k : Nat} (h : cs.take k = L.take k) : cut cs k = cut L k := by
  unfold cut
  by_cases hk : 0 < k
  · have e : cs.getD (k - 1) 0 = L.getD (k - 1) 0 := by
      have := congrArg (fun l => l.getD (k - 1) 0) h
      simp only [List.getD_eq_getElem?_getD, List.getElem?_take_of_lt (show k - 1 < k by omega)] at this ⊢
      exact this
    rw [e]
  · simp [hk]
theorem own_takeT {cs L : List Int32} {k j : Nat} (h : cs.take k = L.take k) (hj : j ≤ k) : cs.take j = L.take j := by
  have := congrArg (List.take j) h
  rw [List.take_take, List.take_take, Nat.min_eq_left hj] at this
  exact this
/-- a line of no newline, then its end -/
theorem own_line {L ls cs : List Int32} (hN : NoL L) : ∃ cs', endS (L.foldl stp (cs, 0, ls)) = (cs', 0, res L ls cs.length) ∧ cs'.length = cs.length := by
  obtain ⟨cs', h1, h2, h3⟩ := own_fold L cs ls 0 hN (Nat.zero_le _)
  refine ⟨cs', ?_, h2⟩
  have h4 : cs'.take (min cs.length L.length) = L.take (min cs.length L.length) := by
    have : cs'.take (min (0 + L.length) cs.length) = L.take cs.length := by simpa using h3
    rw [Nat.zero_add, Nat.min_comm] at this
    rw [this]
    rcases Nat.le_total cs.length L.length with q | q
    · rw [Nat.min_eq_left q]
    · rw [Nat.min_eq_right q, List.take_of_length_le q, List.take_of_length_le (Nat.le_refl _)]
  rw [h1, Nat.zero_add, Nat.min_comm]
  have h5 : cut cs' (min cs.length L.length) = kp L cs.length := own_cutT h4
  simp only [endS, res, h5]
  rw [own_takeT h4 (show kp L cs.length ≤ min cs.length L.length from cut_le _ _)]
theorem own_nil {cs ls : List Int32} : endS (cs, 0, ls) = (cs, 0, ls) := by simp [endS, cut]
theorem own_cr {cs ls : List Int32} : ∃ cs', endS (stp (cs, 0, ls) 13) = (cs', 0, ls) ∧ cs'.length = cs.length := by
  have h13 : (13 : Int32) ≠ 10 := by decide
  by_cases h : 0 < cs.length
  · refine ⟨cs.set 0 13, ?_, by simp⟩
    have e : stp (cs, 0, ls) 13 = (cs.set 0 13, 1, ls) := by simp [stp, h]
    rw [e]
    have c : cut (cs.set 0 13) 1 = 0 := by
      have : (cs.set 0 13).getD (1 - 1) 0 = 13 := by simp [List.getD_eq_getElem?_getD, h]
      unfold cut
      rw [if_pos ⟨by decide, this⟩]
    simp [endS, c]
  · refine ⟨cs, ?_, rfl⟩
    have e : stp (cs, 0, ls) 13 = (cs, 0, ls) := by simp [stp, h]
    rw [e, own_nil]
def Sep (S : List Int32) : Prop := S = [10] ∨ S = [10, 10] ∨ S = [10, 13, 10]
theorem own_sep {S cs ls : List Int32} {q : List Int32 × Nat × List Int32} (hS : Sep S) (hq : endS q = (cs, 0, ls)) : ∃ cs', S.foldl stp q = (cs', 0, ls) ∧ cs'.length = cs.length := by
  have e10 : ∀ q, stp q 10 = endS q := fun q => by simp [stp]
  rcases hS with rfl | rfl | rfl
  · exact ⟨cs, by simp only [List.foldl_cons, List.foldl_nil, e10, hq], rfl⟩
  · exact ⟨cs, by simp only [List.foldl_cons, List.foldl_nil, e10, hq, own_nil], rfl⟩
  · obtain ⟨cs', h1, h2⟩ := own_cr (cs := cs) (ls := ls)
    exact ⟨cs', by simp only [List.foldl_cons, List.foldl_nil, e10, hq, h1], h2⟩
theorem own_fin {F cs ls : List Int32} {q : List Int32 × Nat × List Int32} (hF : F = [] ∨ Sep F) (hq : endS q = (cs, 0, ls)) : (endS (F.foldl stp q)).2.2 = ls := by
  rcases hF with rfl | hF
  · rw [List.foldl_nil, hq]
  · obtain ⟨cs', h1, -⟩ := own_sep hF hq
    rw [h1, own_nil]
theorem own_one {L F cs : List Int32} (hN : NoL L) (hF : F = [] ∨ Sep F) : (endS ((L ++ F).foldl stp (cs, 0, []))).2.2 = res L [] cs.length := by
  obtain ⟨cs', h1, -⟩ := own_line (L := L) (ls := []) (cs := cs) hN
  rw [List.foldl_append]
  exact own_fin hF h1
theorem own_two {L S L' F cs : List Int32} (hN : NoL L) (hS : Sep S) (hN' : NoL L') (hF : F = [] ∨ Sep F) : (endS ((L ++ S ++ L' ++ F).foldl stp (cs, 0, []))).2.2 = res L' (res L [] cs.length) cs.length := by
  obtain ⟨cs', h1, h2⟩ := own_line (L := L) (ls := []) (cs := cs) hN
  obtain ⟨cs2, h3, h4⟩ := own_sep hS h1
  obtain ⟨cs3, h5, h6⟩ := own_line (L := L') (ls := res L [] cs.length) (cs := cs2) hN'
  rw [List.foldl_append, List.foldl_append, List.foldl_append, h3]
  have := own_fin hF h5
  rw [this, h4, h2]
theorem own_res0 {L : List Int32} {mx : Nat} : res L [] mx = L.take (kp L mx) := by
  unfold res; split
  · rfl
  · have : kp L mx = 0 := by omega
    rw [this]; simp
end OwnLine
section OwnLine2
variable {p : Program} {l : Launch} {e : Env} {R : Room} {s : State} {m : MethodId} {args : Array Value} {below : List Frame} {meth : Method} {c : Code} {T : State} {Z : State} {own mn : String} {bytes : ByteArray} {ml n0 k n : Nat} {rt : Option FieldType} {h : Heap} {G : Outcome → State → Prop} {pc q : Nat} {L : Array Slot} {st rest : List Value} {a0 : Array Value}
/-- the byte array a holds cs -/
def BA (Z : State) (h : Heap) (a : Addr) (k : ClassId) (cs : List Int32) : Prop := Exa Z h a "[B" ∧ Arv Z h a k .byte (o32 cs.length) (bV cs) (.int 0)
def LLf (Z : State) (h : Heap) (o A B : Addr) (ci : Int32) : Prop := Exa Z h o "com/example/isolate_to_replay/isolatetoreplay/command/LastLine" ∧ Fld Z h o "com/example/isolate_to_replay/isolatetoreplay/command/LastLine" "current" "[B" (.ref A) ∧ Fld Z h o "com/example/isolate_to_replay/isolatetoreplay/command/LastLine" "last" "[B" (.ref B) ∧ Fld Z h o "com/example/isolate_to_replay/isolatetoreplay/command/LastLine" "currentLength" "I" (.int ci)
theorem g_newPE (C : Cx p s m meth c Z own bytes ml rt mn) (X : St p l e R s m args below meth c n0 T h k n) {aty : ArrayType} {ty : FieldType} {z : Int32} {cap k' n' : Nat} {ad : String} (w : (Cond.arrayClass ty).before a0 Z = true) (hty : newarray.typeOf aty = ty) (had : "[" ++ ty.toString = ad) (hd : decode bytes pc = .ok (.newarray aty, 2)) (hq : pc + 2 = q) (hz : ¬ z < 0) (hcap : z.toNatClampNeg ≤ cap) (hcb : cap * 8 ≤ 536870912) (hk : k + 1 = k') (hn : n + cap = n') (hkR : k' ≤ R.cells) (hnR : n' ≤ R.slots)
    (r : ∀ T' h' cA a, a = h.size → St p l e R s m args below meth c n0 T' h' k' n' → Ext h h' → Arv Z h' a cA ty z [] (defaultValue ty) → Exa Z h' a ad → Goes p e below G (T'.setTop (mkF m q L (.ref a :: st)))) : Goes p e below G (T.setTop (mkF m pc L (.int z :: st))) := by
  obtain ⟨hx, hZ, hown, hby, -⟩ := C
  obtain ⟨_, _, _, X, hF, eT, h1, h2⟩ := X
  subst hq hk hn hty
  obtain ⟨T', h', cA, X', e', E', A', D', st'⟩ := newPE X hx hZ w eT (g := mkF m pc L (.int z :: st)) rfl (hb hby hd) rfl hz (cap := cap) hcap hcb (Nat.le_trans (Nat.add_le_add_right h1 1) hkR) (Nat.le_trans (Nat.add_le_add_right h2 cap) hnR) had
  exact go_st st' (r T' h' cA _ rfl ⟨_, _, _, X', hF, e', Nat.add_le_add_right h1 1, Nat.add_le_add_right h2 cap⟩ E' (Arv.new A' hz) D')
theorem g_cpB (C : Cx p s m meth c Z own bytes ml rt mn) (X : St p l e R s m args below meth c n0 T h k n) {i W : Nat} (w1 : (Cond.methodLink own i Jvm.Stand.acN).before a0 Z = true) (w2 : (Cond.native Jvm.Stand.acN).before a0 Z = true) (w3 : (Cond.static Jvm.Stand.acN).before a0 Z = true) (w4 : (Cond.initialized "java/lang/System").before a0 Z = true)
    {a b : Addr} {ka kb : ClassId} {z z' sp dp nn : Int32} {vs vd vd' : List Value} (A : Arv Z h a ka .byte z vs (.int 0)) (B : Arv Z h b kb .byte z' vd (.int 0))
    (h1 : ¬ sp < 0) (h2 : ¬ dp < 0) (h3 : ¬ nn < 0) (h4 : sp.toNatClampNeg + nn.toNatClampNeg ≤ z.toNatClampNeg) (h5 : dp.toNatClampNeg + nn.toNatClampNeg ≤ z'.toNatClampNeg) (hl : dp.toNatClampNeg + nn.toNatClampNeg ≤ vd.length)
    (hv : vd.take dp.toNatClampNeg ++ ((List.range nn.toNatClampNeg).map fun i => vs.getD (sp.toNatClampNeg + i) (.int 0)) ++ vd.drop (dp.toNatClampNeg + nn.toNatClampNeg) = vd') (ge : n0 ≤ b) (hsz : L.size = ml) (hd : decode bytes pc = .ok (.invokestatic i, 3)) (hq : pc + 3 = q) (hf : 1 ≤ R.frames) (hW : (rest.map fun v => v.category).sum = W) (hlo : W + 18 ≤ R.locals)
    (r : ∀ T' h', St p l e R s m args below meth c n0 T' h' k n → Keep h h' [b] → Arv Z h' b kb .byte z' vd' (.int 0) → Goes p e below G (T'.setTop (mkF m q L rest))) : Goes p e below G (T.setTop (mkF m pc L (.int nn :: .int dp :: .ref b :: .int sp :: .ref a :: rest))) := by
  obtain ⟨hx, hZ, hown, hby, hml, -⟩ := C
  obtain ⟨_, _, _, X, hF, eT, u1, u2⟩ := X
  subst hq hv hW
  obtain ⟨T', h', L', X', e', N', K', V', st'⟩ := cpA X hx hZ hown w1 w2 w3 w4 eT A B (Or.inl ⟨rfl, rfl⟩) h1 h2 h3 h4 h5 rfl hl hF ge (g := mkF m pc L (.int nn :: .int dp :: .ref b :: .int sp :: .ref a :: rest)) rfl (hsz.trans hml.symm) rfl (hb hby hd) hf (W := (rest.map fun v => v.category).sum) (by show 2 * 0 + _ ≤ _; omega) hlo
  exact go_st st' (r T' h' ⟨_, _, _, X', N', e', u1, u2⟩ K' V')
theorem own_let (x : Int64) : ∃ z, (x &&& 127).toInt32 = z ∧ 0 ≤ z.toInt ∧ z.toInt ≤ 127 := by
  refine ⟨_, rfl, ?_⟩
  have l : x.toBitVec.toNat &&& 127 ≤ 127 := Nat.and_le_right
  have e : (x &&& 127).toInt = ((x.toBitVec.toNat &&& 127 : Nat) : Int) := by
    show (x &&& 127).toBitVec.toInt = _
    rw [Int64.toBitVec_and, BitVec.toInt_eq_toNat_of_lt]
    · rw [BitVec.toNat_and]; rfl
    · rw [BitVec.toNat_and]; show 2 * (x.toBitVec.toNat &&& 127) < _; omega
  rw [Int64.toInt_toInt32, e, Int.bmod_eq_of_le] <;> omega
theorem own_i8 {x : Int32} (h1 : 0 ≤ x.toInt) (h2 : x.toInt ≤ 127) : x.toInt8.toInt32 = x := by
  apply Int32.toInt_inj.mp
  rw [Int8.toInt_toInt32, Int32.toInt_toInt8]
  rw [Int.bmod_eq_of_le] <;> omega
theorem r_n16 : ∀ n, n < 19 → ¬ o32 n < 0 ∧ (o32 n).toNatClampNeg = n ∧ (0 < n → 0 < o32 n ∧ o32 n - 1 = o32 (n - 1) ∧ o32 n + (-1) = o32 (n - 1)) ∧ (¬ 0 < n → ¬ 0 < o32 n) := by decide +kernel
theorem r_lt : ∀ n, n < 19 → ∀ m, m < 19 → (o32 n < o32 m → n < m) ∧ (¬ o32 n < o32 m → ¬ n < m) ∧ (o32 n = o32 m → n = m) := by decide +kernel
theorem r_sub : ∀ n, n < 19 → ∀ m, m < n + 1 → o32 n - o32 m = o32 (n - m) := by decide +kernel
theorem r_add : ∀ n, n < 19 → ∀ m, m < 19 → o32 n + o32 m = o32 (n + m) := by decide +kernel
theorem r_min16 : ∀ n, n < 19 → ∀ m, m < 19 → (if o32 m < o32 n then o32 m else o32 n) = o32 (min n m) := by decide +kernel
theorem bV_getD (cs : List Int32) (i : Nat) : (bV cs).getD i (.int 0) = .int (cs.getD i 0) := by
  simp only [bV, List.getD_eq_getElem?_getD, List.getElem?_map]; cases cs[i]? <;> rfl
theorem bV_rep (n : Nat) (i : Nat) : (bV (List.replicate n 0)).getD i (.int 0) = ([] : List Value).getD i (.int 0) := by
  rw [bV_getD]; simp only [List.getD_eq_getElem?_getD, List.getElem?_replicate]; split <;> rfl
theorem own_cpT {cs : List Int32} {k : Nat} (hk : k ≤ cs.length) (hc : cs.length < 19) : (bV (List.replicate k 0)).take (0 : Int32).toNatClampNeg ++ ((List.range (o32 k).toNatClampNeg).map fun i => (bV cs).getD ((0 : Int32).toNatClampNeg + i) (.int 0)) ++ (bV (List.replicate k 0)).drop ((0 : Int32).toNatClampNeg + (o32 k).toNatClampNeg) = bV (cs.take k) := by
  rw [(r_n16 k (by omega)).2.1]
  show (bV (List.replicate k 0)).take 0 ++ ((List.range k).map fun i => (bV cs).getD (0 + i) (.int 0)) ++ (bV (List.replicate k 0)).drop (0 + k) = bV (cs.take k)
  have e1 : (bV (List.replicate k 0)).drop (0 + k) = [] := by simp [bV]
  rw [e1, List.take_zero, List.nil_append, List.append_nil]
  apply List.ext_getElem?
  intro i
  simp only [List.getElem?_map, bV, List.getElem?_take]
  by_cases hi : i < k
  · rw [List.getElem?_range hi, if_pos hi]
    have := bV_getD cs (0 + i)
    simp only [bV] at this
    simp only [Option.map_some, this, Nat.zero_add]
    rw [List.getElem?_eq_getElem (by omega)]
    simp [List.getD_eq_getElem?_getD, List.getElem?_eq_getElem (show i < cs.length by omega)]
  · rw [if_neg hi, List.getElem?_eq_none (by simpa using hi)]; rfl
theorem own_cutA {cs : List Int32} {k : Nat} (h1 : 0 < k) (h2 : cs.getD (k - 1) 0 = 13) : cut cs k = k - 1 := if_pos ⟨h1, h2⟩
theorem own_cutB {cs : List Int32} {k : Nat} (h : ¬ 0 < k ∨ ¬ cs.getD (k - 1) 0 = 13) : cut cs k = k := if_neg fun q => h.elim (fun z => z q.1) fun z => z q.2
theorem own_geA {h0 : Heap} {A A' : Addr} (O : Old Z n0 h0) (g : n0 ≤ A) (q : A' = A ∨ h0.size ≤ A') : n0 ≤ A' := by
  rcases q with rfl | q
  · exact g
  · exact Nat.le_trans (own_szO O) q
theorem own_neA {h0 : Heap} {A A' x : Addr} (g : x ≠ A) (lt : x < h0.size) (q : A' = A ∨ h0.size ≤ A') : x ≠ A' := by
  rcases q with rfl | q
  · exact g
  · exact Nat.ne_of_lt (Nat.lt_of_lt_of_le lt q)
theorem own_dt {bl : List Int32} {i r : Nat} (h : i < bl.length) : (bl.drop i).take (r + 1) = bl.getD i 0 :: (bl.drop (i + 1)).take r := by
  rw [List.drop_eq_getElem_cons h, List.take_succ_cons]
  simp [List.getD_eq_getElem?_getD, List.getElem?_eq_getElem h]
theorem own_cnt {x : Int32} {l : List Int32} {j : Nat} (h : j + (x :: l).count 10 ≤ 4) : (x = 10 → j + 1 + l.count 10 ≤ 4) ∧ j + l.count 10 ≤ 4 := by
  rw [List.count_cons] at h
  refine ⟨fun q => ?_, ?_⟩
  · subst q; simp at h; omega
  · omega
theorem own_bset {cs : List Int32} {k : Nat} {x : Int32} (h1 : 0 ≤ x.toInt) (h2 : x.toInt ≤ 127) : (bV cs).set k (.int (nar .byte x)) = bV (cs.set k x) := by
  rw [show nar .byte x = x from own_i8 h1 h2]; simp [bV, List.map_set]
theorem own_gd {bl : List Int32} (h : Gd bl) (i : Nat) : 0 ≤ (bl.getD i 0).toInt ∧ (bl.getD i 0).toInt ≤ 127 := by
  rw [List.getD_eq_getElem?_getD]
  cases q : bl[i]? with
  | none => decide
  | some w => exact h w (List.mem_of_getElem? q)
theorem r_shr : ∀ n, n < 19 → o32 n >>> ((0 : Int32) &&& 31) = o32 n := by decide +kernel
theorem r_ff0 : ∀ n, n < 128 → o32 n &&& 255 = o32 n := by decide +kernel
theorem own_o32 {x : Int32} (h1 : 0 ≤ x.toInt) (h2 : x.toInt ≤ 127) : x = o32 x.toInt.toNat := by
  apply Int32.toInt_inj.mp
  rw [show (o32 x.toInt.toNat).toInt = (x.toInt.toNat : Int).bmod (2 ^ 32) from Int32.toInt_ofNat' .., Int.bmod_eq_of_le] <;> omega
theorem r_ff {x : Int32} (h1 : 0 ≤ x.toInt) (h2 : x.toInt ≤ 127) : x &&& 255 = x := by rw [own_o32 h1 h2]; exact r_ff0 _ (by omega)
def Sx (Z : State) (h : Heap) (x t : Addr) (kb : ClassId) (cs : List Int32) : Prop := Exa Z h x "java/lang/String" ∧ Fld Z h x "java/lang/String" "value" "[B" (.ref t) ∧ Fld Z h x "java/lang/String" "coder" "B" (.int 0) ∧ Arv Z h t kb .byte (o32 cs.length) (bV cs) (.int 0)
theorem r_ior : ∀ n, n < 19 → ¬ (o32 n ||| 0) ||| o32 n < 0 ∧ o32 n - 0 = o32 n := by decide +kernel
theorem r_seq0 : ∀ n, n < 128 → ¬ o32 n &&& 224 = 192 ∧ ¬ o32 n &&& 240 = 224 ∧ ¬ o32 n &&& 248 = 240 ∧ ¬ o32 n &&& 192 = 128 := by decide +kernel
theorem r_seq {x : Int32} (h1 : 0 ≤ x.toInt) (h2 : x.toInt ≤ 127) : ¬ x &&& 224 = 192 ∧ ¬ x &&& 240 = 224 ∧ ¬ x &&& 248 = 240 ∧ ¬ x &&& 192 = 128 := by
  have e := own_o32 h1 h2
  rw [e]; exact r_seq0 _ (by omega)
theorem own_nn {x : Int32} (h1 : 0 ≤ x.toInt) : ¬ x < 0 := by rw [Int32.lt_iff_toInt_lt]; have : (0 : Int32).toInt = 0 := rfl; omega
theorem own_sl5 {a b c d e : Value} {x5 : Slot} {v : Int32} (hx : x5 = .unset ∨ ∃ w, x5 = .val (.int w)) : storeLocals #[.val a, .val b, .val c, .val d, .val e, x5] 5 (.int v) = some #[.val a, .val b, .val c, .val d, .val e, .val (.int v)] := by
  rcases hx with rfl | ⟨w, rfl⟩ <;> rfl
theorem stp10 {cs ls : List Int32} {k : Nat} {x : Int32} (q : x = 10) : stp (cs, k, ls) x = (cs, 0, (endS (cs, k, ls)).2.2) := by subst q; rfl
theorem stpS {cs ls : List Int32} {k : Nat} {x : Int32} (q : ¬ x = 10) (h : k < cs.length) : stp (cs, k, ls) x = (cs.set k x, k + 1, ls) := by simp [stp, q, h]
theorem stpN {cs ls : List Int32} {k : Nat} {x : Int32} (q : ¬ x = 10) (h : ¬ k < cs.length) : stp (cs, k, ls) x = (cs, k, ls) := by simp [stp, q, h]
end OwnLine2
section OwnLine3
def allL (V : List Int32) : List Int32 := V ++ List.replicate (8 - V.length) 0
def bufL (off : Nat) (W : List Int32) : List Int32 := List.replicate off 90 ++ W ++ List.replicate (18 - off - W.length) 90
def good (x : Int32) : Prop := 0 ≤ x.toInt ∧ x.toInt ≤ 127
theorem own_setA {A : List Int32} {n N : Nat} {x v : Int32} (hN : A.length = N) (hn : 0 < n) : (A ++ List.replicate n v).set N x = (A ++ [x]) ++ List.replicate (n - 1) v := by
  subst hN
  obtain ⟨m, rfl⟩ : ∃ m, n = m + 1 := ⟨n - 1, by omega⟩
  rw [List.set_append]
  simp [List.replicate_succ]
theorem own_allS {V : List Int32} {x : Int32} {N : Nat} (hN : V.length = N) (h : N < 8) (g : good x) : (bV (allL V)).set N (.int (nar .byte x)) = bV (allL (V ++ [x])) := by
  rw [show nar .byte x = x from own_i8 g.1 g.2]
  show (bV (allL V)).set N (.int x) = _
  rw [show (bV (allL V)).set N (.int x) = bV ((allL V).set N x) by simp [bV, List.map_set]]
  congr 1
  unfold allL
  rw [own_setA hN (by omega)]
  simp only [List.length_append, List.length_cons, List.length_nil]
  rw [show 8 - V.length - 1 = 8 - (V.length + (0 + 1)) by omega]
theorem own_bufS {off : Nat} {W : List Int32} {x : Int32} {N : Nat} (hN : off + W.length = N) (h : N < 18) (g : good x) : (bV (bufL off W)).set N (.int (nar .byte x)) = bV (bufL off (W ++ [x])) := by
  rw [show nar .byte x = x from own_i8 g.1 g.2]
  rw [show (bV (bufL off W)).set N (.int x) = bV ((bufL off W).set N x) by simp [bV, List.map_set]]
  congr 1
  unfold bufL
  rw [own_setA (by simp; omega) (by omega)]
  simp only [List.length_append, List.length_cons, List.length_nil, List.append_assoc]
  rw [show 18 - off - W.length - 1 = 18 - off - (W.length + (0 + 1)) by omega]
theorem bufL_nil {off : Nat} (h : off ≤ 18) : bufL off [] = List.replicate 18 90 := by
  unfold bufL
  rw [List.append_nil, List.replicate_append_replicate]
  congr 1
  simp; omega
theorem bufL_len {off : Nat} {W : List Int32} (h : off + W.length ≤ 18) : (bufL off W).length = 18 := by simp [bufL]; omega
theorem allL_len {V : List Int32} (h : V.length ≤ 8) : (allL V).length = 8 := by simp [allL]; omega
theorem bufL_gd {off : Nat} {W : List Int32} (h : Gd W) : Gd (bufL off W) := fun x hx => by
  have r : ∀ n, x ∈ List.replicate n (90 : Int32) → 0 ≤ x.toInt ∧ x.toInt ≤ 127 := fun n hx => by rw [List.eq_of_mem_replicate hx]; decide
  rcases List.mem_append.mp hx with hx | hx
  · rcases List.mem_append.mp hx with hx | hx
    · exact r _ hx
    · exact h x hx
  · exact r _ hx
theorem bufL_drop {off k j : Nat} {W : List Int32} (h : k + j ≤ W.length) : ((bufL off W).drop (off + k)).take j = (W.drop k).take j := by
  unfold bufL
  rw [List.append_assoc, ← List.drop_drop, List.drop_left' (by simp), List.drop_append_of_le_length (by omega), List.take_append_of_le_length (by simp; omega)]
theorem allL_getD {V : List Int32} {i : Nat} (h : i < V.length) : (allL V).getD i 0 = V.getD i 0 := by
  simp only [allL, List.getD_eq_getElem?_getD, List.getElem?_append_left h]
theorem own_la {V : List Int32} {x : Int32} {N : Nat} (h : V.length = N) : (V ++ [x]).length = N + 1 := by simp [h]
theorem own_lb {W : List Int32} {x : Int32} {off N : Nat} (h : off + W.length = N) : off + (W ++ [x]).length = N + 1 := by simp; omega
theorem own_l8 {V : List Int32} {N : Nat} (h : V.length = N) (hN : N < 8) : N < (bV (allL V)).length := by
  have := allL_len (V := V) (by omega)
  rw [show (bV (allL V)).length = (allL V).length from List.length_map .., this]; exact hN
theorem own_l18 {W : List Int32} {off N : Nat} (h : off + W.length = N) (hN : N < 18) : N < (bV (bufL off W)).length := by
  have := bufL_len (off := off) (W := W) (by omega)
  rw [show (bV (bufL off W)).length = (bufL off W).length from List.length_map .., this]; exact hN
theorem own_gN : Gd [] := fun _ z => nomatch z
theorem own_nN : NoL [] := fun _ z => nomatch z
theorem own_gS {V : List Int32} {x : Int32} (h : Gd V) (g : good x) : Gd (V ++ [x]) := fun y hy => (List.mem_append.mp hy).elim (h y) fun z => by rw [List.mem_singleton.mp z]; exact g
theorem own_nS {V : List Int32} {x : Int32} (h : NoL V) (g : x ≠ 10) : NoL (V ++ [x]) := fun y hy => (List.mem_append.mp hy).elim (h y) fun z => by rw [List.mem_singleton.mp z]; exact g
theorem own_gA {V V' : List Int32} (h : Gd V) (h' : Gd V') : Gd (V ++ V') := fun y hy => (List.mem_append.mp hy).elim (h y) (h' y)
theorem own_nA {V V' : List Int32} (h : NoL V) (h' : NoL V') : NoL (V ++ V') := fun y hy => (List.mem_append.mp hy).elim (h y) (h' y)
theorem own_gT {V : List Int32} {k : Nat} (h : Gd V) : Gd (V.take k) := fun y hy => h y (List.mem_of_mem_take hy)
def SepQ (q : Int32) (S : List Int32) : Prop := (q = 0 ∧ S = []) ∨ (¬ q = 0 ∧ Sep S)
theorem SepQ.len {q : Int32} {S : List Int32} (h : SepQ q S) : S.length ≤ 3 := by rcases h with ⟨-, rfl⟩ | ⟨-, rfl | rfl | rfl⟩ <;> decide
theorem SepQ.gd {q : Int32} {S : List Int32} (h : SepQ q S) : Gd S := by rcases h with ⟨-, rfl⟩ | ⟨-, rfl | rfl | rfl⟩ <;> (intro x hx; revert x; decide)
theorem SepQ.cnt {q : Int32} {S : List Int32} (h : SepQ q S) : S.count 10 ≤ 2 := by rcases h with ⟨-, rfl⟩ | ⟨-, rfl | rfl | rfl⟩ <;> decide
theorem own_cn0 {L : List Int32} (h : NoL L) : L.count 10 = 0 := List.count_eq_zero.mpr fun z => h 10 z rfl
theorem own_cntW {q q' : Int32} {L S L' F : List Int32} (h1 : NoL L) (h2 : SepQ q S) (h3 : NoL L') (h4 : SepQ q' F) : (L ++ S ++ L' ++ F).count 10 ≤ 4 := by
  simp only [List.count_append, own_cn0 h1, own_cn0 h3]
  have := h2.cnt; have := h4.cnt; omega
theorem own_cntT {W : List Int32} {a b : Nat} (h : W.count 10 ≤ 4) : ((W.drop a).take b).count 10 ≤ 4 := Nat.le_trans (List.Sublist.count_le 10 ((List.take_sublist ..).trans (List.drop_sublist ..))) h
theorem own_inv (W : List Int32) : ∀ (q : List Int32 × Nat × List Int32), q.2.1 ≤ q.1.length → (W.foldl stp q).1.length = q.1.length ∧ (W.foldl stp q).2.1 ≤ q.1.length := by
  induction W with
  | nil => intro q h; exact ⟨rfl, h⟩
  | cons x r ih =>
    intro q h
    have h1 : (stp q x).2.1 ≤ (stp q x).1.length := by
      rw [stp_len]; unfold stp
      split
      · exact Nat.zero_le _
      · split
        · show q.2.1 + 1 ≤ _; omega
        · exact h
    obtain ⟨a, b⟩ := ih (stp q x) h1
    rw [stp_len] at a b
    exact ⟨a, b⟩
theorem own_rem1 {v : Int32} {n : Nat} (h1 : 0 ≤ v.toInt) (hn : n < 18) : ∃ k, k < n + 1 ∧ v % o32 (n + 1) = o32 k := by
  have e : (o32 (n + 1)).toInt = (n : Int) + 1 := by
    have : ∀ n, n < 18 → (o32 (n + 1)).toInt = (n : Int) + 1 := by decide +kernel
    exact this n hn
  have q := (c_iremV v (o32 (n + 1))).1 h1 (by omega)
  refine ⟨(v % o32 (n + 1)).toInt.toNat, by omega, ?_⟩
  exact own_o32 q.1 (by omega)
theorem own_nz {n : Nat} (hn : n < 18) : o32 (n + 1) ≠ 0 := (by decide +kernel : ∀ n, n < 18 → o32 (n + 1) ≠ 0) n hn
theorem own_nat {v : Int32} {b : Nat} (h1 : 0 ≤ v.toInt) (h2 : v.toInt ≤ b) (hb : b ≤ 127) : ∃ n, n ≤ b ∧ v = o32 n := ⟨v.toInt.toNat, by omega, own_o32 h1 (by omega)⟩
theorem kp_le (L : List Int32) (m : Nat) : kp L m ≤ L.length := Nat.le_trans (cut_le _ _) (Nat.min_le_right _ _)
theorem own_resL {L : List Int32} {m : Nat} : (L.take (kp L m)).length = kp L m := by rw [List.length_take]; have := kp_le L m; omega
theorem own_split4 {v : Int32} (h1 : 0 ≤ v.toInt) (h2 : v.toInt ≤ 3) : v = 0 ∨ v = 1 ∨ v = 2 ∨ v = 3 := by
  have : v.toInt = 0 ∨ v.toInt = 1 ∨ v.toInt = 2 ∨ v.toInt = 3 := by omega
  rcases this with h | h | h | h
  · exact Or.inl (own_i32 h)
  · exact Or.inr (Or.inl (own_i32 h))
  · exact Or.inr (Or.inr (Or.inl (own_i32 h)))
  · exact Or.inr (Or.inr (Or.inr (own_i32 h)))
end OwnLine3
section OwnClone
variable {p : Program} {l : Launch} {e : Env} {R : Room} {s : State} {m : MethodId} {args : Array Value} {below : List Frame} {meth : Method} {c : Code} {T : State} {Z : State} {own mn : String} {bytes : ByteArray} {ml n0 k n : Nat} {rt : Option FieldType} {h : Heap} {G : Outcome → State → Prop} {pc q : Nat} {L : Array Slot} {st rest : List Value} {a0 : Array Value}
theorem g_clone (C : Cx p s m meth c Z own bytes ml rt mn) (X : St p l e R s m args below meth c n0 T h k n) {ad : String} {i cap k' n' W : Nat} (w1 : (Cond.methodLink own i ⟨ad, "clone", "()Ljava/lang/Object;"⟩).before a0 Z = true) (w2 : (Cond.sameMethod ad "java/lang/Object" "clone" "()Ljava/lang/Object;").before a0 Z = true) (w3 : (Cond.native ⟨"java/lang/Object", "clone", "()Ljava/lang/Object;"⟩).before a0 Z = true)
    (w4 : (Cond.instanceMethod ⟨"java/lang/Object", "clone", "()Ljava/lang/Object;"⟩).before a0 Z = true) (w5 : (Cond.selects ad ⟨ad, "clone", "()Ljava/lang/Object;"⟩ ⟨"java/lang/Object", "clone", "()Ljava/lang/Object;"⟩).before a0 Z = true) (w6 : (Cond.castable ad "java/lang/Cloneable").before a0 Z = true)
    {a : Addr} {kA : ClassId} {ty : FieldType} {z : Int32} {vs : List Value} {dv : Value} (F : Arv Z h a kA ty z vs dv) (E : Exa Z h a ad) (hcap : z.toNatClampNeg ≤ cap) (hf : 1 ≤ R.frames) (hl : W + 14 ≤ R.locals) (hk : k + 1 = k') (hn : n + cap = n') (hkR : k' ≤ R.cells) (hnR : n' ≤ R.slots) (hsz : L.size = ml) (hW : (rest.map fun v => v.category).sum = W) (hd : decode bytes pc = .ok (.invokevirtual i, 3)) (hq : pc + 3 = q)
    (r : ∀ T' h' b, b = h.size → St p l e R s m args below meth c n0 T' h' k' n' → Ext h h' → Arv Z h' b kA ty z vs dv → Exa Z h' b ad → Goes p e below G (T'.setTop (mkF m q L (.ref b :: rest)))) : Goes p e below G (T.setTop (mkF m pc L (.ref a :: rest))) := by
  obtain ⟨hx, hZ, hown, hby, hml, -⟩ := C
  obtain ⟨_, cells, slots, X, hF, eT, h1, h2⟩ := X
  subst hq hk hn hW
  obtain ⟨T', h', X', e', E', A', D', st'⟩ := cloneH X hx hZ hown w1 w2 w3 w4 w5 w6 eT F.arh E (g := mkF m pc L (.ref a :: rest)) rfl (hsz.trans hml.symm) (rest := rest) rfl (hb hby hd) hf (W := (rest.map fun v => v.category).sum) (cap := cap) (by show 2 * 0 + _ ≤ _; omega) hl hcap (Nat.le_trans (Nat.add_le_add_right h1 1) hkR) (Nat.le_trans (Nat.add_le_add_right h2 cap) hnR)
  exact go_st st' (r T' h' _ rfl ⟨_, _, _, X', hF, e', Nat.add_le_add_right h1 1, Nat.add_le_add_right h2 cap⟩ E' A' D')
end OwnClone
def Wd (Z : State) (cz : Int32) (fm : Value) (cu : Addr) : Prop := Sta Z Z.heap "java/lang/String" "COMPACT_STRINGS" "Z" (.int cz) ∧ ¬ cz = 0 ∧ Sta Z Z.heap "jdk/internal/util/Preconditions" "SIOOBE_FORMATTER" "Ljava/util/function/BiFunction;" fm ∧ fm.isRef = true ∧ Sta Z Z.heap "java/nio/charset/StandardCharsets" "UTF_8" "Ljava/nio/charset/Charset;" (.ref cu) ∧ Sta Z Z.heap "sun/nio/cs/UTF_8" "INSTANCE" "Lsun/nio/cs/UTF_8;" (.ref cu) ∧ Exa Z Z.heap cu "sun/nio/cs/UTF_8"
theorem own_eqT {s : State} {args : Array Value} {t u : Term} {a : Addr} (ev : t.eval args s none [] s = some (.ref a)) (h : (Jvm.Cond.eq t u).value args s none s [] = some true) : u.eval args s none [] s = some (.ref a) := by
  cases he : u.eval args s none [] s with
  | none => simp [Cond.value, he] at h
  | some x =>
    simp only [Cond.value, he, ev] at h
    cases x <;> simp at h
    rw [h]
theorem d1_0 : decode method_3_code 0 = .ok (.lload_n 0, 1) := by decide +kernel
theorem d1_1 : decode method_3_code 1 = .ok (.ldc2_w 35, 3) := by decide +kernel
theorem w4 {Z : State} {a0 : Array Value} (hw : ∀ d ∈ tables_1, d.before a0 Z = true) : (Jvm.Cond.constantLong "com/example/isolate_to_replay/isolatetoreplay/command/LastLineAcceptPinLaw" (35 : Nat) (127 : Int64)).before a0 Z = true := hw _ (List.mem_of_getElem? (i := 4) rfl)
theorem d1_4 : decode method_3_code 4 = .ok (.land, 1) := by decide +kernel
theorem d1_5 : decode method_3_code 5 = .ok (.l2i, 1) := by decide +kernel
theorem d1_6 : decode method_3_code 6 = .ok (.istore_n 2, 1) := by decide +kernel
theorem d1_7 : decode method_3_code 7 = .ok (.iload_n 2, 1) := by decide +kernel
theorem d1_8 : decode method_3_code 8 = .ok (.bipush 10, 2) := by decide +kernel
theorem d1_10 : decode method_3_code 10 = .ok (.if_icmp .eq 9, 3) := by decide +kernel
theorem d1_19 : decode method_3_code 19 = .ok (.iload_n 2, 1) := by decide +kernel
theorem d1_20 : decode method_3_code 20 = .ok (.iconst 1, 1) := by decide +kernel
theorem d1_21 : decode method_3_code 21 = .ok (.iadd, 1) := by decide +kernel
theorem d1_22 : decode method_3_code 22 = .ok (.istore_n 2, 1) := by decide +kernel
theorem d1_23 : decode method_3_code 23 = .ok (.iload_n 2, 1) := by decide +kernel
theorem d1_24 : decode method_3_code 24 = .ok (.i2b, 1) := by decide +kernel
theorem d1_25 : decode method_3_code 25 = .ok (.ireturn, 1) := by decide +kernel
theorem d1_13 : decode method_3_code 13 = .ok (.iload_n 2, 1) := by decide +kernel
theorem d1_14 : decode method_3_code 14 = .ok (.bipush 13, 2) := by decide +kernel
theorem d1_16 : decode method_3_code 16 = .ok (.if_icmp .ne 7, 3) := by decide +kernel
theorem pn_18 : plainName "com/example/isolate_to_replay/isolatetoreplay/command/LastLineAcceptPinLaw" = true := by first | (simp [plainName, overriddenIn]; done) | decide +kernel
theorem d13_0 : decode jdk_29_method_69_code 0 = .ok (.iload_n 0, 1) := by decide +kernel
theorem d13_1 : decode jdk_29_method_69_code 1 = .ok (.iload_n 1, 1) := by decide +kernel
theorem d13_2 : decode jdk_29_method_69_code 2 = .ok (.if_icmp .gt 7, 3) := by decide +kernel
theorem d13_9 : decode jdk_29_method_69_code 9 = .ok (.iload_n 1, 1) := by decide +kernel
theorem d13_10 : decode jdk_29_method_69_code 10 = .ok (.ireturn, 1) := by decide +kernel
theorem d13_5 : decode jdk_29_method_69_code 5 = .ok (.iload_n 0, 1) := by decide +kernel
theorem d13_6 : decode jdk_29_method_69_code 6 = .ok (.goto 4, 3) := by decide +kernel
theorem d17_0 : decode jdk_65_method_121_code 0 = .ok (.iload_n 1, 1) := by decide +kernel
theorem d17_1 : decode jdk_65_method_121_code 1 = .ok (.aload_n 0, 1) := by decide +kernel
theorem d17_2 : decode jdk_65_method_121_code 2 = .ok (.arraylength, 1) := by decide +kernel
theorem d17_3 : decode jdk_65_method_121_code 3 = .ok (.if_icmp .ne 11, 3) := by decide +kernel
theorem d17_6 : decode jdk_65_method_121_code 6 = .ok (.aload_n 0, 1) := by decide +kernel
theorem d17_7 : decode jdk_65_method_121_code 7 = .ok (.invokevirtual 310, 3) := by decide +kernel
theorem w109 {Z : State} {a0 : Array Value} (hw : ∀ d ∈ tables_1, d.before a0 Z = true) : (Jvm.Cond.methodLink "java/util/Arrays" (310 : Nat) ({ cls := "[B", name := "clone", desc := "()Ljava/lang/Object;" } : Jvm.MethodName)).before a0 Z = true := hw _ (List.mem_of_getElem? (i := 109) rfl)
theorem w110 {Z : State} {a0 : Array Value} (hw : ∀ d ∈ tables_1, d.before a0 Z = true) : (Jvm.Cond.sameMethod "[B" "java/lang/Object" "clone" "()Ljava/lang/Object;").before a0 Z = true := hw _ (List.mem_of_getElem? (i := 110) rfl)
theorem w114 {Z : State} {a0 : Array Value} (hw : ∀ d ∈ tables_1, d.before a0 Z = true) : (Jvm.Cond.native ({ cls := "java/lang/Object", name := "clone", desc := "()Ljava/lang/Object;" } : Jvm.MethodName)).before a0 Z = true := hw _ (List.mem_of_getElem? (i := 114) rfl)
theorem w112 {Z : State} {a0 : Array Value} (hw : ∀ d ∈ tables_1, d.before a0 Z = true) : (Jvm.Cond.instanceMethod ({ cls := "java/lang/Object", name := "clone", desc := "()Ljava/lang/Object;" } : Jvm.MethodName)).before a0 Z = true := hw _ (List.mem_of_getElem? (i := 112) rfl)
theorem w113 {Z : State} {a0 : Array Value} (hw : ∀ d ∈ tables_1, d.before a0 Z = true) : (Jvm.Cond.selects "[B" ({ cls := "[B", name := "clone", desc := "()Ljava/lang/Object;" } : Jvm.MethodName) ({ cls := "java/lang/Object", name := "clone", desc := "()Ljava/lang/Object;" } : Jvm.MethodName)).before a0 Z = true := hw _ (List.mem_of_getElem? (i := 113) rfl)
theorem w115 {Z : State} {a0 : Array Value} (hw : ∀ d ∈ tables_1, d.before a0 Z = true) : (Jvm.Cond.castable "[B" "java/lang/Cloneable").before a0 Z = true := hw _ (List.mem_of_getElem? (i := 115) rfl)
theorem d17_10 : decode jdk_65_method_121_code 10 = .ok (.checkcast 311, 3) := by decide +kernel
theorem w116 {Z : State} {a0 : Array Value} (hw : ∀ d ∈ tables_1, d.before a0 Z = true) : (Jvm.Cond.classLink "java/util/Arrays" (311 : Nat) "[B").before a0 Z = true := hw _ (List.mem_of_getElem? (i := 116) rfl)
theorem d17_13 : decode jdk_65_method_121_code 13 = .ok (.areturn, 1) := by decide +kernel
theorem d17_14 : decode jdk_65_method_121_code 14 = .ok (.iload_n 1, 1) := by decide +kernel
theorem d17_15 : decode jdk_65_method_121_code 15 = .ok (.newarray .byte, 2) := by decide +kernel
theorem w5 {Z : State} {a0 : Array Value} (hw : ∀ d ∈ tables_1, d.before a0 Z = true) : (Jvm.Cond.arrayClass Jvm.ClassFile.FieldType.byte).before a0 Z = true := hw _ (List.mem_of_getElem? (i := 5) rfl)
theorem d17_17 : decode jdk_65_method_121_code 17 = .ok (.astore_n 2, 1) := by decide +kernel
theorem d17_18 : decode jdk_65_method_121_code 18 = .ok (.aload_n 0, 1) := by decide +kernel
theorem d17_19 : decode jdk_65_method_121_code 19 = .ok (.iconst 0, 1) := by decide +kernel
theorem d17_20 : decode jdk_65_method_121_code 20 = .ok (.aload_n 2, 1) := by decide +kernel
theorem d17_21 : decode jdk_65_method_121_code 21 = .ok (.iconst 0, 1) := by decide +kernel
theorem d17_22 : decode jdk_65_method_121_code 22 = .ok (.aload_n 0, 1) := by decide +kernel
theorem d17_23 : decode jdk_65_method_121_code 23 = .ok (.arraylength, 1) := by decide +kernel
theorem d17_24 : decode jdk_65_method_121_code 24 = .ok (.iload_n 1, 1) := by decide +kernel
theorem d17_25 : decode jdk_65_method_121_code 25 = .ok (.invokestatic 304, 3) := by decide +kernel
theorem w95 {Z : State} {a0 : Array Value} (hw : ∀ d ∈ tables_1, d.before a0 Z = true) : (Jvm.Cond.methodLink "java/util/Arrays" (304 : Nat) ({ cls := "java/lang/Math", name := "min", desc := "(II)I" } : Jvm.MethodName)).before a0 Z = true := hw _ (List.mem_of_getElem? (i := 95) rfl)
theorem w76 {Z : State} {a0 : Array Value} (hw : ∀ d ∈ tables_1, d.before a0 Z = true) : (Jvm.Cond.code ({ cls := "java/lang/Math", name := "min", desc := "(II)I" } : Jvm.MethodName) jdk_29_method_69_code (2 : Nat) (Option.some Jvm.ClassFile.FieldType.int)).before a0 Z = true := hw _ (List.mem_of_getElem? (i := 76) rfl)
theorem w75 {Z : State} {a0 : Array Value} (hw : ∀ d ∈ tables_1, d.before a0 Z = true) : (Jvm.Cond.initialized "java/lang/Math").before a0 Z = true := hw _ (List.mem_of_getElem? (i := 75) rfl)
theorem pd_45 : parseMethodDescriptor "(II)I" = some ⟨[.int, .int], some .int⟩ := by decide +kernel
theorem w74 {Z : State} {a0 : Array Value} (hw : ∀ d ∈ tables_1, d.before a0 Z = true) : (Jvm.Cond.static ({ cls := "java/lang/Math", name := "min", desc := "(II)I" } : Jvm.MethodName)).before a0 Z = true := hw _ (List.mem_of_getElem? (i := 74) rfl)
theorem d17_28 : decode jdk_65_method_121_code 28 = .ok (.invokestatic 150, 3) := by decide +kernel
theorem w96 {Z : State} {a0 : Array Value} (hw : ∀ d ∈ tables_1, d.before a0 Z = true) : (Jvm.Cond.methodLink "java/util/Arrays" (150 : Nat) ({ cls := "java/lang/System", name := "arraycopy", desc := "(Ljava/lang/Object;ILjava/lang/Object;II)V" } : Jvm.MethodName)).before a0 Z = true := hw _ (List.mem_of_getElem? (i := 96) rfl)
theorem w99 {Z : State} {a0 : Array Value} (hw : ∀ d ∈ tables_1, d.before a0 Z = true) : (Jvm.Cond.native ({ cls := "java/lang/System", name := "arraycopy", desc := "(Ljava/lang/Object;ILjava/lang/Object;II)V" } : Jvm.MethodName)).before a0 Z = true := hw _ (List.mem_of_getElem? (i := 99) rfl)
theorem w97 {Z : State} {a0 : Array Value} (hw : ∀ d ∈ tables_1, d.before a0 Z = true) : (Jvm.Cond.static ({ cls := "java/lang/System", name := "arraycopy", desc := "(Ljava/lang/Object;ILjava/lang/Object;II)V" } : Jvm.MethodName)).before a0 Z = true := hw _ (List.mem_of_getElem? (i := 97) rfl)
theorem w98 {Z : State} {a0 : Array Value} (hw : ∀ d ∈ tables_1, d.before a0 Z = true) : (Jvm.Cond.initialized "java/lang/System").before a0 Z = true := hw _ (List.mem_of_getElem? (i := 98) rfl)
theorem d17_31 : decode jdk_65_method_121_code 31 = .ok (.aload_n 2, 1) := by decide +kernel
theorem d17_32 : decode jdk_65_method_121_code 32 = .ok (.areturn, 1) := by decide +kernel
theorem pn_49 : plainName "java/util/Arrays" = true := by first | (simp [plainName, overriddenIn]; done) | decide +kernel
theorem own_bl {a b : Nat} (h : a < b) (hb : b < 19) : o32 a < o32 b := by
  have := (r_lt a (by omega) b hb).2.1
  by_cases q : o32 a < o32 b
  · exact q
  · exact absurd h (this q)
theorem d6_0 : decode prog_5_method_4_code 0 = .ok (.aload_n 0, 1) := by decide +kernel
theorem d6_1 : decode prog_5_method_4_code 1 = .ok (.getfield 19, 3) := by decide +kernel
theorem w34 {Z : State} {a0 : Array Value} (hw : ∀ d ∈ tables_1, d.before a0 Z = true) : (Jvm.Cond.fieldLink "com/example/isolate_to_replay/isolatetoreplay/command/LastLine" (19 : Nat) "com/example/isolate_to_replay/isolatetoreplay/command/LastLine" "currentLength" "I").before a0 Z = true := hw _ (List.mem_of_getElem? (i := 34) rfl)
theorem d6_4 : decode prog_5_method_4_code 4 = .ok (.istore_n 1, 1) := by decide +kernel
theorem d6_5 : decode prog_5_method_4_code 5 = .ok (.iload_n 1, 1) := by decide +kernel
theorem d6_6 : decode prog_5_method_4_code 6 = .ok (.ifCond .le 19, 3) := by decide +kernel
theorem d6_9 : decode prog_5_method_4_code 9 = .ok (.aload_n 0, 1) := by decide +kernel
theorem d6_10 : decode prog_5_method_4_code 10 = .ok (.getfield 13, 3) := by decide +kernel
theorem w18 {Z : State} {a0 : Array Value} (hw : ∀ d ∈ tables_1, d.before a0 Z = true) : (Jvm.Cond.fieldLink "com/example/isolate_to_replay/isolatetoreplay/command/LastLine" (13 : Nat) "com/example/isolate_to_replay/isolatetoreplay/command/LastLine" "current" "[B").before a0 Z = true := hw _ (List.mem_of_getElem? (i := 18) rfl)
theorem d6_13 : decode prog_5_method_4_code 13 = .ok (.iload_n 1, 1) := by decide +kernel
theorem d6_14 : decode prog_5_method_4_code 14 = .ok (.iconst 1, 1) := by decide +kernel
theorem d6_15 : decode prog_5_method_4_code 15 = .ok (.isub, 1) := by decide +kernel
theorem d6_16 : decode prog_5_method_4_code 16 = .ok (.baload, 1) := by decide +kernel
theorem d6_17 : decode prog_5_method_4_code 17 = .ok (.bipush 13, 2) := by decide +kernel
theorem d6_19 : decode prog_5_method_4_code 19 = .ok (.if_icmp .ne 6, 3) := by decide +kernel
theorem d6_22 : decode prog_5_method_4_code 22 = .ok (.iinc 1 (-1), 3) := by decide +kernel
theorem d6_25 : decode prog_5_method_4_code 25 = .ok (.iload_n 1, 1) := by decide +kernel
theorem d6_26 : decode prog_5_method_4_code 26 = .ok (.ifCond .le 15, 3) := by decide +kernel
theorem d6_29 : decode prog_5_method_4_code 29 = .ok (.aload_n 0, 1) := by decide +kernel
theorem d6_30 : decode prog_5_method_4_code 30 = .ok (.aload_n 0, 1) := by decide +kernel
theorem d6_31 : decode prog_5_method_4_code 31 = .ok (.getfield 13, 3) := by decide +kernel
theorem d6_34 : decode prog_5_method_4_code 34 = .ok (.iload_n 1, 1) := by decide +kernel
theorem d6_35 : decode prog_5_method_4_code 35 = .ok (.invokestatic 38, 3) := by decide +kernel
theorem w91 {Z : State} {a0 : Array Value} (hw : ∀ d ∈ tables_1, d.before a0 Z = true) : (Jvm.Cond.methodLink "com/example/isolate_to_replay/isolatetoreplay/command/LastLine" (38 : Nat) ({ cls := "java/util/Arrays", name := "copyOf", desc := "([BI)[B" } : Jvm.MethodName)).before a0 Z = true := hw _ (List.mem_of_getElem? (i := 91) rfl)
theorem w94 {Z : State} {a0 : Array Value} (hw : ∀ d ∈ tables_1, d.before a0 Z = true) : (Jvm.Cond.code ({ cls := "java/util/Arrays", name := "copyOf", desc := "([BI)[B" } : Jvm.MethodName) jdk_65_method_121_code (3 : Nat) (Option.some (Jvm.ClassFile.FieldType.array Jvm.ClassFile.FieldType.byte))).before a0 Z = true := hw _ (List.mem_of_getElem? (i := 94) rfl)
theorem w93 {Z : State} {a0 : Array Value} (hw : ∀ d ∈ tables_1, d.before a0 Z = true) : (Jvm.Cond.initialized "java/util/Arrays").before a0 Z = true := hw _ (List.mem_of_getElem? (i := 93) rfl)
theorem pd_71 : parseMethodDescriptor "([BI)[B" = some ⟨[(.array .byte), .int], some (.array .byte)⟩ := by decide +kernel
theorem w92 {Z : State} {a0 : Array Value} (hw : ∀ d ∈ tables_1, d.before a0 Z = true) : (Jvm.Cond.static ({ cls := "java/util/Arrays", name := "copyOf", desc := "([BI)[B" } : Jvm.MethodName)).before a0 Z = true := hw _ (List.mem_of_getElem? (i := 92) rfl)
theorem d6_38 : decode prog_5_method_4_code 38 = .ok (.putfield 7, 3) := by decide +kernel
theorem w16 {Z : State} {a0 : Array Value} (hw : ∀ d ∈ tables_1, d.before a0 Z = true) : (Jvm.Cond.fieldLink "com/example/isolate_to_replay/isolatetoreplay/command/LastLine" (7 : Nat) "com/example/isolate_to_replay/isolatetoreplay/command/LastLine" "last" "[B").before a0 Z = true := hw _ (List.mem_of_getElem? (i := 16) rfl)
theorem w17 {Z : State} {a0 : Array Value} (hw : ∀ d ∈ tables_1, d.before a0 Z = true) : (Jvm.Cond.lays "com/example/isolate_to_replay/isolatetoreplay/command/LastLine" "com/example/isolate_to_replay/isolatetoreplay/command/LastLine" "last" "[B").before a0 Z = true := hw _ (List.mem_of_getElem? (i := 17) rfl)
theorem w8 {Z : State} {a0 : Array Value} (hw : ∀ d ∈ tables_1, d.before a0 Z = true) : (Jvm.Cond.instantiable "com/example/isolate_to_replay/isolatetoreplay/command/LastLine" (3 : Nat)).before a0 Z = true := hw _ (List.mem_of_getElem? (i := 8) rfl)
theorem d6_41 : decode prog_5_method_4_code 41 = .ok (.aload_n 0, 1) := by decide +kernel
theorem d6_42 : decode prog_5_method_4_code 42 = .ok (.iconst 0, 1) := by decide +kernel
theorem d6_43 : decode prog_5_method_4_code 43 = .ok (.putfield 19, 3) := by decide +kernel
theorem w35 {Z : State} {a0 : Array Value} (hw : ∀ d ∈ tables_1, d.before a0 Z = true) : (Jvm.Cond.lays "com/example/isolate_to_replay/isolatetoreplay/command/LastLine" "com/example/isolate_to_replay/isolatetoreplay/command/LastLine" "currentLength" "I").before a0 Z = true := hw _ (List.mem_of_getElem? (i := 35) rfl)
theorem d6_46 : decode prog_5_method_4_code 46 = .ok (.return_, 1) := by decide +kernel
theorem w19 {Z : State} {a0 : Array Value} (hw : ∀ d ∈ tables_1, d.before a0 Z = true) : (Jvm.Cond.laysFinal "com/example/isolate_to_replay/isolatetoreplay/command/LastLine" "com/example/isolate_to_replay/isolatetoreplay/command/LastLine" "current" "[B").before a0 Z = true := hw _ (List.mem_of_getElem? (i := 19) rfl)
theorem pn_77 : plainName "com/example/isolate_to_replay/isolatetoreplay/command/LastLine" = true := by first | (simp [plainName, overriddenIn]; done) | decide +kernel
theorem d2_0 : decode prog_5_method_1_code 0 = .ok (.aload_n 0, 1) := by decide +kernel
theorem d2_1 : decode prog_5_method_1_code 1 = .ok (.invokespecial 1, 3) := by decide +kernel
theorem w13 {Z : State} {a0 : Array Value} (hw : ∀ d ∈ tables_1, d.before a0 Z = true) : (Jvm.Cond.methodLink "com/example/isolate_to_replay/isolatetoreplay/command/LastLine" (1 : Nat) ({ cls := "java/lang/Object", name := "<init>", desc := "()V" } : Jvm.MethodName)).before a0 Z = true := hw _ (List.mem_of_getElem? (i := 13) rfl)
theorem w14 {Z : State} {a0 : Array Value} (hw : ∀ d ∈ tables_1, d.before a0 Z = true) : (Jvm.Cond.instanceMethod ({ cls := "java/lang/Object", name := "<init>", desc := "()V" } : Jvm.MethodName)).before a0 Z = true := hw _ (List.mem_of_getElem? (i := 14) rfl)
theorem w15 {Z : State} {a0 : Array Value} (hw : ∀ d ∈ tables_1, d.before a0 Z = true) : (Jvm.Cond.code ({ cls := "java/lang/Object", name := "<init>", desc := "()V" } : Jvm.MethodName) object_method_1_code (1 : Nat) (Option.none : Option Jvm.ClassFile.FieldType)).before a0 Z = true := hw _ (List.mem_of_getElem? (i := 15) rfl)
theorem d2_4 : decode prog_5_method_1_code 4 = .ok (.aload_n 0, 1) := by decide +kernel
theorem d2_5 : decode prog_5_method_1_code 5 = .ok (.iconst 0, 1) := by decide +kernel
theorem d2_6 : decode prog_5_method_1_code 6 = .ok (.newarray .byte, 2) := by decide +kernel
theorem d2_8 : decode prog_5_method_1_code 8 = .ok (.putfield 7, 3) := by decide +kernel
theorem d2_11 : decode prog_5_method_1_code 11 = .ok (.aload_n 0, 1) := by decide +kernel
theorem d2_12 : decode prog_5_method_1_code 12 = .ok (.iload_n 1, 1) := by decide +kernel
theorem d2_13 : decode prog_5_method_1_code 13 = .ok (.newarray .byte, 2) := by decide +kernel
theorem d2_15 : decode prog_5_method_1_code 15 = .ok (.putfield 13, 3) := by decide +kernel
theorem d2_18 : decode prog_5_method_1_code 18 = .ok (.return_, 1) := by decide +kernel
theorem d12_0 : decode method_4_code 0 = .ok (.iload_n 3, 1) := by decide +kernel
theorem d12_1 : decode method_4_code 1 = .ok (.iload_n 2, 1) := by decide +kernel
theorem d12_2 : decode method_4_code 2 = .ok (.invokestatic 37, 3) := by decide +kernel
theorem w73 {Z : State} {a0 : Array Value} (hw : ∀ d ∈ tables_1, d.before a0 Z = true) : (Jvm.Cond.methodLink "com/example/isolate_to_replay/isolatetoreplay/command/LastLineAcceptPinLaw" (37 : Nat) ({ cls := "java/lang/Math", name := "min", desc := "(II)I" } : Jvm.MethodName)).before a0 Z = true := hw _ (List.mem_of_getElem? (i := 73) rfl)
theorem d12_5 : decode method_4_code 5 = .ok (.istore 4, 2) := by decide +kernel
theorem d12_7 : decode method_4_code 7 = .ok (.iload 4, 2) := by decide +kernel
theorem d12_9 : decode method_4_code 9 = .ok (.ifCond .le 19, 3) := by decide +kernel
theorem d12_12 : decode method_4_code 12 = .ok (.aload_n 0, 1) := by decide +kernel
theorem d12_13 : decode method_4_code 13 = .ok (.iload_n 1, 1) := by decide +kernel
theorem d12_14 : decode method_4_code 14 = .ok (.iload 4, 2) := by decide +kernel
theorem d12_16 : decode method_4_code 16 = .ok (.iadd, 1) := by decide +kernel
theorem d12_17 : decode method_4_code 17 = .ok (.iconst 1, 1) := by decide +kernel
theorem d12_18 : decode method_4_code 18 = .ok (.isub, 1) := by decide +kernel
theorem d12_19 : decode method_4_code 19 = .ok (.baload, 1) := by decide +kernel
theorem d12_20 : decode method_4_code 20 = .ok (.bipush 13, 2) := by decide +kernel
theorem d12_22 : decode method_4_code 22 = .ok (.if_icmp .ne 6, 3) := by decide +kernel
theorem d12_25 : decode method_4_code 25 = .ok (.iinc 4 (-1), 3) := by decide +kernel
theorem d12_28 : decode method_4_code 28 = .ok (.iload 4, 2) := by decide +kernel
theorem d12_30 : decode method_4_code 30 = .ok (.ireturn, 1) := by decide +kernel
theorem d4_3 : decode prog_5_method_2_code 3 = .ok (.iload 4, 2) := by decide +kernel
theorem d4_5 : decode prog_5_method_2_code 5 = .ok (.iload_n 2, 1) := by decide +kernel
theorem d4_6 : decode prog_5_method_2_code 6 = .ok (.iload_n 3, 1) := by decide +kernel
theorem d4_7 : decode prog_5_method_2_code 7 = .ok (.iadd, 1) := by decide +kernel
theorem d4_8 : decode prog_5_method_2_code 8 = .ok (.if_icmp .ge 59, 3) := by decide +kernel
theorem d4_67 : decode prog_5_method_2_code 67 = .ok (.return_, 1) := by decide +kernel
theorem d4_11 : decode prog_5_method_2_code 11 = .ok (.aload_n 1, 1) := by decide +kernel
theorem d4_12 : decode prog_5_method_2_code 12 = .ok (.iload 4, 2) := by decide +kernel
theorem d4_14 : decode prog_5_method_2_code 14 = .ok (.baload, 1) := by decide +kernel
theorem d4_15 : decode prog_5_method_2_code 15 = .ok (.istore 5, 2) := by decide +kernel
theorem d4_17 : decode prog_5_method_2_code 17 = .ok (.iload 5, 2) := by decide +kernel
theorem d4_19 : decode prog_5_method_2_code 19 = .ok (.bipush 10, 2) := by decide +kernel
theorem d4_21 : decode prog_5_method_2_code 21 = .ok (.if_icmp .ne 10, 3) := by decide +kernel
theorem d4_24 : decode prog_5_method_2_code 24 = .ok (.aload_n 0, 1) := by decide +kernel
theorem d4_25 : decode prog_5_method_2_code 25 = .ok (.invokevirtual 16, 3) := by decide +kernel
theorem w30 {Z : State} {a0 : Array Value} (hw : ∀ d ∈ tables_1, d.before a0 Z = true) : (Jvm.Cond.methodLink "com/example/isolate_to_replay/isolatetoreplay/command/LastLine" (16 : Nat) ({ cls := "com/example/isolate_to_replay/isolatetoreplay/command/LastLine", name := "endLine", desc := "()V" } : Jvm.MethodName)).before a0 Z = true := hw _ (List.mem_of_getElem? (i := 30) rfl)
theorem w33 {Z : State} {a0 : Array Value} (hw : ∀ d ∈ tables_1, d.before a0 Z = true) : (Jvm.Cond.code ({ cls := "com/example/isolate_to_replay/isolatetoreplay/command/LastLine", name := "endLine", desc := "()V" } : Jvm.MethodName) prog_5_method_4_code (2 : Nat) (Option.none : Option Jvm.ClassFile.FieldType)).before a0 Z = true := hw _ (List.mem_of_getElem? (i := 33) rfl)
theorem w9 {Z : State} {a0 : Array Value} (hw : ∀ d ∈ tables_1, d.before a0 Z = true) : (Jvm.Cond.initialized "com/example/isolate_to_replay/isolatetoreplay/command/LastLine").before a0 Z = true := hw _ (List.mem_of_getElem? (i := 9) rfl)
theorem pd_122 : parseMethodDescriptor "()V" = some ⟨[], none⟩ := by decide +kernel
theorem w31 {Z : State} {a0 : Array Value} (hw : ∀ d ∈ tables_1, d.before a0 Z = true) : (Jvm.Cond.instanceMethod ({ cls := "com/example/isolate_to_replay/isolatetoreplay/command/LastLine", name := "endLine", desc := "()V" } : Jvm.MethodName)).before a0 Z = true := hw _ (List.mem_of_getElem? (i := 31) rfl)
theorem w32 {Z : State} {a0 : Array Value} (hw : ∀ d ∈ tables_1, d.before a0 Z = true) : (Jvm.Cond.privateMethod ({ cls := "com/example/isolate_to_replay/isolatetoreplay/command/LastLine", name := "endLine", desc := "()V" } : Jvm.MethodName)).before a0 Z = true := hw _ (List.mem_of_getElem? (i := 32) rfl)
theorem d4_28 : decode prog_5_method_2_code 28 = .ok (.goto 33, 3) := by decide +kernel
theorem d4_61 : decode prog_5_method_2_code 61 = .ok (.iinc 4 1, 3) := by decide +kernel
theorem d4_64 : decode prog_5_method_2_code 64 = .ok (.goto (-61), 3) := by decide +kernel
theorem d4_31 : decode prog_5_method_2_code 31 = .ok (.aload_n 0, 1) := by decide +kernel
theorem d4_32 : decode prog_5_method_2_code 32 = .ok (.getfield 19, 3) := by decide +kernel
theorem d4_35 : decode prog_5_method_2_code 35 = .ok (.aload_n 0, 1) := by decide +kernel
theorem d4_36 : decode prog_5_method_2_code 36 = .ok (.getfield 13, 3) := by decide +kernel
theorem d4_39 : decode prog_5_method_2_code 39 = .ok (.arraylength, 1) := by decide +kernel
theorem d4_40 : decode prog_5_method_2_code 40 = .ok (.if_icmp .ge 21, 3) := by decide +kernel
theorem d4_43 : decode prog_5_method_2_code 43 = .ok (.aload_n 0, 1) := by decide +kernel
theorem d4_44 : decode prog_5_method_2_code 44 = .ok (.getfield 13, 3) := by decide +kernel
theorem d4_47 : decode prog_5_method_2_code 47 = .ok (.aload_n 0, 1) := by decide +kernel
theorem d4_48 : decode prog_5_method_2_code 48 = .ok (.dup, 1) := by decide +kernel
theorem d4_49 : decode prog_5_method_2_code 49 = .ok (.getfield 19, 3) := by decide +kernel
theorem d4_52 : decode prog_5_method_2_code 52 = .ok (.dup_x1, 1) := by decide +kernel
theorem d4_53 : decode prog_5_method_2_code 53 = .ok (.iconst 1, 1) := by decide +kernel
theorem d4_54 : decode prog_5_method_2_code 54 = .ok (.iadd, 1) := by decide +kernel
theorem d4_55 : decode prog_5_method_2_code 55 = .ok (.putfield 19, 3) := by decide +kernel
theorem d4_58 : decode prog_5_method_2_code 58 = .ok (.iload 5, 2) := by decide +kernel
theorem d4_60 : decode prog_5_method_2_code 60 = .ok (.bastore, 1) := by decide +kernel
theorem d4_0 : decode prog_5_method_2_code 0 = .ok (.iload_n 2, 1) := by decide +kernel
theorem d4_1 : decode prog_5_method_2_code 1 = .ok (.istore 4, 2) := by decide +kernel
theorem d25_0 : decode prog_5_method_5_code 0 = .ok (.iload_n 0, 1) := by decide +kernel
theorem d25_1 : decode prog_5_method_5_code 1 = .ok (.sipush 224, 3) := by decide +kernel
theorem d25_4 : decode prog_5_method_5_code 4 = .ok (.iand, 1) := by decide +kernel
theorem d25_5 : decode prog_5_method_5_code 5 = .ok (.sipush 192, 3) := by decide +kernel
theorem d25_8 : decode prog_5_method_5_code 8 = .ok (.if_icmp .ne 5, 3) := by decide +kernel
theorem d25_13 : decode prog_5_method_5_code 13 = .ok (.iload_n 0, 1) := by decide +kernel
theorem d25_14 : decode prog_5_method_5_code 14 = .ok (.sipush 240, 3) := by decide +kernel
theorem d25_17 : decode prog_5_method_5_code 17 = .ok (.iand, 1) := by decide +kernel
theorem d25_18 : decode prog_5_method_5_code 18 = .ok (.sipush 224, 3) := by decide +kernel
theorem d25_21 : decode prog_5_method_5_code 21 = .ok (.if_icmp .ne 5, 3) := by decide +kernel
theorem d25_26 : decode prog_5_method_5_code 26 = .ok (.iload_n 0, 1) := by decide +kernel
theorem d25_27 : decode prog_5_method_5_code 27 = .ok (.sipush 248, 3) := by decide +kernel
theorem d25_30 : decode prog_5_method_5_code 30 = .ok (.iand, 1) := by decide +kernel
theorem d25_31 : decode prog_5_method_5_code 31 = .ok (.sipush 240, 3) := by decide +kernel
theorem d25_34 : decode prog_5_method_5_code 34 = .ok (.if_icmp .ne 5, 3) := by decide +kernel
theorem d25_39 : decode prog_5_method_5_code 39 = .ok (.iconst 1, 1) := by decide +kernel
theorem d25_40 : decode prog_5_method_5_code 40 = .ok (.ireturn, 1) := by decide +kernel
theorem d16_0 : decode jdk_42_method_152_code 0 = .ok (.getstatic 38, 3) := by decide +kernel
theorem w90 {Z : State} {a0 : Array Value} (hw : ∀ d ∈ tables_1, d.before a0 Z = true) : (Jvm.Cond.fieldLink "java/lang/String" (38 : Nat) "java/lang/String" "COMPACT_STRINGS" "Z").before a0 Z = true := hw _ (List.mem_of_getElem? (i := 90) rfl)
theorem d16_3 : decode jdk_42_method_152_code 3 = .ok (.ifCond .eq 10, 3) := by decide +kernel
theorem d16_6 : decode jdk_42_method_152_code 6 = .ok (.aload_n 0, 1) := by decide +kernel
theorem d16_7 : decode jdk_42_method_152_code 7 = .ok (.getfield 15, 3) := by decide +kernel
theorem w69 {Z : State} {a0 : Array Value} (hw : ∀ d ∈ tables_1, d.before a0 Z = true) : (Jvm.Cond.fieldLink "java/lang/String" (15 : Nat) "java/lang/String" "coder" "B").before a0 Z = true := hw _ (List.mem_of_getElem? (i := 69) rfl)
theorem d16_10 : decode jdk_42_method_152_code 10 = .ok (.goto 4, 3) := by decide +kernel
theorem d16_14 : decode jdk_42_method_152_code 14 = .ok (.ireturn, 1) := by decide +kernel
theorem pn_168 : plainName "java/lang/String" = true := by first | (simp [plainName, overriddenIn]; done) | decide +kernel
theorem d15_0 : decode jdk_42_method_54_code 0 = .ok (.aload_n 0, 1) := by decide +kernel
theorem d15_1 : decode jdk_42_method_54_code 1 = .ok (.getfield 9, 3) := by decide +kernel
theorem w68 {Z : State} {a0 : Array Value} (hw : ∀ d ∈ tables_1, d.before a0 Z = true) : (Jvm.Cond.fieldLink "java/lang/String" (9 : Nat) "java/lang/String" "value" "[B").before a0 Z = true := hw _ (List.mem_of_getElem? (i := 68) rfl)
theorem d15_4 : decode jdk_42_method_54_code 4 = .ok (.arraylength, 1) := by decide +kernel
theorem d15_5 : decode jdk_42_method_54_code 5 = .ok (.aload_n 0, 1) := by decide +kernel
theorem d15_6 : decode jdk_42_method_54_code 6 = .ok (.invokevirtual 335, 3) := by decide +kernel
theorem w85 {Z : State} {a0 : Array Value} (hw : ∀ d ∈ tables_1, d.before a0 Z = true) : (Jvm.Cond.methodLink "java/lang/String" (335 : Nat) ({ cls := "java/lang/String", name := "coder", desc := "()B" } : Jvm.MethodName)).before a0 Z = true := hw _ (List.mem_of_getElem? (i := 85) rfl)
theorem w89 {Z : State} {a0 : Array Value} (hw : ∀ d ∈ tables_1, d.before a0 Z = true) : (Jvm.Cond.code ({ cls := "java/lang/String", name := "coder", desc := "()B" } : Jvm.MethodName) jdk_42_method_152_code (1 : Nat) (Option.some Jvm.ClassFile.FieldType.byte)).before a0 Z = true := hw _ (List.mem_of_getElem? (i := 89) rfl)
theorem w38 {Z : State} {a0 : Array Value} (hw : ∀ d ∈ tables_1, d.before a0 Z = true) : (Jvm.Cond.initialized "java/lang/String").before a0 Z = true := hw _ (List.mem_of_getElem? (i := 38) rfl)
theorem pd_174 : parseMethodDescriptor "()B" = some ⟨[], some .byte⟩ := by decide +kernel
theorem w86 {Z : State} {a0 : Array Value} (hw : ∀ d ∈ tables_1, d.before a0 Z = true) : (Jvm.Cond.declares ({ cls := "java/lang/String", name := "coder", desc := "()B" } : Jvm.MethodName)).before a0 Z = true := hw _ (List.mem_of_getElem? (i := 86) rfl)
theorem w88 {Z : State} {a0 : Array Value} (hw : ∀ d ∈ tables_1, d.before a0 Z = true) : (Jvm.Cond.selects "java/lang/String" ({ cls := "java/lang/String", name := "coder", desc := "()B" } : Jvm.MethodName) ({ cls := "java/lang/String", name := "coder", desc := "()B" } : Jvm.MethodName)).before a0 Z = true := hw _ (List.mem_of_getElem? (i := 88) rfl)
theorem w87 {Z : State} {a0 : Array Value} (hw : ∀ d ∈ tables_1, d.before a0 Z = true) : (Jvm.Cond.instanceMethod ({ cls := "java/lang/String", name := "coder", desc := "()B" } : Jvm.MethodName)).before a0 Z = true := hw _ (List.mem_of_getElem? (i := 87) rfl)
theorem d15_9 : decode jdk_42_method_54_code 9 = .ok (.ishr, 1) := by decide +kernel
theorem d15_10 : decode jdk_42_method_54_code 10 = .ok (.ireturn, 1) := by decide +kernel
theorem d21_0 : decode jdk_42_method_154_code 0 = .ok (.getstatic 38, 3) := by decide +kernel
theorem d21_3 : decode jdk_42_method_154_code 3 = .ok (.ifCond .eq 14, 3) := by decide +kernel
theorem d21_6 : decode jdk_42_method_154_code 6 = .ok (.aload_n 0, 1) := by decide +kernel
theorem d21_7 : decode jdk_42_method_154_code 7 = .ok (.getfield 15, 3) := by decide +kernel
theorem d21_10 : decode jdk_42_method_154_code 10 = .ok (.ifCond .ne 7, 3) := by decide +kernel
theorem d21_13 : decode jdk_42_method_154_code 13 = .ok (.iconst 1, 1) := by decide +kernel
theorem d21_14 : decode jdk_42_method_154_code 14 = .ok (.goto 4, 3) := by decide +kernel
theorem d21_18 : decode jdk_42_method_154_code 18 = .ok (.ireturn, 1) := by decide +kernel
theorem d24_0 : decode jdk_41_method_11_code 0 = .ok (.iload_n 0, 1) := by decide +kernel
theorem d24_1 : decode jdk_41_method_11_code 1 = .ok (.ifCond .lt 8, 3) := by decide +kernel
theorem d24_4 : decode jdk_41_method_11_code 4 = .ok (.iload_n 0, 1) := by decide +kernel
theorem d24_5 : decode jdk_41_method_11_code 5 = .ok (.iload_n 1, 1) := by decide +kernel
theorem d24_6 : decode jdk_41_method_11_code 6 = .ok (.if_icmp .lt 10, 3) := by decide +kernel
theorem d24_16 : decode jdk_41_method_11_code 16 = .ok (.iload_n 0, 1) := by decide +kernel
theorem d24_17 : decode jdk_41_method_11_code 17 = .ok (.ireturn, 1) := by decide +kernel
theorem pn_192 : plainName "jdk/internal/util/Preconditions" = true := by first | (simp [plainName, overriddenIn]; done) | decide +kernel
theorem d23_0 : decode jdk_42_method_155_code 0 = .ok (.iload_n 0, 1) := by decide +kernel
theorem d23_1 : decode jdk_42_method_155_code 1 = .ok (.iload_n 1, 1) := by decide +kernel
theorem d23_2 : decode jdk_42_method_155_code 2 = .ok (.getstatic 1053, 3) := by decide +kernel
theorem w53 {Z : State} {a0 : Array Value} (hw : ∀ d ∈ tables_1, d.before a0 Z = true) : (Jvm.Cond.fieldLink "java/lang/String" (1053 : Nat) "jdk/internal/util/Preconditions" "SIOOBE_FORMATTER" "Ljava/util/function/BiFunction;").before a0 Z = true := hw _ (List.mem_of_getElem? (i := 53) rfl)
theorem d23_5 : decode jdk_42_method_155_code 5 = .ok (.invokestatic 1059, 3) := by decide +kernel
theorem w135 {Z : State} {a0 : Array Value} (hw : ∀ d ∈ tables_1, d.before a0 Z = true) : (Jvm.Cond.methodLink "java/lang/String" (1059 : Nat) ({ cls := "jdk/internal/util/Preconditions", name := "checkIndex", desc := "(IILjava/util/function/BiFunction;)I" } : Jvm.MethodName)).before a0 Z = true := hw _ (List.mem_of_getElem? (i := 135) rfl)
theorem w137 {Z : State} {a0 : Array Value} (hw : ∀ d ∈ tables_1, d.before a0 Z = true) : (Jvm.Cond.code ({ cls := "jdk/internal/util/Preconditions", name := "checkIndex", desc := "(IILjava/util/function/BiFunction;)I" } : Jvm.MethodName) jdk_41_method_11_code (3 : Nat) (Option.some Jvm.ClassFile.FieldType.int)).before a0 Z = true := hw _ (List.mem_of_getElem? (i := 137) rfl)
theorem w54 {Z : State} {a0 : Array Value} (hw : ∀ d ∈ tables_1, d.before a0 Z = true) : (Jvm.Cond.initialized "jdk/internal/util/Preconditions").before a0 Z = true := hw _ (List.mem_of_getElem? (i := 54) rfl)
theorem pd_197 : parseMethodDescriptor "(IILjava/util/function/BiFunction;)I" = some ⟨[.int, .int, (.object "java/util/function/BiFunction")], some .int⟩ := by decide +kernel
theorem w136 {Z : State} {a0 : Array Value} (hw : ∀ d ∈ tables_1, d.before a0 Z = true) : (Jvm.Cond.static ({ cls := "jdk/internal/util/Preconditions", name := "checkIndex", desc := "(IILjava/util/function/BiFunction;)I" } : Jvm.MethodName)).before a0 Z = true := hw _ (List.mem_of_getElem? (i := 136) rfl)
theorem d23_8 : decode jdk_42_method_155_code 8 = .ok (.pop, 1) := by decide +kernel
theorem d23_9 : decode jdk_42_method_155_code 9 = .ok (.return_, 1) := by decide +kernel
theorem d22_0 : decode jdk_43_method_2_code 0 = .ok (.iload_n 1, 1) := by decide +kernel
theorem d22_1 : decode jdk_43_method_2_code 1 = .ok (.aload_n 0, 1) := by decide +kernel
theorem d22_2 : decode jdk_43_method_2_code 2 = .ok (.arraylength, 1) := by decide +kernel
theorem d22_3 : decode jdk_43_method_2_code 3 = .ok (.invokestatic 9, 3) := by decide +kernel
theorem w132 {Z : State} {a0 : Array Value} (hw : ∀ d ∈ tables_1, d.before a0 Z = true) : (Jvm.Cond.methodLink "java/lang/StringLatin1" (9 : Nat) ({ cls := "java/lang/String", name := "checkIndex", desc := "(II)V" } : Jvm.MethodName)).before a0 Z = true := hw _ (List.mem_of_getElem? (i := 132) rfl)
theorem w134 {Z : State} {a0 : Array Value} (hw : ∀ d ∈ tables_1, d.before a0 Z = true) : (Jvm.Cond.code ({ cls := "java/lang/String", name := "checkIndex", desc := "(II)V" } : Jvm.MethodName) jdk_42_method_155_code (2 : Nat) (Option.none : Option Jvm.ClassFile.FieldType)).before a0 Z = true := hw _ (List.mem_of_getElem? (i := 134) rfl)
theorem pd_204 : parseMethodDescriptor "(II)V" = some ⟨[.int, .int], none⟩ := by decide +kernel
theorem w133 {Z : State} {a0 : Array Value} (hw : ∀ d ∈ tables_1, d.before a0 Z = true) : (Jvm.Cond.static ({ cls := "java/lang/String", name := "checkIndex", desc := "(II)V" } : Jvm.MethodName)).before a0 Z = true := hw _ (List.mem_of_getElem? (i := 133) rfl)
theorem d22_6 : decode jdk_43_method_2_code 6 = .ok (.aload_n 0, 1) := by decide +kernel
theorem d22_7 : decode jdk_43_method_2_code 7 = .ok (.iload_n 1, 1) := by decide +kernel
theorem d22_8 : decode jdk_43_method_2_code 8 = .ok (.baload, 1) := by decide +kernel
theorem d22_9 : decode jdk_43_method_2_code 9 = .ok (.sipush 255, 3) := by decide +kernel
theorem d22_12 : decode jdk_43_method_2_code 12 = .ok (.iand, 1) := by decide +kernel
theorem d22_13 : decode jdk_43_method_2_code 13 = .ok (.i2c, 1) := by decide +kernel
theorem d22_14 : decode jdk_43_method_2_code 14 = .ok (.ireturn, 1) := by decide +kernel
theorem pn_212 : plainName "java/lang/StringLatin1" = true := by first | (simp [plainName, overriddenIn]; done) | decide +kernel
theorem d20_0 : decode jdk_42_method_56_code 0 = .ok (.aload_n 0, 1) := by decide +kernel
theorem d20_1 : decode jdk_42_method_56_code 1 = .ok (.invokevirtual 492, 3) := by decide +kernel
theorem w123 {Z : State} {a0 : Array Value} (hw : ∀ d ∈ tables_1, d.before a0 Z = true) : (Jvm.Cond.methodLink "java/lang/String" (492 : Nat) ({ cls := "java/lang/String", name := "isLatin1", desc := "()Z" } : Jvm.MethodName)).before a0 Z = true := hw _ (List.mem_of_getElem? (i := 123) rfl)
theorem w127 {Z : State} {a0 : Array Value} (hw : ∀ d ∈ tables_1, d.before a0 Z = true) : (Jvm.Cond.code ({ cls := "java/lang/String", name := "isLatin1", desc := "()Z" } : Jvm.MethodName) jdk_42_method_154_code (1 : Nat) (Option.some Jvm.ClassFile.FieldType.boolean)).before a0 Z = true := hw _ (List.mem_of_getElem? (i := 127) rfl)
theorem pd_215 : parseMethodDescriptor "()Z" = some ⟨[], some .boolean⟩ := by decide +kernel
theorem w124 {Z : State} {a0 : Array Value} (hw : ∀ d ∈ tables_1, d.before a0 Z = true) : (Jvm.Cond.declares ({ cls := "java/lang/String", name := "isLatin1", desc := "()Z" } : Jvm.MethodName)).before a0 Z = true := hw _ (List.mem_of_getElem? (i := 124) rfl)
theorem w126 {Z : State} {a0 : Array Value} (hw : ∀ d ∈ tables_1, d.before a0 Z = true) : (Jvm.Cond.selects "java/lang/String" ({ cls := "java/lang/String", name := "isLatin1", desc := "()Z" } : Jvm.MethodName) ({ cls := "java/lang/String", name := "isLatin1", desc := "()Z" } : Jvm.MethodName)).before a0 Z = true := hw _ (List.mem_of_getElem? (i := 126) rfl)
theorem w125 {Z : State} {a0 : Array Value} (hw : ∀ d ∈ tables_1, d.before a0 Z = true) : (Jvm.Cond.instanceMethod ({ cls := "java/lang/String", name := "isLatin1", desc := "()Z" } : Jvm.MethodName)).before a0 Z = true := hw _ (List.mem_of_getElem? (i := 125) rfl)
theorem d20_4 : decode jdk_42_method_56_code 4 = .ok (.ifCond .eq 12, 3) := by decide +kernel
theorem d20_7 : decode jdk_42_method_56_code 7 = .ok (.aload_n 0, 1) := by decide +kernel
theorem d20_8 : decode jdk_42_method_56_code 8 = .ok (.getfield 9, 3) := by decide +kernel
theorem d20_11 : decode jdk_42_method_56_code 11 = .ok (.iload_n 1, 1) := by decide +kernel
theorem d20_12 : decode jdk_42_method_56_code 12 = .ok (.invokestatic 495, 3) := by decide +kernel
theorem w128 {Z : State} {a0 : Array Value} (hw : ∀ d ∈ tables_1, d.before a0 Z = true) : (Jvm.Cond.methodLink "java/lang/String" (495 : Nat) ({ cls := "java/lang/StringLatin1", name := "charAt", desc := "([BI)C" } : Jvm.MethodName)).before a0 Z = true := hw _ (List.mem_of_getElem? (i := 128) rfl)
theorem w131 {Z : State} {a0 : Array Value} (hw : ∀ d ∈ tables_1, d.before a0 Z = true) : (Jvm.Cond.code ({ cls := "java/lang/StringLatin1", name := "charAt", desc := "([BI)C" } : Jvm.MethodName) jdk_43_method_2_code (2 : Nat) (Option.some Jvm.ClassFile.FieldType.char)).before a0 Z = true := hw _ (List.mem_of_getElem? (i := 131) rfl)
theorem w130 {Z : State} {a0 : Array Value} (hw : ∀ d ∈ tables_1, d.before a0 Z = true) : (Jvm.Cond.initialized "java/lang/StringLatin1").before a0 Z = true := hw _ (List.mem_of_getElem? (i := 130) rfl)
theorem pd_221 : parseMethodDescriptor "([BI)C" = some ⟨[(.array .byte), .int], some .char⟩ := by decide +kernel
theorem w129 {Z : State} {a0 : Array Value} (hw : ∀ d ∈ tables_1, d.before a0 Z = true) : (Jvm.Cond.static ({ cls := "java/lang/StringLatin1", name := "charAt", desc := "([BI)C" } : Jvm.MethodName)).before a0 Z = true := hw _ (List.mem_of_getElem? (i := 129) rfl)
theorem d20_15 : decode jdk_42_method_56_code 15 = .ok (.ireturn, 1) := by decide +kernel
theorem own_nlt {i j n : Nat} (hij : i ≤ j) (hj : j < 19) (h : ¬ o32 i < o32 n) (hn : n < 19) : ¬ o32 j < o32 n := fun q => by
  have a := (r_lt j hj n hn).1 q
  have b := (r_lt i (by omega) n hn).2.1 h
  omega
theorem d14_0 : decode method_5_code 0 = .ok (.aload_n 0, 1) := by decide +kernel
theorem d14_1 : decode method_5_code 1 = .ok (.invokevirtual 43, 3) := by decide +kernel
theorem w80 {Z : State} {a0 : Array Value} (hw : ∀ d ∈ tables_1, d.before a0 Z = true) : (Jvm.Cond.methodLink "com/example/isolate_to_replay/isolatetoreplay/command/LastLineAcceptPinLaw" (43 : Nat) ({ cls := "java/lang/String", name := "length", desc := "()I" } : Jvm.MethodName)).before a0 Z = true := hw _ (List.mem_of_getElem? (i := 80) rfl)
theorem w84 {Z : State} {a0 : Array Value} (hw : ∀ d ∈ tables_1, d.before a0 Z = true) : (Jvm.Cond.code ({ cls := "java/lang/String", name := "length", desc := "()I" } : Jvm.MethodName) jdk_42_method_54_code (1 : Nat) (Option.some Jvm.ClassFile.FieldType.int)).before a0 Z = true := hw _ (List.mem_of_getElem? (i := 84) rfl)
theorem pd_225 : parseMethodDescriptor "()I" = some ⟨[], some .int⟩ := by decide +kernel
theorem w81 {Z : State} {a0 : Array Value} (hw : ∀ d ∈ tables_1, d.before a0 Z = true) : (Jvm.Cond.declares ({ cls := "java/lang/String", name := "length", desc := "()I" } : Jvm.MethodName)).before a0 Z = true := hw _ (List.mem_of_getElem? (i := 81) rfl)
theorem w83 {Z : State} {a0 : Array Value} (hw : ∀ d ∈ tables_1, d.before a0 Z = true) : (Jvm.Cond.selects "java/lang/String" ({ cls := "java/lang/String", name := "length", desc := "()I" } : Jvm.MethodName) ({ cls := "java/lang/String", name := "length", desc := "()I" } : Jvm.MethodName)).before a0 Z = true := hw _ (List.mem_of_getElem? (i := 83) rfl)
theorem w82 {Z : State} {a0 : Array Value} (hw : ∀ d ∈ tables_1, d.before a0 Z = true) : (Jvm.Cond.instanceMethod ({ cls := "java/lang/String", name := "length", desc := "()I" } : Jvm.MethodName)).before a0 Z = true := hw _ (List.mem_of_getElem? (i := 82) rfl)
theorem d14_4 : decode method_5_code 4 = .ok (.iload_n 3, 1) := by decide +kernel
theorem d14_5 : decode method_5_code 5 = .ok (.if_icmp .eq 5, 3) := by decide +kernel
theorem d14_10 : decode method_5_code 10 = .ok (.iload_n 3, 1) := by decide +kernel
theorem d14_11 : decode method_5_code 11 = .ok (.ifCond .le 16, 3) := by decide +kernel
theorem d14_14 : decode method_5_code 14 = .ok (.aload_n 0, 1) := by decide +kernel
theorem d14_15 : decode method_5_code 15 = .ok (.iconst 0, 1) := by decide +kernel
theorem d14_16 : decode method_5_code 16 = .ok (.invokevirtual 49, 3) := by decide +kernel
theorem w118 {Z : State} {a0 : Array Value} (hw : ∀ d ∈ tables_1, d.before a0 Z = true) : (Jvm.Cond.methodLink "com/example/isolate_to_replay/isolatetoreplay/command/LastLineAcceptPinLaw" (49 : Nat) ({ cls := "java/lang/String", name := "charAt", desc := "(I)C" } : Jvm.MethodName)).before a0 Z = true := hw _ (List.mem_of_getElem? (i := 118) rfl)
theorem w122 {Z : State} {a0 : Array Value} (hw : ∀ d ∈ tables_1, d.before a0 Z = true) : (Jvm.Cond.code ({ cls := "java/lang/String", name := "charAt", desc := "(I)C" } : Jvm.MethodName) jdk_42_method_56_code (2 : Nat) (Option.some Jvm.ClassFile.FieldType.char)).before a0 Z = true := hw _ (List.mem_of_getElem? (i := 122) rfl)
theorem pd_233 : parseMethodDescriptor "(I)C" = some ⟨[.int], some .char⟩ := by decide +kernel
theorem w119 {Z : State} {a0 : Array Value} (hw : ∀ d ∈ tables_1, d.before a0 Z = true) : (Jvm.Cond.declares ({ cls := "java/lang/String", name := "charAt", desc := "(I)C" } : Jvm.MethodName)).before a0 Z = true := hw _ (List.mem_of_getElem? (i := 119) rfl)
theorem w121 {Z : State} {a0 : Array Value} (hw : ∀ d ∈ tables_1, d.before a0 Z = true) : (Jvm.Cond.selects "java/lang/String" ({ cls := "java/lang/String", name := "charAt", desc := "(I)C" } : Jvm.MethodName) ({ cls := "java/lang/String", name := "charAt", desc := "(I)C" } : Jvm.MethodName)).before a0 Z = true := hw _ (List.mem_of_getElem? (i := 121) rfl)
theorem w120 {Z : State} {a0 : Array Value} (hw : ∀ d ∈ tables_1, d.before a0 Z = true) : (Jvm.Cond.instanceMethod ({ cls := "java/lang/String", name := "charAt", desc := "(I)C" } : Jvm.MethodName)).before a0 Z = true := hw _ (List.mem_of_getElem? (i := 120) rfl)
theorem d14_19 : decode method_5_code 19 = .ok (.aload_n 1, 1) := by decide +kernel
theorem d14_20 : decode method_5_code 20 = .ok (.iload_n 2, 1) := by decide +kernel
theorem d14_21 : decode method_5_code 21 = .ok (.baload, 1) := by decide +kernel
theorem d14_22 : decode method_5_code 22 = .ok (.if_icmp .eq 5, 3) := by decide +kernel
theorem d14_27 : decode method_5_code 27 = .ok (.iload_n 3, 1) := by decide +kernel
theorem d14_28 : decode method_5_code 28 = .ok (.iconst 1, 1) := by decide +kernel
theorem d14_29 : decode method_5_code 29 = .ok (.if_icmp .le 18, 3) := by decide +kernel
theorem d14_32 : decode method_5_code 32 = .ok (.aload_n 0, 1) := by decide +kernel
theorem d14_33 : decode method_5_code 33 = .ok (.iconst 1, 1) := by decide +kernel
theorem d14_34 : decode method_5_code 34 = .ok (.invokevirtual 49, 3) := by decide +kernel
theorem d14_37 : decode method_5_code 37 = .ok (.aload_n 1, 1) := by decide +kernel
theorem d14_38 : decode method_5_code 38 = .ok (.iload_n 2, 1) := by decide +kernel
theorem d14_39 : decode method_5_code 39 = .ok (.iconst 1, 1) := by decide +kernel
theorem d14_40 : decode method_5_code 40 = .ok (.iadd, 1) := by decide +kernel
theorem d14_41 : decode method_5_code 41 = .ok (.baload, 1) := by decide +kernel
theorem d14_42 : decode method_5_code 42 = .ok (.if_icmp .eq 5, 3) := by decide +kernel
theorem d14_47 : decode method_5_code 47 = .ok (.iload_n 3, 1) := by decide +kernel
theorem d14_48 : decode method_5_code 48 = .ok (.iconst 2, 1) := by decide +kernel
theorem d14_49 : decode method_5_code 49 = .ok (.if_icmp .le 18, 3) := by decide +kernel
theorem d14_52 : decode method_5_code 52 = .ok (.aload_n 0, 1) := by decide +kernel
theorem d14_53 : decode method_5_code 53 = .ok (.iconst 2, 1) := by decide +kernel
theorem d14_54 : decode method_5_code 54 = .ok (.invokevirtual 49, 3) := by decide +kernel
theorem d14_57 : decode method_5_code 57 = .ok (.aload_n 1, 1) := by decide +kernel
theorem d14_58 : decode method_5_code 58 = .ok (.iload_n 2, 1) := by decide +kernel
theorem d14_59 : decode method_5_code 59 = .ok (.iconst 2, 1) := by decide +kernel
theorem d14_60 : decode method_5_code 60 = .ok (.iadd, 1) := by decide +kernel
theorem d14_61 : decode method_5_code 61 = .ok (.baload, 1) := by decide +kernel
theorem d14_62 : decode method_5_code 62 = .ok (.if_icmp .eq 5, 3) := by decide +kernel
theorem d14_67 : decode method_5_code 67 = .ok (.iload_n 3, 1) := by decide +kernel
theorem d14_68 : decode method_5_code 68 = .ok (.iconst 3, 1) := by decide +kernel
theorem d14_69 : decode method_5_code 69 = .ok (.if_icmp .le 18, 3) := by decide +kernel
theorem d14_72 : decode method_5_code 72 = .ok (.aload_n 0, 1) := by decide +kernel
theorem d14_73 : decode method_5_code 73 = .ok (.iconst 3, 1) := by decide +kernel
theorem d14_74 : decode method_5_code 74 = .ok (.invokevirtual 49, 3) := by decide +kernel
theorem d14_77 : decode method_5_code 77 = .ok (.aload_n 1, 1) := by decide +kernel
theorem d14_78 : decode method_5_code 78 = .ok (.iload_n 2, 1) := by decide +kernel
theorem d14_79 : decode method_5_code 79 = .ok (.iconst 3, 1) := by decide +kernel
theorem d14_80 : decode method_5_code 80 = .ok (.iadd, 1) := by decide +kernel
theorem d14_81 : decode method_5_code 81 = .ok (.baload, 1) := by decide +kernel
theorem d14_82 : decode method_5_code 82 = .ok (.if_icmp .eq 5, 3) := by decide +kernel
theorem d14_87 : decode method_5_code 87 = .ok (.iload_n 3, 1) := by decide +kernel
theorem d14_88 : decode method_5_code 88 = .ok (.iconst 4, 1) := by decide +kernel
theorem d14_89 : decode method_5_code 89 = .ok (.if_icmp .le 18, 3) := by decide +kernel
theorem d14_92 : decode method_5_code 92 = .ok (.aload_n 0, 1) := by decide +kernel
theorem d14_93 : decode method_5_code 93 = .ok (.iconst 4, 1) := by decide +kernel
theorem d14_94 : decode method_5_code 94 = .ok (.invokevirtual 49, 3) := by decide +kernel
theorem d14_97 : decode method_5_code 97 = .ok (.aload_n 1, 1) := by decide +kernel
theorem d14_98 : decode method_5_code 98 = .ok (.iload_n 2, 1) := by decide +kernel
theorem d14_99 : decode method_5_code 99 = .ok (.iconst 4, 1) := by decide +kernel
theorem d14_100 : decode method_5_code 100 = .ok (.iadd, 1) := by decide +kernel
theorem d14_101 : decode method_5_code 101 = .ok (.baload, 1) := by decide +kernel
theorem d14_102 : decode method_5_code 102 = .ok (.if_icmp .eq 5, 3) := by decide +kernel
theorem d14_107 : decode method_5_code 107 = .ok (.iload_n 3, 1) := by decide +kernel
theorem d14_108 : decode method_5_code 108 = .ok (.iconst 5, 1) := by decide +kernel
theorem d14_109 : decode method_5_code 109 = .ok (.if_icmp .le 18, 3) := by decide +kernel
theorem d14_112 : decode method_5_code 112 = .ok (.aload_n 0, 1) := by decide +kernel
theorem d14_113 : decode method_5_code 113 = .ok (.iconst 5, 1) := by decide +kernel
theorem d14_114 : decode method_5_code 114 = .ok (.invokevirtual 49, 3) := by decide +kernel
theorem d14_117 : decode method_5_code 117 = .ok (.aload_n 1, 1) := by decide +kernel
theorem d14_118 : decode method_5_code 118 = .ok (.iload_n 2, 1) := by decide +kernel
theorem d14_119 : decode method_5_code 119 = .ok (.iconst 5, 1) := by decide +kernel
theorem d14_120 : decode method_5_code 120 = .ok (.iadd, 1) := by decide +kernel
theorem d14_121 : decode method_5_code 121 = .ok (.baload, 1) := by decide +kernel
theorem d14_122 : decode method_5_code 122 = .ok (.if_icmp .eq 5, 3) := by decide +kernel
theorem d14_127 : decode method_5_code 127 = .ok (.iload_n 3, 1) := by decide +kernel
theorem d14_128 : decode method_5_code 128 = .ok (.bipush 6, 2) := by decide +kernel
theorem d14_130 : decode method_5_code 130 = .ok (.if_icmp .le 20, 3) := by decide +kernel
theorem d14_133 : decode method_5_code 133 = .ok (.aload_n 0, 1) := by decide +kernel
theorem d14_134 : decode method_5_code 134 = .ok (.bipush 6, 2) := by decide +kernel
theorem d14_136 : decode method_5_code 136 = .ok (.invokevirtual 49, 3) := by decide +kernel
theorem d14_139 : decode method_5_code 139 = .ok (.aload_n 1, 1) := by decide +kernel
theorem d14_140 : decode method_5_code 140 = .ok (.iload_n 2, 1) := by decide +kernel
theorem d14_141 : decode method_5_code 141 = .ok (.bipush 6, 2) := by decide +kernel
theorem d14_143 : decode method_5_code 143 = .ok (.iadd, 1) := by decide +kernel
theorem d14_144 : decode method_5_code 144 = .ok (.baload, 1) := by decide +kernel
theorem d14_145 : decode method_5_code 145 = .ok (.if_icmp .eq 5, 3) := by decide +kernel
theorem d14_150 : decode method_5_code 150 = .ok (.iload_n 3, 1) := by decide +kernel
theorem d14_151 : decode method_5_code 151 = .ok (.bipush 7, 2) := by decide +kernel
theorem d14_153 : decode method_5_code 153 = .ok (.if_icmp .le 20, 3) := by decide +kernel
theorem d14_156 : decode method_5_code 156 = .ok (.aload_n 0, 1) := by decide +kernel
theorem d14_157 : decode method_5_code 157 = .ok (.bipush 7, 2) := by decide +kernel
theorem d14_159 : decode method_5_code 159 = .ok (.invokevirtual 49, 3) := by decide +kernel
theorem d14_162 : decode method_5_code 162 = .ok (.aload_n 1, 1) := by decide +kernel
theorem d14_163 : decode method_5_code 163 = .ok (.iload_n 2, 1) := by decide +kernel
theorem d14_164 : decode method_5_code 164 = .ok (.bipush 7, 2) := by decide +kernel
theorem d14_166 : decode method_5_code 166 = .ok (.iadd, 1) := by decide +kernel
theorem d14_167 : decode method_5_code 167 = .ok (.baload, 1) := by decide +kernel
theorem d14_168 : decode method_5_code 168 = .ok (.if_icmp .eq 5, 3) := by decide +kernel
theorem d14_173 : decode method_5_code 173 = .ok (.iconst 1, 1) := by decide +kernel
theorem d14_174 : decode method_5_code 174 = .ok (.ireturn, 1) := by decide +kernel
theorem d18_7 : decode jdk_123_method_3_code 7 = .ok (.iload 4, 2) := by decide +kernel
theorem d18_9 : decode jdk_123_method_3_code 9 = .ok (.iload_n 3, 1) := by decide +kernel
theorem d18_10 : decode jdk_123_method_3_code 10 = .ok (.if_icmp .ge 21, 3) := by decide +kernel
theorem d18_31 : decode jdk_123_method_3_code 31 = .ok (.iload_n 2, 1) := by decide +kernel
theorem d18_32 : decode jdk_123_method_3_code 32 = .ok (.ireturn, 1) := by decide +kernel
theorem d18_13 : decode jdk_123_method_3_code 13 = .ok (.aload_n 0, 1) := by decide +kernel
theorem d18_14 : decode jdk_123_method_3_code 14 = .ok (.iload 4, 2) := by decide +kernel
theorem d18_16 : decode jdk_123_method_3_code 16 = .ok (.baload, 1) := by decide +kernel
theorem d18_17 : decode jdk_123_method_3_code 17 = .ok (.ifCond .ge 8, 3) := by decide +kernel
theorem d18_25 : decode jdk_123_method_3_code 25 = .ok (.iinc 4 1, 3) := by decide +kernel
theorem d18_28 : decode jdk_123_method_3_code 28 = .ok (.goto (-21), 3) := by decide +kernel
theorem d18_0 : decode jdk_123_method_3_code 0 = .ok (.iload_n 1, 1) := by decide +kernel
theorem d18_1 : decode jdk_123_method_3_code 1 = .ok (.iload_n 2, 1) := by decide +kernel
theorem d18_2 : decode jdk_123_method_3_code 2 = .ok (.iadd, 1) := by decide +kernel
theorem d18_3 : decode jdk_123_method_3_code 3 = .ok (.istore_n 3, 1) := by decide +kernel
theorem d18_4 : decode jdk_123_method_3_code 4 = .ok (.iload_n 1, 1) := by decide +kernel
theorem d18_5 : decode jdk_123_method_3_code 5 = .ok (.istore 4, 2) := by decide +kernel
theorem pn_341 : plainName "java/lang/StringCoding" = true := by first | (simp [plainName, overriddenIn]; done) | decide +kernel
theorem d19_0 : decode jdk_65_method_132_code 0 = .ok (.iload_n 1, 1) := by decide +kernel
theorem d19_1 : decode jdk_65_method_132_code 1 = .ok (.ifCond .ne 9, 3) := by decide +kernel
theorem d19_4 : decode jdk_65_method_132_code 4 = .ok (.iload_n 2, 1) := by decide +kernel
theorem d19_5 : decode jdk_65_method_132_code 5 = .ok (.aload_n 0, 1) := by decide +kernel
theorem d19_6 : decode jdk_65_method_132_code 6 = .ok (.arraylength, 1) := by decide +kernel
theorem d19_7 : decode jdk_65_method_132_code 7 = .ok (.if_icmp .eq 10, 3) := by decide +kernel
theorem d19_17 : decode jdk_65_method_132_code 17 = .ok (.aload_n 0, 1) := by decide +kernel
theorem d19_18 : decode jdk_65_method_132_code 18 = .ok (.invokevirtual 310, 3) := by decide +kernel
theorem d19_21 : decode jdk_65_method_132_code 21 = .ok (.checkcast 311, 3) := by decide +kernel
theorem d19_24 : decode jdk_65_method_132_code 24 = .ok (.areturn, 1) := by decide +kernel
theorem d8_0 : decode jdk_31_method_10_code 0 = .ok (.aload_n 0, 1) := by decide +kernel
theorem d8_1 : decode jdk_31_method_10_code 1 = .ok (.ifnonnull 11, 3) := by decide +kernel
theorem d8_12 : decode jdk_31_method_10_code 12 = .ok (.aload_n 0, 1) := by decide +kernel
theorem d8_13 : decode jdk_31_method_10_code 13 = .ok (.areturn, 1) := by decide +kernel
theorem pn_356 : plainName "java/util/Objects" = true := by first | (simp [plainName, overriddenIn]; done) | decide +kernel
theorem d10_0 : decode jdk_41_method_13_code 0 = .ok (.iload_n 2, 1) := by decide +kernel
theorem d10_1 : decode jdk_41_method_13_code 1 = .ok (.iload_n 0, 1) := by decide +kernel
theorem d10_2 : decode jdk_41_method_13_code 2 = .ok (.ior, 1) := by decide +kernel
theorem d10_3 : decode jdk_41_method_13_code 3 = .ok (.iload_n 1, 1) := by decide +kernel
theorem d10_4 : decode jdk_41_method_13_code 4 = .ok (.ior, 1) := by decide +kernel
theorem d10_5 : decode jdk_41_method_13_code 5 = .ok (.ifCond .lt 10, 3) := by decide +kernel
theorem d10_8 : decode jdk_41_method_13_code 8 = .ok (.iload_n 1, 1) := by decide +kernel
theorem d10_9 : decode jdk_41_method_13_code 9 = .ok (.iload_n 2, 1) := by decide +kernel
theorem d10_10 : decode jdk_41_method_13_code 10 = .ok (.iload_n 0, 1) := by decide +kernel
theorem d10_11 : decode jdk_41_method_13_code 11 = .ok (.isub, 1) := by decide +kernel
theorem d10_12 : decode jdk_41_method_13_code 12 = .ok (.if_icmp .le 11, 3) := by decide +kernel
theorem d10_23 : decode jdk_41_method_13_code 23 = .ok (.iload_n 0, 1) := by decide +kernel
theorem d10_24 : decode jdk_41_method_13_code 24 = .ok (.ireturn, 1) := by decide +kernel
theorem d9_0 : decode jdk_42_method_157_code 0 = .ok (.iload_n 0, 1) := by decide +kernel
theorem d9_1 : decode jdk_42_method_157_code 1 = .ok (.iload_n 1, 1) := by decide +kernel
theorem d9_2 : decode jdk_42_method_157_code 2 = .ok (.iload_n 2, 1) := by decide +kernel
theorem d9_3 : decode jdk_42_method_157_code 3 = .ok (.getstatic 1053, 3) := by decide +kernel
theorem d9_6 : decode jdk_42_method_157_code 6 = .ok (.invokestatic 1065, 3) := by decide +kernel
theorem w55 {Z : State} {a0 : Array Value} (hw : ∀ d ∈ tables_1, d.before a0 Z = true) : (Jvm.Cond.methodLink "java/lang/String" (1065 : Nat) ({ cls := "jdk/internal/util/Preconditions", name := "checkFromIndexSize", desc := "(IIILjava/util/function/BiFunction;)I" } : Jvm.MethodName)).before a0 Z = true := hw _ (List.mem_of_getElem? (i := 55) rfl)
theorem w57 {Z : State} {a0 : Array Value} (hw : ∀ d ∈ tables_1, d.before a0 Z = true) : (Jvm.Cond.code ({ cls := "jdk/internal/util/Preconditions", name := "checkFromIndexSize", desc := "(IIILjava/util/function/BiFunction;)I" } : Jvm.MethodName) jdk_41_method_13_code (4 : Nat) (Option.some Jvm.ClassFile.FieldType.int)).before a0 Z = true := hw _ (List.mem_of_getElem? (i := 57) rfl)
theorem pd_375 : parseMethodDescriptor "(IIILjava/util/function/BiFunction;)I" = some ⟨[.int, .int, .int, (.object "java/util/function/BiFunction")], some .int⟩ := by decide +kernel
theorem w56 {Z : State} {a0 : Array Value} (hw : ∀ d ∈ tables_1, d.before a0 Z = true) : (Jvm.Cond.static ({ cls := "jdk/internal/util/Preconditions", name := "checkFromIndexSize", desc := "(IIILjava/util/function/BiFunction;)I" } : Jvm.MethodName)).before a0 Z = true := hw _ (List.mem_of_getElem? (i := 56) rfl)
theorem d9_9 : decode jdk_42_method_157_code 9 = .ok (.ireturn, 1) := by decide +kernel
theorem d11_0 : decode jdk_42_method_11_code 0 = .ok (.aload_n 0, 1) := by decide +kernel
theorem d11_1 : decode jdk_42_method_11_code 1 = .ok (.invokespecial 1, 3) := by decide +kernel
theorem w62 {Z : State} {a0 : Array Value} (hw : ∀ d ∈ tables_1, d.before a0 Z = true) : (Jvm.Cond.methodLink "java/lang/String" (1 : Nat) ({ cls := "java/lang/Object", name := "<init>", desc := "()V" } : Jvm.MethodName)).before a0 Z = true := hw _ (List.mem_of_getElem? (i := 62) rfl)
theorem d11_4 : decode jdk_42_method_11_code 4 = .ok (.iload 4, 2) := by decide +kernel
theorem d11_6 : decode jdk_42_method_11_code 6 = .ok (.ifCond .ne 24, 3) := by decide +kernel
theorem d11_9 : decode jdk_42_method_11_code 9 = .ok (.aload_n 0, 1) := by decide +kernel
theorem d11_10 : decode jdk_42_method_11_code 10 = .ok (.ldc 7, 2) := by decide +kernel
theorem w63 {Z : State} {a0 : Array Value} (hw : ∀ d ∈ tables_1, d.before a0 Z = true) : (Jvm.Cond.stringLink "java/lang/String" (7 : Nat) "").before a0 Z = true := hw _ (List.mem_of_getElem? (i := 63) rfl)
theorem d11_12 : decode jdk_42_method_11_code 12 = .ok (.getfield 9, 3) := by decide +kernel
theorem d11_15 : decode jdk_42_method_11_code 15 = .ok (.putfield 9, 3) := by decide +kernel
theorem w64 {Z : State} {a0 : Array Value} (hw : ∀ d ∈ tables_1, d.before a0 Z = true) : (Jvm.Cond.laysFinal "java/lang/String" "java/lang/String" "value" "[B").before a0 Z = true := hw _ (List.mem_of_getElem? (i := 64) rfl)
theorem w37 {Z : State} {a0 : Array Value} (hw : ∀ d ∈ tables_1, d.before a0 Z = true) : (Jvm.Cond.instantiable "java/lang/String" (4 : Nat)).before a0 Z = true := hw _ (List.mem_of_getElem? (i := 37) rfl)
theorem d11_18 : decode jdk_42_method_11_code 18 = .ok (.aload_n 0, 1) := by decide +kernel
theorem d11_19 : decode jdk_42_method_11_code 19 = .ok (.ldc 7, 2) := by decide +kernel
theorem d11_21 : decode jdk_42_method_11_code 21 = .ok (.getfield 15, 3) := by decide +kernel
theorem d11_24 : decode jdk_42_method_11_code 24 = .ok (.putfield 15, 3) := by decide +kernel
theorem w65 {Z : State} {a0 : Array Value} (hw : ∀ d ∈ tables_1, d.before a0 Z = true) : (Jvm.Cond.laysFinal "java/lang/String" "java/lang/String" "coder" "B").before a0 Z = true := hw _ (List.mem_of_getElem? (i := 65) rfl)
theorem d11_27 : decode jdk_42_method_11_code 27 = .ok (.goto 852, 3) := by decide +kernel
theorem d11_879 : decode jdk_42_method_11_code 879 = .ok (.return_, 1) := by decide +kernel
theorem d11_30 : decode jdk_42_method_11_code 30 = .ok (.aload_n 1, 1) := by decide +kernel
theorem d11_31 : decode jdk_42_method_11_code 31 = .ok (.getstatic 86, 3) := by decide +kernel
theorem w100 {Z : State} {a0 : Array Value} (hw : ∀ d ∈ tables_1, d.before a0 Z = true) : (Jvm.Cond.fieldLink "java/lang/String" (86 : Nat) "sun/nio/cs/UTF_8" "INSTANCE" "Lsun/nio/cs/UTF_8;").before a0 Z = true := hw _ (List.mem_of_getElem? (i := 100) rfl)
theorem d11_34 : decode jdk_42_method_11_code 34 = .ok (.if_acmp .ne 312, 3) := by decide +kernel
theorem d11_37 : decode jdk_42_method_11_code 37 = .ok (.getstatic 38, 3) := by decide +kernel
theorem d11_40 : decode jdk_42_method_11_code 40 = .ok (.ifCond .eq 252, 3) := by decide +kernel
theorem d11_43 : decode jdk_42_method_11_code 43 = .ok (.aload_n 2, 1) := by decide +kernel
theorem d11_44 : decode jdk_42_method_11_code 44 = .ok (.iload_n 3, 1) := by decide +kernel
theorem d11_45 : decode jdk_42_method_11_code 45 = .ok (.iload 4, 2) := by decide +kernel
theorem d11_47 : decode jdk_42_method_11_code 47 = .ok (.invokestatic 92, 3) := by decide +kernel
theorem w102 {Z : State} {a0 : Array Value} (hw : ∀ d ∈ tables_1, d.before a0 Z = true) : (Jvm.Cond.methodLink "java/lang/String" (92 : Nat) ({ cls := "java/lang/StringCoding", name := "countPositives", desc := "([BII)I" } : Jvm.MethodName)).before a0 Z = true := hw _ (List.mem_of_getElem? (i := 102) rfl)
theorem w105 {Z : State} {a0 : Array Value} (hw : ∀ d ∈ tables_1, d.before a0 Z = true) : (Jvm.Cond.code ({ cls := "java/lang/StringCoding", name := "countPositives", desc := "([BII)I" } : Jvm.MethodName) jdk_123_method_3_code (5 : Nat) (Option.some Jvm.ClassFile.FieldType.int)).before a0 Z = true := hw _ (List.mem_of_getElem? (i := 105) rfl)
theorem w104 {Z : State} {a0 : Array Value} (hw : ∀ d ∈ tables_1, d.before a0 Z = true) : (Jvm.Cond.initialized "java/lang/StringCoding").before a0 Z = true := hw _ (List.mem_of_getElem? (i := 104) rfl)
theorem pd_400 : parseMethodDescriptor "([BII)I" = some ⟨[(.array .byte), .int, .int], some .int⟩ := by decide +kernel
theorem w103 {Z : State} {a0 : Array Value} (hw : ∀ d ∈ tables_1, d.before a0 Z = true) : (Jvm.Cond.static ({ cls := "java/lang/StringCoding", name := "countPositives", desc := "([BII)I" } : Jvm.MethodName)).before a0 Z = true := hw _ (List.mem_of_getElem? (i := 103) rfl)
theorem d11_50 : decode jdk_42_method_11_code 50 = .ok (.istore 5, 2) := by decide +kernel
theorem d11_52 : decode jdk_42_method_11_code 52 = .ok (.iload 5, 2) := by decide +kernel
theorem d11_54 : decode jdk_42_method_11_code 54 = .ok (.iload 4, 2) := by decide +kernel
theorem d11_56 : decode jdk_42_method_11_code 56 = .ok (.if_icmp .ne 22, 3) := by decide +kernel
theorem d11_59 : decode jdk_42_method_11_code 59 = .ok (.aload_n 0, 1) := by decide +kernel
theorem d11_60 : decode jdk_42_method_11_code 60 = .ok (.aload_n 2, 1) := by decide +kernel
theorem d11_61 : decode jdk_42_method_11_code 61 = .ok (.iload_n 3, 1) := by decide +kernel
theorem d11_62 : decode jdk_42_method_11_code 62 = .ok (.iload_n 3, 1) := by decide +kernel
theorem d11_63 : decode jdk_42_method_11_code 63 = .ok (.iload 4, 2) := by decide +kernel
theorem d11_65 : decode jdk_42_method_11_code 65 = .ok (.iadd, 1) := by decide +kernel
theorem d11_66 : decode jdk_42_method_11_code 66 = .ok (.invokestatic 54, 3) := by decide +kernel
theorem w106 {Z : State} {a0 : Array Value} (hw : ∀ d ∈ tables_1, d.before a0 Z = true) : (Jvm.Cond.methodLink "java/lang/String" (54 : Nat) ({ cls := "java/util/Arrays", name := "copyOfRange", desc := "([BII)[B" } : Jvm.MethodName)).before a0 Z = true := hw _ (List.mem_of_getElem? (i := 106) rfl)
theorem w108 {Z : State} {a0 : Array Value} (hw : ∀ d ∈ tables_1, d.before a0 Z = true) : (Jvm.Cond.code ({ cls := "java/util/Arrays", name := "copyOfRange", desc := "([BII)[B" } : Jvm.MethodName) jdk_65_method_132_code (3 : Nat) (Option.some (Jvm.ClassFile.FieldType.array Jvm.ClassFile.FieldType.byte))).before a0 Z = true := hw _ (List.mem_of_getElem? (i := 108) rfl)
theorem pd_412 : parseMethodDescriptor "([BII)[B" = some ⟨[(.array .byte), .int, .int], some (.array .byte)⟩ := by decide +kernel
theorem w107 {Z : State} {a0 : Array Value} (hw : ∀ d ∈ tables_1, d.before a0 Z = true) : (Jvm.Cond.static ({ cls := "java/util/Arrays", name := "copyOfRange", desc := "([BII)[B" } : Jvm.MethodName)).before a0 Z = true := hw _ (List.mem_of_getElem? (i := 107) rfl)
theorem d11_69 : decode jdk_42_method_11_code 69 = .ok (.putfield 9, 3) := by decide +kernel
theorem d11_72 : decode jdk_42_method_11_code 72 = .ok (.aload_n 0, 1) := by decide +kernel
theorem d11_73 : decode jdk_42_method_11_code 73 = .ok (.iconst 0, 1) := by decide +kernel
theorem d11_74 : decode jdk_42_method_11_code 74 = .ok (.putfield 15, 3) := by decide +kernel
theorem d11_77 : decode jdk_42_method_11_code 77 = .ok (.return_, 1) := by decide +kernel
theorem d7_0 : decode jdk_42_method_10_code 0 = .ok (.aload_n 0, 1) := by decide +kernel
theorem d7_1 : decode jdk_42_method_10_code 1 = .ok (.aload 4, 2) := by decide +kernel
theorem d7_3 : decode jdk_42_method_10_code 3 = .ok (.invokestatic 78, 3) := by decide +kernel
theorem w44 {Z : State} {a0 : Array Value} (hw : ∀ d ∈ tables_1, d.before a0 Z = true) : (Jvm.Cond.methodLink "java/lang/String" (78 : Nat) ({ cls := "java/util/Objects", name := "requireNonNull", desc := "(Ljava/lang/Object;)Ljava/lang/Object;" } : Jvm.MethodName)).before a0 Z = true := hw _ (List.mem_of_getElem? (i := 44) rfl)
theorem w47 {Z : State} {a0 : Array Value} (hw : ∀ d ∈ tables_1, d.before a0 Z = true) : (Jvm.Cond.code ({ cls := "java/util/Objects", name := "requireNonNull", desc := "(Ljava/lang/Object;)Ljava/lang/Object;" } : Jvm.MethodName) jdk_31_method_10_code (1 : Nat) (Option.some (Jvm.ClassFile.FieldType.object "java/lang/Object"))).before a0 Z = true := hw _ (List.mem_of_getElem? (i := 47) rfl)
theorem w46 {Z : State} {a0 : Array Value} (hw : ∀ d ∈ tables_1, d.before a0 Z = true) : (Jvm.Cond.initialized "java/util/Objects").before a0 Z = true := hw _ (List.mem_of_getElem? (i := 46) rfl)
theorem pd_421 : parseMethodDescriptor "(Ljava/lang/Object;)Ljava/lang/Object;" = some ⟨[(.object "java/lang/Object")], some (.object "java/lang/Object")⟩ := by decide +kernel
theorem w45 {Z : State} {a0 : Array Value} (hw : ∀ d ∈ tables_1, d.before a0 Z = true) : (Jvm.Cond.static ({ cls := "java/util/Objects", name := "requireNonNull", desc := "(Ljava/lang/Object;)Ljava/lang/Object;" } : Jvm.MethodName)).before a0 Z = true := hw _ (List.mem_of_getElem? (i := 45) rfl)
theorem d7_6 : decode jdk_42_method_10_code 6 = .ok (.checkcast 84, 3) := by decide +kernel
theorem w48 {Z : State} {a0 : Array Value} (hw : ∀ d ∈ tables_1, d.before a0 Z = true) : (Jvm.Cond.classLink "java/lang/String" (84 : Nat) "java/nio/charset/Charset").before a0 Z = true := hw _ (List.mem_of_getElem? (i := 48) rfl)
theorem w49 {Z : State} {a0 : Array Value} (hw : ∀ d ∈ tables_1, d.before a0 Z = true) : (Jvm.Cond.castable "sun/nio/cs/UTF_8" "java/nio/charset/Charset").before a0 Z = true := hw _ (List.mem_of_getElem? (i := 49) rfl)
theorem d7_9 : decode jdk_42_method_10_code 9 = .ok (.aload_n 1, 1) := by decide +kernel
theorem d7_10 : decode jdk_42_method_10_code 10 = .ok (.iload_n 2, 1) := by decide +kernel
theorem d7_11 : decode jdk_42_method_10_code 11 = .ok (.iload_n 3, 1) := by decide +kernel
theorem d7_12 : decode jdk_42_method_10_code 12 = .ok (.aload_n 1, 1) := by decide +kernel
theorem d7_13 : decode jdk_42_method_10_code 13 = .ok (.arraylength, 1) := by decide +kernel
theorem d7_14 : decode jdk_42_method_10_code 14 = .ok (.invokestatic 34, 3) := by decide +kernel
theorem w50 {Z : State} {a0 : Array Value} (hw : ∀ d ∈ tables_1, d.before a0 Z = true) : (Jvm.Cond.methodLink "java/lang/String" (34 : Nat) ({ cls := "java/lang/String", name := "checkBoundsOffCount", desc := "(III)I" } : Jvm.MethodName)).before a0 Z = true := hw _ (List.mem_of_getElem? (i := 50) rfl)
theorem w52 {Z : State} {a0 : Array Value} (hw : ∀ d ∈ tables_1, d.before a0 Z = true) : (Jvm.Cond.code ({ cls := "java/lang/String", name := "checkBoundsOffCount", desc := "(III)I" } : Jvm.MethodName) jdk_42_method_157_code (3 : Nat) (Option.some Jvm.ClassFile.FieldType.int)).before a0 Z = true := hw _ (List.mem_of_getElem? (i := 52) rfl)
theorem pd_429 : parseMethodDescriptor "(III)I" = some ⟨[.int, .int, .int], some .int⟩ := by decide +kernel
theorem w51 {Z : State} {a0 : Array Value} (hw : ∀ d ∈ tables_1, d.before a0 Z = true) : (Jvm.Cond.static ({ cls := "java/lang/String", name := "checkBoundsOffCount", desc := "(III)I" } : Jvm.MethodName)).before a0 Z = true := hw _ (List.mem_of_getElem? (i := 51) rfl)
theorem d7_17 : decode jdk_42_method_10_code 17 = .ok (.iload_n 3, 1) := by decide +kernel
theorem d7_18 : decode jdk_42_method_10_code 18 = .ok (.invokespecial 75, 3) := by decide +kernel
theorem w58 {Z : State} {a0 : Array Value} (hw : ∀ d ∈ tables_1, d.before a0 Z = true) : (Jvm.Cond.methodLink "java/lang/String" (75 : Nat) ({ cls := "java/lang/String", name := "<init>", desc := "(Ljava/nio/charset/Charset;[BII)V" } : Jvm.MethodName)).before a0 Z = true := hw _ (List.mem_of_getElem? (i := 58) rfl)
theorem w59 {Z : State} {a0 : Array Value} (hw : ∀ d ∈ tables_1, d.before a0 Z = true) : (Jvm.Cond.instanceMethod ({ cls := "java/lang/String", name := "<init>", desc := "(Ljava/nio/charset/Charset;[BII)V" } : Jvm.MethodName)).before a0 Z = true := hw _ (List.mem_of_getElem? (i := 59) rfl)
theorem w61 {Z : State} {a0 : Array Value} (hw : ∀ d ∈ tables_1, d.before a0 Z = true) : (Jvm.Cond.codeWith ({ cls := "java/lang/String", name := "<init>", desc := "(Ljava/nio/charset/Charset;[BII)V" } : Jvm.MethodName) jdk_42_method_11_code (11 : Nat) (Option.none : Option Jvm.ClassFile.FieldType) [((800 : Nat), (813 : Nat), (816 : Nat), (202 : Nat))]).before a0 Z = true := hw _ (List.mem_of_getElem? (i := 61) rfl)
theorem pd_432 : parseMethodDescriptor "(Ljava/nio/charset/Charset;[BII)V" = some ⟨[(.object "java/nio/charset/Charset"), (.array .byte), .int, .int], none⟩ := by decide +kernel
theorem d7_21 : decode jdk_42_method_10_code 21 = .ok (.return_, 1) := by decide +kernel
theorem d5_0 : decode prog_5_method_3_code 0 = .ok (.aload_n 0, 1) := by decide +kernel
theorem d5_1 : decode prog_5_method_3_code 1 = .ok (.invokevirtual 16, 3) := by decide +kernel
theorem d5_4 : decode prog_5_method_3_code 4 = .ok (.aload_n 0, 1) := by decide +kernel
theorem d5_5 : decode prog_5_method_3_code 5 = .ok (.getfield 7, 3) := by decide +kernel
theorem d5_8 : decode prog_5_method_3_code 8 = .ok (.arraylength, 1) := by decide +kernel
theorem d5_9 : decode prog_5_method_3_code 9 = .ok (.istore_n 1, 1) := by decide +kernel
theorem d5_10 : decode prog_5_method_3_code 10 = .ok (.iload_n 1, 1) := by decide +kernel
theorem d5_11 : decode prog_5_method_3_code 11 = .ok (.aload_n 0, 1) := by decide +kernel
theorem d5_12 : decode prog_5_method_3_code 12 = .ok (.getfield 13, 3) := by decide +kernel
theorem d5_15 : decode prog_5_method_3_code 15 = .ok (.arraylength, 1) := by decide +kernel
theorem d5_16 : decode prog_5_method_3_code 16 = .ok (.if_icmp .ne 54, 3) := by decide +kernel
theorem d5_19 : decode prog_5_method_3_code 19 = .ok (.iload_n 1, 1) := by decide +kernel
theorem d5_20 : decode prog_5_method_3_code 20 = .ok (.iconst 1, 1) := by decide +kernel
theorem d5_21 : decode prog_5_method_3_code 21 = .ok (.isub, 1) := by decide +kernel
theorem d5_22 : decode prog_5_method_3_code 22 = .ok (.istore_n 2, 1) := by decide +kernel
theorem d5_23 : decode prog_5_method_3_code 23 = .ok (.iload_n 2, 1) := by decide +kernel
theorem d5_24 : decode prog_5_method_3_code 24 = .ok (.ifCond .le 25, 3) := by decide +kernel
theorem d5_49 : decode prog_5_method_3_code 49 = .ok (.iload_n 2, 1) := by decide +kernel
theorem d5_50 : decode prog_5_method_3_code 50 = .ok (.ifCond .lt 20, 3) := by decide +kernel
theorem d5_70 : decode prog_5_method_3_code 70 = .ok (.new 27, 3) := by decide +kernel
theorem w36 {Z : State} {a0 : Array Value} (hw : ∀ d ∈ tables_1, d.before a0 Z = true) : (Jvm.Cond.classLink "com/example/isolate_to_replay/isolatetoreplay/command/LastLine" (27 : Nat) "java/lang/String").before a0 Z = true := hw _ (List.mem_of_getElem? (i := 36) rfl)
theorem d5_73 : decode prog_5_method_3_code 73 = .ok (.dup, 1) := by decide +kernel
theorem d5_74 : decode prog_5_method_3_code 74 = .ok (.aload_n 0, 1) := by decide +kernel
theorem d5_75 : decode prog_5_method_3_code 75 = .ok (.getfield 7, 3) := by decide +kernel
theorem d5_78 : decode prog_5_method_3_code 78 = .ok (.iconst 0, 1) := by decide +kernel
theorem d5_79 : decode prog_5_method_3_code 79 = .ok (.iload_n 1, 1) := by decide +kernel
theorem d5_80 : decode prog_5_method_3_code 80 = .ok (.getstatic 29, 3) := by decide +kernel
theorem w39 {Z : State} {a0 : Array Value} (hw : ∀ d ∈ tables_1, d.before a0 Z = true) : (Jvm.Cond.fieldLink "com/example/isolate_to_replay/isolatetoreplay/command/LastLine" (29 : Nat) "java/nio/charset/StandardCharsets" "UTF_8" "Ljava/nio/charset/Charset;").before a0 Z = true := hw _ (List.mem_of_getElem? (i := 39) rfl)
theorem d5_83 : decode prog_5_method_3_code 83 = .ok (.invokespecial 35, 3) := by decide +kernel
theorem w41 {Z : State} {a0 : Array Value} (hw : ∀ d ∈ tables_1, d.before a0 Z = true) : (Jvm.Cond.methodLink "com/example/isolate_to_replay/isolatetoreplay/command/LastLine" (35 : Nat) ({ cls := "java/lang/String", name := "<init>", desc := "([BIILjava/nio/charset/Charset;)V" } : Jvm.MethodName)).before a0 Z = true := hw _ (List.mem_of_getElem? (i := 41) rfl)
theorem w43 {Z : State} {a0 : Array Value} (hw : ∀ d ∈ tables_1, d.before a0 Z = true) : (Jvm.Cond.code ({ cls := "java/lang/String", name := "<init>", desc := "([BIILjava/nio/charset/Charset;)V" } : Jvm.MethodName) jdk_42_method_10_code (5 : Nat) (Option.none : Option Jvm.ClassFile.FieldType)).before a0 Z = true := hw _ (List.mem_of_getElem? (i := 43) rfl)
theorem pd_461 : parseMethodDescriptor "([BIILjava/nio/charset/Charset;)V" = some ⟨[(.array .byte), .int, .int, (.object "java/nio/charset/Charset")], none⟩ := by decide +kernel
theorem w42 {Z : State} {a0 : Array Value} (hw : ∀ d ∈ tables_1, d.before a0 Z = true) : (Jvm.Cond.instanceMethod ({ cls := "java/lang/String", name := "<init>", desc := "([BIILjava/nio/charset/Charset;)V" } : Jvm.MethodName)).before a0 Z = true := hw _ (List.mem_of_getElem? (i := 42) rfl)
theorem d5_86 : decode prog_5_method_3_code 86 = .ok (.areturn, 1) := by decide +kernel
theorem d5_27 : decode prog_5_method_3_code 27 = .ok (.aload_n 0, 1) := by decide +kernel
theorem d5_28 : decode prog_5_method_3_code 28 = .ok (.getfield 7, 3) := by decide +kernel
theorem d5_31 : decode prog_5_method_3_code 31 = .ok (.iload_n 2, 1) := by decide +kernel
theorem d5_32 : decode prog_5_method_3_code 32 = .ok (.baload, 1) := by decide +kernel
theorem d5_33 : decode prog_5_method_3_code 33 = .ok (.sipush 192, 3) := by decide +kernel
theorem d5_36 : decode prog_5_method_3_code 36 = .ok (.iand, 1) := by decide +kernel
theorem d5_37 : decode prog_5_method_3_code 37 = .ok (.sipush 128, 3) := by decide +kernel
theorem d5_40 : decode prog_5_method_3_code 40 = .ok (.if_icmp .ne 9, 3) := by decide +kernel
theorem d5_53 : decode prog_5_method_3_code 53 = .ok (.iload_n 2, 1) := by decide +kernel
theorem d5_54 : decode prog_5_method_3_code 54 = .ok (.aload_n 0, 1) := by decide +kernel
theorem d5_55 : decode prog_5_method_3_code 55 = .ok (.getfield 7, 3) := by decide +kernel
theorem d5_58 : decode prog_5_method_3_code 58 = .ok (.iload_n 2, 1) := by decide +kernel
theorem d5_59 : decode prog_5_method_3_code 59 = .ok (.baload, 1) := by decide +kernel
theorem d5_60 : decode prog_5_method_3_code 60 = .ok (.invokestatic 23, 3) := by decide +kernel
theorem w138 {Z : State} {a0 : Array Value} (hw : ∀ d ∈ tables_1, d.before a0 Z = true) : (Jvm.Cond.methodLink "com/example/isolate_to_replay/isolatetoreplay/command/LastLine" (23 : Nat) ({ cls := "com/example/isolate_to_replay/isolatetoreplay/command/LastLine", name := "sequenceLength", desc := "(B)I" } : Jvm.MethodName)).before a0 Z = true := hw _ (List.mem_of_getElem? (i := 138) rfl)
theorem w140 {Z : State} {a0 : Array Value} (hw : ∀ d ∈ tables_1, d.before a0 Z = true) : (Jvm.Cond.code ({ cls := "com/example/isolate_to_replay/isolatetoreplay/command/LastLine", name := "sequenceLength", desc := "(B)I" } : Jvm.MethodName) prog_5_method_5_code (1 : Nat) (Option.some Jvm.ClassFile.FieldType.int)).before a0 Z = true := hw _ (List.mem_of_getElem? (i := 140) rfl)
theorem pd_477 : parseMethodDescriptor "(B)I" = some ⟨[.byte], some .int⟩ := by decide +kernel
theorem w139 {Z : State} {a0 : Array Value} (hw : ∀ d ∈ tables_1, d.before a0 Z = true) : (Jvm.Cond.static ({ cls := "com/example/isolate_to_replay/isolatetoreplay/command/LastLine", name := "sequenceLength", desc := "(B)I" } : Jvm.MethodName)).before a0 Z = true := hw _ (List.mem_of_getElem? (i := 139) rfl)
theorem d5_63 : decode prog_5_method_3_code 63 = .ok (.iadd, 1) := by decide +kernel
theorem d5_64 : decode prog_5_method_3_code 64 = .ok (.iload_n 1, 1) := by decide +kernel
theorem d5_65 : decode prog_5_method_3_code 65 = .ok (.if_icmp .le 5, 3) := by decide +kernel
theorem own_join {Wl : List Int32} {off k : Nat} {q1 q2 : List Int32 × Nat × List Int32} {m : Nat} (hk : k < Wl.length + 1) (ho : off + Wl.length ≤ 18) (h1 : (((bufL off Wl).drop off).take k).foldl stp (List.replicate m 0, 0, List.replicate 0 0) = q1) (h2 : (((bufL off Wl).drop (off + k)).take (Wl.length - k)).foldl stp (q1.1, q1.2.1, q1.2.2) = q2) : q2 = Wl.foldl stp (List.replicate m 0, 0, []) := by
  have e1 := bufL_drop (off := off) (W := Wl) (k := 0) (j := k) (by omega)
  rw [Nat.add_zero, List.drop_zero] at e1
  rw [e1] at h1
  rw [bufL_drop (by omega)] at h2
  have e2 : (Wl.drop k).take (Wl.length - k) = Wl.drop k := List.take_of_length_le (by simp)
  rw [e2] at h2
  rw [← h2, ← h1]
  show (Wl.drop k).foldl stp ((Wl.take k).foldl stp _) = _
  rw [← List.foldl_append, List.take_append_drop]; rfl
theorem own_final {L1 S L2 F Wl rs : List Int32} {q9 q10 : Int32} {m : Nat} {fq : List Int32 × Nat × List Int32} (n1 : NoL L1) (hS : SepQ q9 S) (n2 : NoL L2) (hF : SepQ q10 F) (eW : L1 ++ S ++ L2 ++ F = Wl) (ef : fq = Wl.foldl stp (List.replicate m 0, 0, [])) (er : (endS fq).2.2 = rs) : (q9 = 0 ∧ rs = (L1 ++ L2).take (kp (L1 ++ L2) m)) ∨ (¬ q9 = 0 ∧ ((0 < kp L2 m ∧ rs = L2.take (kp L2 m)) ∨ (¬ 0 < kp L2 m ∧ rs = L1.take (kp L1 m)))) := by
  have hF' : F = [] ∨ Sep F := hF.elim (fun z => Or.inl z.2) fun z => Or.inr z.2
  have hm : (List.replicate m (0 : Int32)).length = m := List.length_replicate
  subst eW ef er
  rcases hS with ⟨h, rfl⟩ | ⟨h, hS⟩
  · refine Or.inl ⟨h, ?_⟩
    rw [List.append_nil, own_one (own_nA n1 n2) hF', hm, own_res0]
  · refine Or.inr ⟨h, ?_⟩
    rw [own_two n1 hS n2 hF', hm]
    by_cases q : 0 < kp L2 m
    · exact Or.inl ⟨q, if_pos q⟩
    · exact Or.inr ⟨q, (if_neg q).trans own_res0⟩
theorem own_rs8 {L1 L2 rs : List Int32} {q9 : Int32} {m : Nat} (g1 : Gd L1) (g2 : Gd L2) (l1 : L1.length ≤ 4) (l2 : L2.length ≤ 4) (h : (q9 = 0 ∧ rs = (L1 ++ L2).take (kp (L1 ++ L2) m)) ∨ (¬ q9 = 0 ∧ ((0 < kp L2 m ∧ rs = L2.take (kp L2 m)) ∨ (¬ 0 < kp L2 m ∧ rs = L1.take (kp L1 m))))) : rs.length < 16 ∧ Gd rs := by
  rcases h with ⟨-, rfl⟩ | ⟨-, ⟨-, rfl⟩ | ⟨-, rfl⟩⟩
  · refine ⟨?_, own_gT (own_gA g1 g2)⟩
    rw [own_resL]; have := kp_le (L1 ++ L2) m; rw [List.length_append] at this; omega
  · refine ⟨?_, own_gT g2⟩
    rw [own_resL]; have := kp_le L2 m; omega
  · refine ⟨?_, own_gT g1⟩
    rw [own_resL]; have := kp_le L1 m; omega
theorem own_ga1 {L1 L2 : List Int32} {i : Nat} (h : i < L1.length) : L1.getD i 0 = (allL (L1 ++ L2)).getD (0 + i) 0 := by
  rw [Nat.zero_add, allL_getD (by simp; omega)]
  simp [List.getD_eq_getElem?_getD, List.getElem?_append_left h]
theorem own_ga2 {L1 L2 : List Int32} {i : Nat} (h : i < L2.length) : L2.getD i 0 = (allL (L1 ++ L2)).getD (L1.length + i) 0 := by
  rw [allL_getD (by simp; omega)]
  simp only [List.getD_eq_getElem?_getD]
  rw [List.getElem?_append_right (by omega)]
  simp
theorem own_takeG {L : List Int32} {k i : Nat} (h : i < k) : (L.take k).getD i 0 = L.getD i 0 := by
  simp [List.getD_eq_getElem?_getD, List.getElem?_take, h]
theorem own_pos {n : Nat} (hn : n < 19) (h : 0 < o32 n) : 0 < n := by
  by_cases q : 0 < n
  · exact q
  · exact absurd h ((r_n16 n hn).2.2.2 q)
theorem own_npos {n : Nat} (h : ¬ 0 < o32 n) : ¬ (0 < n ∧ n < 19) := fun q => h ((r_n16 n q.2).2.2.1 q.1).1
theorem w6 {Z : State} {a0 : Array Value} (hw : ∀ d ∈ tables_1, d.before a0 Z = true) : (Jvm.Cond.constant "com/example/isolate_to_replay/isolatetoreplay/command/LastLineAcceptPinLaw" (13 : Nat) (2147483647 : Int32)).before a0 Z = true := hw _ (List.mem_of_getElem? (i := 6) rfl)
theorem w7 {Z : State} {a0 : Array Value} (hw : ∀ d ∈ tables_1, d.before a0 Z = true) : (Jvm.Cond.classLink "com/example/isolate_to_replay/isolatetoreplay/command/LastLineAcceptPinLaw" (14 : Nat) "com/example/isolate_to_replay/isolatetoreplay/command/LastLine").before a0 Z = true := hw _ (List.mem_of_getElem? (i := 7) rfl)
theorem w10 {Z : State} {a0 : Array Value} (hw : ∀ d ∈ tables_1, d.before a0 Z = true) : (Jvm.Cond.methodLink "com/example/isolate_to_replay/isolatetoreplay/command/LastLineAcceptPinLaw" (16 : Nat) ({ cls := "com/example/isolate_to_replay/isolatetoreplay/command/LastLine", name := "<init>", desc := "(I)V" } : Jvm.MethodName)).before a0 Z = true := hw _ (List.mem_of_getElem? (i := 10) rfl)
theorem w12 {Z : State} {a0 : Array Value} (hw : ∀ d ∈ tables_1, d.before a0 Z = true) : (Jvm.Cond.code ({ cls := "com/example/isolate_to_replay/isolatetoreplay/command/LastLine", name := "<init>", desc := "(I)V" } : Jvm.MethodName) prog_5_method_1_code (2 : Nat) (Option.none : Option Jvm.ClassFile.FieldType)).before a0 Z = true := hw _ (List.mem_of_getElem? (i := 12) rfl)
theorem pd_481 : parseMethodDescriptor "(I)V" = some ⟨[.int], none⟩ := by decide +kernel
theorem w11 {Z : State} {a0 : Array Value} (hw : ∀ d ∈ tables_1, d.before a0 Z = true) : (Jvm.Cond.instanceMethod ({ cls := "com/example/isolate_to_replay/isolatetoreplay/command/LastLine", name := "<init>", desc := "(I)V" } : Jvm.MethodName)).before a0 Z = true := hw _ (List.mem_of_getElem? (i := 11) rfl)
theorem w20 {Z : State} {a0 : Array Value} (hw : ∀ d ∈ tables_1, d.before a0 Z = true) : (Jvm.Cond.methodLink "com/example/isolate_to_replay/isolatetoreplay/command/LastLineAcceptPinLaw" (19 : Nat) ({ cls := "com/example/isolate_to_replay/isolatetoreplay/command/LastLine", name := "accept", desc := "([BII)V" } : Jvm.MethodName)).before a0 Z = true := hw _ (List.mem_of_getElem? (i := 20) rfl)
theorem w24 {Z : State} {a0 : Array Value} (hw : ∀ d ∈ tables_1, d.before a0 Z = true) : (Jvm.Cond.code ({ cls := "com/example/isolate_to_replay/isolatetoreplay/command/LastLine", name := "accept", desc := "([BII)V" } : Jvm.MethodName) prog_5_method_2_code (6 : Nat) (Option.none : Option Jvm.ClassFile.FieldType)).before a0 Z = true := hw _ (List.mem_of_getElem? (i := 24) rfl)
theorem pd_482 : parseMethodDescriptor "([BII)V" = some ⟨[(.array .byte), .int, .int], none⟩ := by decide +kernel
theorem w21 {Z : State} {a0 : Array Value} (hw : ∀ d ∈ tables_1, d.before a0 Z = true) : (Jvm.Cond.declares ({ cls := "com/example/isolate_to_replay/isolatetoreplay/command/LastLine", name := "accept", desc := "([BII)V" } : Jvm.MethodName)).before a0 Z = true := hw _ (List.mem_of_getElem? (i := 21) rfl)
theorem w23 {Z : State} {a0 : Array Value} (hw : ∀ d ∈ tables_1, d.before a0 Z = true) : (Jvm.Cond.selects "com/example/isolate_to_replay/isolatetoreplay/command/LastLine" ({ cls := "com/example/isolate_to_replay/isolatetoreplay/command/LastLine", name := "accept", desc := "([BII)V" } : Jvm.MethodName) ({ cls := "com/example/isolate_to_replay/isolatetoreplay/command/LastLine", name := "accept", desc := "([BII)V" } : Jvm.MethodName)).before a0 Z = true := hw _ (List.mem_of_getElem? (i := 23) rfl)
theorem w22 {Z : State} {a0 : Array Value} (hw : ∀ d ∈ tables_1, d.before a0 Z = true) : (Jvm.Cond.instanceMethod ({ cls := "com/example/isolate_to_replay/isolatetoreplay/command/LastLine", name := "accept", desc := "([BII)V" } : Jvm.MethodName)).before a0 Z = true := hw _ (List.mem_of_getElem? (i := 22) rfl)
theorem w25 {Z : State} {a0 : Array Value} (hw : ∀ d ∈ tables_1, d.before a0 Z = true) : (Jvm.Cond.methodLink "com/example/isolate_to_replay/isolatetoreplay/command/LastLineAcceptPinLaw" (23 : Nat) ({ cls := "com/example/isolate_to_replay/isolatetoreplay/command/LastLine", name := "text", desc := "()Ljava/lang/String;" } : Jvm.MethodName)).before a0 Z = true := hw _ (List.mem_of_getElem? (i := 25) rfl)
theorem w29 {Z : State} {a0 : Array Value} (hw : ∀ d ∈ tables_1, d.before a0 Z = true) : (Jvm.Cond.code ({ cls := "com/example/isolate_to_replay/isolatetoreplay/command/LastLine", name := "text", desc := "()Ljava/lang/String;" } : Jvm.MethodName) prog_5_method_3_code (3 : Nat) (Option.some (Jvm.ClassFile.FieldType.object "java/lang/String"))).before a0 Z = true := hw _ (List.mem_of_getElem? (i := 29) rfl)
theorem pd_483 : parseMethodDescriptor "()Ljava/lang/String;" = some ⟨[], some (.object "java/lang/String")⟩ := by decide +kernel
theorem w26 {Z : State} {a0 : Array Value} (hw : ∀ d ∈ tables_1, d.before a0 Z = true) : (Jvm.Cond.declares ({ cls := "com/example/isolate_to_replay/isolatetoreplay/command/LastLine", name := "text", desc := "()Ljava/lang/String;" } : Jvm.MethodName)).before a0 Z = true := hw _ (List.mem_of_getElem? (i := 26) rfl)
theorem w28 {Z : State} {a0 : Array Value} (hw : ∀ d ∈ tables_1, d.before a0 Z = true) : (Jvm.Cond.selects "com/example/isolate_to_replay/isolatetoreplay/command/LastLine" ({ cls := "com/example/isolate_to_replay/isolatetoreplay/command/LastLine", name := "text", desc := "()Ljava/lang/String;" } : Jvm.MethodName) ({ cls := "com/example/isolate_to_replay/isolatetoreplay/command/LastLine", name := "text", desc := "()Ljava/lang/String;" } : Jvm.MethodName)).before a0 Z = true := hw _ (List.mem_of_getElem? (i := 28) rfl)
theorem w27 {Z : State} {a0 : Array Value} (hw : ∀ d ∈ tables_1, d.before a0 Z = true) : (Jvm.Cond.instanceMethod ({ cls := "com/example/isolate_to_replay/isolatetoreplay/command/LastLine", name := "text", desc := "()Ljava/lang/String;" } : Jvm.MethodName)).before a0 Z = true := hw _ (List.mem_of_getElem? (i := 27) rfl)
theorem w70 {Z : State} {a0 : Array Value} (hw : ∀ d ∈ tables_1, d.before a0 Z = true) : (Jvm.Cond.methodLink "com/example/isolate_to_replay/isolatetoreplay/command/LastLineAcceptPinLaw" (27 : Nat) ({ cls := "com/example/isolate_to_replay/isolatetoreplay/command/LastLineAcceptPinLaw", name := "kept", desc := "([BIII)I" } : Jvm.MethodName)).before a0 Z = true := hw _ (List.mem_of_getElem? (i := 70) rfl)
theorem w72 {Z : State} {a0 : Array Value} (hw : ∀ d ∈ tables_1, d.before a0 Z = true) : (Jvm.Cond.code ({ cls := "com/example/isolate_to_replay/isolatetoreplay/command/LastLineAcceptPinLaw", name := "kept", desc := "([BIII)I" } : Jvm.MethodName) method_4_code (5 : Nat) (Option.some Jvm.ClassFile.FieldType.int)).before a0 Z = true := hw _ (List.mem_of_getElem? (i := 72) rfl)
theorem w2 {Z : State} {a0 : Array Value} (hw : ∀ d ∈ tables_1, d.before a0 Z = true) : (Jvm.Cond.initialized "com/example/isolate_to_replay/isolatetoreplay/command/LastLineAcceptPinLaw").before a0 Z = true := hw _ (List.mem_of_getElem? (i := 2) rfl)
theorem pd_484 : parseMethodDescriptor "([BIII)I" = some ⟨[(.array .byte), .int, .int, .int], some .int⟩ := by decide +kernel
theorem w71 {Z : State} {a0 : Array Value} (hw : ∀ d ∈ tables_1, d.before a0 Z = true) : (Jvm.Cond.static ({ cls := "com/example/isolate_to_replay/isolatetoreplay/command/LastLineAcceptPinLaw", name := "kept", desc := "([BIII)I" } : Jvm.MethodName)).before a0 Z = true := hw _ (List.mem_of_getElem? (i := 71) rfl)
theorem w77 {Z : State} {a0 : Array Value} (hw : ∀ d ∈ tables_1, d.before a0 Z = true) : (Jvm.Cond.methodLink "com/example/isolate_to_replay/isolatetoreplay/command/LastLineAcceptPinLaw" (31 : Nat) ({ cls := "com/example/isolate_to_replay/isolatetoreplay/command/LastLineAcceptPinLaw", name := "matches", desc := "(Ljava/lang/String;[BII)Z" } : Jvm.MethodName)).before a0 Z = true := hw _ (List.mem_of_getElem? (i := 77) rfl)
theorem w79 {Z : State} {a0 : Array Value} (hw : ∀ d ∈ tables_1, d.before a0 Z = true) : (Jvm.Cond.code ({ cls := "com/example/isolate_to_replay/isolatetoreplay/command/LastLineAcceptPinLaw", name := "matches", desc := "(Ljava/lang/String;[BII)Z" } : Jvm.MethodName) method_5_code (4 : Nat) (Option.some Jvm.ClassFile.FieldType.boolean)).before a0 Z = true := hw _ (List.mem_of_getElem? (i := 79) rfl)
theorem pd_485 : parseMethodDescriptor "(Ljava/lang/String;[BII)Z" = some ⟨[(.object "java/lang/String"), (.array .byte), .int, .int], some .boolean⟩ := by decide +kernel
theorem w78 {Z : State} {a0 : Array Value} (hw : ∀ d ∈ tables_1, d.before a0 Z = true) : (Jvm.Cond.static ({ cls := "com/example/isolate_to_replay/isolatetoreplay/command/LastLineAcceptPinLaw", name := "matches", desc := "(Ljava/lang/String;[BII)Z" } : Jvm.MethodName)).before a0 Z = true := hw _ (List.mem_of_getElem? (i := 78) rfl)
theorem w0 {Z : State} {a0 : Array Value} (hw : ∀ d ∈ tables_1, d.before a0 Z = true) : (Jvm.Cond.methodLink "com/example/isolate_to_replay/isolatetoreplay/command/LastLineAcceptPinLaw" (7 : Nat) ({ cls := "com/example/isolate_to_replay/isolatetoreplay/command/LastLineAcceptPinLaw", name := "letter", desc := "(J)B" } : Jvm.MethodName)).before a0 Z = true := hw _ (List.mem_of_getElem? (i := 0) rfl)
theorem w3 {Z : State} {a0 : Array Value} (hw : ∀ d ∈ tables_1, d.before a0 Z = true) : (Jvm.Cond.code ({ cls := "com/example/isolate_to_replay/isolatetoreplay/command/LastLineAcceptPinLaw", name := "letter", desc := "(J)B" } : Jvm.MethodName) method_3_code (3 : Nat) (Option.some Jvm.ClassFile.FieldType.byte)).before a0 Z = true := hw _ (List.mem_of_getElem? (i := 3) rfl)
theorem pd_486 : parseMethodDescriptor "(J)B" = some ⟨[.long], some .byte⟩ := by decide +kernel
theorem w1 {Z : State} {a0 : Array Value} (hw : ∀ d ∈ tables_1, d.before a0 Z = true) : (Jvm.Cond.static ({ cls := "com/example/isolate_to_replay/isolatetoreplay/command/LastLineAcceptPinLaw", name := "letter", desc := "(J)B" } : Jvm.MethodName)).before a0 Z = true := hw _ (List.mem_of_getElem? (i := 1) rfl)
theorem own_EL {Z : State} {a0 : Array Value} (hw : ∀ d ∈ tables_1, d.before a0 Z = true) : EW Z a0 consts_1 := (EW.cons (w63 hw) (by decide) EW.nil)
theorem own_SA {Z : State} {a0 : Array Value} (hw : ∀ d ∈ tables_1, d.before a0 Z = true) : ∀ d ∈ Bundle.stringAtoms, d.before a0 Z = true := fun d hd => hw d ((by decide +kernel : ∀ d ∈ Bundle.stringAtoms, d ∈ tables_1) d hd)
set_option maxRecDepth 65536 in
set_option maxHeartbeats 40000000 in
theorem rm_letter {l : Launch} {Z : State} {a0 : Array Value} (hw : ∀ d ∈ tables_1, d.before a0 Z = true) {lx : Int64} {cz : Int32} {fm : Value} {cu : Addr} {h0 : Heap} {n0 : Nat} (O : Old Z n0 h0) (W : Wd Z cz fm cu)  :
    Met1 l Z (⟨"com/example/isolate_to_replay/isolatetoreplay/command/LastLineAcceptPinLaw", "letter", "(J)B"⟩ : MethodName) method_3_code 3 (some .byte) ({ frames := 0, cells := 0, slots := 0, locals := 0 } : Room) #[(.long lx)] h0 n0 (fun v h => (∃ b, v = .int b ∧ 0 ≤ b.toInt ∧ b.toInt ≤ 127 ∧ b ≠ 10) ∧ h0 = h) := by
  refine met_of (L := #[.val (.long lx), .second, .unset]) (plainFor_of_name pn_18) (fun m => by first | (simp [entryFrame, mkF, argsToLocals, Value.category]; done) | rfl) ?_
  intro p e s m below meth c T C X
  change Cx p s m meth c Z "com/example/isolate_to_replay/isolatetoreplay/command/LastLineAcceptPinLaw" method_3_code 3 (some .byte) "letter" at C
  obtain ⟨lv, elv, hl0, hl7⟩ := own_let lx
  refine g_lloadN C X d1_0 (q := 1) rfl rfl ?_
  refine g_ldcJ C X (w4 hw) d1_1 (q := 4) rfl ?_
  refine g_land C X d1_4 (q := 5) rfl (z := (lx &&& (127 : Int64))) rfl ?_
  refine g_l2i C X d1_5 (q := 6) rfl (z := lv) elv ?_
  refine g_istoreN C X d1_6 (q := 7) rfl (L' := #[.val (.long lx), .second, .val (.int lv)]) rfl ?_
  refine g_iloadN C X d1_7 (q := 8) rfl rfl ?_
  refine g_bipush C X d1_8 (q := 10) rfl (z := (10 : Int32)) rfl ?_
  by_cases hc1 : lv = (10 : Int32)
  · refine g_icY C X d1_10 (by decide) (q := 19) (by decide) (teq hc1).1 ?_
    obtain rfl : lv = (10 : Int32) := hc1
    refine g_iloadN C X d1_19 (q := 20) rfl rfl ?_
    refine g_iconst C X d1_20 (q := 21) rfl (z := (1 : Int32)) rfl ?_
    refine g_iadd C X d1_21 (q := 22) rfl (z := (11 : Int32)) (by decide) ?_
    refine g_istoreN C X d1_22 (q := 23) rfl (L' := #[.val (.long lx), .second, .val (.int (11 : Int32))]) rfl ?_
    refine g_iloadN C X d1_23 (q := 24) rfl rfl ?_
    refine g_i2b C X d1_24 (q := 25) rfl (z := (11 : Int32)) (by decide) ?_
    exact g_retN C X (Or.inr (Or.inl rfl)) (z' := 11) (by decide) d1_25 (by decide) (by decide) ⟨_, rfl, ⟨_, rfl, by decide, by decide, by decide⟩, rfl⟩
  · refine g_icN C X d1_10 (q := 13) rfl (feq hc1).1 ?_
    refine g_iloadN C X d1_13 (q := 14) rfl rfl ?_
    refine g_bipush C X d1_14 (q := 16) rfl (z := (13 : Int32)) rfl ?_
    by_cases hc4 : lv = (13 : Int32)
    · refine g_icN C X d1_16 (q := 19) rfl (teq hc4).2 ?_
      obtain rfl : lv = (13 : Int32) := hc4
      refine g_iloadN C X d1_19 (q := 20) rfl rfl ?_
      refine g_iconst C X d1_20 (q := 21) rfl (z := (1 : Int32)) rfl ?_
      refine g_iadd C X d1_21 (q := 22) rfl (z := (14 : Int32)) (by decide) ?_
      refine g_istoreN C X d1_22 (q := 23) rfl (L' := #[.val (.long lx), .second, .val (.int (14 : Int32))]) rfl ?_
      refine g_iloadN C X d1_23 (q := 24) rfl rfl ?_
      refine g_i2b C X d1_24 (q := 25) rfl (z := (14 : Int32)) (by decide) ?_
      exact g_retN C X (Or.inr (Or.inl rfl)) (z' := 14) (by decide) d1_25 (by decide) (by decide) ⟨_, rfl, ⟨_, rfl, by decide, by decide, by decide⟩, rfl⟩
    · refine g_icY C X d1_16 (by decide) (q := 23) (by decide) (feq hc4).2 ?_
      refine g_iloadN C X d1_23 (q := 24) rfl rfl ?_
      refine g_i2b C X d1_24 (q := 25) rfl (z := lv) (own_i8 hl0 hl7) ?_
      exact g_retN C X (Or.inr (Or.inl rfl)) (z' := lv) (own_i8 hl0 hl7) d1_25 (by decide) (by decide) ⟨_, rfl, ⟨_, rfl, hl0, hl7, hc1⟩, rfl⟩
set_option maxRecDepth 65536 in
set_option maxHeartbeats 40000000 in
theorem rm_min {l : Launch} {Z : State} {a0 : Array Value} (hw : ∀ d ∈ tables_1, d.before a0 Z = true) {x1 x2 x3 : Int32} {cz : Int32} {fm : Value} {cu : Addr} {h0 : Heap} {n0 : Nat} (O : Old Z n0 h0) (W : Wd Z cz fm cu) (er : (if x2 < x1 then x2 else x1) = x3) :
    Met1 l Z (⟨"java/lang/Math", "min", "(II)I"⟩ : MethodName) jdk_29_method_69_code 2 (some .int) ({ frames := 0, cells := 0, slots := 0, locals := 0 } : Room) #[(.int x1), (.int x2)] h0 n0 (fun v h => v = .int x3 ∧ h0 = h) := by
  refine met_of (L := #[.val (.int x1), .val (.int x2)]) (Jvm.Free.JP.mathPlain rfl (by decide +kernel)) (fun m => by first | (simp [entryFrame, mkF, argsToLocals, Value.category]; done) | rfl) ?_
  intro p e s m below meth c T C X
  change Cx p s m meth c Z "java/lang/Math" jdk_29_method_69_code 2 (some .int) "min" at C
  refine g_iloadN C X d13_0 (q := 1) rfl rfl ?_
  refine g_iloadN C X d13_1 (q := 2) rfl rfl ?_
  by_cases hc1 : x2 < x1
  · refine g_icY C X d13_2 (by decide) (q := 9) (by decide) (tlt hc1).2.2.1 ?_
    refine g_iloadN C X d13_9 (q := 10) rfl rfl ?_
    exact g_retI C X d13_10 (by decide) (by decide) ⟨_, rfl, by rw [← er, if_pos hc1], rfl⟩
  · refine g_icN C X d13_2 (q := 5) rfl (flt hc1).2.2.1 ?_
    refine g_iloadN C X d13_5 (q := 6) rfl rfl ?_
    refine g_goto C X d13_6 (by decide) (q := 10) (by decide) ?_
    exact g_retI C X d13_10 (by decide) (by decide) ⟨_, rfl, by rw [← er, if_neg hc1], rfl⟩
set_option maxRecDepth 65536 in
set_option maxHeartbeats 40000000 in
theorem rm_copyOf {l : Launch} {Z : State} {a0 : Array Value} (hw : ∀ d ∈ tables_1, d.before a0 Z = true) {aA : Addr} {kA : ClassId} {cs : List Int32} {kN : Nat} {cz : Int32} {fm : Value} {cu : Addr} {h0 : Heap} {n0 : Nat} (O : Old Z n0 h0) (W : Wd Z cz fm cu) (E0 : Exa Z h0 aA "[B") (V0 : Arv Z h0 aA kA .byte (o32 cs.length) (bV cs) (.int 0)) (hc0 : cs.length < 19) (hk0 : kN ≤ cs.length) :
    Met1 l Z (⟨"java/util/Arrays", "copyOf", "([BI)[B"⟩ : MethodName) jdk_65_method_121_code 3 (some (.array .byte)) ({ frames := 1, cells := 1, slots := 18, locals := 18 } : Room) #[(.ref aA), (.int (o32 kN))] h0 n0 (fun v h => ∃ b kb, Keep h0 h [] ∧ v = .ref b ∧ h0.size ≤ b ∧ Exa Z h b "[B" ∧ Arv Z h b kb .byte (o32 kN) (bV (cs.take kN)) (.int 0)) := by
  refine met_of (L := #[.val (.ref aA), .val (.int (o32 kN)), .unset]) (plainFor_of_name pn_49) (fun m => by first | (simp [entryFrame, mkF, argsToLocals, Value.category]; done) | rfl) ?_
  intro p e s m below meth c T C X
  change Cx p s m meth c Z "java/util/Arrays" jdk_65_method_121_code 3 (some (.array .byte)) "copyOf" at C
  refine g_iloadN C X d17_0 (q := 1) rfl rfl ?_
  refine g_aloadN C X d17_1 (q := 2) rfl rfl rfl ?_
  refine g_alen C X V0 d17_2 (q := 3) rfl ?_
  by_cases hc1 : (o32 kN) = (o32 cs.length)
  · refine g_icN C X d17_3 (q := 6) rfl (teq hc1).2 ?_
    refine g_aloadN C X d17_6 (q := 7) rfl rfl rfl ?_
    refine g_clone C X (w109 hw) (w110 hw) (w114 hw) (w112 hw) (w113 hw) (w115 hw) V0 E0 (cap := 18) (by rw [(r_n16 _ (by omega)).2.1]; omega) (by decide) (W := 0) (by decide) (k' := 1) rfl (n' := 18) rfl (by decide) (by decide) rfl rfl d17_7 (q := 10) rfl ?_
    intro T2 h3 b4 g5 X6 E7 V8 E9
    have ge10 : n0 ≤ b4 := own_ge O g5
    have O11 := O.ext E7
    refine g_castY C X6 (w116 hw) (Ins.self E9) d17_10 (q := 13) rfl ?_
    intro T12 X13
    have ek14 : kN = cs.length := (r_lt _ (by omega) _ (by omega)).2.2 hc1
    subst ek14
    exact g_retA C X13 rfl rfl d17_13 (by decide) (by decide) ⟨_, rfl, b4, kA, ((Keep.refl h0 []).ext E7), rfl, (own_sz (Keep.refl h0 []).1 g5), E9, (by rw [List.take_length]; exact V8)⟩
  · refine g_icY C X d17_3 (by decide) (q := 14) (by decide) (feq hc1).2 ?_
    refine g_iloadN C X d17_14 (q := 15) rfl rfl ?_
    refine g_newPE C X (w5 hw) rfl (ad := "[B") rfl d17_15 (q := 17) rfl (r_n16 kN (by omega)).1 (cap := 18) (by rw [(r_n16 kN (by omega)).2.1]; omega) (by decide) (k' := 1) rfl (n' := 18) rfl (by decide) (by decide) ?_
    intro T16 h17 kA18 b15 g20 X19 E21 V22 E23
    have ge25 : n0 ≤ b15 := own_ge O g20
    have O26 := O.ext E21
    have V24 : Arv Z h17 b15 kA18 .byte (o32 kN) (bV (List.replicate kN 0)) (.int 0) := Arv.pad V22 (bV_rep kN)
    refine g_astoreN C X19 d17_17 (q := 18) rfl rfl (L' := #[.val (.ref aA), .val (.int (o32 kN)), .val (.ref b15)]) rfl ?_
    refine g_aloadN C X19 d17_18 (q := 19) rfl rfl rfl ?_
    refine g_iconst C X19 d17_19 (q := 20) rfl (z := (0 : Int32)) rfl ?_
    refine g_aloadN C X19 d17_20 (q := 21) rfl rfl rfl ?_
    refine g_iconst C X19 d17_21 (q := 22) rfl (z := (0 : Int32)) rfl ?_
    refine g_aloadN C X19 d17_22 (q := 23) rfl rfl rfl ?_
    have f27 := (V0.ext E21)
    refine g_alen C X19 f27 d17_23 (q := 24) rfl ?_
    refine g_iloadN C X19 d17_24 (q := 25) rfl rfl ?_
    refine g_callS1 C X19 (y := (⟨"java/lang/Math", "min", "(II)I"⟩ : MethodName)) (by decide) (w95 hw) (w74 hw) (w76 hw) (w75 hw) (rm_min hw (x1 := (o32 cs.length)) (x2 := (o32 kN)) (x3 := (o32 kN)) O26 W ((r_min16 _ (by omega) _ (by omega)).trans (congrArg o32 (by omega)))) (W := 4) (by decide) (by decide) (k' := 1) rfl (n' := 18) rfl (by decide) (by decide) rfl pd_45 (argsL := [(.int (o32 cs.length)), (.int (o32 kN))]) rfl (rest := [(.int (0 : Int32)), (.ref b15), (.int (0 : Int32)), (.ref aA)]) rfl rfl rfl d17_25 (q := 28) rfl ?_
    rintro _ T28 _ X29 ⟨rfl, rfl⟩
    refine g_cpB C X29 (w96 hw) (w99 hw) (w97 hw) (w98 hw) f27 V24 (by decide) (by decide) (r_n16 kN (by omega)).1 (by rw [(r_n16 kN (by omega)).2.1, (r_n16 _ (by omega)).2.1]; show 0 + _ ≤ _; omega) (by rw [(r_n16 kN (by omega)).2.1]; show 0 + _ ≤ _; omega) (by rw [(r_n16 kN (by omega)).2.1]; simp [bV]) (vd' := (bV (cs.take kN))) (own_cpT hk0 (by omega)) ge25 rfl d17_28 (q := 31) rfl (by decide) (W := 0) rfl (by decide) ?_
    intro T30 h31 X32 K33 V34
    have O35 := O26.keep K33 (allS ge25 all0)
    refine g_aloadN C X32 d17_31 (q := 32) rfl rfl rfl ?_
    exact g_retA C X32 rfl rfl d17_32 (by decide) (by decide) ⟨_, rfl, b15, kA18, (((Keep.refl h0 []).ext E21).trans K33 (allS (Or.inr (own_sz (Keep.refl h0 []).1 g20)) all0)), rfl, (own_sz (Keep.refl h0 []).1 g20), (E23.keep K33), V34⟩
set_option maxRecDepth 65536 in
set_option maxHeartbeats 40000000 in
theorem rm_endLine {l : Launch} {Z : State} {a0 : Array Value} (hw : ∀ d ∈ tables_1, d.before a0 Z = true) {o0 A B : Addr} {kA kB : ClassId} {cs ls : List Int32} {kN : Nat} {ls' : List Int32} {cz : Int32} {fm : Value} {cu : Addr} {h0 : Heap} {n0 : Nat} (O : Old Z n0 h0) (W : Wd Z cz fm cu) (R0 : LLf Z h0 o0 A B (o32 kN)) (A0 : BA Z h0 A kA cs) (B0 : BA Z h0 B kB ls) (hc0 : cs.length < 16) (hk0 : kN ≤ cs.length) (nAo : A ≠ o0) (nBo : B ≠ o0) (g0 : n0 ≤ o0) (el : (if 0 < cut cs kN then cs.take (cut cs kN) else ls) = ls') :
    Met0 l Z (⟨"com/example/isolate_to_replay/isolatetoreplay/command/LastLine", "endLine", "()V"⟩ : MethodName) prog_5_method_4_code 2 none ({ frames := 2, cells := 1, slots := 18, locals := 33 } : Room) #[(.ref o0)] h0 n0 (fun h => Keep h0 h [o0] ∧ ∃ B' kB', (B' = B ∨ h0.size ≤ B') ∧ B' ≠ o0 ∧ LLf Z h o0 A B' 0 ∧ BA Z h B' kB' ls') := by
  refine met_of (L := #[.val (.ref o0), .unset]) (plainFor_of_name pn_77) (fun m => by first | (simp [entryFrame, mkF, argsToLocals, Value.category]; done) | rfl) ?_
  intro p e s m below meth c T C X
  change Cx p s m meth c Z "com/example/isolate_to_replay/isolatetoreplay/command/LastLine" prog_5_method_4_code 2 none "endLine" at C
  refine g_aloadN C X d6_0 (q := 1) rfl rfl rfl ?_
  refine g_getF C X (host := "") (Or.inl (w34 hw)) Via.refl R0.2.2.2 d6_1 (q := 4) rfl ?_
  intro T1 X2
  refine g_istoreN C X2 d6_4 (q := 5) rfl (L' := #[.val (.ref o0), .val (.int (o32 kN))]) rfl ?_
  refine g_iloadN C X2 d6_5 (q := 6) rfl rfl ?_
  by_cases hc3 : (0 : Int32) < (o32 kN)
  · refine g_ifN C X2 d6_6 (q := 9) rfl (tlt hc3).2.2.2 ?_
    have hp4 : 0 < kN := by by_cases q : 0 < kN; exact q; exact absurd hc3 ((r_n16 kN (by omega)).2.2.2 q)
    refine g_aloadN C X2 d6_9 (q := 10) rfl rfl rfl ?_
    refine g_getF C X2 (host := "") (Or.inl (w18 hw)) Via.refl R0.2.1 d6_10 (q := 13) rfl ?_
    intro T5 X6
    refine g_iloadN C X6 d6_13 (q := 14) rfl rfl ?_
    refine g_iconst C X6 d6_14 (q := 15) rfl (z := (1 : Int32)) rfl ?_
    refine g_isub C X6 d6_15 (q := 16) rfl (z := (o32 (kN - 1))) ((r_n16 kN (by omega)).2.2.1 hp4).2.1 ?_
    refine g_baload C X6 A0.2 ⟨(r_n16 (kN - 1) (by omega)).1, own_bl (by omega) (by omega)⟩ (w := (.int (cs.getD (kN - 1) 0))) (by rw [(r_n16 (kN - 1) (by omega)).2.1, bV_getD]) d6_16 (q := 17) rfl ?_
    refine g_bipush C X6 d6_17 (q := 19) rfl (z := (13 : Int32)) rfl ?_
    by_cases hc7 : (cs.getD (kN - 1) 0) = (13 : Int32)
    · refine g_icN C X6 d6_19 (q := 22) rfl (teq hc7).2 ?_
      refine g_iinc C X6 d6_22 (q := 25) rfl rfl (z := (o32 (kN - 1))) ((r_n16 kN (by omega)).2.2.1 hp4).2.2 (L' := #[.val (.ref o0), .val (.int (o32 (kN - 1)))]) rfl ?_
      have ek8 : kN - 1 = cut cs kN := (own_cutA hp4 hc7).symm
      rw [show (o32 (kN - 1)) = o32 (cut cs kN) from congrArg o32 ek8]
      have hct := cut_le cs kN
      refine g_iloadN C X6 d6_25 (q := 26) rfl rfl ?_
      by_cases hc9 : (0 : Int32) < (o32 (cut cs kN))
      · refine g_ifN C X6 d6_26 (q := 29) rfl (tlt hc9).2.2.2 ?_
        refine g_aloadN C X6 d6_29 (q := 30) rfl rfl rfl ?_
        refine g_aloadN C X6 d6_30 (q := 31) rfl rfl rfl ?_
        refine g_getF C X6 (host := "") (Or.inl (w18 hw)) Via.refl R0.2.1 d6_31 (q := 34) rfl ?_
        intro T10 X11
        refine g_iloadN C X11 d6_34 (q := 35) rfl rfl ?_
        refine g_callS1 C X11 (y := (⟨"java/util/Arrays", "copyOf", "([BI)[B"⟩ : MethodName)) (by decide) (w91 hw) (w92 hw) (w94 hw) (w93 hw) (rm_copyOf hw (aA := A) (kA := kA) (cs := cs) (kN := (cut cs kN)) O W A0.1 A0.2 (Nat.lt_of_lt_of_le hc0 (by decide)) (Nat.le_trans (cut_le cs kN) hk0)) (W := 1) (by decide) (by decide) (k' := 1) rfl (n' := 18) rfl (by decide) (by decide) rfl pd_71 (argsL := [(.ref A), (.int (o32 (cut cs kN)))]) rfl (rest := [(.ref o0)]) rfl rfl rfl d6_35 (q := 38) rfl ?_
        rintro _ T12 h13 X14 ⟨b16, kb17, K15, rfl, sz18, E19, V20⟩
        have ge21 := Nat.le_trans (own_szO O) sz18
        have O22 := O.keep K15 all0
        have f23 := (R0.2.2.1.keep K15 nin0)
        have f24 := (R0.1.keep K15)
        refine g_putF C X14 (host := "") (Or.inl (w16 hw)) Via.refl f23 f24 (Or.inl (w17 hw)) (w8 hw) (ty := (.array .byte)) (by decide) rfl rfl d6_38 (q := 41) rfl g0 ?_
        intro T25 h27 X26 W28
        have FW28 := Fld.same W28 f23
        have O29 := O22.wr W28 g0
        refine g_aloadN C X26 d6_41 (q := 42) rfl rfl rfl ?_
        refine g_iconst C X26 d6_42 (q := 43) rfl (z := (0 : Int32)) rfl ?_
        have f30 := ((R0.2.2.2.keep K15 nin0).other W28 (Or.inr (slot_ne (Or.inl (w35 hw)) (Or.inl (w17 hw)) (by decide) (t := .int) (t' := (.array .byte)) (by decide) (by decide))))
        have f31 := (f24.wr W28)
        refine g_putF C X26 (host := "") (Or.inl (w34 hw)) Via.refl f30 f31 (Or.inl (w35 hw)) (w8 hw) (ty := .int) (by decide) rfl rfl d6_43 (q := 46) rfl g0 ?_
        intro T32 h34 X33 W35
        have FW35 := Fld.same W35 f30
        have O36 := O29.wr W35 g0
        have hp0 : 0 < cut cs kN := by by_cases q : 0 < cut cs kN; exact q; exact absurd hc9 ((r_n16 _ (by omega)).2.2.2 q)
        obtain rfl : ls' = cs.take (cut cs kN) := el.symm.trans (if_pos hp0)
        have hlen : (cs.take (cut cs kN)).length = cut cs kN := by rw [List.length_take]; omega
        exact g_retV C X33 d6_46 (by decide) (by decide) ⟨rfl, ((((Keep.refl h0 [o0]).trans K15 all0).wr W28 (Or.inl (List.mem_of_getElem? (i := 0) rfl))).wr W35 (Or.inl (List.mem_of_getElem? (i := 0) rfl))), b16, kb17, Or.inr (Nat.le_trans (Keep.refl h0 [o0]).1 sz18), (Ne.symm (Nat.ne_of_lt (Nat.lt_of_lt_of_le R0.1.lt sz18))), ⟨(f31.wr W35), (((R0.2.1.keep K15 nin0).other W28 (Or.inr (slot_ne (Or.inr (w19 hw)) (Or.inl (w17 hw)) (by decide) (t := (.array .byte)) (t' := (.array .byte)) (by decide) (by decide)))).other W35 (Or.inr (slot_ne (Or.inr (w19 hw)) (Or.inl (w35 hw)) (by decide) (t := (.array .byte)) (t' := .int) (by decide) (by decide)))), (FW28.other W35 (Or.inr (slot_ne (Or.inl (w17 hw)) (Or.inl (w35 hw)) (by decide) (t := (.array .byte)) (t' := .int) (by decide) (by decide)))), FW35⟩, ⟨((E19.wr W28).wr W35), by rw [hlen]; exact ((V20.other W28 (Ne.symm (Nat.ne_of_lt (Nat.lt_of_lt_of_le R0.1.lt sz18)))).other W35 (Ne.symm (Nat.ne_of_lt (Nat.lt_of_lt_of_le R0.1.lt sz18))))⟩⟩
      · refine g_ifY C X6 d6_26 (by decide) (q := 41) (by decide) (flt hc9).2.2.2 ?_
        refine g_aloadN C X6 d6_41 (q := 42) rfl rfl rfl ?_
        refine g_iconst C X6 d6_42 (q := 43) rfl (z := (0 : Int32)) rfl ?_
        refine g_putF C X6 (host := "") (Or.inl (w34 hw)) Via.refl R0.2.2.2 R0.1 (Or.inl (w35 hw)) (w8 hw) (ty := .int) (by decide) rfl rfl d6_43 (q := 46) rfl g0 ?_
        intro T37 h39 X38 W40
        have FW40 := Fld.same W40 R0.2.2.2
        have O41 := O.wr W40 g0
        obtain rfl : ls' = ls := el.symm.trans (if_neg fun q => absurd ((r_n16 _ (by omega)).2.2.1 q).1 hc9)
        exact g_retV C X38 d6_46 (by decide) (by decide) ⟨rfl, ((Keep.refl h0 [o0]).wr W40 (Or.inl (List.mem_of_getElem? (i := 0) rfl))), B, kB, Or.inl rfl, nBo, ⟨(R0.1.wr W40), (R0.2.1.other W40 (Or.inr (slot_ne (Or.inr (w19 hw)) (Or.inl (w35 hw)) (by decide) (t := (.array .byte)) (t' := .int) (by decide) (by decide)))), (R0.2.2.1.other W40 (Or.inr (slot_ne (Or.inl (w17 hw)) (Or.inl (w35 hw)) (by decide) (t := (.array .byte)) (t' := .int) (by decide) (by decide)))), FW40⟩, ⟨(B0.1.wr W40), (B0.2.other W40 nBo)⟩⟩
    · refine g_icY C X6 d6_19 (by decide) (q := 25) (by decide) (feq hc7).2 ?_
      have ek42 : kN = cut cs kN := (own_cutB (Or.inr hc7)).symm
      rw [show (o32 kN) = o32 (cut cs kN) from congrArg o32 ek42]
      have hct := cut_le cs kN
      refine g_iloadN C X6 d6_25 (q := 26) rfl rfl ?_
      by_cases hc43 : (0 : Int32) < (o32 (cut cs kN))
      · refine g_ifN C X6 d6_26 (q := 29) rfl (tlt hc43).2.2.2 ?_
        refine g_aloadN C X6 d6_29 (q := 30) rfl rfl rfl ?_
        refine g_aloadN C X6 d6_30 (q := 31) rfl rfl rfl ?_
        refine g_getF C X6 (host := "") (Or.inl (w18 hw)) Via.refl R0.2.1 d6_31 (q := 34) rfl ?_
        intro T44 X45
        refine g_iloadN C X45 d6_34 (q := 35) rfl rfl ?_
        refine g_callS1 C X45 (y := (⟨"java/util/Arrays", "copyOf", "([BI)[B"⟩ : MethodName)) (by decide) (w91 hw) (w92 hw) (w94 hw) (w93 hw) (rm_copyOf hw (aA := A) (kA := kA) (cs := cs) (kN := (cut cs kN)) O W A0.1 A0.2 (Nat.lt_of_lt_of_le hc0 (by decide)) (Nat.le_trans (cut_le cs kN) hk0)) (W := 1) (by decide) (by decide) (k' := 1) rfl (n' := 18) rfl (by decide) (by decide) rfl pd_71 (argsL := [(.ref A), (.int (o32 (cut cs kN)))]) rfl (rest := [(.ref o0)]) rfl rfl rfl d6_35 (q := 38) rfl ?_
        rintro _ T46 h47 X48 ⟨b50, kb51, K49, rfl, sz52, E53, V54⟩
        have ge55 := Nat.le_trans (own_szO O) sz52
        have O56 := O.keep K49 all0
        have f57 := (R0.2.2.1.keep K49 nin0)
        have f58 := (R0.1.keep K49)
        refine g_putF C X48 (host := "") (Or.inl (w16 hw)) Via.refl f57 f58 (Or.inl (w17 hw)) (w8 hw) (ty := (.array .byte)) (by decide) rfl rfl d6_38 (q := 41) rfl g0 ?_
        intro T59 h61 X60 W62
        have FW62 := Fld.same W62 f57
        have O63 := O56.wr W62 g0
        refine g_aloadN C X60 d6_41 (q := 42) rfl rfl rfl ?_
        refine g_iconst C X60 d6_42 (q := 43) rfl (z := (0 : Int32)) rfl ?_
        have f64 := ((R0.2.2.2.keep K49 nin0).other W62 (Or.inr (slot_ne (Or.inl (w35 hw)) (Or.inl (w17 hw)) (by decide) (t := .int) (t' := (.array .byte)) (by decide) (by decide))))
        have f65 := (f58.wr W62)
        refine g_putF C X60 (host := "") (Or.inl (w34 hw)) Via.refl f64 f65 (Or.inl (w35 hw)) (w8 hw) (ty := .int) (by decide) rfl rfl d6_43 (q := 46) rfl g0 ?_
        intro T66 h68 X67 W69
        have FW69 := Fld.same W69 f64
        have O70 := O63.wr W69 g0
        have hp0 : 0 < cut cs kN := by by_cases q : 0 < cut cs kN; exact q; exact absurd hc43 ((r_n16 _ (by omega)).2.2.2 q)
        obtain rfl : ls' = cs.take (cut cs kN) := el.symm.trans (if_pos hp0)
        have hlen : (cs.take (cut cs kN)).length = cut cs kN := by rw [List.length_take]; omega
        exact g_retV C X67 d6_46 (by decide) (by decide) ⟨rfl, ((((Keep.refl h0 [o0]).trans K49 all0).wr W62 (Or.inl (List.mem_of_getElem? (i := 0) rfl))).wr W69 (Or.inl (List.mem_of_getElem? (i := 0) rfl))), b50, kb51, Or.inr (Nat.le_trans (Keep.refl h0 [o0]).1 sz52), (Ne.symm (Nat.ne_of_lt (Nat.lt_of_lt_of_le R0.1.lt sz52))), ⟨(f65.wr W69), (((R0.2.1.keep K49 nin0).other W62 (Or.inr (slot_ne (Or.inr (w19 hw)) (Or.inl (w17 hw)) (by decide) (t := (.array .byte)) (t' := (.array .byte)) (by decide) (by decide)))).other W69 (Or.inr (slot_ne (Or.inr (w19 hw)) (Or.inl (w35 hw)) (by decide) (t := (.array .byte)) (t' := .int) (by decide) (by decide)))), (FW62.other W69 (Or.inr (slot_ne (Or.inl (w17 hw)) (Or.inl (w35 hw)) (by decide) (t := (.array .byte)) (t' := .int) (by decide) (by decide)))), FW69⟩, ⟨((E53.wr W62).wr W69), by rw [hlen]; exact ((V54.other W62 (Ne.symm (Nat.ne_of_lt (Nat.lt_of_lt_of_le R0.1.lt sz52)))).other W69 (Ne.symm (Nat.ne_of_lt (Nat.lt_of_lt_of_le R0.1.lt sz52))))⟩⟩
      · refine g_ifY C X6 d6_26 (by decide) (q := 41) (by decide) (flt hc43).2.2.2 ?_
        refine g_aloadN C X6 d6_41 (q := 42) rfl rfl rfl ?_
        refine g_iconst C X6 d6_42 (q := 43) rfl (z := (0 : Int32)) rfl ?_
        refine g_putF C X6 (host := "") (Or.inl (w34 hw)) Via.refl R0.2.2.2 R0.1 (Or.inl (w35 hw)) (w8 hw) (ty := .int) (by decide) rfl rfl d6_43 (q := 46) rfl g0 ?_
        intro T71 h73 X72 W74
        have FW74 := Fld.same W74 R0.2.2.2
        have O75 := O.wr W74 g0
        obtain rfl : ls' = ls := el.symm.trans (if_neg fun q => absurd ((r_n16 _ (by omega)).2.2.1 q).1 hc43)
        exact g_retV C X72 d6_46 (by decide) (by decide) ⟨rfl, ((Keep.refl h0 [o0]).wr W74 (Or.inl (List.mem_of_getElem? (i := 0) rfl))), B, kB, Or.inl rfl, nBo, ⟨(R0.1.wr W74), (R0.2.1.other W74 (Or.inr (slot_ne (Or.inr (w19 hw)) (Or.inl (w35 hw)) (by decide) (t := (.array .byte)) (t' := .int) (by decide) (by decide)))), (R0.2.2.1.other W74 (Or.inr (slot_ne (Or.inl (w17 hw)) (Or.inl (w35 hw)) (by decide) (t := (.array .byte)) (t' := .int) (by decide) (by decide)))), FW74⟩, ⟨(B0.1.wr W74), (B0.2.other W74 nBo)⟩⟩
  · refine g_ifY C X2 d6_6 (by decide) (q := 25) (by decide) (flt hc3).2.2.2 ?_
    have ek76 : kN = cut cs kN := (own_cutB (Or.inl fun z => absurd ((r_n16 kN (by omega)).2.2.1 z).1 hc3)).symm
    rw [show (o32 kN) = o32 (cut cs kN) from congrArg o32 ek76]
    have hct := cut_le cs kN
    refine g_iloadN C X2 d6_25 (q := 26) rfl rfl ?_
    by_cases hc77 : (0 : Int32) < (o32 (cut cs kN))
    · refine g_ifN C X2 d6_26 (q := 29) rfl (tlt hc77).2.2.2 ?_
      refine g_aloadN C X2 d6_29 (q := 30) rfl rfl rfl ?_
      refine g_aloadN C X2 d6_30 (q := 31) rfl rfl rfl ?_
      refine g_getF C X2 (host := "") (Or.inl (w18 hw)) Via.refl R0.2.1 d6_31 (q := 34) rfl ?_
      intro T78 X79
      refine g_iloadN C X79 d6_34 (q := 35) rfl rfl ?_
      refine g_callS1 C X79 (y := (⟨"java/util/Arrays", "copyOf", "([BI)[B"⟩ : MethodName)) (by decide) (w91 hw) (w92 hw) (w94 hw) (w93 hw) (rm_copyOf hw (aA := A) (kA := kA) (cs := cs) (kN := (cut cs kN)) O W A0.1 A0.2 (Nat.lt_of_lt_of_le hc0 (by decide)) (Nat.le_trans (cut_le cs kN) hk0)) (W := 1) (by decide) (by decide) (k' := 1) rfl (n' := 18) rfl (by decide) (by decide) rfl pd_71 (argsL := [(.ref A), (.int (o32 (cut cs kN)))]) rfl (rest := [(.ref o0)]) rfl rfl rfl d6_35 (q := 38) rfl ?_
      rintro _ T80 h81 X82 ⟨b84, kb85, K83, rfl, sz86, E87, V88⟩
      have ge89 := Nat.le_trans (own_szO O) sz86
      have O90 := O.keep K83 all0
      have f91 := (R0.2.2.1.keep K83 nin0)
      have f92 := (R0.1.keep K83)
      refine g_putF C X82 (host := "") (Or.inl (w16 hw)) Via.refl f91 f92 (Or.inl (w17 hw)) (w8 hw) (ty := (.array .byte)) (by decide) rfl rfl d6_38 (q := 41) rfl g0 ?_
      intro T93 h95 X94 W96
      have FW96 := Fld.same W96 f91
      have O97 := O90.wr W96 g0
      refine g_aloadN C X94 d6_41 (q := 42) rfl rfl rfl ?_
      refine g_iconst C X94 d6_42 (q := 43) rfl (z := (0 : Int32)) rfl ?_
      have f98 := ((R0.2.2.2.keep K83 nin0).other W96 (Or.inr (slot_ne (Or.inl (w35 hw)) (Or.inl (w17 hw)) (by decide) (t := .int) (t' := (.array .byte)) (by decide) (by decide))))
      have f99 := (f92.wr W96)
      refine g_putF C X94 (host := "") (Or.inl (w34 hw)) Via.refl f98 f99 (Or.inl (w35 hw)) (w8 hw) (ty := .int) (by decide) rfl rfl d6_43 (q := 46) rfl g0 ?_
      intro T100 h102 X101 W103
      have FW103 := Fld.same W103 f98
      have O104 := O97.wr W103 g0
      have hp0 : 0 < cut cs kN := by by_cases q : 0 < cut cs kN; exact q; exact absurd hc77 ((r_n16 _ (by omega)).2.2.2 q)
      obtain rfl : ls' = cs.take (cut cs kN) := el.symm.trans (if_pos hp0)
      have hlen : (cs.take (cut cs kN)).length = cut cs kN := by rw [List.length_take]; omega
      exact g_retV C X101 d6_46 (by decide) (by decide) ⟨rfl, ((((Keep.refl h0 [o0]).trans K83 all0).wr W96 (Or.inl (List.mem_of_getElem? (i := 0) rfl))).wr W103 (Or.inl (List.mem_of_getElem? (i := 0) rfl))), b84, kb85, Or.inr (Nat.le_trans (Keep.refl h0 [o0]).1 sz86), (Ne.symm (Nat.ne_of_lt (Nat.lt_of_lt_of_le R0.1.lt sz86))), ⟨(f99.wr W103), (((R0.2.1.keep K83 nin0).other W96 (Or.inr (slot_ne (Or.inr (w19 hw)) (Or.inl (w17 hw)) (by decide) (t := (.array .byte)) (t' := (.array .byte)) (by decide) (by decide)))).other W103 (Or.inr (slot_ne (Or.inr (w19 hw)) (Or.inl (w35 hw)) (by decide) (t := (.array .byte)) (t' := .int) (by decide) (by decide)))), (FW96.other W103 (Or.inr (slot_ne (Or.inl (w17 hw)) (Or.inl (w35 hw)) (by decide) (t := (.array .byte)) (t' := .int) (by decide) (by decide)))), FW103⟩, ⟨((E87.wr W96).wr W103), by rw [hlen]; exact ((V88.other W96 (Ne.symm (Nat.ne_of_lt (Nat.lt_of_lt_of_le R0.1.lt sz86)))).other W103 (Ne.symm (Nat.ne_of_lt (Nat.lt_of_lt_of_le R0.1.lt sz86))))⟩⟩
    · refine g_ifY C X2 d6_26 (by decide) (q := 41) (by decide) (flt hc77).2.2.2 ?_
      refine g_aloadN C X2 d6_41 (q := 42) rfl rfl rfl ?_
      refine g_iconst C X2 d6_42 (q := 43) rfl (z := (0 : Int32)) rfl ?_
      refine g_putF C X2 (host := "") (Or.inl (w34 hw)) Via.refl R0.2.2.2 R0.1 (Or.inl (w35 hw)) (w8 hw) (ty := .int) (by decide) rfl rfl d6_43 (q := 46) rfl g0 ?_
      intro T105 h107 X106 W108
      have FW108 := Fld.same W108 R0.2.2.2
      have O109 := O.wr W108 g0
      obtain rfl : ls' = ls := el.symm.trans (if_neg fun q => absurd ((r_n16 _ (by omega)).2.2.1 q).1 hc77)
      exact g_retV C X106 d6_46 (by decide) (by decide) ⟨rfl, ((Keep.refl h0 [o0]).wr W108 (Or.inl (List.mem_of_getElem? (i := 0) rfl))), B, kB, Or.inl rfl, nBo, ⟨(R0.1.wr W108), (R0.2.1.other W108 (Or.inr (slot_ne (Or.inr (w19 hw)) (Or.inl (w35 hw)) (by decide) (t := (.array .byte)) (t' := .int) (by decide) (by decide)))), (R0.2.2.1.other W108 (Or.inr (slot_ne (Or.inl (w17 hw)) (Or.inl (w35 hw)) (by decide) (t := (.array .byte)) (t' := .int) (by decide) (by decide)))), FW108⟩, ⟨(B0.1.wr W108), (B0.2.other W108 nBo)⟩⟩
set_option maxRecDepth 65536 in
set_option maxHeartbeats 40000000 in
theorem rm_init {l : Launch} {Z : State} {a0 : Array Value} (hw : ∀ d ∈ tables_1, d.before a0 Z = true) {o0 : Addr} {mN : Nat} {cz : Int32} {fm : Value} {cu : Addr} {h0 : Heap} {n0 : Nat} (O : Old Z n0 h0) (W : Wd Z cz fm cu) (E0 : Exa Z h0 o0 "com/example/isolate_to_replay/isolatetoreplay/command/LastLine") (Fcurrent : Fld Z h0 o0 "com/example/isolate_to_replay/isolatetoreplay/command/LastLine" "current" "[B" .null) (Flast : Fld Z h0 o0 "com/example/isolate_to_replay/isolatetoreplay/command/LastLine" "last" "[B" .null) (FcurrentLength : Fld Z h0 o0 "com/example/isolate_to_replay/isolatetoreplay/command/LastLine" "currentLength" "I" (.int 0)) (g0 : n0 ≤ o0) (m5 : mN < 16) :
    Met0 l Z (⟨"com/example/isolate_to_replay/isolatetoreplay/command/LastLine", "<init>", "(I)V"⟩ : MethodName) prog_5_method_1_code 2 none ({ frames := 1, cells := 2, slots := 30, locals := 12 } : Room) #[(.ref o0), (.int (o32 mN))] h0 n0 (fun h => Keep h0 h [o0] ∧ ∃ A B kA kB, h0.size ≤ A ∧ h0.size ≤ B ∧ A ≠ B ∧ A ≠ o0 ∧ B ≠ o0 ∧ LLf Z h o0 A B 0 ∧ BA Z h A kA (List.replicate mN 0) ∧ BA Z h B kB (List.replicate 0 0)) := by
  refine met_of (L := #[.val (.ref o0), .val (.int (o32 mN))]) (plainFor_of_name pn_77) (fun m => by first | (simp [entryFrame, mkF, argsToLocals, Value.category]; done) | rfl) ?_
  intro p e s m below meth c T C X
  change Cx p s m meth c Z "com/example/isolate_to_replay/isolatetoreplay/command/LastLine" prog_5_method_1_code 2 none "<init>" at C
  refine g_aloadN C X d2_0 (q := 1) rfl rfl rfl ?_
  refine g_initO C X (w13 hw) (w14 hw) (w15 hw) rfl d2_1 (q := 4) rfl (by decide) (by decide) ?_
  intro T1 X2
  refine g_aloadN C X2 d2_4 (q := 5) rfl rfl rfl ?_
  refine g_iconst C X2 d2_5 (q := 6) rfl (z := (0 : Int32)) rfl ?_
  refine g_newPE C X2 (w5 hw) rfl (ad := "[B") rfl d2_6 (q := 8) rfl (by decide) (cap := 15) (by decide) (by decide) (k' := 1) rfl (n' := 15) rfl (by decide) (by decide) ?_
  intro T4 h5 kA6 b3 g8 X7 E9 V10 E11
  have ge13 : n0 ≤ b3 := own_ge O g8
  have O14 := O.ext E9
  have V12 : Arv Z h5 b3 kA6 .byte (o32 0) (bV (List.replicate 0 0)) (.int 0) := Arv.pad V10 (bV_rep 0)
  have f15 := (Flast.ext E9)
  have f16 := (E0.ext E9)
  refine g_putF C X7 (host := "") (Or.inl (w16 hw)) Via.refl f15 f16 (Or.inl (w17 hw)) (w8 hw) (ty := (.array .byte)) (by decide) rfl rfl d2_8 (q := 11) rfl g0 ?_
  intro T17 h19 X18 W20
  have FW20 := Fld.same W20 f15
  have O21 := O14.wr W20 g0
  refine g_aloadN C X18 d2_11 (q := 12) rfl rfl rfl ?_
  refine g_iloadN C X18 d2_12 (q := 13) rfl rfl ?_
  refine g_newPE C X18 (w5 hw) rfl (ad := "[B") rfl d2_13 (q := 15) rfl (r_n16 mN (by omega)).1 (cap := 15) (by rw [(r_n16 mN (by omega)).2.1]; omega) (by decide) (k' := 2) rfl (n' := 30) rfl (by decide) (by decide) ?_
  intro T23 h24 kA25 b22 g27 X26 E28 V29 E30
  have ge32 : n0 ≤ b22 := own_ge O21 g27
  have O33 := O21.ext E28
  have V31 : Arv Z h24 b22 kA25 .byte (o32 mN) (bV (List.replicate mN 0)) (.int 0) := Arv.pad V29 (bV_rep mN)
  have f34 := (((Fcurrent.ext E9).other W20 (Or.inr (slot_ne (Or.inr (w19 hw)) (Or.inl (w17 hw)) (by decide) (t := (.array .byte)) (t' := (.array .byte)) (by decide) (by decide)))).ext E28)
  have f35 := ((f16.wr W20).ext E28)
  refine g_putF C X26 (host := "") (Or.inl (w18 hw)) Via.refl f34 f35 (Or.inr ⟨(w19 hw), rfl, rfl⟩) (w8 hw) (ty := (.array .byte)) (by decide) rfl rfl d2_15 (q := 18) rfl g0 ?_
  intro T36 h38 X37 W39
  have FW39 := Fld.same W39 f34
  have O40 := O33.wr W39 g0
  exact g_retV C X37 d2_18 (by decide) (by decide) ⟨rfl, (((((Keep.refl h0 [o0]).ext E9).wr W20 (Or.inl (List.mem_of_getElem? (i := 0) rfl))).ext E28).wr W39 (Or.inl (List.mem_of_getElem? (i := 0) rfl))), b22, b3, kA25, kA6, (own_sz (((Keep.refl h0 [o0]).ext E9).wr W20 (Or.inl (List.mem_of_getElem? (i := 0) rfl))).1 g27), (own_sz (Keep.refl h0 [o0]).1 g8), (Ne.symm (own_ne (Nat.lt_of_lt_of_le V12.lt (Nat.le_of_eq (Wr.size W20).symm)) g27)), Ne.symm (own_ne (Nat.lt_of_lt_of_le E0.lt (Nat.le_trans E9.1 (Nat.le_of_eq (Wr.size W20).symm))) g27), Ne.symm (own_ne E0.lt g8), ⟨(f35.wr W39), FW39, ((FW20.ext E28).other W39 (Or.inr (slot_ne (Or.inl (w17 hw)) (Or.inr (w19 hw)) (by decide) (t := (.array .byte)) (t' := (.array .byte)) (by decide) (by decide)))), ((((FcurrentLength.ext E9).other W20 (Or.inr (slot_ne (Or.inl (w35 hw)) (Or.inl (w17 hw)) (by decide) (t := .int) (t' := (.array .byte)) (by decide) (by decide)))).ext E28).other W39 (Or.inr (slot_ne (Or.inl (w35 hw)) (Or.inr (w19 hw)) (by decide) (t := .int) (t' := (.array .byte)) (by decide) (by decide))))⟩, ⟨(E30.wr W39), by rw [List.length_replicate]; exact (V31.other W39 (Ne.symm (own_ne (Nat.lt_of_lt_of_le E0.lt (Nat.le_trans E9.1 (Nat.le_of_eq (Wr.size W20).symm))) g27)))⟩, ⟨(((E11.wr W20).ext E28).wr W39), (((V12.other W20 (Ne.symm (own_ne E0.lt g8))).ext E28).other W39 (Ne.symm (own_ne E0.lt g8)))⟩⟩
set_option maxRecDepth 65536 in
set_option maxHeartbeats 40000000 in
theorem rm_kept {l : Launch} {Z : State} {a0 : Array Value} (hw : ∀ d ∈ tables_1, d.before a0 Z = true) {aL : Addr} {kL : ClassId} {al Lx : List Int32} {sN lN mN : Nat} {cz : Int32} {fm : Value} {cu : Addr} {h0 : Heap} {n0 : Nat} (O : Old Z n0 h0) (W : Wd Z cz fm cu) (V0 : Arv Z h0 aL kL .byte 8 (bV al) (.int 0)) (hlx : Lx.length = lN) (h8 : sN + lN ≤ 8) (h16 : mN < 16) (hal : ∀ i, i < lN → Lx.getD i 0 = al.getD (sN + i) 0) :
    Met1 l Z (⟨"com/example/isolate_to_replay/isolatetoreplay/command/LastLineAcceptPinLaw", "kept", "([BIII)I"⟩ : MethodName) method_4_code 5 (some .int) ({ frames := 1, cells := 0, slots := 0, locals := 13 } : Room) #[(.ref aL), (.int (o32 sN)), (.int (o32 lN)), (.int (o32 mN))] h0 n0 (fun v h => v = .int (o32 (kp Lx mN)) ∧ h0 = h) := by
  refine met_of (L := #[.val (.ref aL), .val (.int (o32 sN)), .val (.int (o32 lN)), .val (.int (o32 mN)), .unset]) (plainFor_of_name pn_18) (fun m => by first | (simp [entryFrame, mkF, argsToLocals, Value.category]; done) | rfl) ?_
  intro p e s m below meth c T C X
  change Cx p s m meth c Z "com/example/isolate_to_replay/isolatetoreplay/command/LastLineAcceptPinLaw" method_4_code 5 (some .int) "kept" at C
  refine g_iloadN C X d12_0 (q := 1) rfl rfl ?_
  refine g_iloadN C X d12_1 (q := 2) rfl rfl ?_
  refine g_callS1 C X (y := (⟨"java/lang/Math", "min", "(II)I"⟩ : MethodName)) (by decide) (w73 hw) (w74 hw) (w76 hw) (w75 hw) (rm_min hw (x1 := (o32 mN)) (x2 := (o32 lN)) (x3 := (o32 (min mN lN))) O W (r_min16 mN (by omega) lN (by omega))) (W := 0) (by decide) (by decide) (k' := 0) rfl (n' := 0) rfl (by decide) (by decide) rfl pd_45 (argsL := [(.int (o32 mN)), (.int (o32 lN))]) rfl (rest := []) rfl rfl rfl d12_2 (q := 5) rfl ?_
  rintro _ T1 _ X2 ⟨rfl, rfl⟩
  refine g_istore C X2 d12_5 (q := 7) rfl (L' := #[.val (.ref aL), .val (.int (o32 sN)), .val (.int (o32 lN)), .val (.int (o32 mN)), .val (.int (o32 (min mN lN)))]) rfl ?_
  refine g_iload C X2 d12_7 (q := 9) rfl rfl ?_
  by_cases hc3 : (0 : Int32) < (o32 (min mN lN))
  · refine g_ifN C X2 d12_9 (q := 12) rfl (tlt hc3).2.2.2 ?_
    have hp4 : 0 < min mN lN := by by_cases q : 0 < min mN lN; exact q; exact absurd hc3 ((r_n16 _ (by omega)).2.2.2 q)
    refine g_aloadN C X2 d12_12 (q := 13) rfl rfl rfl ?_
    refine g_iloadN C X2 d12_13 (q := 14) rfl rfl ?_
    refine g_iload C X2 d12_14 (q := 16) rfl rfl ?_
    refine g_iadd C X2 d12_16 (q := 17) rfl (z := (o32 (sN + (min mN lN)))) (r_add sN (by omega) _ (by omega)) ?_
    refine g_iconst C X2 d12_17 (q := 18) rfl (z := (1 : Int32)) rfl ?_
    refine g_isub C X2 d12_18 (q := 19) rfl (z := (o32 (sN + min mN lN - 1))) ((r_n16 (sN + min mN lN) (by omega)).2.2.1 (by omega)).2.1 ?_
    refine g_baload C X2 V0 ⟨(r_n16 (sN + min mN lN - 1) (by omega)).1, own_bl (b := 8) (by omega) (by decide)⟩ (w := (.int (al.getD (sN + min mN lN - 1) 0))) (by rw [(r_n16 (sN + min mN lN - 1) (by omega)).2.1, bV_getD]) d12_19 (q := 20) rfl ?_
    refine g_bipush C X2 d12_20 (q := 22) rfl (z := (13 : Int32)) rfl ?_
    by_cases hc5 : (al.getD (sN + min mN lN - 1) 0) = (13 : Int32)
    · refine g_icN C X2 d12_22 (q := 25) rfl (teq hc5).2 ?_
      refine g_iinc C X2 d12_25 (q := 28) rfl rfl (z := (o32 (min mN lN - 1))) ((r_n16 (min mN lN) (by omega)).2.2.1 hp4).2.2 (L' := #[.val (.ref aL), .val (.int (o32 sN)), .val (.int (o32 lN)), .val (.int (o32 mN)), .val (.int (o32 (min mN lN - 1)))]) rfl ?_
      refine g_iload C X2 d12_28 (q := 30) rfl rfl ?_
      have ek : kp Lx mN = min mN lN - 1 := by unfold kp; rw [hlx]; exact own_cutA hp4 ((hal _ (by omega)).trans (by rw [show sN + (min mN lN - 1) = sN + min mN lN - 1 by omega]; exact hc5))
      exact g_retI C X2 d12_30 (by decide) (by decide) ⟨_, rfl, by rw [ek], rfl⟩
    · refine g_icY C X2 d12_22 (by decide) (q := 28) (by decide) (feq hc5).2 ?_
      refine g_iload C X2 d12_28 (q := 30) rfl rfl ?_
      have ek : kp Lx mN = min mN lN := by unfold kp; rw [hlx]; exact own_cutB (Or.inr fun z => hc5 ((show al.getD (sN + min mN lN - 1) 0 = _ by rw [show sN + min mN lN - 1 = sN + (min mN lN - 1) by omega]; exact (hal _ (by omega)).symm).trans z))
      exact g_retI C X2 d12_30 (by decide) (by decide) ⟨_, rfl, by rw [ek], rfl⟩
  · refine g_ifY C X2 d12_9 (by decide) (q := 28) (by decide) (flt hc3).2.2.2 ?_
    refine g_iload C X2 d12_28 (q := 30) rfl rfl ?_
    have ek : kp Lx mN = min mN lN := by unfold kp; rw [hlx]; exact own_cutB (Or.inl fun z => absurd ((r_n16 _ (by omega)).2.2.1 z).1 hc3)
    exact g_retI C X2 d12_30 (by decide) (by decide) ⟨_, rfl, by rw [ek], rfl⟩
set_option maxRecDepth 65536 in
set_option maxHeartbeats 40000000 in
theorem rm_accL {l : Launch} {Z : State} {a0 : Array Value} (hw : ∀ d ∈ tables_1, d.before a0 Z = true) {o0 A dB : Addr} {kA kD : ClassId} {bl : List Int32} {fq : List Int32 × Nat × List Int32} {oN lN : Nat} {cz : Int32} {fm : Value} {cu : Addr} {h0 : Heap} {n0 : Nat} {B0x : Addr} {p : Program} {e : Env} {s : State} {m : MethodId} {below : List Frame} {meth : Method} {c : Code} {args : Array Value} (W : Wd Z cz fm cu) (hbl : bl.length = 18) (hgd : Gd bl) (hol : oN + lN ≤ 18) (nAo : A ≠ o0) (nDA : dB ≠ A) (nDo : dB ≠ o0) (g0 : n0 ≤ o0) (gA : n0 ≤ A) :
    ∀ (r iN : Nat), iN + r = oN + lN → ∀ {B : Addr} {kB : ClassId} {cs ls : List Int32} {kN jN : Nat} {T : State} {h : Heap} {x5 : Slot}, Cx p s m meth c Z "com/example/isolate_to_replay/isolatetoreplay/command/LastLine" prog_5_method_2_code 6 none "accept" → St p l e ({ frames := 3, cells := 4, slots := 72, locals := 50 } : Room) s m args below meth c n0 T h jN (18 * jN) → Old Z n0 h → LLf Z h o0 A B (o32 kN) → BA Z h A kA cs → BA Z h B kB ls → Arv Z h dB kD .byte 18 (bV bl) (.int 0) → cs.length < 16 → kN ≤ cs.length → B ≠ o0 → A ≠ B → Keep h0 h [o0, A] → (B = B0x ∨ h0.size ≤ B) → (x5 = .unset ∨ ∃ w, x5 = .val (.int w)) → ((bl.drop iN).take r).foldl stp (cs, kN, ls) = fq → jN + ((bl.drop iN).take r).count 10 ≤ 4 →
      Goes p e below (FinN (fun v h => v = none ∧ (Keep h0 h [o0, A] ∧ ∃ B' kB', (B' = B0x ∨ h0.size ≤ B') ∧ B' ≠ o0 ∧ A ≠ B' ∧ LLf Z h o0 A B' (o32 fq.2.1) ∧ BA Z h A kA fq.1 ∧ BA Z h B' kB' fq.2.2)) s n0 4 72) (T.setTop (mkF m 3 #[.val (.ref o0), .val (.ref dB), .val (.int (o32 oN)), .val (.int (o32 lN)), .val (.int (o32 iN)), x5] [])) := by
  intro r
  induction r with
  | zero =>
    intro iN hiN B kB cs ls kN jN T h x5 C X O R0 A0 B0 D0 hc0 hk0 nBo nAB K0 hqB hx5 hfold hk4
    obtain rfl : iN = oN + lN := by omega
    have hge : ¬ o32 (oN + lN) < o32 (oN + lN) := Int32.lt_irrefl
    refine g_iload C X d4_3 (q := 5) rfl rfl ?_
    refine g_iloadN C X d4_5 (q := 6) rfl rfl ?_
    refine g_iloadN C X d4_6 (q := 7) rfl rfl ?_
    refine g_iadd C X d4_7 (q := 8) rfl (z := (o32 (oN + lN))) (r_add oN (by omega) lN (by omega)) ?_
    refine g_icY C X d4_8 (by decide) (q := 67) (by decide) (flt hge).2.1 ?_
    obtain rfl : (cs, kN, ls) = fq := by simpa using hfold
    exact g_retV C X d4_67 (by show jN ≤ 4; omega) (by show 18 * jN ≤ 72; omega) ⟨rfl, K0, B, kB, hqB, nBo, nAB, ⟨R0.1, R0.2.1, R0.2.2.1, R0.2.2.2⟩, ⟨A0.1, A0.2⟩, ⟨B0.1, B0.2⟩⟩
  | succ r ih =>
    intro iN hiN B kB cs ls kN jN T h x5 C X O R0 A0 B0 D0 hc0 hk0 nBo nAB K0 hqB hx5 hfold hk4
    have hlt : o32 iN < o32 (oN + lN) := own_bl (by omega) (by omega)
    rw [own_dt (by omega)] at hfold hk4
    rw [List.foldl_cons] at hfold
    have hcn := own_cnt hk4
    refine g_iload C X d4_3 (q := 5) rfl rfl ?_
    refine g_iloadN C X d4_5 (q := 6) rfl rfl ?_
    refine g_iloadN C X d4_6 (q := 7) rfl rfl ?_
    refine g_iadd C X d4_7 (q := 8) rfl (z := (o32 (oN + lN))) (r_add oN (by omega) lN (by omega)) ?_
    refine g_icN C X d4_8 (q := 11) rfl (tlt hlt).2.1 ?_
    refine g_aloadN C X d4_11 (q := 12) rfl rfl rfl ?_
    refine g_iload C X d4_12 (q := 14) rfl rfl ?_
    refine g_baload C X D0 ⟨(r_n16 iN (by omega)).1, own_bl (b := 18) (by omega) (by decide)⟩ (w := (.int (bl.getD iN 0))) (by rw [(r_n16 iN (by omega)).2.1, bV_getD]) d4_14 (q := 15) rfl ?_
    refine g_istore C X d4_15 (q := 17) rfl (L' := #[.val (.ref o0), .val (.ref dB), .val (.int (o32 oN)), .val (.int (o32 lN)), .val (.int (o32 iN)), .val (.int (bl.getD iN 0))]) (own_sl5 hx5) ?_
    refine g_iload C X d4_17 (q := 19) rfl rfl ?_
    refine g_bipush C X d4_19 (q := 21) rfl (z := (10 : Int32)) rfl ?_
    by_cases hc1 : (bl.getD iN 0) = (10 : Int32)
    · refine g_icN C X d4_21 (q := 24) rfl (teq hc1).2 ?_
      refine g_aloadN C X d4_24 (q := 25) rfl rfl rfl ?_
      refine g_callP0 C X (y := (⟨"com/example/isolate_to_replay/isolatetoreplay/command/LastLine", "endLine", "()V"⟩ : MethodName)) (a := o0) (by decide) (w30 hw) (sel_priv (w8 hw) (w31 hw) (w32 hw) (by decide)) (w31 hw) (w32 hw) R0.1 (w33 hw) (w9 hw) (rm_endLine hw (o0 := o0) (A := A) (B := B) (kA := kA) (kB := kB) (cs := cs) (ls := ls) (kN := kN) (ls' := (endS (cs, kN, ls)).2.2) O W ⟨R0.1, R0.2.1, R0.2.2.1, R0.2.2.2⟩ ⟨A0.1, A0.2⟩ ⟨B0.1, B0.2⟩ hc0 hk0 nAo nBo g0 rfl) (W := 0) (by decide) (by decide) (k' := jN + 1) rfl (n' := 18 * (jN + 1)) (by show 18 * jN + 18 = _; omega) (by have := hcn.1 hc1; show jN + 1 ≤ 4; omega) (by have := hcn.1 hc1; show 18 * (jN + 1) ≤ 72; omega) rfl pd_122 (argsL := []) rfl (rest := []) rfl rfl rfl d4_25 (q := 28) rfl ?_
      rintro T2 h3 X4 ⟨K5, B6, kB7, q8, nB9, R10, BB11⟩
      have nAB12 := own_neA nAB A0.2.lt q8
      have q13 : B6 = B0x ∨ h0.size ≤ B6 := q8.elim (fun z => z ▸ hqB) fun z => Or.inr (Nat.le_trans K0.1 z)
      have O14 := O.keep K5 (allS g0 all0)
      refine g_goto C X4 d4_28 (by decide) (q := 61) (by decide) ?_
      refine g_iinc C X4 d4_61 (q := 64) rfl rfl (z := (o32 (iN + 1))) (r_add iN (by omega) 1 (by decide)) (L' := #[.val (.ref o0), .val (.ref dB), .val (.int (o32 oN)), .val (.int (o32 lN)), .val (.int (o32 (iN + 1))), .val (.int (bl.getD iN 0))]) rfl ?_
      refine g_goto C X4 d4_64 (by decide) (q := 3) (by decide) ?_
      exact ih (iN + 1) (by omega) C X4 O14 ⟨R10.1, R10.2.1, R10.2.2.1, R10.2.2.2⟩ ⟨(A0.1.keep K5), (A0.2.keep K5 (ninS nAo nin0))⟩ ⟨BB11.1, BB11.2⟩ (D0.keep K5 (ninS nDo nin0)) hc0 (Nat.zero_le _) nB9 nAB12 (K0.trans K5 (allS (Or.inl (List.mem_of_getElem? (i := 0) rfl)) all0)) q13 (Or.inr ⟨_, rfl⟩) (by rw [(stp10 hc1)] at hfold; exact hfold) (hcn.1 hc1)
    · refine g_icY C X d4_21 (by decide) (q := 31) (by decide) (feq hc1).2 ?_
      refine g_aloadN C X d4_31 (q := 32) rfl rfl rfl ?_
      refine g_getF C X (host := "") (Or.inl (w34 hw)) Via.refl R0.2.2.2 d4_32 (q := 35) rfl ?_
      intro T15 X16
      refine g_aloadN C X16 d4_35 (q := 36) rfl rfl rfl ?_
      refine g_getF C X16 (host := "") (Or.inl (w18 hw)) Via.refl R0.2.1 d4_36 (q := 39) rfl ?_
      intro T17 X18
      refine g_alen C X18 A0.2 d4_39 (q := 40) rfl ?_
      by_cases hc19 : (o32 kN) < (o32 cs.length)
      · refine g_icN C X18 d4_40 (q := 43) rfl (tlt hc19).2.1 ?_
        have hlk : kN < cs.length := (r_lt kN (by omega) _ (by omega)).1 hc19
        refine g_aloadN C X18 d4_43 (q := 44) rfl rfl rfl ?_
        refine g_getF C X18 (host := "") (Or.inl (w18 hw)) Via.refl R0.2.1 d4_44 (q := 47) rfl ?_
        intro T20 X21
        refine g_aloadN C X21 d4_47 (q := 48) rfl rfl rfl ?_
        refine g_dup C X21 d4_48 (q := 49) rfl rfl ?_
        refine g_getF C X21 (host := "") (Or.inl (w34 hw)) Via.refl R0.2.2.2 d4_49 (q := 52) rfl ?_
        intro T22 X23
        refine g_dupX1 C X23 d4_52 (q := 53) rfl rfl rfl ?_
        refine g_iconst C X23 d4_53 (q := 54) rfl (z := (1 : Int32)) rfl ?_
        refine g_iadd C X23 d4_54 (q := 55) rfl (z := (o32 (kN + 1))) (r_add kN (by omega) 1 (by decide)) ?_
        refine g_putF C X23 (host := "") (Or.inl (w34 hw)) Via.refl R0.2.2.2 R0.1 (Or.inl (w35 hw)) (w8 hw) (ty := .int) (by decide) rfl rfl d4_55 (q := 58) rfl g0 ?_
        intro T24 h26 X25 W27
        have FW27 := Fld.same W27 R0.2.2.2
        have O28 := O.wr W27 g0
        refine g_iload C X25 d4_58 (q := 60) rfl rfl ?_
        have f29 := (A0.2.other W27 nAo)
        refine g_bastore C X25 f29 ⟨(r_n16 kN (by omega)).1, own_bl (by omega) (by omega)⟩ (r_n16 kN (by omega)).2.1 (by simp [bV]; omega) (vs' := bV (cs.set kN (bl.getD iN 0))) (own_bset (own_gd hgd iN).1 (own_gd hgd iN).2) gA d4_60 (q := 61) rfl ?_
        intro T30 h31 X32 W33 V34
        have f35 := (A0.1.wr W27)
        have O36 := O28.wr W33 gA
        refine g_iinc C X32 d4_61 (q := 64) rfl rfl (z := (o32 (iN + 1))) (r_add iN (by omega) 1 (by decide)) (L' := #[.val (.ref o0), .val (.ref dB), .val (.int (o32 oN)), .val (.int (o32 lN)), .val (.int (o32 (iN + 1))), .val (.int (bl.getD iN 0))]) rfl ?_
        refine g_goto C X32 d4_64 (by decide) (q := 3) (by decide) ?_
        exact ih (iN + 1) (by omega) C X32 O36 ⟨((R0.1.wr W27).wr W33), ((R0.2.1.other W27 (Or.inr (slot_ne (Or.inr (w19 hw)) (Or.inl (w35 hw)) (by decide) (t := (.array .byte)) (t' := .int) (by decide) (by decide)))).other W33 (Or.inl (Ne.symm nAo))), ((R0.2.2.1.other W27 (Or.inr (slot_ne (Or.inl (w17 hw)) (Or.inl (w35 hw)) (by decide) (t := (.array .byte)) (t' := .int) (by decide) (by decide)))).other W33 (Or.inl (Ne.symm nAo))), (FW27.other W33 (Or.inl (Ne.symm nAo)))⟩ ⟨(f35.wr W33), (by rw [List.length_set]; exact V34)⟩ ⟨((B0.1.wr W27).wr W33), ((B0.2.other W27 nBo).other W33 (Ne.symm nAB))⟩ ((D0.other W27 nDo).other W33 nDA) (by rw [List.length_set]; exact hc0) (by rw [List.length_set]; omega) nBo nAB ((K0.wr W27 (Or.inl (List.mem_of_getElem? (i := 0) rfl))).wr W33 (Or.inl (List.mem_of_getElem? (i := 1) rfl))) hqB (Or.inr ⟨_, rfl⟩) (by rw [(stpS hc1 hlk)] at hfold; exact hfold) hcn.2
      · refine g_icY C X18 d4_40 (by decide) (q := 61) (by decide) (flt hc19).2.1 ?_
        refine g_iinc C X18 d4_61 (q := 64) rfl rfl (z := (o32 (iN + 1))) (r_add iN (by omega) 1 (by decide)) (L' := #[.val (.ref o0), .val (.ref dB), .val (.int (o32 oN)), .val (.int (o32 lN)), .val (.int (o32 (iN + 1))), .val (.int (bl.getD iN 0))]) rfl ?_
        refine g_goto C X18 d4_64 (by decide) (q := 3) (by decide) ?_
        exact ih (iN + 1) (by omega) C X18 O ⟨R0.1, R0.2.1, R0.2.2.1, R0.2.2.2⟩ ⟨A0.1, A0.2⟩ ⟨B0.1, B0.2⟩ D0 hc0 hk0 nBo nAB K0 hqB (Or.inr ⟨_, rfl⟩) (by rw [(stpN hc1 ((r_lt kN (by omega) _ (by omega)).2.1 hc19))] at hfold; exact hfold) hcn.2
set_option maxRecDepth 65536 in
set_option maxHeartbeats 40000000 in
theorem rm_accept {l : Launch} {Z : State} {a0 : Array Value} (hw : ∀ d ∈ tables_1, d.before a0 Z = true) {o0 A dB : Addr} {kA kD : ClassId} {bl : List Int32} {fq : List Int32 × Nat × List Int32} {oN lN : Nat} {B : Addr} {kB : ClassId} {cs ls : List Int32} {kN : Nat} {cz : Int32} {fm : Value} {cu : Addr} {h0 : Heap} {n0 : Nat} (O : Old Z n0 h0) (W : Wd Z cz fm cu) (hbl : bl.length = 18) (hgd : Gd bl) (hol : oN + lN ≤ 18) (nAo : A ≠ o0) (nDA : dB ≠ A) (nDo : dB ≠ o0) (g0 : n0 ≤ o0) (gA : n0 ≤ A) (R0 : LLf Z h0 o0 A B (o32 kN)) (A0 : BA Z h0 A kA cs) (B0 : BA Z h0 B kB ls) (D0 : Arv Z h0 dB kD .byte 18 (bV bl) (.int 0)) (hc0 : cs.length < 16) (hk0 : kN ≤ cs.length) (nBo : B ≠ o0) (nAB : A ≠ B) (hfold : ((bl.drop oN).take lN).foldl stp (cs, kN, ls) = fq) (hcnt : ((bl.drop oN).take lN).count 10 ≤ 4) :
    Met0 l Z (⟨"com/example/isolate_to_replay/isolatetoreplay/command/LastLine", "accept", "([BII)V"⟩ : MethodName) prog_5_method_2_code 6 none ({ frames := 3, cells := 4, slots := 72, locals := 50 } : Room) #[(.ref o0), (.ref dB), (.int (o32 oN)), (.int (o32 lN))] h0 n0 (fun h => Keep h0 h [o0, A] ∧ ∃ B' kB', (B' = B ∨ h0.size ≤ B') ∧ B' ≠ o0 ∧ A ≠ B' ∧ LLf Z h o0 A B' (o32 fq.2.1) ∧ BA Z h A kA fq.1 ∧ BA Z h B' kB' fq.2.2) := by
  refine met_of (L := #[.val (.ref o0), .val (.ref dB), .val (.int (o32 oN)), .val (.int (o32 lN)), .unset, .unset]) (plainFor_of_name pn_77) (fun m => by first | (simp [entryFrame, mkF, argsToLocals, Value.category]; done) | rfl) ?_
  intro p e s m below meth c T C X
  change Cx p s m meth c Z "com/example/isolate_to_replay/isolatetoreplay/command/LastLine" prog_5_method_2_code 6 none "accept" at C
  refine g_iloadN C X d4_0 (q := 1) rfl rfl ?_
  refine g_istore C X d4_1 (q := 3) rfl (L' := #[.val (.ref o0), .val (.ref dB), .val (.int (o32 oN)), .val (.int (o32 lN)), .val (.int (o32 oN)), .unset]) rfl ?_
  exact rm_accL hw W hbl hgd hol nAo nDA nDo g0 gA lN oN rfl C X O R0 A0 B0 D0 hc0 hk0 nBo nAB (Keep.refl _ _) (Or.inl rfl) (Or.inl rfl) hfold (by simpa using hcnt)
set_option maxRecDepth 65536 in
set_option maxHeartbeats 40000000 in
theorem rm_seq {l : Launch} {Z : State} {a0 : Array Value} (hw : ∀ d ∈ tables_1, d.before a0 Z = true) {bb : Int32} {cz : Int32} {fm : Value} {cu : Addr} {h0 : Heap} {n0 : Nat} (O : Old Z n0 h0) (W : Wd Z cz fm cu) (hb0 : 0 ≤ bb.toInt) (hb7 : bb.toInt ≤ 127) :
    Met1 l Z (⟨"com/example/isolate_to_replay/isolatetoreplay/command/LastLine", "sequenceLength", "(B)I"⟩ : MethodName) prog_5_method_5_code 1 (some .int) ({ frames := 0, cells := 0, slots := 0, locals := 0 } : Room) #[(.int bb)] h0 n0 (fun v h => v = .int 1 ∧ h0 = h) := by
  refine met_of (L := #[.val (.int bb)]) (plainFor_of_name pn_77) (fun m => by first | (simp [entryFrame, mkF, argsToLocals, Value.category]; done) | rfl) ?_
  intro p e s m below meth c T C X
  change Cx p s m meth c Z "com/example/isolate_to_replay/isolatetoreplay/command/LastLine" prog_5_method_5_code 1 (some .int) "sequenceLength" at C
  refine g_iloadN C X d25_0 (q := 1) rfl rfl ?_
  refine g_sipush C X d25_1 (q := 4) rfl (z := (224 : Int32)) rfl ?_
  refine g_iand C X d25_4 (q := 5) rfl (z := (bb &&& (224 : Int32))) rfl ?_
  refine g_sipush C X d25_5 (q := 8) rfl (z := (192 : Int32)) rfl ?_
  refine g_icY C X d25_8 (by decide) (q := 13) (by decide) (feq (r_seq hb0 hb7).1).2 ?_
  refine g_iloadN C X d25_13 (q := 14) rfl rfl ?_
  refine g_sipush C X d25_14 (q := 17) rfl (z := (240 : Int32)) rfl ?_
  refine g_iand C X d25_17 (q := 18) rfl (z := (bb &&& (240 : Int32))) rfl ?_
  refine g_sipush C X d25_18 (q := 21) rfl (z := (224 : Int32)) rfl ?_
  refine g_icY C X d25_21 (by decide) (q := 26) (by decide) (feq (r_seq hb0 hb7).2.1).2 ?_
  refine g_iloadN C X d25_26 (q := 27) rfl rfl ?_
  refine g_sipush C X d25_27 (q := 30) rfl (z := (248 : Int32)) rfl ?_
  refine g_iand C X d25_30 (q := 31) rfl (z := (bb &&& (248 : Int32))) rfl ?_
  refine g_sipush C X d25_31 (q := 34) rfl (z := (240 : Int32)) rfl ?_
  refine g_icY C X d25_34 (by decide) (q := 39) (by decide) (feq (r_seq hb0 hb7).2.2.1).2 ?_
  refine g_iconst C X d25_39 (q := 40) rfl (z := (1 : Int32)) rfl ?_
  exact g_retI C X d25_40 (by decide) (by decide) ⟨_, rfl, rfl, rfl⟩
set_option maxRecDepth 65536 in
set_option maxHeartbeats 40000000 in
theorem rm_coder {l : Launch} {Z : State} {a0 : Array Value} (hw : ∀ d ∈ tables_1, d.before a0 Z = true) {x0 tb : Addr} {kb : ClassId} {cs : List Int32} {cz : Int32} {fm : Value} {cu : Addr} {h0 : Heap} {n0 : Nat} (O : Old Z n0 h0) (W : Wd Z cz fm cu) (S0 : Sx Z h0 x0 tb kb cs) (h19 : cs.length < 19) (hgd : Gd cs) :
    Met1 l Z (⟨"java/lang/String", "coder", "()B"⟩ : MethodName) jdk_42_method_152_code 1 (some .byte) ({ frames := 0, cells := 0, slots := 0, locals := 0 } : Room) #[(.ref x0)] h0 n0 (fun v h => v = .int 0 ∧ h0 = h) := by
  refine met_of (L := #[.val (.ref x0)]) (plainFor_of_name pn_168) (fun m => by first | (simp [entryFrame, mkF, argsToLocals, Value.category]; done) | rfl) ?_
  intro p e s m below meth c T C X
  change Cx p s m meth c Z "java/lang/String" jdk_42_method_152_code 1 (some .byte) "coder" at C
  refine g_getS C X (host := "") (Or.inl (w90 hw)) Via.refl (W.1.ext O.2) d16_0 (q := 3) rfl ?_
  intro T1 X2
  refine g_ifN C X2 d16_3 (q := 6) rfl (feq W.2.1).1 ?_
  refine g_aloadN C X2 d16_6 (q := 7) rfl rfl rfl ?_
  refine g_getF C X2 (host := "") (Or.inl (w69 hw)) Via.refl S0.2.2.1 d16_7 (q := 10) rfl ?_
  intro T3 X4
  refine g_goto C X4 d16_10 (by decide) (q := 14) (by decide) ?_
  exact g_retN C X4 (Or.inr (Or.inl rfl)) (z' := 0) (by decide) d16_14 (by decide) (by decide) ⟨_, rfl, rfl, rfl⟩
set_option maxRecDepth 65536 in
set_option maxHeartbeats 40000000 in
theorem rm_slen {l : Launch} {Z : State} {a0 : Array Value} (hw : ∀ d ∈ tables_1, d.before a0 Z = true) {x0 tb : Addr} {kb : ClassId} {cs : List Int32} {cz : Int32} {fm : Value} {cu : Addr} {h0 : Heap} {n0 : Nat} (O : Old Z n0 h0) (W : Wd Z cz fm cu) (S0 : Sx Z h0 x0 tb kb cs) (h19 : cs.length < 19) (hgd : Gd cs) :
    Met1 l Z (⟨"java/lang/String", "length", "()I"⟩ : MethodName) jdk_42_method_54_code 1 (some .int) ({ frames := 1, cells := 0, slots := 0, locals := 13 } : Room) #[(.ref x0)] h0 n0 (fun v h => v = .int (o32 cs.length) ∧ h0 = h) := by
  refine met_of (L := #[.val (.ref x0)]) (plainFor_of_name pn_168) (fun m => by first | (simp [entryFrame, mkF, argsToLocals, Value.category]; done) | rfl) ?_
  intro p e s m below meth c T C X
  change Cx p s m meth c Z "java/lang/String" jdk_42_method_54_code 1 (some .int) "length" at C
  refine g_aloadN C X d15_0 (q := 1) rfl rfl rfl ?_
  refine g_getF C X (host := "") (Or.inl (w68 hw)) Via.refl S0.2.1 d15_1 (q := 4) rfl ?_
  intro T1 X2
  refine g_alen C X2 S0.2.2.2 d15_4 (q := 5) rfl ?_
  refine g_aloadN C X2 d15_5 (q := 6) rfl rfl rfl ?_
  refine g_callV1 C X2 (y := (⟨"java/lang/String", "coder", "()B"⟩ : MethodName)) (z := (⟨"java/lang/String", "coder", "()B"⟩ : MethodName)) (a := x0) (by decide) (w85 hw) (w86 hw) (w88 hw) (w87 hw) (nf_sel (w88 hw)) S0.1 (w89 hw) (w38 hw) (rm_coder hw O W ⟨S0.1, S0.2.1, S0.2.2.1, S0.2.2.2⟩ h19 hgd) (W := 1) (by decide) (by decide) (k' := 0) rfl (n' := 0) rfl (by decide) (by decide) rfl pd_174 (argsL := []) rfl (rest := [(.int (o32 cs.length))]) rfl rfl rfl d15_6 (q := 9) rfl ?_
  rintro _ T3 _ X4 ⟨rfl, rfl⟩
  refine g_ishr C X4 d15_9 (q := 10) rfl (z := (o32 cs.length)) (r_shr _ h19) ?_
  exact g_retI C X4 d15_10 (by decide) (by decide) ⟨_, rfl, rfl, rfl⟩
set_option maxRecDepth 65536 in
set_option maxHeartbeats 40000000 in
theorem rm_isL {l : Launch} {Z : State} {a0 : Array Value} (hw : ∀ d ∈ tables_1, d.before a0 Z = true) {x0 tb : Addr} {kb : ClassId} {cs : List Int32} {cz : Int32} {fm : Value} {cu : Addr} {h0 : Heap} {n0 : Nat} (O : Old Z n0 h0) (W : Wd Z cz fm cu) (S0 : Sx Z h0 x0 tb kb cs) (h19 : cs.length < 19) (hgd : Gd cs) :
    Met1 l Z (⟨"java/lang/String", "isLatin1", "()Z"⟩ : MethodName) jdk_42_method_154_code 1 (some .boolean) ({ frames := 0, cells := 0, slots := 0, locals := 0 } : Room) #[(.ref x0)] h0 n0 (fun v h => v = .int 1 ∧ h0 = h) := by
  refine met_of (L := #[.val (.ref x0)]) (plainFor_of_name pn_168) (fun m => by first | (simp [entryFrame, mkF, argsToLocals, Value.category]; done) | rfl) ?_
  intro p e s m below meth c T C X
  change Cx p s m meth c Z "java/lang/String" jdk_42_method_154_code 1 (some .boolean) "isLatin1" at C
  refine g_getS C X (host := "") (Or.inl (w90 hw)) Via.refl (W.1.ext O.2) d21_0 (q := 3) rfl ?_
  intro T1 X2
  refine g_ifN C X2 d21_3 (q := 6) rfl (feq W.2.1).1 ?_
  refine g_aloadN C X2 d21_6 (q := 7) rfl rfl rfl ?_
  refine g_getF C X2 (host := "") (Or.inl (w69 hw)) Via.refl S0.2.2.1 d21_7 (q := 10) rfl ?_
  intro T3 X4
  refine g_ifN C X4 d21_10 (q := 13) rfl (by decide) ?_
  refine g_iconst C X4 d21_13 (q := 14) rfl (z := (1 : Int32)) rfl ?_
  refine g_goto C X4 d21_14 (by decide) (q := 18) (by decide) ?_
  exact g_retN C X4 (Or.inl rfl) (z' := 1) (by decide) d21_18 (by decide) (by decide) ⟨_, rfl, rfl, rfl⟩
set_option maxRecDepth 65536 in
set_option maxHeartbeats 40000000 in
theorem rm_pck {l : Launch} {Z : State} {a0 : Array Value} (hw : ∀ d ∈ tables_1, d.before a0 Z = true) {x1 x2 : Int32} {f1 : Value} {cz : Int32} {fm : Value} {cu : Addr} {h0 : Heap} {n0 : Nat} (O : Old Z n0 h0) (W : Wd Z cz fm cu) (hi0 : ¬ x1 < 0) (hi1 : x1 < x2) (hf1 : f1.isRef = true) :
    Met1 l Z (⟨"jdk/internal/util/Preconditions", "checkIndex", "(IILjava/util/function/BiFunction;)I"⟩ : MethodName) jdk_41_method_11_code 3 (some .int) ({ frames := 0, cells := 0, slots := 0, locals := 0 } : Room) #[(.int x1), (.int x2), f1] h0 n0 (fun v h => v = .int x1 ∧ h0 = h) := by
  refine met_of (L := #[.val (.int x1), .val (.int x2), .val f1]) (plainFor_of_name pn_192) (fun m => by (cases f1 <;> first | exact absurd hf1 Bool.false_ne_true | skip) <;> first | (simp [entryFrame, mkF, argsToLocals, Value.category]; done) | rfl) ?_
  intro p e s m below meth c T C X
  change Cx p s m meth c Z "jdk/internal/util/Preconditions" jdk_41_method_11_code 3 (some .int) "checkIndex" at C
  refine g_iloadN C X d24_0 (q := 1) rfl rfl ?_
  refine g_ifN C X d24_1 (q := 4) rfl (flt hi0).1 ?_
  refine g_iloadN C X d24_4 (q := 5) rfl rfl ?_
  refine g_iloadN C X d24_5 (q := 6) rfl rfl ?_
  refine g_icY C X d24_6 (by decide) (q := 16) (by decide) (tlt hi1).1 ?_
  refine g_iloadN C X d24_16 (q := 17) rfl rfl ?_
  exact g_retI C X d24_17 (by decide) (by decide) ⟨_, rfl, rfl, rfl⟩
set_option maxRecDepth 65536 in
set_option maxHeartbeats 40000000 in
theorem rm_sck {l : Launch} {Z : State} {a0 : Array Value} (hw : ∀ d ∈ tables_1, d.before a0 Z = true) {x1 x2 : Int32} {cz : Int32} {fm : Value} {cu : Addr} {h0 : Heap} {n0 : Nat} (O : Old Z n0 h0) (W : Wd Z cz fm cu) (hi0 : ¬ x1 < 0) (hi1 : x1 < x2) :
    Met0 l Z (⟨"java/lang/String", "checkIndex", "(II)V"⟩ : MethodName) jdk_42_method_155_code 2 none ({ frames := 1, cells := 0, slots := 0, locals := 14 } : Room) #[(.int x1), (.int x2)] h0 n0 (fun h => h0 = h) := by
  refine met_of (L := #[.val (.int x1), .val (.int x2)]) (plainFor_of_name pn_168) (fun m => by first | (simp [entryFrame, mkF, argsToLocals, Value.category]; done) | rfl) ?_
  intro p e s m below meth c T C X
  change Cx p s m meth c Z "java/lang/String" jdk_42_method_155_code 2 none "checkIndex" at C
  refine g_iloadN C X d23_0 (q := 1) rfl rfl ?_
  refine g_iloadN C X d23_1 (q := 2) rfl rfl ?_
  refine g_getS C X (host := "") (Or.inl (w53 hw)) Via.refl (W.2.2.1.ext O.2) d23_2 (q := 5) rfl ?_
  intro T1 X2
  refine g_callS1 C X2 (y := (⟨"jdk/internal/util/Preconditions", "checkIndex", "(IILjava/util/function/BiFunction;)I"⟩ : MethodName)) (by decide) (w135 hw) (w136 hw) (w137 hw) (w54 hw) (rm_pck hw O W hi0 hi1 W.2.2.2.1) (W := 0) (by decide) (by decide) (k' := 0) rfl (n' := 0) rfl (by decide) (by decide) rfl pd_197 (argsL := [(.int x1), (.int x2), fm]) rfl (rest := []) rfl rfl rfl d23_5 (q := 8) rfl ?_
  rintro _ T3 _ X4 ⟨rfl, rfl⟩
  refine g_pop C X4 d23_8 (q := 9) rfl rfl ?_
  exact g_retV C X4 d23_9 (by decide) (by decide) ⟨rfl, rfl⟩
set_option maxRecDepth 65536 in
set_option maxHeartbeats 40000000 in
theorem rm_lch {l : Launch} {Z : State} {a0 : Array Value} (hw : ∀ d ∈ tables_1, d.before a0 Z = true) {tb : Addr} {kb : ClassId} {cs : List Int32} {iN : Nat} {cz : Int32} {fm : Value} {cu : Addr} {h0 : Heap} {n0 : Nat} (O : Old Z n0 h0) (W : Wd Z cz fm cu) (V0 : Arv Z h0 tb kb .byte (o32 cs.length) (bV cs) (.int 0)) (h19 : cs.length < 19) (hgd : Gd cs) (hil : iN < cs.length) :
    Met1 l Z (⟨"java/lang/StringLatin1", "charAt", "([BI)C"⟩ : MethodName) jdk_43_method_2_code 2 (some .char) ({ frames := 2, cells := 0, slots := 0, locals := 27 } : Room) #[(.ref tb), (.int (o32 iN))] h0 n0 (fun v h => v = .int (cs.getD iN 0) ∧ h0 = h) := by
  refine met_of (L := #[.val (.ref tb), .val (.int (o32 iN))]) (plainFor_of_name pn_212) (fun m => by first | (simp [entryFrame, mkF, argsToLocals, Value.category]; done) | rfl) ?_
  intro p e s m below meth c T C X
  change Cx p s m meth c Z "java/lang/StringLatin1" jdk_43_method_2_code 2 (some .char) "charAt" at C
  refine g_iloadN C X d22_0 (q := 1) rfl rfl ?_
  refine g_aloadN C X d22_1 (q := 2) rfl rfl rfl ?_
  refine g_alen C X V0 d22_2 (q := 3) rfl ?_
  refine g_callS0 C X (y := (⟨"java/lang/String", "checkIndex", "(II)V"⟩ : MethodName)) (by decide) (w132 hw) (w133 hw) (w134 hw) (w38 hw) (rm_sck hw O W (r_n16 iN (by omega)).1 (own_bl hil h19)) (W := 0) (by decide) (by decide) (k' := 0) rfl (n' := 0) rfl (by decide) (by decide) rfl pd_204 (argsL := [(.int (o32 iN)), (.int (o32 cs.length))]) rfl (rest := []) rfl rfl rfl d22_3 (q := 6) rfl ?_
  rintro T1 _ X2 rfl
  refine g_aloadN C X2 d22_6 (q := 7) rfl rfl rfl ?_
  refine g_iloadN C X2 d22_7 (q := 8) rfl rfl ?_
  refine g_baload C X2 V0 ⟨(r_n16 iN (by omega)).1, own_bl hil h19⟩ (w := (.int (cs.getD iN 0))) (by rw [(r_n16 iN (by omega)).2.1, bV_getD]) d22_8 (q := 9) rfl ?_
  refine g_sipush C X2 d22_9 (q := 12) rfl (z := (255 : Int32)) rfl ?_
  refine g_iand C X2 d22_12 (q := 13) rfl (z := (cs.getD iN 0)) (r_ff (own_gd hgd iN).1 (own_gd hgd iN).2) ?_
  refine g_i2c C X2 d22_13 (q := 14) rfl (z := (cs.getD iN 0)) (own_i2c (own_gd hgd iN).1 (own_gd hgd iN).2 (by decide) (by decide)) ?_
  exact g_retN C X2 (Or.inr (Or.inr (Or.inl rfl))) (z' := cs.getD iN 0) (own_narC (own_gd hgd iN).1 (own_gd hgd iN).2 (by decide) (by decide)) d22_14 (by decide) (by decide) ⟨_, rfl, rfl, rfl⟩
set_option maxRecDepth 65536 in
set_option maxHeartbeats 40000000 in
theorem rm_chr {l : Launch} {Z : State} {a0 : Array Value} (hw : ∀ d ∈ tables_1, d.before a0 Z = true) {x0 tb : Addr} {kb : ClassId} {cs : List Int32} {iN : Nat} {cz : Int32} {fm : Value} {cu : Addr} {h0 : Heap} {n0 : Nat} (O : Old Z n0 h0) (W : Wd Z cz fm cu) (S0 : Sx Z h0 x0 tb kb cs) (h19 : cs.length < 19) (hgd : Gd cs) (hil : iN < cs.length) :
    Met1 l Z (⟨"java/lang/String", "charAt", "(I)C"⟩ : MethodName) jdk_42_method_56_code 2 (some .char) ({ frames := 3, cells := 0, slots := 0, locals := 40 } : Room) #[(.ref x0), (.int (o32 iN))] h0 n0 (fun v h => v = .int (cs.getD iN 0) ∧ h0 = h) := by
  refine met_of (L := #[.val (.ref x0), .val (.int (o32 iN))]) (plainFor_of_name pn_168) (fun m => by first | (simp [entryFrame, mkF, argsToLocals, Value.category]; done) | rfl) ?_
  intro p e s m below meth c T C X
  change Cx p s m meth c Z "java/lang/String" jdk_42_method_56_code 2 (some .char) "charAt" at C
  refine g_aloadN C X d20_0 (q := 1) rfl rfl rfl ?_
  refine g_callV1 C X (y := (⟨"java/lang/String", "isLatin1", "()Z"⟩ : MethodName)) (z := (⟨"java/lang/String", "isLatin1", "()Z"⟩ : MethodName)) (a := x0) (by decide) (w123 hw) (w124 hw) (w126 hw) (w125 hw) (nf_sel (w126 hw)) S0.1 (w127 hw) (w38 hw) (rm_isL hw O W ⟨S0.1, S0.2.1, S0.2.2.1, S0.2.2.2⟩ h19 hgd) (W := 0) (by decide) (by decide) (k' := 0) rfl (n' := 0) rfl (by decide) (by decide) rfl pd_215 (argsL := []) rfl (rest := []) rfl rfl rfl d20_1 (q := 4) rfl ?_
  rintro _ T1 _ X2 ⟨rfl, rfl⟩
  refine g_ifN C X2 d20_4 (q := 7) rfl (by decide) ?_
  refine g_aloadN C X2 d20_7 (q := 8) rfl rfl rfl ?_
  refine g_getF C X2 (host := "") (Or.inl (w68 hw)) Via.refl S0.2.1 d20_8 (q := 11) rfl ?_
  intro T3 X4
  refine g_iloadN C X4 d20_11 (q := 12) rfl rfl ?_
  refine g_callS1 C X4 (y := (⟨"java/lang/StringLatin1", "charAt", "([BI)C"⟩ : MethodName)) (by decide) (w128 hw) (w129 hw) (w131 hw) (w130 hw) (rm_lch hw (iN := iN) O W S0.2.2.2 h19 hgd hil) (W := 0) (by decide) (by decide) (k' := 0) rfl (n' := 0) rfl (by decide) (by decide) rfl pd_221 (argsL := [(.ref tb), (.int (o32 iN))]) rfl (rest := []) rfl rfl rfl d20_12 (q := 15) rfl ?_
  rintro _ T5 _ X6 ⟨rfl, rfl⟩
  exact g_retN C X6 (Or.inr (Or.inr (Or.inl rfl))) (z' := cs.getD iN 0) (own_narC (own_gd hgd iN).1 (own_gd hgd iN).2 (by decide) (by decide)) d20_15 (by decide) (by decide) ⟨_, rfl, rfl, rfl⟩
set_option maxRecDepth 65536 in
set_option maxHeartbeats 40000000 in
theorem rm_match {l : Launch} {Z : State} {a0 : Array Value} (hw : ∀ d ∈ tables_1, d.before a0 Z = true) {x0 tb : Addr} {kb : ClassId} {cs : List Int32} {aL : Addr} {kL : ClassId} {al : List Int32} {sN : Nat} {cz : Int32} {fm : Value} {cu : Addr} {h0 : Heap} {n0 : Nat} (O : Old Z n0 h0) (W : Wd Z cz fm cu) (S0 : Sx Z h0 x0 tb kb cs) (h19 : cs.length < 19) (hgd : Gd cs) (V0 : Arv Z h0 aL kL .byte 8 (bV al) (.int 0)) (h8 : sN + cs.length ≤ 8) (hm : ∀ i, i < cs.length → cs.getD i 0 = al.getD (sN + i) 0) :
    Met1 l Z (⟨"com/example/isolate_to_replay/isolatetoreplay/command/LastLineAcceptPinLaw", "matches", "(Ljava/lang/String;[BII)Z"⟩ : MethodName) method_5_code 4 (some .boolean) ({ frames := 4, cells := 0, slots := 0, locals := 53 } : Room) #[(.ref x0), (.ref aL), (.int (o32 sN)), (.int (o32 cs.length))] h0 n0 (fun v h => v = .int 1 ∧ h0 = h) := by
  refine met_of (L := #[.val (.ref x0), .val (.ref aL), .val (.int (o32 sN)), .val (.int (o32 cs.length))]) (plainFor_of_name pn_18) (fun m => by first | (simp [entryFrame, mkF, argsToLocals, Value.category]; done) | rfl) ?_
  intro p e s m below meth c T C X
  change Cx p s m meth c Z "com/example/isolate_to_replay/isolatetoreplay/command/LastLineAcceptPinLaw" method_5_code 4 (some .boolean) "matches" at C
  refine g_aloadN C X d14_0 (q := 1) rfl rfl rfl ?_
  refine g_callV1 C X (y := (⟨"java/lang/String", "length", "()I"⟩ : MethodName)) (z := (⟨"java/lang/String", "length", "()I"⟩ : MethodName)) (a := x0) (by decide) (w80 hw) (w81 hw) (w83 hw) (w82 hw) (nf_sel (w83 hw)) S0.1 (w84 hw) (w38 hw) (rm_slen hw O W ⟨S0.1, S0.2.1, S0.2.2.1, S0.2.2.2⟩ h19 hgd) (W := 0) (by decide) (by decide) (k' := 0) rfl (n' := 0) rfl (by decide) (by decide) rfl pd_225 (argsL := []) rfl (rest := []) rfl rfl rfl d14_1 (q := 4) rfl ?_
  rintro _ T1 _ X2 ⟨rfl, rfl⟩
  refine g_iloadN C X2 d14_4 (q := 5) rfl rfl ?_
  refine g_icY C X2 d14_5 (by decide) (q := 10) (by decide) (teq rfl).1 ?_
  refine g_iloadN C X2 d14_10 (q := 11) rfl rfl ?_
  by_cases hc3 : (0 : Int32) < (o32 cs.length)
  · refine g_ifN C X2 d14_11 (q := 14) rfl (tlt hc3).2.2.2 ?_
    refine g_aloadN C X2 d14_14 (q := 15) rfl rfl rfl ?_
    refine g_iconst C X2 d14_15 (q := 16) rfl (z := (0 : Int32)) rfl ?_
    have hi4 : 0 < cs.length := (r_lt 0 (by decide) cs.length (by omega)).1 hc3
    refine g_callV1 C X2 (y := (⟨"java/lang/String", "charAt", "(I)C"⟩ : MethodName)) (z := (⟨"java/lang/String", "charAt", "(I)C"⟩ : MethodName)) (a := x0) (by decide) (w118 hw) (w119 hw) (w121 hw) (w120 hw) (nf_sel (w121 hw)) S0.1 (w122 hw) (w38 hw) (rm_chr hw (iN := 0) O W ⟨S0.1, S0.2.1, S0.2.2.1, S0.2.2.2⟩ h19 hgd hi4) (W := 0) (by decide) (by decide) (k' := 0) rfl (n' := 0) rfl (by decide) (by decide) rfl pd_233 (argsL := [(.int (0 : Int32))]) rfl (rest := []) rfl rfl rfl d14_16 (q := 19) rfl ?_
    rintro _ T5 _ X6 ⟨rfl, rfl⟩
    refine g_aloadN C X6 d14_19 (q := 20) rfl rfl rfl ?_
    refine g_iloadN C X6 d14_20 (q := 21) rfl rfl ?_
    refine g_baload C X6 V0 ⟨(r_n16 sN (by omega)).1, own_bl (b := 8) (by omega) (by decide)⟩ (w := (.int (al.getD sN 0))) (by rw [(r_n16 sN (by omega)).2.1, bV_getD]) d14_21 (q := 22) rfl ?_
    refine g_icY C X6 d14_22 (by decide) (q := 27) (by decide) (teq (hm 0 hi4)).1 ?_
    refine g_iloadN C X6 d14_27 (q := 28) rfl rfl ?_
    refine g_iconst C X6 d14_28 (q := 29) rfl (z := (1 : Int32)) rfl ?_
    by_cases hc7 : (1 : Int32) < (o32 cs.length)
    · refine g_icN C X6 d14_29 (q := 32) rfl (tlt hc7).2.2.2 ?_
      refine g_aloadN C X6 d14_32 (q := 33) rfl rfl rfl ?_
      refine g_iconst C X6 d14_33 (q := 34) rfl (z := (1 : Int32)) rfl ?_
      have hi8 : 1 < cs.length := (r_lt 1 (by decide) cs.length (by omega)).1 hc7
      refine g_callV1 C X6 (y := (⟨"java/lang/String", "charAt", "(I)C"⟩ : MethodName)) (z := (⟨"java/lang/String", "charAt", "(I)C"⟩ : MethodName)) (a := x0) (by decide) (w118 hw) (w119 hw) (w121 hw) (w120 hw) (nf_sel (w121 hw)) S0.1 (w122 hw) (w38 hw) (rm_chr hw (iN := 1) O W ⟨S0.1, S0.2.1, S0.2.2.1, S0.2.2.2⟩ h19 hgd hi8) (W := 0) (by decide) (by decide) (k' := 0) rfl (n' := 0) rfl (by decide) (by decide) rfl pd_233 (argsL := [(.int (1 : Int32))]) rfl (rest := []) rfl rfl rfl d14_34 (q := 37) rfl ?_
      rintro _ T9 _ X10 ⟨rfl, rfl⟩
      refine g_aloadN C X10 d14_37 (q := 38) rfl rfl rfl ?_
      refine g_iloadN C X10 d14_38 (q := 39) rfl rfl ?_
      refine g_iconst C X10 d14_39 (q := 40) rfl (z := (1 : Int32)) rfl ?_
      refine g_iadd C X10 d14_40 (q := 41) rfl (z := (o32 (sN + 1))) (r_add sN (by omega) 1 (by decide)) ?_
      refine g_baload C X10 V0 ⟨(r_n16 (sN + 1) (by omega)).1, own_bl (b := 8) (by omega) (by decide)⟩ (w := (.int (al.getD (sN + 1) 0))) (by rw [(r_n16 (sN + 1) (by omega)).2.1, bV_getD]) d14_41 (q := 42) rfl ?_
      refine g_icY C X10 d14_42 (by decide) (q := 47) (by decide) (teq (hm 1 hi8)).1 ?_
      refine g_iloadN C X10 d14_47 (q := 48) rfl rfl ?_
      refine g_iconst C X10 d14_48 (q := 49) rfl (z := (2 : Int32)) rfl ?_
      by_cases hc11 : (2 : Int32) < (o32 cs.length)
      · refine g_icN C X10 d14_49 (q := 52) rfl (tlt hc11).2.2.2 ?_
        refine g_aloadN C X10 d14_52 (q := 53) rfl rfl rfl ?_
        refine g_iconst C X10 d14_53 (q := 54) rfl (z := (2 : Int32)) rfl ?_
        have hi12 : 2 < cs.length := (r_lt 2 (by decide) cs.length (by omega)).1 hc11
        refine g_callV1 C X10 (y := (⟨"java/lang/String", "charAt", "(I)C"⟩ : MethodName)) (z := (⟨"java/lang/String", "charAt", "(I)C"⟩ : MethodName)) (a := x0) (by decide) (w118 hw) (w119 hw) (w121 hw) (w120 hw) (nf_sel (w121 hw)) S0.1 (w122 hw) (w38 hw) (rm_chr hw (iN := 2) O W ⟨S0.1, S0.2.1, S0.2.2.1, S0.2.2.2⟩ h19 hgd hi12) (W := 0) (by decide) (by decide) (k' := 0) rfl (n' := 0) rfl (by decide) (by decide) rfl pd_233 (argsL := [(.int (2 : Int32))]) rfl (rest := []) rfl rfl rfl d14_54 (q := 57) rfl ?_
        rintro _ T13 _ X14 ⟨rfl, rfl⟩
        refine g_aloadN C X14 d14_57 (q := 58) rfl rfl rfl ?_
        refine g_iloadN C X14 d14_58 (q := 59) rfl rfl ?_
        refine g_iconst C X14 d14_59 (q := 60) rfl (z := (2 : Int32)) rfl ?_
        refine g_iadd C X14 d14_60 (q := 61) rfl (z := (o32 (sN + 2))) (r_add sN (by omega) 2 (by decide)) ?_
        refine g_baload C X14 V0 ⟨(r_n16 (sN + 2) (by omega)).1, own_bl (b := 8) (by omega) (by decide)⟩ (w := (.int (al.getD (sN + 2) 0))) (by rw [(r_n16 (sN + 2) (by omega)).2.1, bV_getD]) d14_61 (q := 62) rfl ?_
        refine g_icY C X14 d14_62 (by decide) (q := 67) (by decide) (teq (hm 2 hi12)).1 ?_
        refine g_iloadN C X14 d14_67 (q := 68) rfl rfl ?_
        refine g_iconst C X14 d14_68 (q := 69) rfl (z := (3 : Int32)) rfl ?_
        by_cases hc15 : (3 : Int32) < (o32 cs.length)
        · refine g_icN C X14 d14_69 (q := 72) rfl (tlt hc15).2.2.2 ?_
          refine g_aloadN C X14 d14_72 (q := 73) rfl rfl rfl ?_
          refine g_iconst C X14 d14_73 (q := 74) rfl (z := (3 : Int32)) rfl ?_
          have hi16 : 3 < cs.length := (r_lt 3 (by decide) cs.length (by omega)).1 hc15
          refine g_callV1 C X14 (y := (⟨"java/lang/String", "charAt", "(I)C"⟩ : MethodName)) (z := (⟨"java/lang/String", "charAt", "(I)C"⟩ : MethodName)) (a := x0) (by decide) (w118 hw) (w119 hw) (w121 hw) (w120 hw) (nf_sel (w121 hw)) S0.1 (w122 hw) (w38 hw) (rm_chr hw (iN := 3) O W ⟨S0.1, S0.2.1, S0.2.2.1, S0.2.2.2⟩ h19 hgd hi16) (W := 0) (by decide) (by decide) (k' := 0) rfl (n' := 0) rfl (by decide) (by decide) rfl pd_233 (argsL := [(.int (3 : Int32))]) rfl (rest := []) rfl rfl rfl d14_74 (q := 77) rfl ?_
          rintro _ T17 _ X18 ⟨rfl, rfl⟩
          refine g_aloadN C X18 d14_77 (q := 78) rfl rfl rfl ?_
          refine g_iloadN C X18 d14_78 (q := 79) rfl rfl ?_
          refine g_iconst C X18 d14_79 (q := 80) rfl (z := (3 : Int32)) rfl ?_
          refine g_iadd C X18 d14_80 (q := 81) rfl (z := (o32 (sN + 3))) (r_add sN (by omega) 3 (by decide)) ?_
          refine g_baload C X18 V0 ⟨(r_n16 (sN + 3) (by omega)).1, own_bl (b := 8) (by omega) (by decide)⟩ (w := (.int (al.getD (sN + 3) 0))) (by rw [(r_n16 (sN + 3) (by omega)).2.1, bV_getD]) d14_81 (q := 82) rfl ?_
          refine g_icY C X18 d14_82 (by decide) (q := 87) (by decide) (teq (hm 3 hi16)).1 ?_
          refine g_iloadN C X18 d14_87 (q := 88) rfl rfl ?_
          refine g_iconst C X18 d14_88 (q := 89) rfl (z := (4 : Int32)) rfl ?_
          by_cases hc19 : (4 : Int32) < (o32 cs.length)
          · refine g_icN C X18 d14_89 (q := 92) rfl (tlt hc19).2.2.2 ?_
            refine g_aloadN C X18 d14_92 (q := 93) rfl rfl rfl ?_
            refine g_iconst C X18 d14_93 (q := 94) rfl (z := (4 : Int32)) rfl ?_
            have hi20 : 4 < cs.length := (r_lt 4 (by decide) cs.length (by omega)).1 hc19
            refine g_callV1 C X18 (y := (⟨"java/lang/String", "charAt", "(I)C"⟩ : MethodName)) (z := (⟨"java/lang/String", "charAt", "(I)C"⟩ : MethodName)) (a := x0) (by decide) (w118 hw) (w119 hw) (w121 hw) (w120 hw) (nf_sel (w121 hw)) S0.1 (w122 hw) (w38 hw) (rm_chr hw (iN := 4) O W ⟨S0.1, S0.2.1, S0.2.2.1, S0.2.2.2⟩ h19 hgd hi20) (W := 0) (by decide) (by decide) (k' := 0) rfl (n' := 0) rfl (by decide) (by decide) rfl pd_233 (argsL := [(.int (4 : Int32))]) rfl (rest := []) rfl rfl rfl d14_94 (q := 97) rfl ?_
            rintro _ T21 _ X22 ⟨rfl, rfl⟩
            refine g_aloadN C X22 d14_97 (q := 98) rfl rfl rfl ?_
            refine g_iloadN C X22 d14_98 (q := 99) rfl rfl ?_
            refine g_iconst C X22 d14_99 (q := 100) rfl (z := (4 : Int32)) rfl ?_
            refine g_iadd C X22 d14_100 (q := 101) rfl (z := (o32 (sN + 4))) (r_add sN (by omega) 4 (by decide)) ?_
            refine g_baload C X22 V0 ⟨(r_n16 (sN + 4) (by omega)).1, own_bl (b := 8) (by omega) (by decide)⟩ (w := (.int (al.getD (sN + 4) 0))) (by rw [(r_n16 (sN + 4) (by omega)).2.1, bV_getD]) d14_101 (q := 102) rfl ?_
            refine g_icY C X22 d14_102 (by decide) (q := 107) (by decide) (teq (hm 4 hi20)).1 ?_
            refine g_iloadN C X22 d14_107 (q := 108) rfl rfl ?_
            refine g_iconst C X22 d14_108 (q := 109) rfl (z := (5 : Int32)) rfl ?_
            by_cases hc23 : (5 : Int32) < (o32 cs.length)
            · refine g_icN C X22 d14_109 (q := 112) rfl (tlt hc23).2.2.2 ?_
              refine g_aloadN C X22 d14_112 (q := 113) rfl rfl rfl ?_
              refine g_iconst C X22 d14_113 (q := 114) rfl (z := (5 : Int32)) rfl ?_
              have hi24 : 5 < cs.length := (r_lt 5 (by decide) cs.length (by omega)).1 hc23
              refine g_callV1 C X22 (y := (⟨"java/lang/String", "charAt", "(I)C"⟩ : MethodName)) (z := (⟨"java/lang/String", "charAt", "(I)C"⟩ : MethodName)) (a := x0) (by decide) (w118 hw) (w119 hw) (w121 hw) (w120 hw) (nf_sel (w121 hw)) S0.1 (w122 hw) (w38 hw) (rm_chr hw (iN := 5) O W ⟨S0.1, S0.2.1, S0.2.2.1, S0.2.2.2⟩ h19 hgd hi24) (W := 0) (by decide) (by decide) (k' := 0) rfl (n' := 0) rfl (by decide) (by decide) rfl pd_233 (argsL := [(.int (5 : Int32))]) rfl (rest := []) rfl rfl rfl d14_114 (q := 117) rfl ?_
              rintro _ T25 _ X26 ⟨rfl, rfl⟩
              refine g_aloadN C X26 d14_117 (q := 118) rfl rfl rfl ?_
              refine g_iloadN C X26 d14_118 (q := 119) rfl rfl ?_
              refine g_iconst C X26 d14_119 (q := 120) rfl (z := (5 : Int32)) rfl ?_
              refine g_iadd C X26 d14_120 (q := 121) rfl (z := (o32 (sN + 5))) (r_add sN (by omega) 5 (by decide)) ?_
              refine g_baload C X26 V0 ⟨(r_n16 (sN + 5) (by omega)).1, own_bl (b := 8) (by omega) (by decide)⟩ (w := (.int (al.getD (sN + 5) 0))) (by rw [(r_n16 (sN + 5) (by omega)).2.1, bV_getD]) d14_121 (q := 122) rfl ?_
              refine g_icY C X26 d14_122 (by decide) (q := 127) (by decide) (teq (hm 5 hi24)).1 ?_
              refine g_iloadN C X26 d14_127 (q := 128) rfl rfl ?_
              refine g_bipush C X26 d14_128 (q := 130) rfl (z := (6 : Int32)) rfl ?_
              by_cases hc27 : (6 : Int32) < (o32 cs.length)
              · refine g_icN C X26 d14_130 (q := 133) rfl (tlt hc27).2.2.2 ?_
                refine g_aloadN C X26 d14_133 (q := 134) rfl rfl rfl ?_
                refine g_bipush C X26 d14_134 (q := 136) rfl (z := (6 : Int32)) rfl ?_
                have hi28 : 6 < cs.length := (r_lt 6 (by decide) cs.length (by omega)).1 hc27
                refine g_callV1 C X26 (y := (⟨"java/lang/String", "charAt", "(I)C"⟩ : MethodName)) (z := (⟨"java/lang/String", "charAt", "(I)C"⟩ : MethodName)) (a := x0) (by decide) (w118 hw) (w119 hw) (w121 hw) (w120 hw) (nf_sel (w121 hw)) S0.1 (w122 hw) (w38 hw) (rm_chr hw (iN := 6) O W ⟨S0.1, S0.2.1, S0.2.2.1, S0.2.2.2⟩ h19 hgd hi28) (W := 0) (by decide) (by decide) (k' := 0) rfl (n' := 0) rfl (by decide) (by decide) rfl pd_233 (argsL := [(.int (6 : Int32))]) rfl (rest := []) rfl rfl rfl d14_136 (q := 139) rfl ?_
                rintro _ T29 _ X30 ⟨rfl, rfl⟩
                refine g_aloadN C X30 d14_139 (q := 140) rfl rfl rfl ?_
                refine g_iloadN C X30 d14_140 (q := 141) rfl rfl ?_
                refine g_bipush C X30 d14_141 (q := 143) rfl (z := (6 : Int32)) rfl ?_
                refine g_iadd C X30 d14_143 (q := 144) rfl (z := (o32 (sN + 6))) (r_add sN (by omega) 6 (by decide)) ?_
                refine g_baload C X30 V0 ⟨(r_n16 (sN + 6) (by omega)).1, own_bl (b := 8) (by omega) (by decide)⟩ (w := (.int (al.getD (sN + 6) 0))) (by rw [(r_n16 (sN + 6) (by omega)).2.1, bV_getD]) d14_144 (q := 145) rfl ?_
                refine g_icY C X30 d14_145 (by decide) (q := 150) (by decide) (teq (hm 6 hi28)).1 ?_
                refine g_iloadN C X30 d14_150 (q := 151) rfl rfl ?_
                refine g_bipush C X30 d14_151 (q := 153) rfl (z := (7 : Int32)) rfl ?_
                by_cases hc31 : (7 : Int32) < (o32 cs.length)
                · refine g_icN C X30 d14_153 (q := 156) rfl (tlt hc31).2.2.2 ?_
                  refine g_aloadN C X30 d14_156 (q := 157) rfl rfl rfl ?_
                  refine g_bipush C X30 d14_157 (q := 159) rfl (z := (7 : Int32)) rfl ?_
                  have hi32 : 7 < cs.length := (r_lt 7 (by decide) cs.length (by omega)).1 hc31
                  refine g_callV1 C X30 (y := (⟨"java/lang/String", "charAt", "(I)C"⟩ : MethodName)) (z := (⟨"java/lang/String", "charAt", "(I)C"⟩ : MethodName)) (a := x0) (by decide) (w118 hw) (w119 hw) (w121 hw) (w120 hw) (nf_sel (w121 hw)) S0.1 (w122 hw) (w38 hw) (rm_chr hw (iN := 7) O W ⟨S0.1, S0.2.1, S0.2.2.1, S0.2.2.2⟩ h19 hgd hi32) (W := 0) (by decide) (by decide) (k' := 0) rfl (n' := 0) rfl (by decide) (by decide) rfl pd_233 (argsL := [(.int (7 : Int32))]) rfl (rest := []) rfl rfl rfl d14_159 (q := 162) rfl ?_
                  rintro _ T33 _ X34 ⟨rfl, rfl⟩
                  refine g_aloadN C X34 d14_162 (q := 163) rfl rfl rfl ?_
                  refine g_iloadN C X34 d14_163 (q := 164) rfl rfl ?_
                  refine g_bipush C X34 d14_164 (q := 166) rfl (z := (7 : Int32)) rfl ?_
                  refine g_iadd C X34 d14_166 (q := 167) rfl (z := (o32 (sN + 7))) (r_add sN (by omega) 7 (by decide)) ?_
                  refine g_baload C X34 V0 ⟨(r_n16 (sN + 7) (by omega)).1, own_bl (b := 8) (by omega) (by decide)⟩ (w := (.int (al.getD (sN + 7) 0))) (by rw [(r_n16 (sN + 7) (by omega)).2.1, bV_getD]) d14_167 (q := 168) rfl ?_
                  refine g_icY C X34 d14_168 (by decide) (q := 173) (by decide) (teq (hm 7 hi32)).1 ?_
                  refine g_iconst C X34 d14_173 (q := 174) rfl (z := (1 : Int32)) rfl ?_
                  exact g_retN C X34 (Or.inl rfl) (z' := 1) (by decide) d14_174 (by decide) (by decide) ⟨_, rfl, rfl, rfl⟩
                · refine g_icY C X30 d14_153 (by decide) (q := 173) (by decide) (flt hc31).2.2.2 ?_
                  refine g_iconst C X30 d14_173 (q := 174) rfl (z := (1 : Int32)) rfl ?_
                  exact g_retN C X30 (Or.inl rfl) (z' := 1) (by decide) d14_174 (by decide) (by decide) ⟨_, rfl, rfl, rfl⟩
              · refine g_icY C X26 d14_130 (by decide) (q := 150) (by decide) (flt hc27).2.2.2 ?_
                refine g_iloadN C X26 d14_150 (q := 151) rfl rfl ?_
                refine g_bipush C X26 d14_151 (q := 153) rfl (z := (7 : Int32)) rfl ?_
                refine g_icY C X26 d14_153 (by decide) (q := 173) (by decide) (flt (own_nlt (i := 6) (j := 7) (by decide) (by decide) hc27 (by omega))).2.2.2 ?_
                refine g_iconst C X26 d14_173 (q := 174) rfl (z := (1 : Int32)) rfl ?_
                exact g_retN C X26 (Or.inl rfl) (z' := 1) (by decide) d14_174 (by decide) (by decide) ⟨_, rfl, rfl, rfl⟩
            · refine g_icY C X22 d14_109 (by decide) (q := 127) (by decide) (flt hc23).2.2.2 ?_
              refine g_iloadN C X22 d14_127 (q := 128) rfl rfl ?_
              refine g_bipush C X22 d14_128 (q := 130) rfl (z := (6 : Int32)) rfl ?_
              refine g_icY C X22 d14_130 (by decide) (q := 150) (by decide) (flt (own_nlt (i := 5) (j := 6) (by decide) (by decide) hc23 (by omega))).2.2.2 ?_
              refine g_iloadN C X22 d14_150 (q := 151) rfl rfl ?_
              refine g_bipush C X22 d14_151 (q := 153) rfl (z := (7 : Int32)) rfl ?_
              refine g_icY C X22 d14_153 (by decide) (q := 173) (by decide) (flt (own_nlt (i := 5) (j := 7) (by decide) (by decide) hc23 (by omega))).2.2.2 ?_
              refine g_iconst C X22 d14_173 (q := 174) rfl (z := (1 : Int32)) rfl ?_
              exact g_retN C X22 (Or.inl rfl) (z' := 1) (by decide) d14_174 (by decide) (by decide) ⟨_, rfl, rfl, rfl⟩
          · refine g_icY C X18 d14_89 (by decide) (q := 107) (by decide) (flt hc19).2.2.2 ?_
            refine g_iloadN C X18 d14_107 (q := 108) rfl rfl ?_
            refine g_iconst C X18 d14_108 (q := 109) rfl (z := (5 : Int32)) rfl ?_
            refine g_icY C X18 d14_109 (by decide) (q := 127) (by decide) (flt (own_nlt (i := 4) (j := 5) (by decide) (by decide) hc19 (by omega))).2.2.2 ?_
            refine g_iloadN C X18 d14_127 (q := 128) rfl rfl ?_
            refine g_bipush C X18 d14_128 (q := 130) rfl (z := (6 : Int32)) rfl ?_
            refine g_icY C X18 d14_130 (by decide) (q := 150) (by decide) (flt (own_nlt (i := 4) (j := 6) (by decide) (by decide) hc19 (by omega))).2.2.2 ?_
            refine g_iloadN C X18 d14_150 (q := 151) rfl rfl ?_
            refine g_bipush C X18 d14_151 (q := 153) rfl (z := (7 : Int32)) rfl ?_
            refine g_icY C X18 d14_153 (by decide) (q := 173) (by decide) (flt (own_nlt (i := 4) (j := 7) (by decide) (by decide) hc19 (by omega))).2.2.2 ?_
            refine g_iconst C X18 d14_173 (q := 174) rfl (z := (1 : Int32)) rfl ?_
            exact g_retN C X18 (Or.inl rfl) (z' := 1) (by decide) d14_174 (by decide) (by decide) ⟨_, rfl, rfl, rfl⟩
        · refine g_icY C X14 d14_69 (by decide) (q := 87) (by decide) (flt hc15).2.2.2 ?_
          refine g_iloadN C X14 d14_87 (q := 88) rfl rfl ?_
          refine g_iconst C X14 d14_88 (q := 89) rfl (z := (4 : Int32)) rfl ?_
          refine g_icY C X14 d14_89 (by decide) (q := 107) (by decide) (flt (own_nlt (i := 3) (j := 4) (by decide) (by decide) hc15 (by omega))).2.2.2 ?_
          refine g_iloadN C X14 d14_107 (q := 108) rfl rfl ?_
          refine g_iconst C X14 d14_108 (q := 109) rfl (z := (5 : Int32)) rfl ?_
          refine g_icY C X14 d14_109 (by decide) (q := 127) (by decide) (flt (own_nlt (i := 3) (j := 5) (by decide) (by decide) hc15 (by omega))).2.2.2 ?_
          refine g_iloadN C X14 d14_127 (q := 128) rfl rfl ?_
          refine g_bipush C X14 d14_128 (q := 130) rfl (z := (6 : Int32)) rfl ?_
          refine g_icY C X14 d14_130 (by decide) (q := 150) (by decide) (flt (own_nlt (i := 3) (j := 6) (by decide) (by decide) hc15 (by omega))).2.2.2 ?_
          refine g_iloadN C X14 d14_150 (q := 151) rfl rfl ?_
          refine g_bipush C X14 d14_151 (q := 153) rfl (z := (7 : Int32)) rfl ?_
          refine g_icY C X14 d14_153 (by decide) (q := 173) (by decide) (flt (own_nlt (i := 3) (j := 7) (by decide) (by decide) hc15 (by omega))).2.2.2 ?_
          refine g_iconst C X14 d14_173 (q := 174) rfl (z := (1 : Int32)) rfl ?_
          exact g_retN C X14 (Or.inl rfl) (z' := 1) (by decide) d14_174 (by decide) (by decide) ⟨_, rfl, rfl, rfl⟩
      · refine g_icY C X10 d14_49 (by decide) (q := 67) (by decide) (flt hc11).2.2.2 ?_
        refine g_iloadN C X10 d14_67 (q := 68) rfl rfl ?_
        refine g_iconst C X10 d14_68 (q := 69) rfl (z := (3 : Int32)) rfl ?_
        refine g_icY C X10 d14_69 (by decide) (q := 87) (by decide) (flt (own_nlt (i := 2) (j := 3) (by decide) (by decide) hc11 (by omega))).2.2.2 ?_
        refine g_iloadN C X10 d14_87 (q := 88) rfl rfl ?_
        refine g_iconst C X10 d14_88 (q := 89) rfl (z := (4 : Int32)) rfl ?_
        refine g_icY C X10 d14_89 (by decide) (q := 107) (by decide) (flt (own_nlt (i := 2) (j := 4) (by decide) (by decide) hc11 (by omega))).2.2.2 ?_
        refine g_iloadN C X10 d14_107 (q := 108) rfl rfl ?_
        refine g_iconst C X10 d14_108 (q := 109) rfl (z := (5 : Int32)) rfl ?_
        refine g_icY C X10 d14_109 (by decide) (q := 127) (by decide) (flt (own_nlt (i := 2) (j := 5) (by decide) (by decide) hc11 (by omega))).2.2.2 ?_
        refine g_iloadN C X10 d14_127 (q := 128) rfl rfl ?_
        refine g_bipush C X10 d14_128 (q := 130) rfl (z := (6 : Int32)) rfl ?_
        refine g_icY C X10 d14_130 (by decide) (q := 150) (by decide) (flt (own_nlt (i := 2) (j := 6) (by decide) (by decide) hc11 (by omega))).2.2.2 ?_
        refine g_iloadN C X10 d14_150 (q := 151) rfl rfl ?_
        refine g_bipush C X10 d14_151 (q := 153) rfl (z := (7 : Int32)) rfl ?_
        refine g_icY C X10 d14_153 (by decide) (q := 173) (by decide) (flt (own_nlt (i := 2) (j := 7) (by decide) (by decide) hc11 (by omega))).2.2.2 ?_
        refine g_iconst C X10 d14_173 (q := 174) rfl (z := (1 : Int32)) rfl ?_
        exact g_retN C X10 (Or.inl rfl) (z' := 1) (by decide) d14_174 (by decide) (by decide) ⟨_, rfl, rfl, rfl⟩
    · refine g_icY C X6 d14_29 (by decide) (q := 47) (by decide) (flt hc7).2.2.2 ?_
      refine g_iloadN C X6 d14_47 (q := 48) rfl rfl ?_
      refine g_iconst C X6 d14_48 (q := 49) rfl (z := (2 : Int32)) rfl ?_
      refine g_icY C X6 d14_49 (by decide) (q := 67) (by decide) (flt (own_nlt (i := 1) (j := 2) (by decide) (by decide) hc7 (by omega))).2.2.2 ?_
      refine g_iloadN C X6 d14_67 (q := 68) rfl rfl ?_
      refine g_iconst C X6 d14_68 (q := 69) rfl (z := (3 : Int32)) rfl ?_
      refine g_icY C X6 d14_69 (by decide) (q := 87) (by decide) (flt (own_nlt (i := 1) (j := 3) (by decide) (by decide) hc7 (by omega))).2.2.2 ?_
      refine g_iloadN C X6 d14_87 (q := 88) rfl rfl ?_
      refine g_iconst C X6 d14_88 (q := 89) rfl (z := (4 : Int32)) rfl ?_
      refine g_icY C X6 d14_89 (by decide) (q := 107) (by decide) (flt (own_nlt (i := 1) (j := 4) (by decide) (by decide) hc7 (by omega))).2.2.2 ?_
      refine g_iloadN C X6 d14_107 (q := 108) rfl rfl ?_
      refine g_iconst C X6 d14_108 (q := 109) rfl (z := (5 : Int32)) rfl ?_
      refine g_icY C X6 d14_109 (by decide) (q := 127) (by decide) (flt (own_nlt (i := 1) (j := 5) (by decide) (by decide) hc7 (by omega))).2.2.2 ?_
      refine g_iloadN C X6 d14_127 (q := 128) rfl rfl ?_
      refine g_bipush C X6 d14_128 (q := 130) rfl (z := (6 : Int32)) rfl ?_
      refine g_icY C X6 d14_130 (by decide) (q := 150) (by decide) (flt (own_nlt (i := 1) (j := 6) (by decide) (by decide) hc7 (by omega))).2.2.2 ?_
      refine g_iloadN C X6 d14_150 (q := 151) rfl rfl ?_
      refine g_bipush C X6 d14_151 (q := 153) rfl (z := (7 : Int32)) rfl ?_
      refine g_icY C X6 d14_153 (by decide) (q := 173) (by decide) (flt (own_nlt (i := 1) (j := 7) (by decide) (by decide) hc7 (by omega))).2.2.2 ?_
      refine g_iconst C X6 d14_173 (q := 174) rfl (z := (1 : Int32)) rfl ?_
      exact g_retN C X6 (Or.inl rfl) (z' := 1) (by decide) d14_174 (by decide) (by decide) ⟨_, rfl, rfl, rfl⟩
  · refine g_ifY C X2 d14_11 (by decide) (q := 27) (by decide) (flt hc3).2.2.2 ?_
    refine g_iloadN C X2 d14_27 (q := 28) rfl rfl ?_
    refine g_iconst C X2 d14_28 (q := 29) rfl (z := (1 : Int32)) rfl ?_
    refine g_icY C X2 d14_29 (by decide) (q := 47) (by decide) (flt (own_nlt (i := 0) (j := 1) (by decide) (by decide) hc3 (by omega))).2.2.2 ?_
    refine g_iloadN C X2 d14_47 (q := 48) rfl rfl ?_
    refine g_iconst C X2 d14_48 (q := 49) rfl (z := (2 : Int32)) rfl ?_
    refine g_icY C X2 d14_49 (by decide) (q := 67) (by decide) (flt (own_nlt (i := 0) (j := 2) (by decide) (by decide) hc3 (by omega))).2.2.2 ?_
    refine g_iloadN C X2 d14_67 (q := 68) rfl rfl ?_
    refine g_iconst C X2 d14_68 (q := 69) rfl (z := (3 : Int32)) rfl ?_
    refine g_icY C X2 d14_69 (by decide) (q := 87) (by decide) (flt (own_nlt (i := 0) (j := 3) (by decide) (by decide) hc3 (by omega))).2.2.2 ?_
    refine g_iloadN C X2 d14_87 (q := 88) rfl rfl ?_
    refine g_iconst C X2 d14_88 (q := 89) rfl (z := (4 : Int32)) rfl ?_
    refine g_icY C X2 d14_89 (by decide) (q := 107) (by decide) (flt (own_nlt (i := 0) (j := 4) (by decide) (by decide) hc3 (by omega))).2.2.2 ?_
    refine g_iloadN C X2 d14_107 (q := 108) rfl rfl ?_
    refine g_iconst C X2 d14_108 (q := 109) rfl (z := (5 : Int32)) rfl ?_
    refine g_icY C X2 d14_109 (by decide) (q := 127) (by decide) (flt (own_nlt (i := 0) (j := 5) (by decide) (by decide) hc3 (by omega))).2.2.2 ?_
    refine g_iloadN C X2 d14_127 (q := 128) rfl rfl ?_
    refine g_bipush C X2 d14_128 (q := 130) rfl (z := (6 : Int32)) rfl ?_
    refine g_icY C X2 d14_130 (by decide) (q := 150) (by decide) (flt (own_nlt (i := 0) (j := 6) (by decide) (by decide) hc3 (by omega))).2.2.2 ?_
    refine g_iloadN C X2 d14_150 (q := 151) rfl rfl ?_
    refine g_bipush C X2 d14_151 (q := 153) rfl (z := (7 : Int32)) rfl ?_
    refine g_icY C X2 d14_153 (by decide) (q := 173) (by decide) (flt (own_nlt (i := 0) (j := 7) (by decide) (by decide) hc3 (by omega))).2.2.2 ?_
    refine g_iconst C X2 d14_173 (q := 174) rfl (z := (1 : Int32)) rfl ?_
    exact g_retN C X2 (Or.inl rfl) (z' := 1) (by decide) d14_174 (by decide) (by decide) ⟨_, rfl, rfl, rfl⟩
set_option maxRecDepth 65536 in
theorem rm_cpL {l : Launch} {Z : State} {n0 : Nat} {h0 : Heap} {p : Program} {e : Env} {s : State} {m : MethodId} {below : List Frame} {meth : Method} {c : Code} {args : Array Value} {T : State} {R : Room} {tb : Addr} {kb : ClassId} {cs : List Int32} (C : Cx p s m meth c Z "java/lang/StringCoding" jdk_123_method_3_code 5 (some .int) "countPositives") (X : St p l e R s m args below meth c n0 T h0 0 0) (V0 : Arv Z h0 tb kb .byte (o32 cs.length) (bV cs) (.int 0)) (h19 : cs.length < 18) (hgd : Gd cs) :
    ∀ (r iN : Nat), iN + r = cs.length → Goes p e below (FinN (fun v h => ∃ w, v = some w ∧ (w = .int (o32 cs.length) ∧ h0 = h)) s n0 0 0) (T.setTop (mkF m 7 #[.val (.ref tb), .val (.int (0 : Int32)), .val (.int (o32 cs.length)), .val (.int (o32 cs.length)), .val (.int (o32 iN))] [])) := by
  intro r
  induction r with
  | zero =>
    intro iN hiN
    obtain rfl : iN = cs.length := by omega
    refine g_iload C X d18_7 (q := 9) rfl rfl ?_
    refine g_iloadN C X d18_9 (q := 10) rfl rfl ?_
    refine g_icY C X d18_10 (by decide) (q := 31) (by decide) (flt Int32.lt_irrefl).2.1 ?_
    refine g_iloadN C X d18_31 (q := 32) rfl rfl ?_
    exact g_retI C X d18_32 (by decide) (by decide) ⟨_, rfl, rfl, rfl⟩
  | succ r ih =>
    intro iN hiN
    have hlt : o32 iN < o32 cs.length := own_bl (by omega) (by omega)
    refine g_iload C X d18_7 (q := 9) rfl rfl ?_
    refine g_iloadN C X d18_9 (q := 10) rfl rfl ?_
    refine g_icN C X d18_10 (q := 13) rfl (tlt hlt).2.1 ?_
    refine g_aloadN C X d18_13 (q := 14) rfl rfl rfl ?_
    refine g_iload C X d18_14 (q := 16) rfl rfl ?_
    refine g_baload C X V0 ⟨(r_n16 iN (by omega)).1, hlt⟩ (w := (.int (cs.getD iN 0))) (by rw [(r_n16 iN (by omega)).2.1, bV_getD]) d18_16 (q := 17) rfl ?_
    refine g_ifY C X d18_17 (by decide) (q := 25) (by decide) (flt (own_nn (own_gd hgd iN).1)).2.1 ?_
    refine g_iinc C X d18_25 (q := 28) rfl rfl (z := (o32 (iN + 1))) (r_add iN (by omega) 1 (by decide)) (L' := #[.val (.ref tb), .val (.int (0 : Int32)), .val (.int (o32 cs.length)), .val (.int (o32 cs.length)), .val (.int (o32 (iN + 1)))]) rfl ?_
    refine g_goto C X d18_28 (by decide) (q := 7) (by decide) ?_
    exact ih (iN + 1) (by omega)
set_option maxRecDepth 65536 in
set_option maxHeartbeats 40000000 in
theorem rm_cp {l : Launch} {Z : State} {a0 : Array Value} (hw : ∀ d ∈ tables_1, d.before a0 Z = true) {tb : Addr} {kb : ClassId} {cs : List Int32} {cz : Int32} {fm : Value} {cu : Addr} {h0 : Heap} {n0 : Nat} (O : Old Z n0 h0) (W : Wd Z cz fm cu) (V0 : Arv Z h0 tb kb .byte (o32 cs.length) (bV cs) (.int 0)) (h19 : cs.length < 18) (hgd : Gd cs) :
    Met1 l Z (⟨"java/lang/StringCoding", "countPositives", "([BII)I"⟩ : MethodName) jdk_123_method_3_code 5 (some .int) ({ frames := 0, cells := 0, slots := 0, locals := 0 } : Room) #[(.ref tb), (.int (0 : Int32)), (.int (o32 cs.length))] h0 n0 (fun v h => v = .int (o32 cs.length) ∧ h0 = h) := by
  refine met_of (L := #[.val (.ref tb), .val (.int (0 : Int32)), .val (.int (o32 cs.length)), .unset, .unset]) (plainFor_of_name pn_341) (fun m => by first | (simp [entryFrame, mkF, argsToLocals, Value.category]; done) | rfl) ?_
  intro p e s m below meth c T C X
  change Cx p s m meth c Z "java/lang/StringCoding" jdk_123_method_3_code 5 (some .int) "countPositives" at C
  refine g_iloadN C X d18_0 (q := 1) rfl rfl ?_
  refine g_iloadN C X d18_1 (q := 2) rfl rfl ?_
  refine g_iadd C X d18_2 (q := 3) rfl (z := (o32 cs.length)) (Int32.zero_add _) ?_
  refine g_istoreN C X d18_3 (q := 4) rfl (L' := #[.val (.ref tb), .val (.int (0 : Int32)), .val (.int (o32 cs.length)), .val (.int (o32 cs.length)), .unset]) rfl ?_
  refine g_iloadN C X d18_4 (q := 5) rfl rfl ?_
  refine g_istore C X d18_5 (q := 7) rfl (L' := #[.val (.ref tb), .val (.int (0 : Int32)), .val (.int (o32 cs.length)), .val (.int (o32 cs.length)), .val (.int (0 : Int32))]) rfl ?_
  exact rm_cpL C X V0 h19 hgd cs.length 0 (Nat.zero_add _)
set_option maxRecDepth 65536 in
set_option maxHeartbeats 40000000 in
theorem rm_copyR {l : Launch} {Z : State} {a0 : Array Value} (hw : ∀ d ∈ tables_1, d.before a0 Z = true) {aA : Addr} {kA : ClassId} {cs : List Int32} {cz : Int32} {fm : Value} {cu : Addr} {h0 : Heap} {n0 : Nat} (O : Old Z n0 h0) (W : Wd Z cz fm cu) (E0 : Exa Z h0 aA "[B") (V0 : Arv Z h0 aA kA .byte (o32 cs.length) (bV cs) (.int 0)) (hc0 : cs.length < 19) :
    Met1 l Z (⟨"java/util/Arrays", "copyOfRange", "([BII)[B"⟩ : MethodName) jdk_65_method_132_code 3 (some (.array .byte)) ({ frames := 1, cells := 1, slots := 18, locals := 14 } : Room) #[(.ref aA), (.int (0 : Int32)), (.int (o32 cs.length))] h0 n0 (fun v h => ∃ b kb, Keep h0 h [] ∧ v = .ref b ∧ h0.size ≤ b ∧ Exa Z h b "[B" ∧ Arv Z h b kb .byte (o32 cs.length) (bV cs) (.int 0)) := by
  refine met_of (L := #[.val (.ref aA), .val (.int (0 : Int32)), .val (.int (o32 cs.length))]) (plainFor_of_name pn_49) (fun m => by first | (simp [entryFrame, mkF, argsToLocals, Value.category]; done) | rfl) ?_
  intro p e s m below meth c T C X
  change Cx p s m meth c Z "java/util/Arrays" jdk_65_method_132_code 3 (some (.array .byte)) "copyOfRange" at C
  refine g_iloadN C X d19_0 (q := 1) rfl rfl ?_
  refine g_ifN C X d19_1 (q := 4) rfl (by decide) ?_
  refine g_iloadN C X d19_4 (q := 5) rfl rfl ?_
  refine g_aloadN C X d19_5 (q := 6) rfl rfl rfl ?_
  refine g_alen C X V0 d19_6 (q := 7) rfl ?_
  refine g_icY C X d19_7 (by decide) (q := 17) (by decide) (teq rfl).1 ?_
  refine g_aloadN C X d19_17 (q := 18) rfl rfl rfl ?_
  refine g_clone C X (w109 hw) (w110 hw) (w114 hw) (w112 hw) (w113 hw) (w115 hw) V0 E0 (cap := 18) (by rw [(r_n16 _ (by omega)).2.1]; omega) (by decide) (W := 0) (by decide) (k' := 1) rfl (n' := 18) rfl (by decide) (by decide) rfl rfl d19_18 (q := 21) rfl ?_
  intro T1 h2 b3 g4 X5 E6 V7 E8
  have ge9 : n0 ≤ b3 := own_ge O g4
  have O10 := O.ext E6
  refine g_castY C X5 (w116 hw) (Ins.self E8) d19_21 (q := 24) rfl ?_
  intro T11 X12
  exact g_retA C X12 rfl rfl d19_24 (by decide) (by decide) ⟨_, rfl, b3, kA, ((Keep.refl h0 []).ext E6), rfl, (own_sz (Keep.refl h0 []).1 g4), E8, V7⟩
set_option maxRecDepth 65536 in
set_option maxHeartbeats 40000000 in
theorem rm_rq {l : Launch} {Z : State} {a0 : Array Value} (hw : ∀ d ∈ tables_1, d.before a0 Z = true) {ob : Addr} {cz : Int32} {fm : Value} {cu : Addr} {h0 : Heap} {n0 : Nat} (O : Old Z n0 h0) (W : Wd Z cz fm cu)  :
    Met1 l Z (⟨"java/util/Objects", "requireNonNull", "(Ljava/lang/Object;)Ljava/lang/Object;"⟩ : MethodName) jdk_31_method_10_code 1 (some (.object "java/lang/Object")) ({ frames := 0, cells := 0, slots := 0, locals := 0 } : Room) #[(.ref ob)] h0 n0 (fun v h => v = .ref ob ∧ h0 = h) := by
  refine met_of (L := #[.val (.ref ob)]) (plainFor_of_name pn_356) (fun m => by first | (simp [entryFrame, mkF, argsToLocals, Value.category]; done) | rfl) ?_
  intro p e s m below meth c T C X
  change Cx p s m meth c Z "java/util/Objects" jdk_31_method_10_code 1 (some (.object "java/lang/Object")) "requireNonNull" at C
  refine g_aloadN C X d8_0 (q := 1) rfl rfl rfl ?_
  refine g_nonY C X d8_1 (by decide) (q := 12) (by decide) ?_
  refine g_aloadN C X d8_12 (q := 13) rfl rfl rfl ?_
  exact g_retA C X rfl rfl d8_13 (by decide) (by decide) ⟨_, rfl, rfl, rfl⟩
set_option maxRecDepth 65536 in
set_option maxHeartbeats 40000000 in
theorem rm_fs {l : Launch} {Z : State} {a0 : Array Value} (hw : ∀ d ∈ tables_1, d.before a0 Z = true) {nL : Nat} {f1 : Value} {cz : Int32} {fm : Value} {cu : Addr} {h0 : Heap} {n0 : Nat} (O : Old Z n0 h0) (W : Wd Z cz fm cu) (hL : nL < 19) (hf1 : f1.isRef = true) :
    Met1 l Z (⟨"jdk/internal/util/Preconditions", "checkFromIndexSize", "(IIILjava/util/function/BiFunction;)I"⟩ : MethodName) jdk_41_method_13_code 4 (some .int) ({ frames := 0, cells := 0, slots := 0, locals := 0 } : Room) #[(.int (0 : Int32)), (.int (o32 nL)), (.int (o32 nL)), f1] h0 n0 (fun v h => v = .int 0 ∧ h0 = h) := by
  refine met_of (L := #[.val (.int (0 : Int32)), .val (.int (o32 nL)), .val (.int (o32 nL)), .val f1]) (plainFor_of_name pn_192) (fun m => by (cases f1 <;> first | exact absurd hf1 Bool.false_ne_true | skip) <;> first | (simp [entryFrame, mkF, argsToLocals, Value.category]; done) | rfl) ?_
  intro p e s m below meth c T C X
  change Cx p s m meth c Z "jdk/internal/util/Preconditions" jdk_41_method_13_code 4 (some .int) "checkFromIndexSize" at C
  refine g_iloadN C X d10_0 (q := 1) rfl rfl ?_
  refine g_iloadN C X d10_1 (q := 2) rfl rfl ?_
  refine g_ior C X d10_2 (q := 3) rfl (z := ((o32 nL) ||| (0 : Int32))) rfl ?_
  refine g_iloadN C X d10_3 (q := 4) rfl rfl ?_
  refine g_ior C X d10_4 (q := 5) rfl (z := (((o32 nL) ||| (0 : Int32)) ||| (o32 nL))) rfl ?_
  refine g_ifN C X d10_5 (q := 8) rfl (flt (r_ior nL hL).1).1 ?_
  refine g_iloadN C X d10_8 (q := 9) rfl rfl ?_
  refine g_iloadN C X d10_9 (q := 10) rfl rfl ?_
  refine g_iloadN C X d10_10 (q := 11) rfl rfl ?_
  refine g_isub C X d10_11 (q := 12) rfl (z := (o32 nL)) (r_ior nL hL).2 ?_
  refine g_icY C X d10_12 (by decide) (q := 23) (by decide) (flt Int32.lt_irrefl).2.2.2 ?_
  refine g_iloadN C X d10_23 (q := 24) rfl rfl ?_
  exact g_retI C X d10_24 (by decide) (by decide) ⟨_, rfl, rfl, rfl⟩
set_option maxRecDepth 65536 in
set_option maxHeartbeats 40000000 in
theorem rm_cb {l : Launch} {Z : State} {a0 : Array Value} (hw : ∀ d ∈ tables_1, d.before a0 Z = true) {nL : Nat} {cz : Int32} {fm : Value} {cu : Addr} {h0 : Heap} {n0 : Nat} (O : Old Z n0 h0) (W : Wd Z cz fm cu) (hL : nL < 19) :
    Met1 l Z (⟨"java/lang/String", "checkBoundsOffCount", "(III)I"⟩ : MethodName) jdk_42_method_157_code 3 (some .int) ({ frames := 1, cells := 0, slots := 0, locals := 15 } : Room) #[(.int (0 : Int32)), (.int (o32 nL)), (.int (o32 nL))] h0 n0 (fun v h => v = .int 0 ∧ h0 = h) := by
  refine met_of (L := #[.val (.int (0 : Int32)), .val (.int (o32 nL)), .val (.int (o32 nL))]) (plainFor_of_name pn_168) (fun m => by first | (simp [entryFrame, mkF, argsToLocals, Value.category]; done) | rfl) ?_
  intro p e s m below meth c T C X
  change Cx p s m meth c Z "java/lang/String" jdk_42_method_157_code 3 (some .int) "checkBoundsOffCount" at C
  refine g_iloadN C X d9_0 (q := 1) rfl rfl ?_
  refine g_iloadN C X d9_1 (q := 2) rfl rfl ?_
  refine g_iloadN C X d9_2 (q := 3) rfl rfl ?_
  refine g_getS C X (host := "") (Or.inl (w53 hw)) Via.refl (W.2.2.1.ext O.2) d9_3 (q := 6) rfl ?_
  intro T1 X2
  refine g_callS1 C X2 (y := (⟨"jdk/internal/util/Preconditions", "checkFromIndexSize", "(IIILjava/util/function/BiFunction;)I"⟩ : MethodName)) (by decide) (w55 hw) (w56 hw) (w57 hw) (w54 hw) (rm_fs hw (nL := nL) O W hL W.2.2.2.1) (W := 0) (by decide) (by decide) (k' := 0) rfl (n' := 0) rfl (by decide) (by decide) rfl pd_375 (argsL := [(.int (0 : Int32)), (.int (o32 nL)), (.int (o32 nL)), fm]) rfl (rest := []) rfl rfl rfl d9_6 (q := 9) rfl ?_
  rintro _ T3 _ X4 ⟨rfl, rfl⟩
  exact g_retI C X4 d9_9 (by decide) (by decide) ⟨_, rfl, rfl, rfl⟩
set_option maxRecDepth 65536 in
set_option maxHeartbeats 40000000 in
theorem rm_str4e {l : Launch} {Z : State} {a0 : Array Value} (hw : ∀ d ∈ tables_1, d.before a0 Z = true) {x0 tb : Addr} {kb : ClassId} {cz : Int32} {fm : Value} {cu : Addr} {h0 : Heap} {n0 : Nat} (O : Old Z n0 h0) (W : Wd Z cz fm cu) (E0 : Exa Z h0 x0 "java/lang/String") (Fv0 : Fld Z h0 x0 "java/lang/String" "value" "[B" .null) (Fc0 : Fld Z h0 x0 "java/lang/String" "coder" "B" (.int 0)) (Eb : Exa Z h0 tb "[B") (Vb : Arv Z h0 tb kb .byte 0 (bV []) (.int 0)) (nbx : tb ≠ x0) (g0 : n0 ≤ x0) :
    MetH l Z consts_1 (⟨"java/lang/String", "<init>", "(Ljava/nio/charset/Charset;[BII)V"⟩ : MethodName) jdk_42_method_11_code 11 [(800, 813, 816, 202)] ({ frames := 1, cells := 4, slots := 8, locals := 12 } : Room) #[(.ref x0), (.ref cu), (.ref tb), (.int (0 : Int32)), (.int (0 : Int32))] h0 n0 (fun h => Keep h0 h [x0] ∧ ∃ t k, Sx Z h x0 t k []) := by
  refine metH_of (L := #[.val (.ref x0), .val (.ref cu), .val (.ref tb), .val (.int (0 : Int32)), .val (.int (0 : Int32)), .unset, .unset, .unset, .unset, .unset, .unset]) (plainFor_of_name pn_168) (fun m => by first | (simp [entryFrame, mkF, argsToLocals, Value.category]; done) | rfl) ?_
  intro p e s m below meth c T vm C X Y
  change Cx p (s.setVm vm) m meth c Z "java/lang/String" jdk_42_method_11_code 11 none "<init>" at C
  have sx := own_safeN (EL := consts_1) (Cx.alike C) E0 Fv0
  refine g_aloadN C X d11_0 (q := 1) rfl rfl rfl ?_
  refine g_initO C X (w62 hw) (w14 hw) (w15 hw) rfl d11_1 (q := 4) rfl (by decide) (by decide) ?_
  intro T1 X2
  refine g_iload C X2 d11_4 (q := 6) rfl rfl ?_
  refine g_ifN C X2 d11_6 (q := 9) rfl (by decide) ?_
  refine g_aloadN C X2 d11_9 (q := 10) rfl rfl rfl ?_
  refine gW_ldcC C X2 Y (own_EL hw) (vs := []) (z := 0) (w63 hw) (own_SA hw) (List.mem_of_getElem? (i := 0) rfl) ⟨by decide, by decide +kernel⟩ (by decide) rfl d11_10 (q := 12) rfl (nn := 0) (by decide) (by decide) (k' := 2) rfl (n' := 4) rfl (by decide) (by decide) ?_
  intro b3 b11 kA12 T4 h5 vm6 C X7 Y8 E9 R10 f13 f14 f15 f16 sf17
  have O18 := O.ext E9
  have F19 : Str Z h5 b3 [] := ⟨b11, kA12, f13, f15, f14, f16, by decide, by decide⟩
  refine g_getF C X7 (host := "") (Or.inl (w68 hw)) Via.refl f15 d11_12 (q := 15) rfl ?_
  intro T20 X21
  have f22 := (Fv0.ext E9)
  have f23 := (E0.ext E9)
  refine g_putF C X21 (host := "") (Or.inl (w68 hw)) Via.refl f22 f23 (Or.inr ⟨(w64 hw), rfl, rfl⟩) (w37 hw) (ty := (.array .byte)) (by decide) rfl rfl d11_15 (q := 18) rfl g0 ?_
  intro T24 h26 X25 W27
  have FW27 := Fld.same W27 f22
  have f28 := (CHr.safe R10 E0.lt sx)
  have Y29 := Wx.wr Y8 W27 f28
  have O30 := O18.wr W27 g0
  refine g_aloadN C X25 d11_18 (q := 19) rfl rfl rfl ?_
  refine gW_ldcC C X25 Y29 (own_EL hw) (vs := []) (z := 0) (w63 hw) (own_SA hw) (List.mem_of_getElem? (i := 0) rfl) ⟨by decide, by decide +kernel⟩ (by decide) rfl d11_19 (q := 21) rfl (nn := 0) (by decide) (by decide) (k' := 4) rfl (n' := 8) rfl (by decide) (by decide) ?_
  intro b31 b39 kA40 T32 h33 vm34 C X35 Y36 E37 R38 f41 f42 f43 f44 sf45
  have O46 := O30.ext E37
  have F47 : Str Z h33 b31 [] := ⟨b39, kA40, f41, f43, f42, f44, by decide, by decide⟩
  refine g_getF C X35 (host := "") (Or.inl (w69 hw)) Via.refl f42 d11_21 (q := 24) rfl ?_
  intro T48 X49
  have f50 := (((Fc0.ext E9).other W27 (Or.inr (slot_ne (Or.inr (w65 hw)) (Or.inr (w64 hw)) (by decide) (t := .byte) (t' := (.array .byte)) (by decide) (by decide)))).ext E37)
  have f51 := ((f23.wr W27).ext E37)
  refine g_putF C X49 (host := "") (Or.inl (w69 hw)) Via.refl f50 f51 (Or.inr ⟨(w65 hw), rfl, rfl⟩) (w37 hw) (ty := .byte) (by decide) rfl rfl d11_24 (q := 27) rfl g0 ?_
  intro T52 h54 X53 W55
  have FW55 := Fld.same W55 f50
  have f56 := (CHr.safe R38 (Nat.lt_of_lt_of_le E0.lt (Nat.le_trans E9.1 (Nat.le_of_eq (Wr.size W27).symm))) (Wx.safeW Y8 f28 W27 f28))
  have Y57 := Wx.wr Y36 W55 f56
  have O58 := O46.wr W55 g0
  refine g_goto C X53 d11_27 (by decide) (q := 879) (by decide) ?_
  exact gW_retV C X53 Y57 (own_EL hw) d11_879 (by decide) (by decide) ⟨rfl, (((((Keep.refl h0 [x0]).ext E9).wr W27 (Or.inl (List.mem_of_getElem? (i := 0) rfl))).ext E37).wr W55 (Or.inl (List.mem_of_getElem? (i := 0) rfl))), b11, kA12, (f51.wr W55), ((FW27.ext E37).other W55 (Or.inr (slot_ne (Or.inr (w64 hw)) (Or.inr (w65 hw)) (by decide) (t := (.array .byte)) (t' := .byte) (by decide) (by decide)))), FW55, (((f16.other W27 (Ne.symm (sf17 _ (CHr.safe R10 E0.lt sx)).2)).ext E37).other W55 (Ne.symm (sf17 _ (CHr.safe R10 E0.lt sx)).2))⟩
set_option maxRecDepth 65536 in
set_option maxHeartbeats 40000000 in
theorem rm_str4n {l : Launch} {Z : State} {a0 : Array Value} (hw : ∀ d ∈ tables_1, d.before a0 Z = true) {x0 tb : Addr} {kb : ClassId} {cs : List Int32} {cz : Int32} {fm : Value} {cu : Addr} {h0 : Heap} {n0 : Nat} (O : Old Z n0 h0) (W : Wd Z cz fm cu) (E0 : Exa Z h0 x0 "java/lang/String") (Fv0 : Fld Z h0 x0 "java/lang/String" "value" "[B" .null) (Fc0 : Fld Z h0 x0 "java/lang/String" "coder" "B" (.int 0)) (Eb : Exa Z h0 tb "[B") (Vb : Arv Z h0 tb kb .byte (o32 cs.length) (bV cs) (.int 0)) (nbx : tb ≠ x0) (g0 : n0 ≤ x0) (h19 : cs.length < 18) (hgd : Gd cs) (hne : ¬ o32 cs.length = 0) :
    MetH l Z consts_1 (⟨"java/lang/String", "<init>", "(Ljava/nio/charset/Charset;[BII)V"⟩ : MethodName) jdk_42_method_11_code 11 [(800, 813, 816, 202)] ({ frames := 2, cells := 1, slots := 18, locals := 29 } : Room) #[(.ref x0), (.ref cu), (.ref tb), (.int (0 : Int32)), (.int (o32 cs.length))] h0 n0 (fun h => Keep h0 h [x0] ∧ ∃ t k, Sx Z h x0 t k cs) := by
  refine metH_of (L := #[.val (.ref x0), .val (.ref cu), .val (.ref tb), .val (.int (0 : Int32)), .val (.int (o32 cs.length)), .unset, .unset, .unset, .unset, .unset, .unset]) (plainFor_of_name pn_168) (fun m => by first | (simp [entryFrame, mkF, argsToLocals, Value.category]; done) | rfl) ?_
  intro p e s m below meth c T vm C X Y
  change Cx p (s.setVm vm) m meth c Z "java/lang/String" jdk_42_method_11_code 11 none "<init>" at C
  have sx := own_safeN (EL := consts_1) (Cx.alike C) E0 Fv0
  refine g_aloadN C X d11_0 (q := 1) rfl rfl rfl ?_
  refine g_initO C X (w62 hw) (w14 hw) (w15 hw) rfl d11_1 (q := 4) rfl (by decide) (by decide) ?_
  intro T1 X2
  refine g_iload C X2 d11_4 (q := 6) rfl rfl ?_
  refine g_ifY C X2 d11_6 (by decide) (q := 30) (by decide) (feq hne).2 ?_
  refine g_aloadN C X2 d11_30 (q := 31) rfl rfl rfl ?_
  refine g_getS C X2 (host := "") (Or.inl (w100 hw)) Via.refl (W.2.2.2.2.2.1.ext O.2) d11_31 (q := 34) rfl ?_
  intro T3 X4
  refine g_acmp C X4 d11_34 rfl rfl (same := true) (decide_eq_true rfl) (by decide) (q := 37) (by decide) ?_
  refine g_getS C X4 (host := "") (Or.inl (w90 hw)) Via.refl (W.1.ext O.2) d11_37 (q := 40) rfl ?_
  intro T5 X6
  refine g_ifN C X6 d11_40 (q := 43) rfl (feq W.2.1).1 ?_
  refine g_aloadN C X6 d11_43 (q := 44) rfl rfl rfl ?_
  refine g_iloadN C X6 d11_44 (q := 45) rfl rfl ?_
  refine g_iload C X6 d11_45 (q := 47) rfl rfl ?_
  refine g_callS1 C X6 (y := (⟨"java/lang/StringCoding", "countPositives", "([BII)I"⟩ : MethodName)) (by decide) (w102 hw) (w103 hw) (w105 hw) (w104 hw) (rm_cp hw O W Vb h19 hgd) (W := 0) (by decide) (by decide) (k' := 0) rfl (n' := 0) rfl (by decide) (by decide) rfl pd_400 (argsL := [(.ref tb), (.int (0 : Int32)), (.int (o32 cs.length))]) rfl (rest := []) rfl rfl rfl d11_47 (q := 50) rfl ?_
  rintro _ T7 _ X8 ⟨rfl, rfl⟩
  refine g_istore C X8 d11_50 (q := 52) rfl (L' := #[.val (.ref x0), .val (.ref cu), .val (.ref tb), .val (.int (0 : Int32)), .val (.int (o32 cs.length)), .val (.int (o32 cs.length)), .unset, .unset, .unset, .unset, .unset]) rfl ?_
  refine g_iload C X8 d11_52 (q := 54) rfl rfl ?_
  refine g_iload C X8 d11_54 (q := 56) rfl rfl ?_
  refine g_icN C X8 d11_56 (q := 59) rfl (teq rfl).2 ?_
  refine g_aloadN C X8 d11_59 (q := 60) rfl rfl rfl ?_
  refine g_aloadN C X8 d11_60 (q := 61) rfl rfl rfl ?_
  refine g_iloadN C X8 d11_61 (q := 62) rfl rfl ?_
  refine g_iloadN C X8 d11_62 (q := 63) rfl rfl ?_
  refine g_iload C X8 d11_63 (q := 65) rfl rfl ?_
  refine g_iadd C X8 d11_65 (q := 66) rfl (z := (o32 cs.length)) (Int32.zero_add _) ?_
  refine g_callS1 C X8 (y := (⟨"java/util/Arrays", "copyOfRange", "([BII)[B"⟩ : MethodName)) (by decide) (w106 hw) (w107 hw) (w108 hw) (w93 hw) (rm_copyR hw (aA := tb) (kA := kb) (cs := cs) O W Eb Vb (by omega)) (W := 1) (by decide) (by decide) (k' := 1) rfl (n' := 18) rfl (by decide) (by decide) rfl pd_412 (argsL := [(.ref tb), (.int (0 : Int32)), (.int (o32 cs.length))]) rfl (rest := [(.ref x0)]) rfl rfl rfl d11_66 (q := 69) rfl ?_
  rintro _ T9 h10 X11 ⟨b13, kb14, K12, rfl, sz15, E16, V17⟩
  have ge18 := Nat.le_trans (own_szO O) sz15
  have Y19 := Wx.keep Y K12 sf0
  have O20 := O.keep K12 all0
  have f21 := (Fv0.keep K12 nin0)
  have f22 := (E0.keep K12)
  refine g_putF C X11 (host := "") (Or.inl (w68 hw)) Via.refl f21 f22 (Or.inr ⟨(w64 hw), rfl, rfl⟩) (w37 hw) (ty := (.array .byte)) (by decide) rfl rfl d11_69 (q := 72) rfl g0 ?_
  intro T23 h25 X24 W26
  have FW26 := Fld.same W26 f21
  have f27 := (Wx.safeK Y sx K12 sf0)
  have Y28 := Wx.wr Y19 W26 f27
  have O29 := O20.wr W26 g0
  refine g_aloadN C X24 d11_72 (q := 73) rfl rfl rfl ?_
  refine g_iconst C X24 d11_73 (q := 74) rfl (z := (0 : Int32)) rfl ?_
  have f30 := ((Fc0.keep K12 nin0).other W26 (Or.inr (slot_ne (Or.inr (w65 hw)) (Or.inr (w64 hw)) (by decide) (t := .byte) (t' := (.array .byte)) (by decide) (by decide))))
  have f31 := (f22.wr W26)
  refine g_putF C X24 (host := "") (Or.inl (w69 hw)) Via.refl f30 f31 (Or.inr ⟨(w65 hw), rfl, rfl⟩) (w37 hw) (ty := .byte) (by decide) rfl rfl d11_74 (q := 77) rfl g0 ?_
  intro T32 h34 X33 W35
  have FW35 := Fld.same W35 f30
  have f36 := (Wx.safeW Y19 f27 W26 f27)
  have Y37 := Wx.wr Y28 W35 f36
  have O38 := O29.wr W35 g0
  exact gW_retV C X33 Y37 (own_EL hw) d11_77 (by decide) (by decide) ⟨rfl, ((((Keep.refl h0 [x0]).trans K12 all0).wr W26 (Or.inl (List.mem_of_getElem? (i := 0) rfl))).wr W35 (Or.inl (List.mem_of_getElem? (i := 0) rfl))), b13, kb14, (f31.wr W35), (FW26.other W35 (Or.inr (slot_ne (Or.inr (w64 hw)) (Or.inr (w65 hw)) (by decide) (t := (.array .byte)) (t' := .byte) (by decide) (by decide)))), FW35, ((V17.other W26 (Ne.symm (Nat.ne_of_lt (Nat.lt_of_lt_of_le E0.lt sz15)))).other W35 (Ne.symm (Nat.ne_of_lt (Nat.lt_of_lt_of_le E0.lt sz15))))⟩
set_option maxRecDepth 65536 in
set_option maxHeartbeats 40000000 in
theorem rm_str3e {l : Launch} {Z : State} {a0 : Array Value} (hw : ∀ d ∈ tables_1, d.before a0 Z = true) {x0 tb : Addr} {kb : ClassId} {cz : Int32} {fm : Value} {cu : Addr} {h0 : Heap} {n0 : Nat} (O : Old Z n0 h0) (W : Wd Z cz fm cu) (E0 : Exa Z h0 x0 "java/lang/String") (Fv0 : Fld Z h0 x0 "java/lang/String" "value" "[B" .null) (Fc0 : Fld Z h0 x0 "java/lang/String" "coder" "B" (.int 0)) (Eb : Exa Z h0 tb "[B") (Vb : Arv Z h0 tb kb .byte 0 (bV []) (.int 0)) (nbx : tb ≠ x0) (g0 : n0 ≤ x0) :
    MetW0 l Z consts_1 (⟨"java/lang/String", "<init>", "([BIILjava/nio/charset/Charset;)V"⟩ : MethodName) jdk_42_method_10_code 5 none ({ frames := 2, cells := 4, slots := 8, locals := 34 } : Room) #[(.ref x0), (.ref tb), (.int (0 : Int32)), (.int (0 : Int32)), (.ref cu)] h0 n0 (fun h => Keep h0 h [x0] ∧ ∃ t k, Sx Z h x0 t k []) := by
  refine metW_of (L := #[.val (.ref x0), .val (.ref tb), .val (.int (0 : Int32)), .val (.int (0 : Int32)), .val (.ref cu)]) (plainFor_of_name pn_168) (fun m => by first | (simp [entryFrame, mkF, argsToLocals, Value.category]; done) | rfl) ?_
  intro p e s m below meth c T vm C X Y
  change Cx p (s.setVm vm) m meth c Z "java/lang/String" jdk_42_method_10_code 5 none "<init>" at C
  refine g_aloadN C X d7_0 (q := 1) rfl rfl rfl ?_
  refine g_aload C X d7_1 (q := 3) rfl rfl rfl ?_
  refine g_callS1 C X (y := (⟨"java/util/Objects", "requireNonNull", "(Ljava/lang/Object;)Ljava/lang/Object;"⟩ : MethodName)) (by decide) (w44 hw) (w45 hw) (w47 hw) (w46 hw) (rm_rq hw (ob := cu) O W) (W := 1) (by decide) (by decide) (k' := 0) rfl (n' := 0) rfl (by decide) (by decide) rfl pd_421 (argsL := [(.ref cu)]) rfl (rest := [(.ref x0)]) rfl rfl rfl d7_3 (q := 6) rfl ?_
  rintro _ T1 _ X2 ⟨rfl, rfl⟩
  refine g_castY C X2 (w48 hw) (Ins.of_exa (W.2.2.2.2.2.2.ext O.2) (w49 hw)) d7_6 (q := 9) rfl ?_
  intro T3 X4
  refine g_aloadN C X4 d7_9 (q := 10) rfl rfl rfl ?_
  refine g_iloadN C X4 d7_10 (q := 11) rfl rfl ?_
  refine g_iloadN C X4 d7_11 (q := 12) rfl rfl ?_
  refine g_aloadN C X4 d7_12 (q := 13) rfl rfl rfl ?_
  refine g_alen C X4 Vb d7_13 (q := 14) rfl ?_
  refine g_callS1 C X4 (y := (⟨"java/lang/String", "checkBoundsOffCount", "(III)I"⟩ : MethodName)) (by decide) (w50 hw) (w51 hw) (w52 hw) (w38 hw) (rm_cb hw (nL := 0) O W (by decide)) (W := 3) (by decide) (by decide) (k' := 0) rfl (n' := 0) rfl (by decide) (by decide) rfl pd_429 (argsL := [(.int (0 : Int32)), (.int (0 : Int32)), (.int (0 : Int32))]) rfl (rest := [(.ref tb), (.ref cu), (.ref x0)]) rfl rfl rfl d7_14 (q := 17) rfl ?_
  rintro _ T5 _ X6 ⟨rfl, rfl⟩
  refine g_iloadN C X6 d7_17 (q := 18) rfl rfl ?_
  refine gW_callIH C X6 Y (own_EL hw) (y := (⟨"java/lang/String", "<init>", "(Ljava/nio/charset/Charset;[BII)V"⟩ : MethodName)) (a := x0) (by decide) rfl (w58 hw) (w59 hw) (w61 hw) (w38 hw) (rm_str4e hw O W E0 Fv0 Fc0 Eb Vb nbx g0  ) (W := 0) (by decide) (by decide) (k' := 4) rfl (n' := 8) rfl (by decide) (by decide) rfl pd_432 (argsL := [(.ref cu), (.ref tb), (.int (0 : Int32)), (.int (0 : Int32))]) rfl (rest := []) rfl rfl rfl d7_18 (q := 21) rfl ?_
  rintro T7 h8 vm9 C X10 Y11 R12 ⟨K13, t14, k15, S16⟩
  have O17 := O.keep K13 (allS g0 all0)
  exact gW_retV C X10 Y11 (own_EL hw) d7_21 (by decide) (by decide) ⟨rfl, ((Keep.refl h0 [x0]).trans K13 (allS (Or.inl (List.mem_of_getElem? (i := 0) rfl)) all0)), t14, k15, S16⟩
set_option maxRecDepth 65536 in
set_option maxHeartbeats 40000000 in
theorem rm_str3n {l : Launch} {Z : State} {a0 : Array Value} (hw : ∀ d ∈ tables_1, d.before a0 Z = true) {x0 tb : Addr} {kb : ClassId} {cs : List Int32} {cz : Int32} {fm : Value} {cu : Addr} {h0 : Heap} {n0 : Nat} (O : Old Z n0 h0) (W : Wd Z cz fm cu) (E0 : Exa Z h0 x0 "java/lang/String") (Fv0 : Fld Z h0 x0 "java/lang/String" "value" "[B" .null) (Fc0 : Fld Z h0 x0 "java/lang/String" "coder" "B" (.int 0)) (Eb : Exa Z h0 tb "[B") (Vb : Arv Z h0 tb kb .byte (o32 cs.length) (bV cs) (.int 0)) (nbx : tb ≠ x0) (g0 : n0 ≤ x0) (h19 : cs.length < 18) (hgd : Gd cs) (hne : ¬ o32 cs.length = 0) :
    MetW0 l Z consts_1 (⟨"java/lang/String", "<init>", "([BIILjava/nio/charset/Charset;)V"⟩ : MethodName) jdk_42_method_10_code 5 none ({ frames := 3, cells := 1, slots := 18, locals := 51 } : Room) #[(.ref x0), (.ref tb), (.int (0 : Int32)), (.int (o32 cs.length)), (.ref cu)] h0 n0 (fun h => Keep h0 h [x0] ∧ ∃ t k, Sx Z h x0 t k cs) := by
  refine metW_of (L := #[.val (.ref x0), .val (.ref tb), .val (.int (0 : Int32)), .val (.int (o32 cs.length)), .val (.ref cu)]) (plainFor_of_name pn_168) (fun m => by first | (simp [entryFrame, mkF, argsToLocals, Value.category]; done) | rfl) ?_
  intro p e s m below meth c T vm C X Y
  change Cx p (s.setVm vm) m meth c Z "java/lang/String" jdk_42_method_10_code 5 none "<init>" at C
  refine g_aloadN C X d7_0 (q := 1) rfl rfl rfl ?_
  refine g_aload C X d7_1 (q := 3) rfl rfl rfl ?_
  refine g_callS1 C X (y := (⟨"java/util/Objects", "requireNonNull", "(Ljava/lang/Object;)Ljava/lang/Object;"⟩ : MethodName)) (by decide) (w44 hw) (w45 hw) (w47 hw) (w46 hw) (rm_rq hw (ob := cu) O W) (W := 1) (by decide) (by decide) (k' := 0) rfl (n' := 0) rfl (by decide) (by decide) rfl pd_421 (argsL := [(.ref cu)]) rfl (rest := [(.ref x0)]) rfl rfl rfl d7_3 (q := 6) rfl ?_
  rintro _ T1 _ X2 ⟨rfl, rfl⟩
  refine g_castY C X2 (w48 hw) (Ins.of_exa (W.2.2.2.2.2.2.ext O.2) (w49 hw)) d7_6 (q := 9) rfl ?_
  intro T3 X4
  refine g_aloadN C X4 d7_9 (q := 10) rfl rfl rfl ?_
  refine g_iloadN C X4 d7_10 (q := 11) rfl rfl ?_
  refine g_iloadN C X4 d7_11 (q := 12) rfl rfl ?_
  refine g_aloadN C X4 d7_12 (q := 13) rfl rfl rfl ?_
  refine g_alen C X4 Vb d7_13 (q := 14) rfl ?_
  refine g_callS1 C X4 (y := (⟨"java/lang/String", "checkBoundsOffCount", "(III)I"⟩ : MethodName)) (by decide) (w50 hw) (w51 hw) (w52 hw) (w38 hw) (rm_cb hw (nL := cs.length) O W (by omega)) (W := 3) (by decide) (by decide) (k' := 0) rfl (n' := 0) rfl (by decide) (by decide) rfl pd_429 (argsL := [(.int (0 : Int32)), (.int (o32 cs.length)), (.int (o32 cs.length))]) rfl (rest := [(.ref tb), (.ref cu), (.ref x0)]) rfl rfl rfl d7_14 (q := 17) rfl ?_
  rintro _ T5 _ X6 ⟨rfl, rfl⟩
  refine g_iloadN C X6 d7_17 (q := 18) rfl rfl ?_
  refine gW_callIH C X6 Y (own_EL hw) (y := (⟨"java/lang/String", "<init>", "(Ljava/nio/charset/Charset;[BII)V"⟩ : MethodName)) (a := x0) (by decide) rfl (w58 hw) (w59 hw) (w61 hw) (w38 hw) (rm_str4n hw (cs := cs) O W E0 Fv0 Fc0 Eb Vb nbx g0 h19 hgd hne) (W := 0) (by decide) (by decide) (k' := 1) rfl (n' := 18) rfl (by decide) (by decide) rfl pd_432 (argsL := [(.ref cu), (.ref tb), (.int (0 : Int32)), (.int (o32 cs.length))]) rfl (rest := []) rfl rfl rfl d7_18 (q := 21) rfl ?_
  rintro T7 h8 vm9 C X10 Y11 R12 ⟨K13, t14, k15, S16⟩
  have O17 := O.keep K13 (allS g0 all0)
  exact gW_retV C X10 Y11 (own_EL hw) d7_21 (by decide) (by decide) ⟨rfl, ((Keep.refl h0 [x0]).trans K13 (allS (Or.inl (List.mem_of_getElem? (i := 0) rfl)) all0)), t14, k15, S16⟩
set_option maxRecDepth 65536 in
set_option maxHeartbeats 40000000 in
theorem rm_text {l : Launch} {Z : State} {a0 : Array Value} (hw : ∀ d ∈ tables_1, d.before a0 Z = true) {o0 A B : Addr} {kA kB : ClassId} {cs0 ls cs : List Int32} {kN : Nat} {cz : Int32} {fm : Value} {cu : Addr} {h0 : Heap} {n0 : Nat} (O : Old Z n0 h0) (W : Wd Z cz fm cu) (R0 : LLf Z h0 o0 A B (o32 kN)) (A0 : BA Z h0 A kA cs0) (B0 : BA Z h0 B kB ls) (hc0 : cs0.length < 16) (hk0 : kN ≤ cs0.length) (nAo : A ≠ o0) (nBo : B ≠ o0) (g0 : n0 ≤ o0) (el : (if 0 < cut cs0 kN then cs0.take (cut cs0 kN) else ls) = cs) (h19 : cs.length < 16) (hgd : Gd cs) :
    MetW1 l Z consts_1 (⟨"com/example/isolate_to_replay/isolatetoreplay/command/LastLine", "text", "()Ljava/lang/String;"⟩ : MethodName) prog_5_method_3_code 3 (some (.object "java/lang/String")) ({ frames := 4, cells := 6, slots := 40, locals := 68 } : Room) #[(.ref o0)] h0 n0 (fun v h => ∃ x t k, Keep h0 h [o0] ∧ v = .ref x ∧ h0.size ≤ x ∧ Sx Z h x t k cs) := by
  refine metW_of (L := #[.val (.ref o0), .unset, .unset]) (plainFor_of_name pn_77) (fun m => by first | (simp [entryFrame, mkF, argsToLocals, Value.category]; done) | rfl) ?_
  intro p e s m below meth c T vm C X Y
  change Cx p (s.setVm vm) m meth c Z "com/example/isolate_to_replay/isolatetoreplay/command/LastLine" prog_5_method_3_code 3 (some (.object "java/lang/String")) "text" at C
  refine g_aloadN C X d5_0 (q := 1) rfl rfl rfl ?_
  refine g_callP0 C X (y := (⟨"com/example/isolate_to_replay/isolatetoreplay/command/LastLine", "endLine", "()V"⟩ : MethodName)) (a := o0) (by decide) (w30 hw) (sel_priv (w8 hw) (w31 hw) (w32 hw) (by decide)) (w31 hw) (w32 hw) R0.1 (w33 hw) (w9 hw) (rm_endLine hw (o0 := o0) (A := A) (B := B) (kA := kA) (kB := kB) (cs := cs0) (ls := ls) (kN := kN) (ls' := cs) O W ⟨R0.1, R0.2.1, R0.2.2.1, R0.2.2.2⟩ ⟨A0.1, A0.2⟩ ⟨B0.1, B0.2⟩ hc0 hk0 nAo nBo g0 el) (W := 0) (by decide) (by decide) (k' := 1) rfl (n' := 18) rfl (by decide) (by decide) rfl pd_122 (argsL := []) rfl (rest := []) rfl rfl rfl d5_1 (q := 4) rfl ?_
  rintro T1 h2 X3 ⟨K4, B5, kB6, q7, nB8, R9, BB10⟩
  have Y11 := Wx.keep Y K4 (sfS (Safe.exa (Cx.alike C) R0.1 (by decide) (by decide)) sf0)
  have O12 := O.keep K4 (allS g0 all0)
  rcases Nat.eq_zero_or_pos cs.length with hn0 | hn0
  · obtain rfl : cs = [] := List.eq_nil_of_length_eq_zero hn0
    refine g_aloadN C X3 d5_4 (q := 5) rfl rfl rfl ?_
    refine g_getF C X3 (host := "") (Or.inl (w16 hw)) Via.refl R9.2.2.1 d5_5 (q := 8) rfl ?_
    intro T13 X14
    refine g_alen C X14 BB10.2 d5_8 (q := 9) rfl ?_
    refine g_istoreN C X14 d5_9 (q := 10) rfl (L' := #[.val (.ref o0), .val (.int (0 : Int32)), .unset]) rfl ?_
    refine g_iloadN C X14 d5_10 (q := 11) rfl rfl ?_
    refine g_aloadN C X14 d5_11 (q := 12) rfl rfl rfl ?_
    refine g_getF C X14 (host := "") (Or.inl (w18 hw)) Via.refl R9.2.1 d5_12 (q := 15) rfl ?_
    intro T15 X16
    have f17 := (A0.2.keep K4 (ninS nAo nin0))
    refine g_alen C X16 f17 d5_15 (q := 16) rfl ?_
    by_cases hc18 : (0 : Int32) = (o32 cs0.length)
    · refine g_icN C X16 d5_16 (q := 19) rfl (teq hc18).2 ?_
      refine g_iloadN C X16 d5_19 (q := 20) rfl rfl ?_
      refine g_iconst C X16 d5_20 (q := 21) rfl (z := (1 : Int32)) rfl ?_
      refine g_isub C X16 d5_21 (q := 22) rfl (z := (-1 : Int32)) (by decide) ?_
      refine g_istoreN C X16 d5_22 (q := 23) rfl (L' := #[.val (.ref o0), .val (.int (0 : Int32)), .val (.int (-1 : Int32))]) rfl ?_
      refine g_iloadN C X16 d5_23 (q := 24) rfl rfl ?_
      refine g_ifY C X16 d5_24 (by decide) (q := 49) (by decide) (by decide) ?_
      refine g_iloadN C X16 d5_49 (q := 50) rfl rfl ?_
      refine g_ifY C X16 d5_50 (by decide) (q := 70) (by decide) (by decide) ?_
      refine g_new C X16 (w36 hw) (w37 hw) (w38 hw) d5_70 (q := 73) rfl (k' := 2) rfl (n' := 22) rfl (by decide) (by decide) ?_
      intro T20 h21 b19 g23 X22 E24 A25 D26
      have ge27 : n0 ≤ b19 := own_ge O12 g23
      have sf28 := Wx.safe0 Y11 (Nat.le_of_eq g23.symm)
      have Y29 := Wx.ext Y11 E24
      have O30 := O12.ext E24
      have f31 : Fld Z h21 b19 "java/lang/String" "value" "[B" .null := D26 (Or.inr (w64 hw)) (ty := (.array .byte)) (by decide)
      have f32 : Fld Z h21 b19 "java/lang/String" "coder" "B" (.int (0 : Int32)) := D26 (Or.inr (w65 hw)) (ty := .byte) (by decide)
      refine g_dup C X22 d5_73 (q := 74) rfl rfl ?_
      refine g_aloadN C X22 d5_74 (q := 75) rfl rfl rfl ?_
      have f33 := (R9.2.2.1.ext E24)
      refine g_getF C X22 (host := "") (Or.inl (w16 hw)) Via.refl f33 d5_75 (q := 78) rfl ?_
      intro T34 X35
      refine g_iconst C X35 d5_78 (q := 79) rfl (z := (0 : Int32)) rfl ?_
      refine g_iloadN C X35 d5_79 (q := 80) rfl rfl ?_
      refine g_getS C X35 (host := "") (Or.inl (w39 hw)) Via.refl (W.2.2.2.2.1.ext O30.2) d5_80 (q := 83) rfl ?_
      intro T36 X37
      have f38 := (BB10.1.ext E24)
      have f39 := (BB10.2.ext E24)
      refine gW_callI0 C X37 Y29 (own_EL hw) (y := (⟨"java/lang/String", "<init>", "([BIILjava/nio/charset/Charset;)V"⟩ : MethodName)) (a := b19) (by decide) rfl rfl (w41 hw) (w42 hw) (w43 hw) (w38 hw) (rm_str3e hw (x0 := b19) (tb := B5) (kb := kB6) O30 W A25 f31 f32 f38 f39 (own_ne BB10.2.lt g23) ge27) (W := 1) (by decide) (by decide) (k' := 6) rfl (n' := 30) rfl (by decide) (by decide) rfl pd_461 (argsL := [(.ref B5), (.int (0 : Int32)), (.int (0 : Int32)), (.ref cu)]) rfl (rest := [(.ref b19)]) rfl rfl rfl d5_83 (q := 86) rfl ?_
      rintro T40 h41 vm42 C X43 Y44 R45 ⟨K46, t47, k48, S49⟩
      have O50 := O30.keep K46 (allS ge27 all0)
      exact gW_retA C X43 Y44 (own_EL hw) rfl rfl d5_86 (by decide) (by decide) ⟨_, rfl, b19, t47, k48, ((((Keep.refl h0 [o0]).trans K4 (allS (Or.inl (List.mem_of_getElem? (i := 0) rfl)) all0)).ext E24).trans K46 (allS (Or.inr (own_sz ((Keep.refl h0 [o0]).trans K4 (allS (Or.inl (List.mem_of_getElem? (i := 0) rfl)) all0)).1 g23)) all0)), rfl, (own_sz ((Keep.refl h0 [o0]).trans K4 (allS (Or.inl (List.mem_of_getElem? (i := 0) rfl)) all0)).1 g23), S49⟩
    · refine g_icY C X16 d5_16 (by decide) (q := 70) (by decide) (feq hc18).2 ?_
      refine g_new C X16 (w36 hw) (w37 hw) (w38 hw) d5_70 (q := 73) rfl (k' := 2) rfl (n' := 22) rfl (by decide) (by decide) ?_
      intro T52 h53 b51 g55 X54 E56 A57 D58
      have ge59 : n0 ≤ b51 := own_ge O12 g55
      have sf60 := Wx.safe0 Y11 (Nat.le_of_eq g55.symm)
      have Y61 := Wx.ext Y11 E56
      have O62 := O12.ext E56
      have f63 : Fld Z h53 b51 "java/lang/String" "value" "[B" .null := D58 (Or.inr (w64 hw)) (ty := (.array .byte)) (by decide)
      have f64 : Fld Z h53 b51 "java/lang/String" "coder" "B" (.int (0 : Int32)) := D58 (Or.inr (w65 hw)) (ty := .byte) (by decide)
      refine g_dup C X54 d5_73 (q := 74) rfl rfl ?_
      refine g_aloadN C X54 d5_74 (q := 75) rfl rfl rfl ?_
      have f65 := (R9.2.2.1.ext E56)
      refine g_getF C X54 (host := "") (Or.inl (w16 hw)) Via.refl f65 d5_75 (q := 78) rfl ?_
      intro T66 X67
      refine g_iconst C X67 d5_78 (q := 79) rfl (z := (0 : Int32)) rfl ?_
      refine g_iloadN C X67 d5_79 (q := 80) rfl rfl ?_
      refine g_getS C X67 (host := "") (Or.inl (w39 hw)) Via.refl (W.2.2.2.2.1.ext O62.2) d5_80 (q := 83) rfl ?_
      intro T68 X69
      have f70 := (BB10.1.ext E56)
      have f71 := (BB10.2.ext E56)
      refine gW_callI0 C X69 Y61 (own_EL hw) (y := (⟨"java/lang/String", "<init>", "([BIILjava/nio/charset/Charset;)V"⟩ : MethodName)) (a := b51) (by decide) rfl rfl (w41 hw) (w42 hw) (w43 hw) (w38 hw) (rm_str3e hw (x0 := b51) (tb := B5) (kb := kB6) O62 W A57 f63 f64 f70 f71 (own_ne BB10.2.lt g55) ge59) (W := 1) (by decide) (by decide) (k' := 6) rfl (n' := 30) rfl (by decide) (by decide) rfl pd_461 (argsL := [(.ref B5), (.int (0 : Int32)), (.int (0 : Int32)), (.ref cu)]) rfl (rest := [(.ref b51)]) rfl rfl rfl d5_83 (q := 86) rfl ?_
      rintro T72 h73 vm74 C X75 Y76 R77 ⟨K78, t79, k80, S81⟩
      have O82 := O62.keep K78 (allS ge59 all0)
      exact gW_retA C X75 Y76 (own_EL hw) rfl rfl d5_86 (by decide) (by decide) ⟨_, rfl, b51, t79, k80, ((((Keep.refl h0 [o0]).trans K4 (allS (Or.inl (List.mem_of_getElem? (i := 0) rfl)) all0)).ext E56).trans K78 (allS (Or.inr (own_sz ((Keep.refl h0 [o0]).trans K4 (allS (Or.inl (List.mem_of_getElem? (i := 0) rfl)) all0)).1 g55)) all0)), rfl, (own_sz ((Keep.refl h0 [o0]).trans K4 (allS (Or.inl (List.mem_of_getElem? (i := 0) rfl)) all0)).1 g55), S81⟩
  · have hne : ¬ o32 cs.length = 0 := fun z => by have := (r_lt cs.length (by omega) 0 (by decide)).2.2 z; omega
    refine g_aloadN C X3 d5_4 (q := 5) rfl rfl rfl ?_
    refine g_getF C X3 (host := "") (Or.inl (w16 hw)) Via.refl R9.2.2.1 d5_5 (q := 8) rfl ?_
    intro T83 X84
    refine g_alen C X84 BB10.2 d5_8 (q := 9) rfl ?_
    refine g_istoreN C X84 d5_9 (q := 10) rfl (L' := #[.val (.ref o0), .val (.int (o32 cs.length)), .unset]) rfl ?_
    refine g_iloadN C X84 d5_10 (q := 11) rfl rfl ?_
    refine g_aloadN C X84 d5_11 (q := 12) rfl rfl rfl ?_
    refine g_getF C X84 (host := "") (Or.inl (w18 hw)) Via.refl R9.2.1 d5_12 (q := 15) rfl ?_
    intro T85 X86
    have f87 := (A0.2.keep K4 (ninS nAo nin0))
    refine g_alen C X86 f87 d5_15 (q := 16) rfl ?_
    by_cases hc88 : (o32 cs.length) = (o32 cs0.length)
    · refine g_icN C X86 d5_16 (q := 19) rfl (teq hc88).2 ?_
      refine g_iloadN C X86 d5_19 (q := 20) rfl rfl ?_
      refine g_iconst C X86 d5_20 (q := 21) rfl (z := (1 : Int32)) rfl ?_
      refine g_isub C X86 d5_21 (q := 22) rfl (z := (o32 (cs.length - 1))) ((r_n16 cs.length (by omega)).2.2.1 hn0).2.1 ?_
      refine g_istoreN C X86 d5_22 (q := 23) rfl (L' := #[.val (.ref o0), .val (.int (o32 cs.length)), .val (.int (o32 (cs.length - 1)))]) rfl ?_
      refine g_iloadN C X86 d5_23 (q := 24) rfl rfl ?_
      by_cases hc89 : (0 : Int32) < (o32 (cs.length - 1))
      · refine g_ifN C X86 d5_24 (q := 27) rfl (tlt hc89).2.2.2 ?_
        refine g_aloadN C X86 d5_27 (q := 28) rfl rfl rfl ?_
        refine g_getF C X86 (host := "") (Or.inl (w16 hw)) Via.refl R9.2.2.1 d5_28 (q := 31) rfl ?_
        intro T90 X91
        refine g_iloadN C X91 d5_31 (q := 32) rfl rfl ?_
        refine g_baload C X91 BB10.2 ⟨(r_n16 (cs.length - 1) (by omega)).1, own_bl (by omega) (by omega)⟩ (w := (.int (cs.getD (cs.length - 1) 0))) (by rw [(r_n16 (cs.length - 1) (by omega)).2.1, bV_getD]) d5_32 (q := 33) rfl ?_
        refine g_sipush C X91 d5_33 (q := 36) rfl (z := (192 : Int32)) rfl ?_
        refine g_iand C X91 d5_36 (q := 37) rfl (z := ((cs.getD (cs.length - 1) 0) &&& (192 : Int32))) rfl ?_
        refine g_sipush C X91 d5_37 (q := 40) rfl (z := (128 : Int32)) rfl ?_
        refine g_icY C X91 d5_40 (by decide) (q := 49) (by decide) (feq (r_seq (own_gd hgd _).1 (own_gd hgd _).2).2.2.2).2 ?_
        refine g_iloadN C X91 d5_49 (q := 50) rfl rfl ?_
        refine g_ifN C X91 d5_50 (q := 53) rfl (flt (r_n16 (cs.length - 1) (by omega)).1).1 ?_
        refine g_iloadN C X91 d5_53 (q := 54) rfl rfl ?_
        refine g_aloadN C X91 d5_54 (q := 55) rfl rfl rfl ?_
        refine g_getF C X91 (host := "") (Or.inl (w16 hw)) Via.refl R9.2.2.1 d5_55 (q := 58) rfl ?_
        intro T92 X93
        refine g_iloadN C X93 d5_58 (q := 59) rfl rfl ?_
        refine g_baload C X93 BB10.2 ⟨(r_n16 (cs.length - 1) (by omega)).1, own_bl (by omega) (by omega)⟩ (w := (.int (cs.getD (cs.length - 1) 0))) (by rw [(r_n16 (cs.length - 1) (by omega)).2.1, bV_getD]) d5_59 (q := 60) rfl ?_
        refine g_callS1 C X93 (y := (⟨"com/example/isolate_to_replay/isolatetoreplay/command/LastLine", "sequenceLength", "(B)I"⟩ : MethodName)) (by decide) (w138 hw) (w139 hw) (w140 hw) (w9 hw) (rm_seq hw (bb := (cs.getD (cs.length - 1) 0)) O12 W (own_gd hgd _).1 (own_gd hgd _).2) (W := 1) (by decide) (by decide) (k' := 1) rfl (n' := 18) rfl (by decide) (by decide) rfl pd_477 (argsL := [(.int (cs.getD (cs.length - 1) 0))]) rfl (rest := [(.int (o32 (cs.length - 1)))]) rfl rfl rfl d5_60 (q := 63) rfl ?_
        rintro _ T94 _ X95 ⟨rfl, rfl⟩
        refine g_iadd C X95 d5_63 (q := 64) rfl (z := (o32 cs.length)) ((r_add (cs.length - 1) (by omega) 1 (by decide)).trans (congrArg o32 (by omega))) ?_
        refine g_iloadN C X95 d5_64 (q := 65) rfl rfl ?_
        refine g_icY C X95 d5_65 (by decide) (q := 70) (by decide) (flt Int32.lt_irrefl).2.2.2 ?_
        refine g_new C X95 (w36 hw) (w37 hw) (w38 hw) d5_70 (q := 73) rfl (k' := 2) rfl (n' := 22) rfl (by decide) (by decide) ?_
        intro T97 h98 b96 g100 X99 E101 A102 D103
        have ge104 : n0 ≤ b96 := own_ge O12 g100
        have sf105 := Wx.safe0 Y11 (Nat.le_of_eq g100.symm)
        have Y106 := Wx.ext Y11 E101
        have O107 := O12.ext E101
        have f108 : Fld Z h98 b96 "java/lang/String" "value" "[B" .null := D103 (Or.inr (w64 hw)) (ty := (.array .byte)) (by decide)
        have f109 : Fld Z h98 b96 "java/lang/String" "coder" "B" (.int (0 : Int32)) := D103 (Or.inr (w65 hw)) (ty := .byte) (by decide)
        refine g_dup C X99 d5_73 (q := 74) rfl rfl ?_
        refine g_aloadN C X99 d5_74 (q := 75) rfl rfl rfl ?_
        have f110 := (R9.2.2.1.ext E101)
        refine g_getF C X99 (host := "") (Or.inl (w16 hw)) Via.refl f110 d5_75 (q := 78) rfl ?_
        intro T111 X112
        refine g_iconst C X112 d5_78 (q := 79) rfl (z := (0 : Int32)) rfl ?_
        refine g_iloadN C X112 d5_79 (q := 80) rfl rfl ?_
        refine g_getS C X112 (host := "") (Or.inl (w39 hw)) Via.refl (W.2.2.2.2.1.ext O107.2) d5_80 (q := 83) rfl ?_
        intro T113 X114
        have f115 := (BB10.1.ext E101)
        have f116 := (BB10.2.ext E101)
        refine gW_callI0 C X114 Y106 (own_EL hw) (y := (⟨"java/lang/String", "<init>", "([BIILjava/nio/charset/Charset;)V"⟩ : MethodName)) (a := b96) (by decide) rfl rfl (w41 hw) (w42 hw) (w43 hw) (w38 hw) (rm_str3n hw (x0 := b96) (tb := B5) (kb := kB6) (cs := cs) O107 W A102 f108 f109 f115 f116 (own_ne BB10.2.lt g100) ge104 (by omega) hgd hne) (W := 1) (by decide) (by decide) (k' := 3) rfl (n' := 40) rfl (by decide) (by decide) rfl pd_461 (argsL := [(.ref B5), (.int (0 : Int32)), (.int (o32 cs.length)), (.ref cu)]) rfl (rest := [(.ref b96)]) rfl rfl rfl d5_83 (q := 86) rfl ?_
        rintro T117 h118 vm119 C X120 Y121 R122 ⟨K123, t124, k125, S126⟩
        have O127 := O107.keep K123 (allS ge104 all0)
        exact gW_retA C X120 Y121 (own_EL hw) rfl rfl d5_86 (by decide) (by decide) ⟨_, rfl, b96, t124, k125, ((((Keep.refl h0 [o0]).trans K4 (allS (Or.inl (List.mem_of_getElem? (i := 0) rfl)) all0)).ext E101).trans K123 (allS (Or.inr (own_sz ((Keep.refl h0 [o0]).trans K4 (allS (Or.inl (List.mem_of_getElem? (i := 0) rfl)) all0)).1 g100)) all0)), rfl, (own_sz ((Keep.refl h0 [o0]).trans K4 (allS (Or.inl (List.mem_of_getElem? (i := 0) rfl)) all0)).1 g100), S126⟩
      · refine g_ifY C X86 d5_24 (by decide) (q := 49) (by decide) (flt hc89).2.2.2 ?_
        refine g_iloadN C X86 d5_49 (q := 50) rfl rfl ?_
        refine g_ifN C X86 d5_50 (q := 53) rfl (flt (r_n16 (cs.length - 1) (by omega)).1).1 ?_
        refine g_iloadN C X86 d5_53 (q := 54) rfl rfl ?_
        refine g_aloadN C X86 d5_54 (q := 55) rfl rfl rfl ?_
        refine g_getF C X86 (host := "") (Or.inl (w16 hw)) Via.refl R9.2.2.1 d5_55 (q := 58) rfl ?_
        intro T128 X129
        refine g_iloadN C X129 d5_58 (q := 59) rfl rfl ?_
        refine g_baload C X129 BB10.2 ⟨(r_n16 (cs.length - 1) (by omega)).1, own_bl (by omega) (by omega)⟩ (w := (.int (cs.getD (cs.length - 1) 0))) (by rw [(r_n16 (cs.length - 1) (by omega)).2.1, bV_getD]) d5_59 (q := 60) rfl ?_
        refine g_callS1 C X129 (y := (⟨"com/example/isolate_to_replay/isolatetoreplay/command/LastLine", "sequenceLength", "(B)I"⟩ : MethodName)) (by decide) (w138 hw) (w139 hw) (w140 hw) (w9 hw) (rm_seq hw (bb := (cs.getD (cs.length - 1) 0)) O12 W (own_gd hgd _).1 (own_gd hgd _).2) (W := 1) (by decide) (by decide) (k' := 1) rfl (n' := 18) rfl (by decide) (by decide) rfl pd_477 (argsL := [(.int (cs.getD (cs.length - 1) 0))]) rfl (rest := [(.int (o32 (cs.length - 1)))]) rfl rfl rfl d5_60 (q := 63) rfl ?_
        rintro _ T130 _ X131 ⟨rfl, rfl⟩
        refine g_iadd C X131 d5_63 (q := 64) rfl (z := (o32 cs.length)) ((r_add (cs.length - 1) (by omega) 1 (by decide)).trans (congrArg o32 (by omega))) ?_
        refine g_iloadN C X131 d5_64 (q := 65) rfl rfl ?_
        refine g_icY C X131 d5_65 (by decide) (q := 70) (by decide) (flt Int32.lt_irrefl).2.2.2 ?_
        refine g_new C X131 (w36 hw) (w37 hw) (w38 hw) d5_70 (q := 73) rfl (k' := 2) rfl (n' := 22) rfl (by decide) (by decide) ?_
        intro T133 h134 b132 g136 X135 E137 A138 D139
        have ge140 : n0 ≤ b132 := own_ge O12 g136
        have sf141 := Wx.safe0 Y11 (Nat.le_of_eq g136.symm)
        have Y142 := Wx.ext Y11 E137
        have O143 := O12.ext E137
        have f144 : Fld Z h134 b132 "java/lang/String" "value" "[B" .null := D139 (Or.inr (w64 hw)) (ty := (.array .byte)) (by decide)
        have f145 : Fld Z h134 b132 "java/lang/String" "coder" "B" (.int (0 : Int32)) := D139 (Or.inr (w65 hw)) (ty := .byte) (by decide)
        refine g_dup C X135 d5_73 (q := 74) rfl rfl ?_
        refine g_aloadN C X135 d5_74 (q := 75) rfl rfl rfl ?_
        have f146 := (R9.2.2.1.ext E137)
        refine g_getF C X135 (host := "") (Or.inl (w16 hw)) Via.refl f146 d5_75 (q := 78) rfl ?_
        intro T147 X148
        refine g_iconst C X148 d5_78 (q := 79) rfl (z := (0 : Int32)) rfl ?_
        refine g_iloadN C X148 d5_79 (q := 80) rfl rfl ?_
        refine g_getS C X148 (host := "") (Or.inl (w39 hw)) Via.refl (W.2.2.2.2.1.ext O143.2) d5_80 (q := 83) rfl ?_
        intro T149 X150
        have f151 := (BB10.1.ext E137)
        have f152 := (BB10.2.ext E137)
        refine gW_callI0 C X150 Y142 (own_EL hw) (y := (⟨"java/lang/String", "<init>", "([BIILjava/nio/charset/Charset;)V"⟩ : MethodName)) (a := b132) (by decide) rfl rfl (w41 hw) (w42 hw) (w43 hw) (w38 hw) (rm_str3n hw (x0 := b132) (tb := B5) (kb := kB6) (cs := cs) O143 W A138 f144 f145 f151 f152 (own_ne BB10.2.lt g136) ge140 (by omega) hgd hne) (W := 1) (by decide) (by decide) (k' := 3) rfl (n' := 40) rfl (by decide) (by decide) rfl pd_461 (argsL := [(.ref B5), (.int (0 : Int32)), (.int (o32 cs.length)), (.ref cu)]) rfl (rest := [(.ref b132)]) rfl rfl rfl d5_83 (q := 86) rfl ?_
        rintro T153 h154 vm155 C X156 Y157 R158 ⟨K159, t160, k161, S162⟩
        have O163 := O143.keep K159 (allS ge140 all0)
        exact gW_retA C X156 Y157 (own_EL hw) rfl rfl d5_86 (by decide) (by decide) ⟨_, rfl, b132, t160, k161, ((((Keep.refl h0 [o0]).trans K4 (allS (Or.inl (List.mem_of_getElem? (i := 0) rfl)) all0)).ext E137).trans K159 (allS (Or.inr (own_sz ((Keep.refl h0 [o0]).trans K4 (allS (Or.inl (List.mem_of_getElem? (i := 0) rfl)) all0)).1 g136)) all0)), rfl, (own_sz ((Keep.refl h0 [o0]).trans K4 (allS (Or.inl (List.mem_of_getElem? (i := 0) rfl)) all0)).1 g136), S162⟩
    · refine g_icY C X86 d5_16 (by decide) (q := 70) (by decide) (feq hc88).2 ?_
      refine g_new C X86 (w36 hw) (w37 hw) (w38 hw) d5_70 (q := 73) rfl (k' := 2) rfl (n' := 22) rfl (by decide) (by decide) ?_
      intro T165 h166 b164 g168 X167 E169 A170 D171
      have ge172 : n0 ≤ b164 := own_ge O12 g168
      have sf173 := Wx.safe0 Y11 (Nat.le_of_eq g168.symm)
      have Y174 := Wx.ext Y11 E169
      have O175 := O12.ext E169
      have f176 : Fld Z h166 b164 "java/lang/String" "value" "[B" .null := D171 (Or.inr (w64 hw)) (ty := (.array .byte)) (by decide)
      have f177 : Fld Z h166 b164 "java/lang/String" "coder" "B" (.int (0 : Int32)) := D171 (Or.inr (w65 hw)) (ty := .byte) (by decide)
      refine g_dup C X167 d5_73 (q := 74) rfl rfl ?_
      refine g_aloadN C X167 d5_74 (q := 75) rfl rfl rfl ?_
      have f178 := (R9.2.2.1.ext E169)
      refine g_getF C X167 (host := "") (Or.inl (w16 hw)) Via.refl f178 d5_75 (q := 78) rfl ?_
      intro T179 X180
      refine g_iconst C X180 d5_78 (q := 79) rfl (z := (0 : Int32)) rfl ?_
      refine g_iloadN C X180 d5_79 (q := 80) rfl rfl ?_
      refine g_getS C X180 (host := "") (Or.inl (w39 hw)) Via.refl (W.2.2.2.2.1.ext O175.2) d5_80 (q := 83) rfl ?_
      intro T181 X182
      have f183 := (BB10.1.ext E169)
      have f184 := (BB10.2.ext E169)
      refine gW_callI0 C X182 Y174 (own_EL hw) (y := (⟨"java/lang/String", "<init>", "([BIILjava/nio/charset/Charset;)V"⟩ : MethodName)) (a := b164) (by decide) rfl rfl (w41 hw) (w42 hw) (w43 hw) (w38 hw) (rm_str3n hw (x0 := b164) (tb := B5) (kb := kB6) (cs := cs) O175 W A170 f176 f177 f183 f184 (own_ne BB10.2.lt g168) ge172 (by omega) hgd hne) (W := 1) (by decide) (by decide) (k' := 3) rfl (n' := 40) rfl (by decide) (by decide) rfl pd_461 (argsL := [(.ref B5), (.int (0 : Int32)), (.int (o32 cs.length)), (.ref cu)]) rfl (rest := [(.ref b164)]) rfl rfl rfl d5_83 (q := 86) rfl ?_
      rintro T185 h186 vm187 C X188 Y189 R190 ⟨K191, t192, k193, S194⟩
      have O195 := O175.keep K191 (allS ge172 all0)
      exact gW_retA C X188 Y189 (own_EL hw) rfl rfl d5_86 (by decide) (by decide) ⟨_, rfl, b164, t192, k193, ((((Keep.refl h0 [o0]).trans K4 (allS (Or.inl (List.mem_of_getElem? (i := 0) rfl)) all0)).ext E169).trans K191 (allS (Or.inr (own_sz ((Keep.refl h0 [o0]).trans K4 (allS (Or.inl (List.mem_of_getElem? (i := 0) rfl)) all0)).1 g168)) all0)), rfl, (own_sz ((Keep.refl h0 [o0]).trans K4 (allS (Or.inl (List.mem_of_getElem? (i := 0) rfl)) all0)).1 g168), S194⟩
set_option maxRecDepth 65536 in
set_option maxHeartbeats 40000000 in
theorem rmJ4 {l : Launch} {Z : State} {a0 : Array Value} (hw : ∀ d ∈ tables_1, d.before a0 Z = true) {cz : Int32} {fm : Value} {cu : Addr} {q0 q3 q4 q5 q6 q7 q8 q9 q10 c0 c1 c2 d0 d1 d2 : Int32} {q1 : Int64} {offN mN na pN : Nat} {bB aL : Addr} {kD kL : ClassId} {L1 S L2 F : List Int32}  {n0 : Nat} {p : Program} {e : Env} {s : State} {m : MethodId} {below : List Frame} {meth : Method} {c : Code} {T : State} {vm : Vm} {h : Heap} {as' : Array Value} (C : Cx p (s.setVm vm) m meth c Z "com/example/isolate_to_replay/isolatetoreplay/command/LastLineAcceptPinLaw" code 31 (some .boolean) "law") (X : St p l e room_1 (s.setVm vm) m as' below meth c n0 T h 2 26) (Y : Wx Z consts_1 s vm h) (O : Old Z n0 h) (W : Wd Z cz fm cu) (VB : Arv Z h bB kD .byte 18 (bV (bufL offN (L1 ++ S ++ L2 ++ F))) (.int 0)) (VL : Arv Z h aL kL .byte 8 (bV (allL (L1 ++ L2))) (.int 0)) (gb : n0 ≤ bB) (gl : n0 ≤ aL) (sB : Safe Z consts_1 vm h bB) (sL : Safe Z consts_1 vm h aL) (nbl : bB ≠ aL) (hoff : offN ≤ 2) (hmN : mN ≤ 15) (hna : na = List.length (L1 ++ L2)) (hpN : pN = offN + List.length (L1 ++ S ++ L2 ++ F)) (hnb : na ≤ 8) (hpb : pN ≤ 16) (gL1 : Gd L1) (nL1 : NoL L1) (lL1 : L1.length ≤ 4) (hS : SepQ q9 S) (gL2 : Gd L2) (nL2 : NoL L2) (lL2 : L2.length ≤ 4) (hF : SepQ q10 F) :
    Goes p e below (FinW Z consts_1 (fun v h => ∃ w, v = some w ∧ (fun v h => v = .int 1 ∧ True) w h) s n0 32 1216) (T.setTop (mkF m 570 #[.val (.int q0), .val (.long q1), .second, .val (.int q3), .val (.int q4), .val (.int q5), .val (.int q6), .val (.int q7), .val (.int q8), .val (.int q9), .val (.int q10), .val (.int (o32 offN)), .val (.int (o32 mN)), .val (.int c0), .val (.int c1), .val (.int c2), .val (.int d0), .val (.int d1), .val (.int d2), .val (.ref bB), .val (.ref aL), .val (.int (o32 na)), .val (.int (o32 pN)), .val (.int (o32 L1.length)), .unset, .unset, .unset, .unset, .unset, .unset, .unset] [])) := by
  obtain ⟨Wl, eWl⟩ : ∃ z, (L1 ++ S ++ L2 ++ F) = z := ⟨_, rfl⟩
  have gWl : Gd Wl := by rw [← eWl]; exact own_gA (own_gA (own_gA gL1 hS.gd) gL2) hF.gd
  have hcW : Wl.count 10 ≤ 4 := by rw [← eWl]; exact own_cntW nL1 hS nL2 hF
  have hlW : Wl.length ≤ 14 := by rw [← eWl]; have := hS.len; have := hF.len; simp only [List.length_append]; omega
  rw [eWl] at VB hpN
  have hna2 : na = L1.length + L2.length := by rw [hna, List.length_append]
  refine g_iload C X at_570 (q := 572) rfl rfl ?_
  refine g_iload C X at_572 (q := 574) rfl rfl ?_
  refine g_isub C X at_574 (q := 575) rfl (z := (o32 Wl.length)) ((r_sub pN (by omega) offN (by omega)).trans (congrArg o32 (by omega))) ?_
  refine g_istore C X at_575 (q := 577) rfl (L' := #[.val (.int q0), .val (.long q1), .second, .val (.int q3), .val (.int q4), .val (.int q5), .val (.int q6), .val (.int q7), .val (.int q8), .val (.int q9), .val (.int q10), .val (.int (o32 offN)), .val (.int (o32 mN)), .val (.int c0), .val (.int c1), .val (.int c2), .val (.int d0), .val (.int d1), .val (.int d2), .val (.ref bB), .val (.ref aL), .val (.int (o32 na)), .val (.int (o32 pN)), .val (.int (o32 L1.length)), .val (.int (o32 Wl.length)), .unset, .unset, .unset, .unset, .unset, .unset]) rfl ?_
  refine g_iload C X at_577 (q := 579) rfl rfl ?_
  refine g_ldcI C X (w6 hw) at_579 (q := 581) rfl ?_
  obtain ⟨v1, ev1⟩ : ∃ z, (q4 &&& (2147483647 : Int32)) = z := ⟨_, rfl⟩
  have hl2 : 0 ≤ v1.toInt := by rw [← ev1]; exact (c_and q4 (2147483647 : Int32) (by decide)).1
  have hh3 : v1.toInt ≤ 2147483647 := by rw [← ev1]; exact (c_and q4 (2147483647 : Int32) (by decide)).2
  refine g_iand C X at_581 (q := 582) rfl (z := v1) ev1 ?_
  refine g_iload C X at_582 (q := 584) rfl rfl ?_
  refine g_iconst C X at_584 (q := 585) rfl (z := (1 : Int32)) rfl ?_
  refine g_iadd C X at_585 (q := 586) rfl (z := (o32 (Wl.length + 1))) (r_add Wl.length (by omega) 1 (by decide)) ?_
  obtain ⟨kN, hkN, ekN⟩ := own_rem1 (n := Wl.length) hl2 (by omega)
  refine g_irem C X at_586 (q := 587) rfl (own_nz (n := Wl.length) (by omega)) (z := (o32 kN)) ekN ?_
  refine g_istore C X at_587 (q := 589) rfl (L' := #[.val (.int q0), .val (.long q1), .second, .val (.int q3), .val (.int q4), .val (.int q5), .val (.int q6), .val (.int q7), .val (.int q8), .val (.int q9), .val (.int q10), .val (.int (o32 offN)), .val (.int (o32 mN)), .val (.int c0), .val (.int c1), .val (.int c2), .val (.int d0), .val (.int d1), .val (.int d2), .val (.ref bB), .val (.ref aL), .val (.int (o32 na)), .val (.int (o32 pN)), .val (.int (o32 L1.length)), .val (.int (o32 Wl.length)), .val (.int (o32 kN)), .unset, .unset, .unset, .unset, .unset]) rfl ?_
  refine g_new C X (w7 hw) (w8 hw) (w9 hw) at_589 (q := 592) rfl (k' := 3) rfl (n' := 29) rfl (by decide) (by decide) ?_
  intro T5 h6 b4 g8 X7 E9 A10 D11
  have ge12 : n0 ≤ b4 := own_ge O g8
  have Y13 := Wx.ext Y E9
  have O14 := O.ext E9
  have f15 : Fld Z h6 b4 "com/example/isolate_to_replay/isolatetoreplay/command/LastLine" "last" "[B" .null := D11 (Or.inl (w17 hw)) (ty := (.array .byte)) (by decide)
  have f16 : Fld Z h6 b4 "com/example/isolate_to_replay/isolatetoreplay/command/LastLine" "current" "[B" .null := D11 (Or.inr (w19 hw)) (ty := (.array .byte)) (by decide)
  have f17 : Fld Z h6 b4 "com/example/isolate_to_replay/isolatetoreplay/command/LastLine" "currentLength" "I" (.int (0 : Int32)) := D11 (Or.inl (w35 hw)) (ty := .int) (by decide)
  refine g_dup C X7 at_592 (q := 593) rfl rfl ?_
  refine g_iload C X7 at_593 (q := 595) rfl rfl ?_
  refine g_callI0 C X7 (y := (⟨"com/example/isolate_to_replay/isolatetoreplay/command/LastLine", "<init>", "(I)V"⟩ : MethodName)) (a := b4) (by decide) rfl (w10 hw) (w11 hw) (w12 hw) (w9 hw) (rm_init hw (o0 := b4) (mN := mN) O14 W A10 f16 f15 f17 ge12 (by omega)) (W := 1) (by decide) (by decide) (k' := 5) rfl (n' := 59) rfl (by decide) (by decide) rfl pd_481 (argsL := [(.int (o32 mN))]) rfl (rest := [(.ref b4)]) rfl rfl rfl at_595 (q := 598) rfl ?_
  rintro T18 h19 X20 ⟨K21, A22, B23, kA24, kB25, zA26, zB27, nAB28, nAo29, nBo30, R31, BA32, BB33⟩
  have gA34 := Nat.le_trans (own_szO O14) zA26
  have sf35 := Wx.safe0 Y13 zA26
  have f36 := (VB.ext E9)
  have nD37 : bB ≠ A22 := Nat.ne_of_lt (Nat.lt_of_lt_of_le f36.lt zA26)
  have Y38 := Wx.keep Y13 K21 (sfS (Safe.exa (Cx.alike C) A10 (by decide) (by decide)) sf0)
  have O39 := O14.keep K21 (allS ge12 all0)
  refine g_astore C X20 at_598 (q := 600) rfl rfl (L' := #[.val (.int q0), .val (.long q1), .second, .val (.int q3), .val (.int q4), .val (.int q5), .val (.int q6), .val (.int q7), .val (.int q8), .val (.int q9), .val (.int q10), .val (.int (o32 offN)), .val (.int (o32 mN)), .val (.int c0), .val (.int c1), .val (.int c2), .val (.int d0), .val (.int d1), .val (.int d2), .val (.ref bB), .val (.ref aL), .val (.int (o32 na)), .val (.int (o32 pN)), .val (.int (o32 L1.length)), .val (.int (o32 Wl.length)), .val (.int (o32 kN)), .val (.ref b4), .unset, .unset, .unset, .unset]) rfl ?_
  refine g_aload C X20 at_600 (q := 602) rfl rfl rfl ?_
  refine g_aload C X20 at_602 (q := 604) rfl rfl rfl ?_
  refine g_iload C X20 at_604 (q := 606) rfl rfl ?_
  refine g_iload C X20 at_606 (q := 608) rfl rfl ?_
  have f40 := (f36.keep K21 (ninS (own_ne VB.lt g8) nin0))
  refine g_callV0 C X20 (y := (⟨"com/example/isolate_to_replay/isolatetoreplay/command/LastLine", "accept", "([BII)V"⟩ : MethodName)) (z := (⟨"com/example/isolate_to_replay/isolatetoreplay/command/LastLine", "accept", "([BII)V"⟩ : MethodName)) (a := b4) (by decide) (w20 hw) (w21 hw) (w23 hw) (w22 hw) (nf_sel (w23 hw)) R31.1 (w24 hw) (w9 hw) (rm_accept hw (o0 := b4) (A := A22) (dB := bB) (kA := kA24) (kD := kD) (bl := (bufL offN Wl)) (fq := (((bufL offN Wl).drop offN).take kN).foldl stp ((List.replicate mN 0), 0, (List.replicate 0 0))) (oN := offN) (lN := kN) (B := B23) (kB := kB25) (cs := (List.replicate mN 0)) (ls := (List.replicate 0 0)) (kN := 0) O39 W (bufL_len (by omega)) (bufL_gd gWl) (by omega) nAo29 nD37 (own_ne VB.lt g8) ge12 gA34 ⟨R31.1, R31.2.1, R31.2.2.1, R31.2.2.2⟩ BA32 BB33 f40 (by rw [List.length_replicate]; omega) (Nat.zero_le _) nBo30 nAB28 rfl (by have e := bufL_drop (off := offN) (W := Wl) (k := 0) (j := kN) (by omega); rw [Nat.add_zero] at e; rw [e]; exact own_cntT hcW)) (W := 0) (by decide) (by decide) (k' := 9) rfl (n' := 131) rfl (by decide) (by decide) rfl pd_482 (argsL := [(.ref bB), (.int (o32 offN)), (.int (o32 kN))]) rfl (rest := []) rfl rfl rfl at_608 (q := 611) rfl ?_
  rintro T41 h42 X43 ⟨K44, B45, kB46, q47, nBo48, nAB49, R50, AA51, BB52⟩
  obtain ⟨fq53, efq54⟩ : ∃ z, (((bufL offN Wl).drop offN).take kN).foldl stp ((List.replicate mN 0), 0, (List.replicate 0 0)) = z := ⟨_, rfl⟩
  rw [efq54] at R50 AA51 BB52
  have hin55 := own_inv (((bufL offN Wl).drop offN).take kN) ((List.replicate mN 0), 0, (List.replicate 0 0)) (Nat.zero_le _)
  rw [efq54] at hin55
  have hfq53 : fq53.1.length = mN ∧ fq53.2.1 ≤ mN := by simpa using hin55
  have f56 := (Wx.safeK Y13 sf35 K21 (sfS (Safe.exa (Cx.alike C) A10 (by decide) (by decide)) sf0))
  have Y57 := Wx.keep Y38 K44 (sfS (Safe.exa (Cx.alike C) R31.1 (by decide) (by decide)) (sfS f56 sf0))
  have O58 := O39.keep K44 (allS ge12 (allS gA34 all0))
  refine g_aload C X43 at_611 (q := 613) rfl rfl rfl ?_
  refine g_aload C X43 at_613 (q := 615) rfl rfl rfl ?_
  refine g_iload C X43 at_615 (q := 617) rfl rfl ?_
  refine g_iload C X43 at_617 (q := 619) rfl rfl ?_
  refine g_iadd C X43 at_619 (q := 620) rfl (z := (o32 (offN + kN))) (r_add offN (by omega) kN (by omega)) ?_
  refine g_iload C X43 at_620 (q := 622) rfl rfl ?_
  refine g_iload C X43 at_622 (q := 624) rfl rfl ?_
  refine g_isub C X43 at_624 (q := 625) rfl (z := (o32 (Wl.length - kN))) (r_sub Wl.length (by omega) kN hkN) ?_
  have f59 := (f40.keep K44 (ninS (own_ne VB.lt g8) (ninS nD37 nin0)))
  refine g_callV0 C X43 (y := (⟨"com/example/isolate_to_replay/isolatetoreplay/command/LastLine", "accept", "([BII)V"⟩ : MethodName)) (z := (⟨"com/example/isolate_to_replay/isolatetoreplay/command/LastLine", "accept", "([BII)V"⟩ : MethodName)) (a := b4) (by decide) (w20 hw) (w21 hw) (w23 hw) (w22 hw) (nf_sel (w23 hw)) R50.1 (w24 hw) (w9 hw) (rm_accept hw (o0 := b4) (A := A22) (dB := bB) (kA := kA24) (kD := kD) (bl := (bufL offN Wl)) (fq := (((bufL offN Wl).drop (offN + kN)).take (Wl.length - kN)).foldl stp (fq53.1, fq53.2.1, fq53.2.2)) (oN := (offN + kN)) (lN := (Wl.length - kN)) (B := B45) (kB := kB46) (cs := fq53.1) (ls := fq53.2.2) (kN := fq53.2.1) O58 W (bufL_len (by omega)) (bufL_gd gWl) (by omega) nAo29 nD37 (own_ne VB.lt g8) ge12 gA34 ⟨R50.1, R50.2.1, R50.2.2.1, R50.2.2.2⟩ AA51 BB52 f59 (by rw [hfq53.1]; omega) (by rw [hfq53.1]; exact hfq53.2) nBo48 nAB49 rfl (by rw [bufL_drop (by omega)]; exact own_cntT hcW)) (W := 0) (by decide) (by decide) (k' := 13) rfl (n' := 203) rfl (by decide) (by decide) rfl pd_482 (argsL := [(.ref bB), (.int (o32 (offN + kN))), (.int (o32 (Wl.length - kN)))]) rfl (rest := []) rfl rfl rfl at_625 (q := 628) rfl ?_
  rintro T60 h61 X62 ⟨K63, B64, kB65, q66, nBo67, nAB68, R69, AA70, BB71⟩
  obtain ⟨fq72, efq73⟩ : ∃ z, (((bufL offN Wl).drop (offN + kN)).take (Wl.length - kN)).foldl stp (fq53.1, fq53.2.1, fq53.2.2) = z := ⟨_, rfl⟩
  rw [efq73] at R69 AA70 BB71
  have hin74 := own_inv (((bufL offN Wl).drop (offN + kN)).take (Wl.length - kN)) (fq53.1, fq53.2.1, fq53.2.2) (by rw [hfq53.1]; exact hfq53.2)
  rw [efq73] at hin74
  have hfq72 : fq72.1.length = mN ∧ fq72.2.1 ≤ mN := ⟨hin74.1.trans hfq53.1, Nat.le_trans hin74.2 (Nat.le_of_eq hfq53.1)⟩
  have f75 := (Wx.safeK Y38 f56 K44 (sfS (Safe.exa (Cx.alike C) R31.1 (by decide) (by decide)) (sfS f56 sf0)))
  have Y76 := Wx.keep Y57 K63 (sfS (Safe.exa (Cx.alike C) R50.1 (by decide) (by decide)) (sfS f75 sf0))
  have O77 := O58.keep K63 (allS ge12 (allS gA34 all0))
  refine g_aload C X62 at_628 (q := 630) rfl rfl rfl ?_
  have efin : fq72 = Wl.foldl stp (List.replicate mN 0, 0, []) := own_join hkN (by omega) efq54 efq73
  obtain ⟨rs, ers⟩ : ∃ z, (endS fq72).2.2 = z := ⟨_, rfl⟩
  have hrs : (q9 = 0 ∧ rs = (L1 ++ L2).take (kp (L1 ++ L2) mN)) ∨ (¬ q9 = 0 ∧ ((0 < kp L2 mN ∧ rs = L2.take (kp L2 mN)) ∨ (¬ 0 < kp L2 mN ∧ rs = L1.take (kp L1 mN)))) := own_final nL1 hS nL2 hF eWl efin ers
  have hr8 : rs.length < 16 ∧ Gd rs := own_rs8 gL1 gL2 lL1 lL2 hrs
  refine gW_callV1 C X62 Y76 (own_EL hw) (y := (⟨"com/example/isolate_to_replay/isolatetoreplay/command/LastLine", "text", "()Ljava/lang/String;"⟩ : MethodName)) (z := (⟨"com/example/isolate_to_replay/isolatetoreplay/command/LastLine", "text", "()Ljava/lang/String;"⟩ : MethodName)) (a := b4) (by decide) (w25 hw) (w26 hw) (w28 hw) (w27 hw) (nf_sel (w28 hw)) R69.1 (w29 hw) (w9 hw) (rm_text hw (o0 := b4) (A := A22) (B := B64) (kA := kA24) (kB := kB65) (cs0 := fq72.1) (ls := fq72.2.2) (cs := rs) (kN := fq72.2.1) O77 W ⟨R69.1, R69.2.1, R69.2.2.1, R69.2.2.2⟩ AA70 BB71 (by rw [hfq72.1]; omega) (by rw [hfq72.1]; exact hfq72.2) nAo29 nBo67 ge12 ers hr8.1 hr8.2) (W := 0) (by decide) (by decide) (k' := 19) rfl (n' := 243) rfl (by decide) (by decide) rfl pd_483 (argsL := []) rfl (rest := []) rfl rfl rfl at_630 (q := 633) rfl ?_
  rintro _ T78 h79 vm80 C X81 Y82 R83 ⟨xs84, tb85, kb86, K87, rfl, sz88, S89⟩
  have O90 := O77.keep K87 (allS ge12 all0)
  refine g_astore C X81 at_633 (q := 635) rfl rfl (L' := #[.val (.int q0), .val (.long q1), .second, .val (.int q3), .val (.int q4), .val (.int q5), .val (.int q6), .val (.int q7), .val (.int q8), .val (.int q9), .val (.int q10), .val (.int (o32 offN)), .val (.int (o32 mN)), .val (.int c0), .val (.int c1), .val (.int c2), .val (.int d0), .val (.int d1), .val (.int d2), .val (.ref bB), .val (.ref aL), .val (.int (o32 na)), .val (.int (o32 pN)), .val (.int (o32 L1.length)), .val (.int (o32 Wl.length)), .val (.int (o32 kN)), .val (.ref b4), .val (.ref xs84), .unset, .unset, .unset]) rfl ?_
  refine g_iload C X81 at_635 (q := 637) rfl rfl ?_
  by_cases hc91 : q9 = (0 : Int32)
  · refine g_ifN C X81 at_637 (q := 640) rfl (teq hc91).2 ?_
    refine g_iconst C X81 at_640 (q := 641) rfl (z := (0 : Int32)) rfl ?_
    refine g_istore C X81 at_641 (q := 643) rfl (L' := #[.val (.int q0), .val (.long q1), .second, .val (.int q3), .val (.int q4), .val (.int q5), .val (.int q6), .val (.int q7), .val (.int q8), .val (.int q9), .val (.int q10), .val (.int (o32 offN)), .val (.int (o32 mN)), .val (.int c0), .val (.int c1), .val (.int c2), .val (.int d0), .val (.int d1), .val (.int d2), .val (.ref bB), .val (.ref aL), .val (.int (o32 na)), .val (.int (o32 pN)), .val (.int (o32 L1.length)), .val (.int (o32 Wl.length)), .val (.int (o32 kN)), .val (.ref b4), .val (.ref xs84), .val (.int (0 : Int32)), .unset, .unset]) rfl ?_
    refine g_aload C X81 at_643 (q := 645) rfl rfl rfl ?_
    refine g_iconst C X81 at_645 (q := 646) rfl (z := (0 : Int32)) rfl ?_
    refine g_iload C X81 at_646 (q := 648) rfl rfl ?_
    refine g_iload C X81 at_648 (q := 650) rfl rfl ?_
    have f92 := (((((VL.ext E9).keep K21 (ninS (own_ne VL.lt g8) nin0)).keep K44 (ninS (own_ne VL.lt g8) (ninS (Nat.ne_of_lt (Nat.lt_of_lt_of_le (Nat.lt_of_lt_of_le VL.lt E9.1) zA26)) nin0))).keep K63 (ninS (own_ne VL.lt g8) (ninS (Nat.ne_of_lt (Nat.lt_of_lt_of_le (Nat.lt_of_lt_of_le VL.lt E9.1) zA26)) nin0))).keep K87 (ninS (own_ne VL.lt g8) nin0))
    refine g_callS1 C X81 (y := (⟨"com/example/isolate_to_replay/isolatetoreplay/command/LastLineAcceptPinLaw", "kept", "([BIII)I"⟩ : MethodName)) (by decide) (w70 hw) (w71 hw) (w72 hw) (w2 hw) (rm_kept hw (aL := aL) (kL := kL) (al := (allL (L1 ++ L2))) (Lx := (L1 ++ L2)) (sN := 0) (lN := na) (mN := mN) O90 W f92 hna.symm (by omega) (by omega) (fun i hi => by rw [Nat.zero_add]; exact (allL_getD (by rw [← hna]; exact hi)).symm)) (W := 0) (by decide) (by decide) (k' := 19) rfl (n' := 243) rfl (by decide) (by decide) rfl pd_484 (argsL := [(.ref aL), (.int (0 : Int32)), (.int (o32 na)), (.int (o32 mN))]) rfl (rest := []) rfl rfl rfl at_650 (q := 653) rfl ?_
    rintro _ T93 _ X94 ⟨rfl, rfl⟩
    refine g_istore C X94 at_653 (q := 655) rfl (L' := #[.val (.int q0), .val (.long q1), .second, .val (.int q3), .val (.int q4), .val (.int q5), .val (.int q6), .val (.int q7), .val (.int q8), .val (.int q9), .val (.int q10), .val (.int (o32 offN)), .val (.int (o32 mN)), .val (.int c0), .val (.int c1), .val (.int c2), .val (.int d0), .val (.int d1), .val (.int d2), .val (.ref bB), .val (.ref aL), .val (.int (o32 na)), .val (.int (o32 pN)), .val (.int (o32 L1.length)), .val (.int (o32 Wl.length)), .val (.int (o32 kN)), .val (.ref b4), .val (.ref xs84), .val (.int (0 : Int32)), .val (.int (o32 (kp (L1 ++ L2) mN))), .unset]) rfl ?_
    refine g_goto C X94 at_655 (by decide) (q := 705) (by decide) ?_
    have ersx : rs = (L1 ++ L2).take (kp (L1 ++ L2) mN) := hrs.elim (fun z => z.2) fun z => absurd hc91 z.1
    have hlen : rs.length = kp (L1 ++ L2) mN := by rw [ersx]; exact own_resL
    have hkl := kp_le (L1 ++ L2) mN
    have hmm : ∀ i, i < rs.length → rs.getD i 0 = (allL (L1 ++ L2)).getD (0 + i) 0 := fun i hi => by rw [ersx, own_takeG (by omega)]; exact (by rw [Nat.zero_add]; exact (allL_getD (by omega)).symm)
    rw [show o32 (kp (L1 ++ L2) mN) = o32 rs.length from congrArg o32 hlen.symm]
    refine g_aload C X94 at_705 (q := 707) rfl rfl rfl ?_
    refine g_aload C X94 at_707 (q := 709) rfl rfl rfl ?_
    refine g_iload C X94 at_709 (q := 711) rfl rfl ?_
    refine g_iload C X94 at_711 (q := 713) rfl rfl ?_
    refine g_callS1 C X94 (y := (⟨"com/example/isolate_to_replay/isolatetoreplay/command/LastLineAcceptPinLaw", "matches", "(Ljava/lang/String;[BII)Z"⟩ : MethodName)) (by decide) (w77 hw) (w78 hw) (w79 hw) (w2 hw) (rm_match hw (x0 := xs84) (tb := tb85) (kb := kb86) (cs := rs) (aL := aL) (kL := kL) (al := (allL (L1 ++ L2))) (sN := 0) O90 W S89 (by omega) hr8.2 f92 (by omega) hmm) (W := 0) (by decide) (by decide) (k' := 19) rfl (n' := 243) rfl (by decide) (by decide) rfl pd_485 (argsL := [(.ref xs84), (.ref aL), (.int (0 : Int32)), (.int (o32 rs.length))]) rfl (rest := []) rfl rfl rfl at_713 (q := 716) rfl ?_
    rintro _ T95 _ X96 ⟨rfl, rfl⟩
    exact gW_retN C X96 Y82 (own_EL hw) (Or.inl rfl) (z' := 1) (by decide) at_716 (by decide) (by decide) ⟨_, rfl, rfl, trivial⟩
  · refine g_ifY C X81 at_637 (by decide) (q := 658) (by decide) (feq hc91).2 ?_
    refine g_aload C X81 at_658 (q := 660) rfl rfl rfl ?_
    refine g_iload C X81 at_660 (q := 662) rfl rfl ?_
    refine g_iload C X81 at_662 (q := 664) rfl rfl ?_
    refine g_iload C X81 at_664 (q := 666) rfl rfl ?_
    refine g_isub C X81 at_666 (q := 667) rfl (z := (o32 L2.length)) ((r_sub na (by omega) L1.length (by omega)).trans (congrArg o32 (by omega))) ?_
    refine g_iload C X81 at_667 (q := 669) rfl rfl ?_
    have f97 := (((((VL.ext E9).keep K21 (ninS (own_ne VL.lt g8) nin0)).keep K44 (ninS (own_ne VL.lt g8) (ninS (Nat.ne_of_lt (Nat.lt_of_lt_of_le (Nat.lt_of_lt_of_le VL.lt E9.1) zA26)) nin0))).keep K63 (ninS (own_ne VL.lt g8) (ninS (Nat.ne_of_lt (Nat.lt_of_lt_of_le (Nat.lt_of_lt_of_le VL.lt E9.1) zA26)) nin0))).keep K87 (ninS (own_ne VL.lt g8) nin0))
    refine g_callS1 C X81 (y := (⟨"com/example/isolate_to_replay/isolatetoreplay/command/LastLineAcceptPinLaw", "kept", "([BIII)I"⟩ : MethodName)) (by decide) (w70 hw) (w71 hw) (w72 hw) (w2 hw) (rm_kept hw (aL := aL) (kL := kL) (al := (allL (L1 ++ L2))) (Lx := L2) (sN := L1.length) (lN := L2.length) (mN := mN) O90 W f97 rfl (by omega) (by omega) (fun i hi => own_ga2 hi)) (W := 0) (by decide) (by decide) (k' := 19) rfl (n' := 243) rfl (by decide) (by decide) rfl pd_484 (argsL := [(.ref aL), (.int (o32 L1.length)), (.int (o32 L2.length)), (.int (o32 mN))]) rfl (rest := []) rfl rfl rfl at_669 (q := 672) rfl ?_
    rintro _ T98 _ X99 ⟨rfl, rfl⟩
    refine g_istore C X99 at_672 (q := 674) rfl (L' := #[.val (.int q0), .val (.long q1), .second, .val (.int q3), .val (.int q4), .val (.int q5), .val (.int q6), .val (.int q7), .val (.int q8), .val (.int q9), .val (.int q10), .val (.int (o32 offN)), .val (.int (o32 mN)), .val (.int c0), .val (.int c1), .val (.int c2), .val (.int d0), .val (.int d1), .val (.int d2), .val (.ref bB), .val (.ref aL), .val (.int (o32 na)), .val (.int (o32 pN)), .val (.int (o32 L1.length)), .val (.int (o32 Wl.length)), .val (.int (o32 kN)), .val (.ref b4), .val (.ref xs84), .unset, .unset, .val (.int (o32 (kp L2 mN)))]) rfl ?_
    refine g_iload C X99 at_674 (q := 676) rfl rfl ?_
    by_cases hc100 : (0 : Int32) < (o32 (kp L2 mN))
    · refine g_ifN C X99 at_676 (q := 679) rfl (tlt hc100).2.2.2 ?_
      refine g_iload C X99 at_679 (q := 681) rfl rfl ?_
      refine g_istore C X99 at_681 (q := 683) rfl (L' := #[.val (.int q0), .val (.long q1), .second, .val (.int q3), .val (.int q4), .val (.int q5), .val (.int q6), .val (.int q7), .val (.int q8), .val (.int q9), .val (.int q10), .val (.int (o32 offN)), .val (.int (o32 mN)), .val (.int c0), .val (.int c1), .val (.int c2), .val (.int d0), .val (.int d1), .val (.int d2), .val (.ref bB), .val (.ref aL), .val (.int (o32 na)), .val (.int (o32 pN)), .val (.int (o32 L1.length)), .val (.int (o32 Wl.length)), .val (.int (o32 kN)), .val (.ref b4), .val (.ref xs84), .val (.int (o32 L1.length)), .unset, .val (.int (o32 (kp L2 mN)))]) rfl ?_
      refine g_iload C X99 at_683 (q := 685) rfl rfl ?_
      refine g_istore C X99 at_685 (q := 687) rfl (L' := #[.val (.int q0), .val (.long q1), .second, .val (.int q3), .val (.int q4), .val (.int q5), .val (.int q6), .val (.int q7), .val (.int q8), .val (.int q9), .val (.int q10), .val (.int (o32 offN)), .val (.int (o32 mN)), .val (.int c0), .val (.int c1), .val (.int c2), .val (.int d0), .val (.int d1), .val (.int d2), .val (.ref bB), .val (.ref aL), .val (.int (o32 na)), .val (.int (o32 pN)), .val (.int (o32 L1.length)), .val (.int (o32 Wl.length)), .val (.int (o32 kN)), .val (.ref b4), .val (.ref xs84), .val (.int (o32 L1.length)), .val (.int (o32 (kp L2 mN))), .val (.int (o32 (kp L2 mN)))]) rfl ?_
      refine g_goto C X99 at_687 (by decide) (q := 705) (by decide) ?_
      have ersx : rs = L2.take (kp L2 mN) := (hrs.elim (fun z => absurd z.1 hc91) fun z => z.2).elim (fun z => z.2) fun z => absurd (own_pos (by have := kp_le L2 mN; omega) hc100) z.1
      have hlen : rs.length = kp L2 mN := by rw [ersx]; exact own_resL
      have hkl := kp_le L2 mN
      have hmm : ∀ i, i < rs.length → rs.getD i 0 = (allL (L1 ++ L2)).getD (L1.length + i) 0 := fun i hi => by rw [ersx, own_takeG (by omega)]; exact own_ga2 (by omega)
      rw [show o32 (kp L2 mN) = o32 rs.length from congrArg o32 hlen.symm]
      refine g_aload C X99 at_705 (q := 707) rfl rfl rfl ?_
      refine g_aload C X99 at_707 (q := 709) rfl rfl rfl ?_
      refine g_iload C X99 at_709 (q := 711) rfl rfl ?_
      refine g_iload C X99 at_711 (q := 713) rfl rfl ?_
      refine g_callS1 C X99 (y := (⟨"com/example/isolate_to_replay/isolatetoreplay/command/LastLineAcceptPinLaw", "matches", "(Ljava/lang/String;[BII)Z"⟩ : MethodName)) (by decide) (w77 hw) (w78 hw) (w79 hw) (w2 hw) (rm_match hw (x0 := xs84) (tb := tb85) (kb := kb86) (cs := rs) (aL := aL) (kL := kL) (al := (allL (L1 ++ L2))) (sN := L1.length) O90 W S89 (by omega) hr8.2 f97 (by omega) hmm) (W := 0) (by decide) (by decide) (k' := 19) rfl (n' := 243) rfl (by decide) (by decide) rfl pd_485 (argsL := [(.ref xs84), (.ref aL), (.int (o32 L1.length)), (.int (o32 rs.length))]) rfl (rest := []) rfl rfl rfl at_713 (q := 716) rfl ?_
      rintro _ T101 _ X102 ⟨rfl, rfl⟩
      exact gW_retN C X102 Y82 (own_EL hw) (Or.inl rfl) (z' := 1) (by decide) at_716 (by decide) (by decide) ⟨_, rfl, rfl, trivial⟩
    · refine g_ifY C X99 at_676 (by decide) (q := 690) (by decide) (flt hc100).2.2.2 ?_
      refine g_iconst C X99 at_690 (q := 691) rfl (z := (0 : Int32)) rfl ?_
      refine g_istore C X99 at_691 (q := 693) rfl (L' := #[.val (.int q0), .val (.long q1), .second, .val (.int q3), .val (.int q4), .val (.int q5), .val (.int q6), .val (.int q7), .val (.int q8), .val (.int q9), .val (.int q10), .val (.int (o32 offN)), .val (.int (o32 mN)), .val (.int c0), .val (.int c1), .val (.int c2), .val (.int d0), .val (.int d1), .val (.int d2), .val (.ref bB), .val (.ref aL), .val (.int (o32 na)), .val (.int (o32 pN)), .val (.int (o32 L1.length)), .val (.int (o32 Wl.length)), .val (.int (o32 kN)), .val (.ref b4), .val (.ref xs84), .val (.int (0 : Int32)), .unset, .val (.int (o32 (kp L2 mN)))]) rfl ?_
      refine g_aload C X99 at_693 (q := 695) rfl rfl rfl ?_
      refine g_iconst C X99 at_695 (q := 696) rfl (z := (0 : Int32)) rfl ?_
      refine g_iload C X99 at_696 (q := 698) rfl rfl ?_
      refine g_iload C X99 at_698 (q := 700) rfl rfl ?_
      refine g_callS1 C X99 (y := (⟨"com/example/isolate_to_replay/isolatetoreplay/command/LastLineAcceptPinLaw", "kept", "([BIII)I"⟩ : MethodName)) (by decide) (w70 hw) (w71 hw) (w72 hw) (w2 hw) (rm_kept hw (aL := aL) (kL := kL) (al := (allL (L1 ++ L2))) (Lx := L1) (sN := 0) (lN := L1.length) (mN := mN) O90 W f97 rfl (by omega) (by omega) (fun i hi => own_ga1 hi)) (W := 0) (by decide) (by decide) (k' := 19) rfl (n' := 243) rfl (by decide) (by decide) rfl pd_484 (argsL := [(.ref aL), (.int (0 : Int32)), (.int (o32 L1.length)), (.int (o32 mN))]) rfl (rest := []) rfl rfl rfl at_700 (q := 703) rfl ?_
      rintro _ T103 _ X104 ⟨rfl, rfl⟩
      refine g_istore C X104 at_703 (q := 705) rfl (L' := #[.val (.int q0), .val (.long q1), .second, .val (.int q3), .val (.int q4), .val (.int q5), .val (.int q6), .val (.int q7), .val (.int q8), .val (.int q9), .val (.int q10), .val (.int (o32 offN)), .val (.int (o32 mN)), .val (.int c0), .val (.int c1), .val (.int c2), .val (.int d0), .val (.int d1), .val (.int d2), .val (.ref bB), .val (.ref aL), .val (.int (o32 na)), .val (.int (o32 pN)), .val (.int (o32 L1.length)), .val (.int (o32 Wl.length)), .val (.int (o32 kN)), .val (.ref b4), .val (.ref xs84), .val (.int (0 : Int32)), .val (.int (o32 (kp L1 mN))), .val (.int (o32 (kp L2 mN)))]) rfl ?_
      have ersx : rs = L1.take (kp L1 mN) := (hrs.elim (fun z => absurd z.1 hc91) fun z => z.2).elim (fun z => absurd z.1 (fun q => own_npos hc100 ⟨q, by have := kp_le L2 mN; omega⟩)) fun z => z.2
      have hlen : rs.length = kp L1 mN := by rw [ersx]; exact own_resL
      have hkl := kp_le L1 mN
      have hmm : ∀ i, i < rs.length → rs.getD i 0 = (allL (L1 ++ L2)).getD (0 + i) 0 := fun i hi => by rw [ersx, own_takeG (by omega)]; exact own_ga1 (by omega)
      rw [show o32 (kp L1 mN) = o32 rs.length from congrArg o32 hlen.symm]
      refine g_aload C X104 at_705 (q := 707) rfl rfl rfl ?_
      refine g_aload C X104 at_707 (q := 709) rfl rfl rfl ?_
      refine g_iload C X104 at_709 (q := 711) rfl rfl ?_
      refine g_iload C X104 at_711 (q := 713) rfl rfl ?_
      refine g_callS1 C X104 (y := (⟨"com/example/isolate_to_replay/isolatetoreplay/command/LastLineAcceptPinLaw", "matches", "(Ljava/lang/String;[BII)Z"⟩ : MethodName)) (by decide) (w77 hw) (w78 hw) (w79 hw) (w2 hw) (rm_match hw (x0 := xs84) (tb := tb85) (kb := kb86) (cs := rs) (aL := aL) (kL := kL) (al := (allL (L1 ++ L2))) (sN := 0) O90 W S89 (by omega) hr8.2 f97 (by omega) hmm) (W := 0) (by decide) (by decide) (k' := 19) rfl (n' := 243) rfl (by decide) (by decide) rfl pd_485 (argsL := [(.ref xs84), (.ref aL), (.int (0 : Int32)), (.int (o32 rs.length))]) rfl (rest := []) rfl rfl rfl at_713 (q := 716) rfl ?_
      rintro _ T105 _ X106 ⟨rfl, rfl⟩
      exact gW_retN C X106 Y82 (own_EL hw) (Or.inl rfl) (z' := 1) (by decide) at_716 (by decide) (by decide) ⟨_, rfl, rfl, trivial⟩
set_option maxRecDepth 65536 in
set_option maxHeartbeats 40000000 in
theorem rmJ3 {l : Launch} {Z : State} {a0 : Array Value} (hw : ∀ d ∈ tables_1, d.before a0 Z = true) {cz : Int32} {fm : Value} {cu : Addr} {q0 q3 q4 q5 q6 q7 q8 q9 q10 c0 c1 c2 d0 d1 d2 : Int32} {q1 : Int64} {offN mN na pN : Nat} {bB aL : Addr} {kD kL : ClassId} {L1 S L2 : List Int32}  {n0 : Nat} {p : Program} {e : Env} {s : State} {m : MethodId} {below : List Frame} {meth : Method} {c : Code} {T : State} {vm : Vm} {h : Heap} {as' : Array Value} (C : Cx p (s.setVm vm) m meth c Z "com/example/isolate_to_replay/isolatetoreplay/command/LastLineAcceptPinLaw" code 31 (some .boolean) "law") (X : St p l e room_1 (s.setVm vm) m as' below meth c n0 T h 2 26) (Y : Wx Z consts_1 s vm h) (O : Old Z n0 h) (W : Wd Z cz fm cu) (VB : Arv Z h bB kD .byte 18 (bV (bufL offN (L1 ++ S ++ L2))) (.int 0)) (VL : Arv Z h aL kL .byte 8 (bV (allL (L1 ++ L2))) (.int 0)) (gb : n0 ≤ bB) (gl : n0 ≤ aL) (sB : Safe Z consts_1 vm h bB) (sL : Safe Z consts_1 vm h aL) (nbl : bB ≠ aL) (hoff : offN ≤ 2) (hmN : mN ≤ 15) (hna : na = List.length (L1 ++ L2)) (hpN : pN = offN + List.length (L1 ++ S ++ L2)) (hnb : na ≤ 8) (hpb : pN ≤ 13) (gL1 : Gd L1) (nL1 : NoL L1) (lL1 : L1.length ≤ 4) (hS : SepQ q9 S) (gL2 : Gd L2) (nL2 : NoL L2) (lL2 : L2.length ≤ 4) (lq10 : 0 ≤ q10.toInt) (uq10 : q10.toInt ≤ 3)  :
    Goes p e below (FinW Z consts_1 (fun v h => ∃ w, v = some w ∧ (fun v h => v = .int 1 ∧ True) w h) s n0 32 1216) (T.setTop (mkF m 512 #[.val (.int q0), .val (.long q1), .second, .val (.int q3), .val (.int q4), .val (.int q5), .val (.int q6), .val (.int q7), .val (.int q8), .val (.int q9), .val (.int q10), .val (.int (o32 offN)), .val (.int (o32 mN)), .val (.int c0), .val (.int c1), .val (.int c2), .val (.int d0), .val (.int d1), .val (.int d2), .val (.ref bB), .val (.ref aL), .val (.int (o32 na)), .val (.int (o32 pN)), .val (.int (o32 L1.length)), .unset, .unset, .unset, .unset, .unset, .unset, .unset] [])) := by
  rcases own_split4 lq10 uq10 with rfl | rfl | rfl | rfl
  · refine g_iload C X at_512 (q := 514) rfl rfl ?_
    refine g_iconst C X at_514 (q := 515) rfl (z := (1 : Int32)) rfl ?_
    refine g_icY C X at_515 (by decide) (q := 528) (by decide) (by decide) ?_
    refine g_iload C X at_528 (q := 530) rfl rfl ?_
    refine g_iconst C X at_530 (q := 531) rfl (z := (2 : Int32)) rfl ?_
    refine g_icY C X at_531 (by decide) (q := 544) (by decide) (by decide) ?_
    refine g_iload C X at_544 (q := 546) rfl rfl ?_
    refine g_iconst C X at_546 (q := 547) rfl (z := (3 : Int32)) rfl ?_
    refine g_icY C X at_547 (by decide) (q := 570) (by decide) (by decide) ?_
    have eV1 : (L1 ++ L2) = (L1 ++ L2) := rfl
    have eW2 : (L1 ++ S ++ L2 ++ []) = (L1 ++ S ++ L2) := by simp
    exact rmJ4 hw (q0 := q0) (q1 := q1) (q3 := q3) (q4 := q4) (q5 := q5) (q6 := q6) (q7 := q7) (q8 := q8) (q9 := q9) (q10 := (0 : Int32)) (c0 := c0) (c1 := c1) (c2 := c2) (d0 := d0) (d1 := d1) (d2 := d2) (bB := bB) (aL := aL) (offN := offN) (mN := mN) (na := na) (pN := pN) (L1 := L1) (S := S) (L2 := L2) (F := []) C (St.mono X (by decide) (by decide)) Y O W (by rw [eW2]; exact VB) (by rw [eV1]; exact VL) gb gl sB sL nbl hoff hmN ((hna.symm).symm.trans (congrArg List.length eV1).symm) ((hpN.symm).symm.trans (congrArg (fun l => offN + List.length l) eW2).symm) (by omega) (by omega) gL1 nL1 lL1 hS gL2 nL2 lL2 (Or.inl ⟨rfl, rfl⟩)
  · refine g_iload C X at_512 (q := 514) rfl rfl ?_
    refine g_iconst C X at_514 (q := 515) rfl (z := (1 : Int32)) rfl ?_
    refine g_icN C X at_515 (q := 518) rfl (by decide) ?_
    refine g_aload C X at_518 (q := 520) rfl rfl rfl ?_
    refine g_iload C X at_520 (q := 522) rfl rfl ?_
    refine g_iinc C X at_522 (q := 525) rfl rfl (z := (o32 (pN + 1))) (r_add pN (by omega) 1 (by decide)) (L' := #[.val (.int q0), .val (.long q1), .second, .val (.int q3), .val (.int q4), .val (.int q5), .val (.int q6), .val (.int q7), .val (.int q8), .val (.int q9), .val (.int (1 : Int32)), .val (.int (o32 offN)), .val (.int (o32 mN)), .val (.int c0), .val (.int c1), .val (.int c2), .val (.int d0), .val (.int d1), .val (.int d2), .val (.ref bB), .val (.ref aL), .val (.int (o32 na)), .val (.int (o32 (pN + 1))), .val (.int (o32 L1.length)), .unset, .unset, .unset, .unset, .unset, .unset, .unset]) rfl ?_
    refine g_bipush C X at_525 (q := 527) rfl (z := (10 : Int32)) rfl ?_
    refine g_bastore C X VB ⟨(r_n16 pN (by omega)).1, own_bl (a := pN) (b := 18) (by omega) (by decide)⟩ (r_n16 pN (by omega)).2.1 (own_l18 hpN.symm (by omega)) (vs' := bV (bufL offN ((L1 ++ S ++ L2) ++ [(10 : Int32)]))) (own_bufS hpN.symm (by omega) ⟨by decide, by decide⟩) gb at_527 (q := 528) rfl ?_
    intro T3 h4 X5 W6 V7
    have Y8 := Wx.wr Y W6 sB
    have O9 := O.wr W6 gb
    refine g_iload C X5 at_528 (q := 530) rfl rfl ?_
    refine g_iconst C X5 at_530 (q := 531) rfl (z := (2 : Int32)) rfl ?_
    refine g_icY C X5 at_531 (by decide) (q := 544) (by decide) (by decide) ?_
    refine g_iload C X5 at_544 (q := 546) rfl rfl ?_
    refine g_iconst C X5 at_546 (q := 547) rfl (z := (3 : Int32)) rfl ?_
    refine g_icY C X5 at_547 (by decide) (q := 570) (by decide) (by decide) ?_
    have eV10 : (L1 ++ L2) = (L1 ++ L2) := rfl
    have eW11 : (L1 ++ S ++ L2 ++ [(10 : Int32)]) = ((L1 ++ S ++ L2) ++ [(10 : Int32)]) := by simp
    exact rmJ4 hw (q0 := q0) (q1 := q1) (q3 := q3) (q4 := q4) (q5 := q5) (q6 := q6) (q7 := q7) (q8 := q8) (q9 := q9) (q10 := (1 : Int32)) (c0 := c0) (c1 := c1) (c2 := c2) (d0 := d0) (d1 := d1) (d2 := d2) (bB := bB) (aL := aL) (offN := offN) (mN := mN) (na := na) (pN := (pN + 1)) (L1 := L1) (S := S) (L2 := L2) (F := [(10 : Int32)]) C (St.mono X5 (by decide) (by decide)) Y8 O9 W (by rw [eW11]; exact V7) (by rw [eV10]; exact (VL.other W6 (Ne.symm nbl))) gb gl (Wx.safeW Y sB W6 sB) (Wx.safeW Y sL W6 sB) nbl hoff hmN ((hna.symm).symm.trans (congrArg List.length eV10).symm) (((own_lb hpN.symm)).symm.trans (congrArg (fun l => offN + List.length l) eW11).symm) (by omega) (by omega) gL1 nL1 lL1 hS gL2 nL2 lL2 (Or.inr ⟨by decide, Or.inl rfl⟩)
  · refine g_iload C X at_512 (q := 514) rfl rfl ?_
    refine g_iconst C X at_514 (q := 515) rfl (z := (1 : Int32)) rfl ?_
    refine g_icN C X at_515 (q := 518) rfl (by decide) ?_
    refine g_aload C X at_518 (q := 520) rfl rfl rfl ?_
    refine g_iload C X at_520 (q := 522) rfl rfl ?_
    refine g_iinc C X at_522 (q := 525) rfl rfl (z := (o32 (pN + 1))) (r_add pN (by omega) 1 (by decide)) (L' := #[.val (.int q0), .val (.long q1), .second, .val (.int q3), .val (.int q4), .val (.int q5), .val (.int q6), .val (.int q7), .val (.int q8), .val (.int q9), .val (.int (2 : Int32)), .val (.int (o32 offN)), .val (.int (o32 mN)), .val (.int c0), .val (.int c1), .val (.int c2), .val (.int d0), .val (.int d1), .val (.int d2), .val (.ref bB), .val (.ref aL), .val (.int (o32 na)), .val (.int (o32 (pN + 1))), .val (.int (o32 L1.length)), .unset, .unset, .unset, .unset, .unset, .unset, .unset]) rfl ?_
    refine g_bipush C X at_525 (q := 527) rfl (z := (10 : Int32)) rfl ?_
    refine g_bastore C X VB ⟨(r_n16 pN (by omega)).1, own_bl (a := pN) (b := 18) (by omega) (by decide)⟩ (r_n16 pN (by omega)).2.1 (own_l18 hpN.symm (by omega)) (vs' := bV (bufL offN ((L1 ++ S ++ L2) ++ [(10 : Int32)]))) (own_bufS hpN.symm (by omega) ⟨by decide, by decide⟩) gb at_527 (q := 528) rfl ?_
    intro T12 h13 X14 W15 V16
    have Y17 := Wx.wr Y W15 sB
    have O18 := O.wr W15 gb
    refine g_iload C X14 at_528 (q := 530) rfl rfl ?_
    refine g_iconst C X14 at_530 (q := 531) rfl (z := (2 : Int32)) rfl ?_
    refine g_icN C X14 at_531 (q := 534) rfl (by decide) ?_
    refine g_aload C X14 at_534 (q := 536) rfl rfl rfl ?_
    refine g_iload C X14 at_536 (q := 538) rfl rfl ?_
    refine g_iinc C X14 at_538 (q := 541) rfl rfl (z := (o32 ((pN + 1) + 1))) (r_add (pN + 1) (by omega) 1 (by decide)) (L' := #[.val (.int q0), .val (.long q1), .second, .val (.int q3), .val (.int q4), .val (.int q5), .val (.int q6), .val (.int q7), .val (.int q8), .val (.int q9), .val (.int (2 : Int32)), .val (.int (o32 offN)), .val (.int (o32 mN)), .val (.int c0), .val (.int c1), .val (.int c2), .val (.int d0), .val (.int d1), .val (.int d2), .val (.ref bB), .val (.ref aL), .val (.int (o32 na)), .val (.int (o32 ((pN + 1) + 1))), .val (.int (o32 L1.length)), .unset, .unset, .unset, .unset, .unset, .unset, .unset]) rfl ?_
    refine g_bipush C X14 at_541 (q := 543) rfl (z := (10 : Int32)) rfl ?_
    refine g_bastore C X14 V16 ⟨(r_n16 (pN + 1) (by omega)).1, own_bl (a := (pN + 1)) (b := 18) (by omega) (by decide)⟩ (r_n16 (pN + 1) (by omega)).2.1 (own_l18 (own_lb hpN.symm) (by omega)) (vs' := bV (bufL offN (((L1 ++ S ++ L2) ++ [(10 : Int32)]) ++ [(10 : Int32)]))) (own_bufS (own_lb hpN.symm) (by omega) ⟨by decide, by decide⟩) gb at_543 (q := 544) rfl ?_
    intro T19 h20 X21 W22 V23
    have f24 := (Wx.safeW Y sB W15 sB)
    have Y25 := Wx.wr Y17 W22 f24
    have O26 := O18.wr W22 gb
    refine g_iload C X21 at_544 (q := 546) rfl rfl ?_
    refine g_iconst C X21 at_546 (q := 547) rfl (z := (3 : Int32)) rfl ?_
    refine g_icY C X21 at_547 (by decide) (q := 570) (by decide) (by decide) ?_
    have eV27 : (L1 ++ L2) = (L1 ++ L2) := rfl
    have eW28 : (L1 ++ S ++ L2 ++ [(10 : Int32), (10 : Int32)]) = (((L1 ++ S ++ L2) ++ [(10 : Int32)]) ++ [(10 : Int32)]) := by simp
    exact rmJ4 hw (q0 := q0) (q1 := q1) (q3 := q3) (q4 := q4) (q5 := q5) (q6 := q6) (q7 := q7) (q8 := q8) (q9 := q9) (q10 := (2 : Int32)) (c0 := c0) (c1 := c1) (c2 := c2) (d0 := d0) (d1 := d1) (d2 := d2) (bB := bB) (aL := aL) (offN := offN) (mN := mN) (na := na) (pN := ((pN + 1) + 1)) (L1 := L1) (S := S) (L2 := L2) (F := [(10 : Int32), (10 : Int32)]) C (St.mono X21 (by decide) (by decide)) Y25 O26 W (by rw [eW28]; exact V23) (by rw [eV27]; exact ((VL.other W15 (Ne.symm nbl)).other W22 (Ne.symm nbl))) gb gl (Wx.safeW Y17 f24 W22 f24) (Wx.safeW Y17 (Wx.safeW Y sL W15 sB) W22 f24) nbl hoff hmN ((hna.symm).symm.trans (congrArg List.length eV27).symm) (((own_lb (own_lb hpN.symm))).symm.trans (congrArg (fun l => offN + List.length l) eW28).symm) (by omega) (by omega) gL1 nL1 lL1 hS gL2 nL2 lL2 (Or.inr ⟨by decide, Or.inr (Or.inl rfl)⟩)
  · refine g_iload C X at_512 (q := 514) rfl rfl ?_
    refine g_iconst C X at_514 (q := 515) rfl (z := (1 : Int32)) rfl ?_
    refine g_icN C X at_515 (q := 518) rfl (by decide) ?_
    refine g_aload C X at_518 (q := 520) rfl rfl rfl ?_
    refine g_iload C X at_520 (q := 522) rfl rfl ?_
    refine g_iinc C X at_522 (q := 525) rfl rfl (z := (o32 (pN + 1))) (r_add pN (by omega) 1 (by decide)) (L' := #[.val (.int q0), .val (.long q1), .second, .val (.int q3), .val (.int q4), .val (.int q5), .val (.int q6), .val (.int q7), .val (.int q8), .val (.int q9), .val (.int (3 : Int32)), .val (.int (o32 offN)), .val (.int (o32 mN)), .val (.int c0), .val (.int c1), .val (.int c2), .val (.int d0), .val (.int d1), .val (.int d2), .val (.ref bB), .val (.ref aL), .val (.int (o32 na)), .val (.int (o32 (pN + 1))), .val (.int (o32 L1.length)), .unset, .unset, .unset, .unset, .unset, .unset, .unset]) rfl ?_
    refine g_bipush C X at_525 (q := 527) rfl (z := (10 : Int32)) rfl ?_
    refine g_bastore C X VB ⟨(r_n16 pN (by omega)).1, own_bl (a := pN) (b := 18) (by omega) (by decide)⟩ (r_n16 pN (by omega)).2.1 (own_l18 hpN.symm (by omega)) (vs' := bV (bufL offN ((L1 ++ S ++ L2) ++ [(10 : Int32)]))) (own_bufS hpN.symm (by omega) ⟨by decide, by decide⟩) gb at_527 (q := 528) rfl ?_
    intro T29 h30 X31 W32 V33
    have Y34 := Wx.wr Y W32 sB
    have O35 := O.wr W32 gb
    refine g_iload C X31 at_528 (q := 530) rfl rfl ?_
    refine g_iconst C X31 at_530 (q := 531) rfl (z := (2 : Int32)) rfl ?_
    refine g_icY C X31 at_531 (by decide) (q := 544) (by decide) (by decide) ?_
    refine g_iload C X31 at_544 (q := 546) rfl rfl ?_
    refine g_iconst C X31 at_546 (q := 547) rfl (z := (3 : Int32)) rfl ?_
    refine g_icN C X31 at_547 (q := 550) rfl (by decide) ?_
    refine g_aload C X31 at_550 (q := 552) rfl rfl rfl ?_
    refine g_iload C X31 at_552 (q := 554) rfl rfl ?_
    refine g_iinc C X31 at_554 (q := 557) rfl rfl (z := (o32 ((pN + 1) + 1))) (r_add (pN + 1) (by omega) 1 (by decide)) (L' := #[.val (.int q0), .val (.long q1), .second, .val (.int q3), .val (.int q4), .val (.int q5), .val (.int q6), .val (.int q7), .val (.int q8), .val (.int q9), .val (.int (3 : Int32)), .val (.int (o32 offN)), .val (.int (o32 mN)), .val (.int c0), .val (.int c1), .val (.int c2), .val (.int d0), .val (.int d1), .val (.int d2), .val (.ref bB), .val (.ref aL), .val (.int (o32 na)), .val (.int (o32 ((pN + 1) + 1))), .val (.int (o32 L1.length)), .unset, .unset, .unset, .unset, .unset, .unset, .unset]) rfl ?_
    refine g_bipush C X31 at_557 (q := 559) rfl (z := (13 : Int32)) rfl ?_
    refine g_bastore C X31 V33 ⟨(r_n16 (pN + 1) (by omega)).1, own_bl (a := (pN + 1)) (b := 18) (by omega) (by decide)⟩ (r_n16 (pN + 1) (by omega)).2.1 (own_l18 (own_lb hpN.symm) (by omega)) (vs' := bV (bufL offN (((L1 ++ S ++ L2) ++ [(10 : Int32)]) ++ [(13 : Int32)]))) (own_bufS (own_lb hpN.symm) (by omega) ⟨by decide, by decide⟩) gb at_559 (q := 560) rfl ?_
    intro T36 h37 X38 W39 V40
    have f41 := (Wx.safeW Y sB W32 sB)
    have Y42 := Wx.wr Y34 W39 f41
    have O43 := O35.wr W39 gb
    refine g_aload C X38 at_560 (q := 562) rfl rfl rfl ?_
    refine g_iload C X38 at_562 (q := 564) rfl rfl ?_
    refine g_iinc C X38 at_564 (q := 567) rfl rfl (z := (o32 (((pN + 1) + 1) + 1))) (r_add ((pN + 1) + 1) (by omega) 1 (by decide)) (L' := #[.val (.int q0), .val (.long q1), .second, .val (.int q3), .val (.int q4), .val (.int q5), .val (.int q6), .val (.int q7), .val (.int q8), .val (.int q9), .val (.int (3 : Int32)), .val (.int (o32 offN)), .val (.int (o32 mN)), .val (.int c0), .val (.int c1), .val (.int c2), .val (.int d0), .val (.int d1), .val (.int d2), .val (.ref bB), .val (.ref aL), .val (.int (o32 na)), .val (.int (o32 (((pN + 1) + 1) + 1))), .val (.int (o32 L1.length)), .unset, .unset, .unset, .unset, .unset, .unset, .unset]) rfl ?_
    refine g_bipush C X38 at_567 (q := 569) rfl (z := (10 : Int32)) rfl ?_
    refine g_bastore C X38 V40 ⟨(r_n16 ((pN + 1) + 1) (by omega)).1, own_bl (a := ((pN + 1) + 1)) (b := 18) (by omega) (by decide)⟩ (r_n16 ((pN + 1) + 1) (by omega)).2.1 (own_l18 (own_lb (own_lb hpN.symm)) (by omega)) (vs' := bV (bufL offN ((((L1 ++ S ++ L2) ++ [(10 : Int32)]) ++ [(13 : Int32)]) ++ [(10 : Int32)]))) (own_bufS (own_lb (own_lb hpN.symm)) (by omega) ⟨by decide, by decide⟩) gb at_569 (q := 570) rfl ?_
    intro T44 h45 X46 W47 V48
    have f49 := (Wx.safeW Y34 f41 W39 f41)
    have Y50 := Wx.wr Y42 W47 f49
    have O51 := O43.wr W47 gb
    have eV52 : (L1 ++ L2) = (L1 ++ L2) := rfl
    have eW53 : (L1 ++ S ++ L2 ++ [(10 : Int32), (13 : Int32), (10 : Int32)]) = ((((L1 ++ S ++ L2) ++ [(10 : Int32)]) ++ [(13 : Int32)]) ++ [(10 : Int32)]) := by simp
    exact rmJ4 hw (q0 := q0) (q1 := q1) (q3 := q3) (q4 := q4) (q5 := q5) (q6 := q6) (q7 := q7) (q8 := q8) (q9 := q9) (q10 := (3 : Int32)) (c0 := c0) (c1 := c1) (c2 := c2) (d0 := d0) (d1 := d1) (d2 := d2) (bB := bB) (aL := aL) (offN := offN) (mN := mN) (na := na) (pN := (((pN + 1) + 1) + 1)) (L1 := L1) (S := S) (L2 := L2) (F := [(10 : Int32), (13 : Int32), (10 : Int32)]) C (St.mono X46 (by decide) (by decide)) Y50 O51 W (by rw [eW53]; exact V48) (by rw [eV52]; exact (((VL.other W32 (Ne.symm nbl)).other W39 (Ne.symm nbl)).other W47 (Ne.symm nbl))) gb gl (Wx.safeW Y42 f49 W47 f49) (Wx.safeW Y42 (Wx.safeW Y34 (Wx.safeW Y sL W32 sB) W39 f41) W47 f49) nbl hoff hmN ((hna.symm).symm.trans (congrArg List.length eV52).symm) (((own_lb (own_lb (own_lb hpN.symm)))).symm.trans (congrArg (fun l => offN + List.length l) eW53).symm) (by omega) (by omega) gL1 nL1 lL1 hS gL2 nL2 lL2 (Or.inr ⟨by decide, Or.inr (Or.inr rfl)⟩)
set_option maxRecDepth 65536 in
set_option maxHeartbeats 40000000 in
theorem rmJ2 {l : Launch} {Z : State} {a0 : Array Value} (hw : ∀ d ∈ tables_1, d.before a0 Z = true) {cz : Int32} {fm : Value} {cu : Addr} {q0 q3 q4 q5 q6 q7 q8 q9 q10 c0 c1 c2 d0 d1 d2 : Int32} {q1 : Int64} {offN mN na pN : Nat} {bB aL : Addr} {kD kL : ClassId} {L1 S : List Int32}  {n0 : Nat} {p : Program} {e : Env} {s : State} {m : MethodId} {below : List Frame} {meth : Method} {c : Code} {T : State} {vm : Vm} {h : Heap} {as' : Array Value} (C : Cx p (s.setVm vm) m meth c Z "com/example/isolate_to_replay/isolatetoreplay/command/LastLineAcceptPinLaw" code 31 (some .boolean) "law") (X : St p l e room_1 (s.setVm vm) m as' below meth c n0 T h 2 26) (Y : Wx Z consts_1 s vm h) (O : Old Z n0 h) (W : Wd Z cz fm cu) (VB : Arv Z h bB kD .byte 18 (bV (bufL offN (L1 ++ S))) (.int 0)) (VL : Arv Z h aL kL .byte 8 (bV (allL L1)) (.int 0)) (gb : n0 ≤ bB) (gl : n0 ≤ aL) (sB : Safe Z consts_1 vm h bB) (sL : Safe Z consts_1 vm h aL) (nbl : bB ≠ aL) (hoff : offN ≤ 2) (hmN : mN ≤ 15) (hna : na = List.length L1) (hpN : pN = offN + List.length (L1 ++ S)) (hnb : na ≤ 4) (hpb : pN ≤ 9) (gL1 : Gd L1) (nL1 : NoL L1) (lL1 : L1.length ≤ 4) (hS : SepQ q9 S) (gd0 : good d0) (nd0 : d0 ≠ 10) (gd1 : good d1) (nd1 : d1 ≠ 10) (gd2 : good d2) (nd2 : d2 ≠ 10) (lq6 : 0 ≤ q6.toInt) (uq6 : q6.toInt ≤ 3) (lq10 : 0 ≤ q10.toInt) (uq10 : q10.toInt ≤ 3)  :
    Goes p e below (FinW Z consts_1 (fun v h => ∃ w, v = some w ∧ (fun v h => v = .int 1 ∧ True) w h) s n0 32 1216) (T.setTop (mkF m 410 #[.val (.int q0), .val (.long q1), .second, .val (.int q3), .val (.int q4), .val (.int q5), .val (.int q6), .val (.int q7), .val (.int q8), .val (.int q9), .val (.int q10), .val (.int (o32 offN)), .val (.int (o32 mN)), .val (.int c0), .val (.int c1), .val (.int c2), .val (.int d0), .val (.int d1), .val (.int d2), .val (.ref bB), .val (.ref aL), .val (.int (o32 na)), .val (.int (o32 pN)), .val (.int (o32 L1.length)), .unset, .unset, .unset, .unset, .unset, .unset, .unset] [])) := by
  rcases own_split4 lq6 uq6 with rfl | rfl | rfl | rfl
  · refine g_iload C X at_410 (q := 412) rfl rfl ?_
    refine g_ifY C X at_412 (by decide) (q := 435) (by decide) (by decide) ?_
    refine g_iload C X at_435 (q := 437) rfl rfl ?_
    refine g_iconst C X at_437 (q := 438) rfl (z := (1 : Int32)) rfl ?_
    refine g_icY C X at_438 (by decide) (q := 461) (by decide) (by decide) ?_
    refine g_iload C X at_461 (q := 463) rfl rfl ?_
    refine g_iconst C X at_463 (q := 464) rfl (z := (2 : Int32)) rfl ?_
    refine g_icY C X at_464 (by decide) (q := 487) (by decide) (by decide) ?_
    refine g_iload C X at_487 (q := 489) rfl rfl ?_
    by_cases hc1 : q8 = (0 : Int32)
    · refine g_ifY C X at_489 (by decide) (q := 512) (by decide) (teq hc1).1 ?_
      have eV2 : (L1 ++ ([] : List Int32)) = L1 := by simp
      have eW3 : (L1 ++ S ++ ([] : List Int32)) = (L1 ++ S) := by simp
      exact rmJ3 hw (q0 := q0) (q1 := q1) (q3 := q3) (q4 := q4) (q5 := q5) (q6 := (0 : Int32)) (q7 := q7) (q8 := q8) (q9 := q9) (q10 := q10) (c0 := c0) (c1 := c1) (c2 := c2) (d0 := d0) (d1 := d1) (d2 := d2) (bB := bB) (aL := aL) (offN := offN) (mN := mN) (na := na) (pN := pN) (L1 := L1) (S := S) (L2 := ([] : List Int32)) C (St.mono X (by decide) (by decide)) Y O W (by rw [eW3]; exact VB) (by rw [eV2]; exact VL) gb gl sB sL nbl hoff hmN ((hna.symm).symm.trans (congrArg List.length eV2).symm) ((hpN.symm).symm.trans (congrArg (fun l => offN + List.length l) eW3).symm) (by omega) (by omega) gL1 nL1 lL1 hS own_gN own_nN (by simp) (Int.le_trans (by decide) lq10) (Int.le_trans uq10 (by decide))
    · refine g_ifN C X at_489 (q := 492) rfl (feq hc1).1 ?_
      refine g_aload C X at_492 (q := 494) rfl rfl rfl ?_
      refine g_iload C X at_494 (q := 496) rfl rfl ?_
      refine g_iinc C X at_496 (q := 499) rfl rfl (z := (o32 (na + 1))) (r_add na (by omega) 1 (by decide)) (L' := #[.val (.int q0), .val (.long q1), .second, .val (.int q3), .val (.int q4), .val (.int q5), .val (.int (0 : Int32)), .val (.int q7), .val (.int q8), .val (.int q9), .val (.int q10), .val (.int (o32 offN)), .val (.int (o32 mN)), .val (.int c0), .val (.int c1), .val (.int c2), .val (.int d0), .val (.int d1), .val (.int d2), .val (.ref bB), .val (.ref aL), .val (.int (o32 (na + 1))), .val (.int (o32 pN)), .val (.int (o32 L1.length)), .unset, .unset, .unset, .unset, .unset, .unset, .unset]) rfl ?_
      refine g_bipush C X at_499 (q := 501) rfl (z := (13 : Int32)) rfl ?_
      refine g_bastore C X VL ⟨(r_n16 na (by omega)).1, own_bl (a := na) (b := 8) (by omega) (by decide)⟩ (r_n16 na (by omega)).2.1 (own_l8 hna.symm (by omega)) (vs' := bV (allL (L1 ++ [(13 : Int32)]))) (own_allS hna.symm (by omega) ⟨by decide, by decide⟩) gl at_501 (q := 502) rfl ?_
      intro T4 h5 X6 W7 V8
      have Y9 := Wx.wr Y W7 sL
      have O10 := O.wr W7 gl
      refine g_aload C X6 at_502 (q := 504) rfl rfl rfl ?_
      refine g_iload C X6 at_504 (q := 506) rfl rfl ?_
      refine g_iinc C X6 at_506 (q := 509) rfl rfl (z := (o32 (pN + 1))) (r_add pN (by omega) 1 (by decide)) (L' := #[.val (.int q0), .val (.long q1), .second, .val (.int q3), .val (.int q4), .val (.int q5), .val (.int (0 : Int32)), .val (.int q7), .val (.int q8), .val (.int q9), .val (.int q10), .val (.int (o32 offN)), .val (.int (o32 mN)), .val (.int c0), .val (.int c1), .val (.int c2), .val (.int d0), .val (.int d1), .val (.int d2), .val (.ref bB), .val (.ref aL), .val (.int (o32 (na + 1))), .val (.int (o32 (pN + 1))), .val (.int (o32 L1.length)), .unset, .unset, .unset, .unset, .unset, .unset, .unset]) rfl ?_
      refine g_bipush C X6 at_509 (q := 511) rfl (z := (13 : Int32)) rfl ?_
      have f11 := (VB.other W7 nbl)
      refine g_bastore C X6 f11 ⟨(r_n16 pN (by omega)).1, own_bl (a := pN) (b := 18) (by omega) (by decide)⟩ (r_n16 pN (by omega)).2.1 (own_l18 hpN.symm (by omega)) (vs' := bV (bufL offN ((L1 ++ S) ++ [(13 : Int32)]))) (own_bufS hpN.symm (by omega) ⟨by decide, by decide⟩) gb at_511 (q := 512) rfl ?_
      intro T12 h13 X14 W15 V16
      have f17 := (Wx.safeW Y sB W7 sL)
      have Y18 := Wx.wr Y9 W15 f17
      have O19 := O10.wr W15 gb
      have eV20 : (L1 ++ (([] : List Int32) ++ [(13 : Int32)])) = (L1 ++ [(13 : Int32)]) := by simp
      have eW21 : (L1 ++ S ++ (([] : List Int32) ++ [(13 : Int32)])) = ((L1 ++ S) ++ [(13 : Int32)]) := by simp
      exact rmJ3 hw (q0 := q0) (q1 := q1) (q3 := q3) (q4 := q4) (q5 := q5) (q6 := (0 : Int32)) (q7 := q7) (q8 := q8) (q9 := q9) (q10 := q10) (c0 := c0) (c1 := c1) (c2 := c2) (d0 := d0) (d1 := d1) (d2 := d2) (bB := bB) (aL := aL) (offN := offN) (mN := mN) (na := (na + 1)) (pN := (pN + 1)) (L1 := L1) (S := S) (L2 := (([] : List Int32) ++ [(13 : Int32)])) C (St.mono X14 (by decide) (by decide)) Y18 O19 W (by rw [eW21]; exact V16) (by rw [eV20]; exact (V8.other W15 (Ne.symm nbl))) gb gl (Wx.safeW Y9 f17 W15 f17) (Wx.safeW Y9 (Wx.safeW Y sL W7 sL) W15 f17) nbl hoff hmN (((own_la hna.symm)).symm.trans (congrArg List.length eV20).symm) (((own_lb hpN.symm)).symm.trans (congrArg (fun l => offN + List.length l) eW21).symm) (by omega) (by omega) gL1 nL1 lL1 hS (own_gS own_gN ⟨by decide, by decide⟩) (own_nS own_nN (by decide)) (by simp) (Int.le_trans (by decide) lq10) (Int.le_trans uq10 (by decide))
  · refine g_iload C X at_410 (q := 412) rfl rfl ?_
    refine g_ifN C X at_412 (q := 415) rfl (by decide) ?_
    refine g_aload C X at_415 (q := 417) rfl rfl rfl ?_
    refine g_iload C X at_417 (q := 419) rfl rfl ?_
    refine g_iinc C X at_419 (q := 422) rfl rfl (z := (o32 (na + 1))) (r_add na (by omega) 1 (by decide)) (L' := #[.val (.int q0), .val (.long q1), .second, .val (.int q3), .val (.int q4), .val (.int q5), .val (.int (1 : Int32)), .val (.int q7), .val (.int q8), .val (.int q9), .val (.int q10), .val (.int (o32 offN)), .val (.int (o32 mN)), .val (.int c0), .val (.int c1), .val (.int c2), .val (.int d0), .val (.int d1), .val (.int d2), .val (.ref bB), .val (.ref aL), .val (.int (o32 (na + 1))), .val (.int (o32 pN)), .val (.int (o32 L1.length)), .unset, .unset, .unset, .unset, .unset, .unset, .unset]) rfl ?_
    refine g_iload C X at_422 (q := 424) rfl rfl ?_
    refine g_bastore C X VL ⟨(r_n16 na (by omega)).1, own_bl (a := na) (b := 8) (by omega) (by decide)⟩ (r_n16 na (by omega)).2.1 (own_l8 hna.symm (by omega)) (vs' := bV (allL (L1 ++ [d0]))) (own_allS hna.symm (by omega) gd0) gl at_424 (q := 425) rfl ?_
    intro T22 h23 X24 W25 V26
    have Y27 := Wx.wr Y W25 sL
    have O28 := O.wr W25 gl
    refine g_aload C X24 at_425 (q := 427) rfl rfl rfl ?_
    refine g_iload C X24 at_427 (q := 429) rfl rfl ?_
    refine g_iinc C X24 at_429 (q := 432) rfl rfl (z := (o32 (pN + 1))) (r_add pN (by omega) 1 (by decide)) (L' := #[.val (.int q0), .val (.long q1), .second, .val (.int q3), .val (.int q4), .val (.int q5), .val (.int (1 : Int32)), .val (.int q7), .val (.int q8), .val (.int q9), .val (.int q10), .val (.int (o32 offN)), .val (.int (o32 mN)), .val (.int c0), .val (.int c1), .val (.int c2), .val (.int d0), .val (.int d1), .val (.int d2), .val (.ref bB), .val (.ref aL), .val (.int (o32 (na + 1))), .val (.int (o32 (pN + 1))), .val (.int (o32 L1.length)), .unset, .unset, .unset, .unset, .unset, .unset, .unset]) rfl ?_
    refine g_iload C X24 at_432 (q := 434) rfl rfl ?_
    have f29 := (VB.other W25 nbl)
    refine g_bastore C X24 f29 ⟨(r_n16 pN (by omega)).1, own_bl (a := pN) (b := 18) (by omega) (by decide)⟩ (r_n16 pN (by omega)).2.1 (own_l18 hpN.symm (by omega)) (vs' := bV (bufL offN ((L1 ++ S) ++ [d0]))) (own_bufS hpN.symm (by omega) gd0) gb at_434 (q := 435) rfl ?_
    intro T30 h31 X32 W33 V34
    have f35 := (Wx.safeW Y sB W25 sL)
    have Y36 := Wx.wr Y27 W33 f35
    have O37 := O28.wr W33 gb
    refine g_iload C X32 at_435 (q := 437) rfl rfl ?_
    refine g_iconst C X32 at_437 (q := 438) rfl (z := (1 : Int32)) rfl ?_
    refine g_icY C X32 at_438 (by decide) (q := 461) (by decide) (by decide) ?_
    refine g_iload C X32 at_461 (q := 463) rfl rfl ?_
    refine g_iconst C X32 at_463 (q := 464) rfl (z := (2 : Int32)) rfl ?_
    refine g_icY C X32 at_464 (by decide) (q := 487) (by decide) (by decide) ?_
    refine g_iload C X32 at_487 (q := 489) rfl rfl ?_
    by_cases hc38 : q8 = (0 : Int32)
    · refine g_ifY C X32 at_489 (by decide) (q := 512) (by decide) (teq hc38).1 ?_
      have eV39 : (L1 ++ (([] : List Int32) ++ [d0])) = (L1 ++ [d0]) := by simp
      have eW40 : (L1 ++ S ++ (([] : List Int32) ++ [d0])) = ((L1 ++ S) ++ [d0]) := by simp
      exact rmJ3 hw (q0 := q0) (q1 := q1) (q3 := q3) (q4 := q4) (q5 := q5) (q6 := (1 : Int32)) (q7 := q7) (q8 := q8) (q9 := q9) (q10 := q10) (c0 := c0) (c1 := c1) (c2 := c2) (d0 := d0) (d1 := d1) (d2 := d2) (bB := bB) (aL := aL) (offN := offN) (mN := mN) (na := (na + 1)) (pN := (pN + 1)) (L1 := L1) (S := S) (L2 := (([] : List Int32) ++ [d0])) C (St.mono X32 (by decide) (by decide)) Y36 O37 W (by rw [eW40]; exact V34) (by rw [eV39]; exact (V26.other W33 (Ne.symm nbl))) gb gl (Wx.safeW Y27 f35 W33 f35) (Wx.safeW Y27 (Wx.safeW Y sL W25 sL) W33 f35) nbl hoff hmN (((own_la hna.symm)).symm.trans (congrArg List.length eV39).symm) (((own_lb hpN.symm)).symm.trans (congrArg (fun l => offN + List.length l) eW40).symm) (by omega) (by omega) gL1 nL1 lL1 hS (own_gS own_gN gd0) (own_nS own_nN nd0) (by simp) (Int.le_trans (by decide) lq10) (Int.le_trans uq10 (by decide))
    · refine g_ifN C X32 at_489 (q := 492) rfl (feq hc38).1 ?_
      refine g_aload C X32 at_492 (q := 494) rfl rfl rfl ?_
      refine g_iload C X32 at_494 (q := 496) rfl rfl ?_
      refine g_iinc C X32 at_496 (q := 499) rfl rfl (z := (o32 ((na + 1) + 1))) (r_add (na + 1) (by omega) 1 (by decide)) (L' := #[.val (.int q0), .val (.long q1), .second, .val (.int q3), .val (.int q4), .val (.int q5), .val (.int (1 : Int32)), .val (.int q7), .val (.int q8), .val (.int q9), .val (.int q10), .val (.int (o32 offN)), .val (.int (o32 mN)), .val (.int c0), .val (.int c1), .val (.int c2), .val (.int d0), .val (.int d1), .val (.int d2), .val (.ref bB), .val (.ref aL), .val (.int (o32 ((na + 1) + 1))), .val (.int (o32 (pN + 1))), .val (.int (o32 L1.length)), .unset, .unset, .unset, .unset, .unset, .unset, .unset]) rfl ?_
      refine g_bipush C X32 at_499 (q := 501) rfl (z := (13 : Int32)) rfl ?_
      have f41 := (V26.other W33 (Ne.symm nbl))
      refine g_bastore C X32 f41 ⟨(r_n16 (na + 1) (by omega)).1, own_bl (a := (na + 1)) (b := 8) (by omega) (by decide)⟩ (r_n16 (na + 1) (by omega)).2.1 (own_l8 (own_la hna.symm) (by omega)) (vs' := bV (allL ((L1 ++ [d0]) ++ [(13 : Int32)]))) (own_allS (own_la hna.symm) (by omega) ⟨by decide, by decide⟩) gl at_501 (q := 502) rfl ?_
      intro T42 h43 X44 W45 V46
      have f47 := (Wx.safeW Y27 (Wx.safeW Y sL W25 sL) W33 f35)
      have Y48 := Wx.wr Y36 W45 f47
      have O49 := O37.wr W45 gl
      refine g_aload C X44 at_502 (q := 504) rfl rfl rfl ?_
      refine g_iload C X44 at_504 (q := 506) rfl rfl ?_
      refine g_iinc C X44 at_506 (q := 509) rfl rfl (z := (o32 ((pN + 1) + 1))) (r_add (pN + 1) (by omega) 1 (by decide)) (L' := #[.val (.int q0), .val (.long q1), .second, .val (.int q3), .val (.int q4), .val (.int q5), .val (.int (1 : Int32)), .val (.int q7), .val (.int q8), .val (.int q9), .val (.int q10), .val (.int (o32 offN)), .val (.int (o32 mN)), .val (.int c0), .val (.int c1), .val (.int c2), .val (.int d0), .val (.int d1), .val (.int d2), .val (.ref bB), .val (.ref aL), .val (.int (o32 ((na + 1) + 1))), .val (.int (o32 ((pN + 1) + 1))), .val (.int (o32 L1.length)), .unset, .unset, .unset, .unset, .unset, .unset, .unset]) rfl ?_
      refine g_bipush C X44 at_509 (q := 511) rfl (z := (13 : Int32)) rfl ?_
      have f50 := (V34.other W45 nbl)
      refine g_bastore C X44 f50 ⟨(r_n16 (pN + 1) (by omega)).1, own_bl (a := (pN + 1)) (b := 18) (by omega) (by decide)⟩ (r_n16 (pN + 1) (by omega)).2.1 (own_l18 (own_lb hpN.symm) (by omega)) (vs' := bV (bufL offN (((L1 ++ S) ++ [d0]) ++ [(13 : Int32)]))) (own_bufS (own_lb hpN.symm) (by omega) ⟨by decide, by decide⟩) gb at_511 (q := 512) rfl ?_
      intro T51 h52 X53 W54 V55
      have f56 := (Wx.safeW Y36 (Wx.safeW Y27 f35 W33 f35) W45 f47)
      have Y57 := Wx.wr Y48 W54 f56
      have O58 := O49.wr W54 gb
      have eV59 : (L1 ++ ((([] : List Int32) ++ [d0]) ++ [(13 : Int32)])) = ((L1 ++ [d0]) ++ [(13 : Int32)]) := by simp
      have eW60 : (L1 ++ S ++ ((([] : List Int32) ++ [d0]) ++ [(13 : Int32)])) = (((L1 ++ S) ++ [d0]) ++ [(13 : Int32)]) := by simp
      exact rmJ3 hw (q0 := q0) (q1 := q1) (q3 := q3) (q4 := q4) (q5 := q5) (q6 := (1 : Int32)) (q7 := q7) (q8 := q8) (q9 := q9) (q10 := q10) (c0 := c0) (c1 := c1) (c2 := c2) (d0 := d0) (d1 := d1) (d2 := d2) (bB := bB) (aL := aL) (offN := offN) (mN := mN) (na := ((na + 1) + 1)) (pN := ((pN + 1) + 1)) (L1 := L1) (S := S) (L2 := ((([] : List Int32) ++ [d0]) ++ [(13 : Int32)])) C (St.mono X53 (by decide) (by decide)) Y57 O58 W (by rw [eW60]; exact V55) (by rw [eV59]; exact (V46.other W54 (Ne.symm nbl))) gb gl (Wx.safeW Y48 f56 W54 f56) (Wx.safeW Y48 (Wx.safeW Y36 f47 W45 f47) W54 f56) nbl hoff hmN (((own_la (own_la hna.symm))).symm.trans (congrArg List.length eV59).symm) (((own_lb (own_lb hpN.symm))).symm.trans (congrArg (fun l => offN + List.length l) eW60).symm) (by omega) (by omega) gL1 nL1 lL1 hS (own_gS (own_gS own_gN gd0) ⟨by decide, by decide⟩) (own_nS (own_nS own_nN nd0) (by decide)) (by simp) (Int.le_trans (by decide) lq10) (Int.le_trans uq10 (by decide))
  · refine g_iload C X at_410 (q := 412) rfl rfl ?_
    refine g_ifN C X at_412 (q := 415) rfl (by decide) ?_
    refine g_aload C X at_415 (q := 417) rfl rfl rfl ?_
    refine g_iload C X at_417 (q := 419) rfl rfl ?_
    refine g_iinc C X at_419 (q := 422) rfl rfl (z := (o32 (na + 1))) (r_add na (by omega) 1 (by decide)) (L' := #[.val (.int q0), .val (.long q1), .second, .val (.int q3), .val (.int q4), .val (.int q5), .val (.int (2 : Int32)), .val (.int q7), .val (.int q8), .val (.int q9), .val (.int q10), .val (.int (o32 offN)), .val (.int (o32 mN)), .val (.int c0), .val (.int c1), .val (.int c2), .val (.int d0), .val (.int d1), .val (.int d2), .val (.ref bB), .val (.ref aL), .val (.int (o32 (na + 1))), .val (.int (o32 pN)), .val (.int (o32 L1.length)), .unset, .unset, .unset, .unset, .unset, .unset, .unset]) rfl ?_
    refine g_iload C X at_422 (q := 424) rfl rfl ?_
    refine g_bastore C X VL ⟨(r_n16 na (by omega)).1, own_bl (a := na) (b := 8) (by omega) (by decide)⟩ (r_n16 na (by omega)).2.1 (own_l8 hna.symm (by omega)) (vs' := bV (allL (L1 ++ [d0]))) (own_allS hna.symm (by omega) gd0) gl at_424 (q := 425) rfl ?_
    intro T61 h62 X63 W64 V65
    have Y66 := Wx.wr Y W64 sL
    have O67 := O.wr W64 gl
    refine g_aload C X63 at_425 (q := 427) rfl rfl rfl ?_
    refine g_iload C X63 at_427 (q := 429) rfl rfl ?_
    refine g_iinc C X63 at_429 (q := 432) rfl rfl (z := (o32 (pN + 1))) (r_add pN (by omega) 1 (by decide)) (L' := #[.val (.int q0), .val (.long q1), .second, .val (.int q3), .val (.int q4), .val (.int q5), .val (.int (2 : Int32)), .val (.int q7), .val (.int q8), .val (.int q9), .val (.int q10), .val (.int (o32 offN)), .val (.int (o32 mN)), .val (.int c0), .val (.int c1), .val (.int c2), .val (.int d0), .val (.int d1), .val (.int d2), .val (.ref bB), .val (.ref aL), .val (.int (o32 (na + 1))), .val (.int (o32 (pN + 1))), .val (.int (o32 L1.length)), .unset, .unset, .unset, .unset, .unset, .unset, .unset]) rfl ?_
    refine g_iload C X63 at_432 (q := 434) rfl rfl ?_
    have f68 := (VB.other W64 nbl)
    refine g_bastore C X63 f68 ⟨(r_n16 pN (by omega)).1, own_bl (a := pN) (b := 18) (by omega) (by decide)⟩ (r_n16 pN (by omega)).2.1 (own_l18 hpN.symm (by omega)) (vs' := bV (bufL offN ((L1 ++ S) ++ [d0]))) (own_bufS hpN.symm (by omega) gd0) gb at_434 (q := 435) rfl ?_
    intro T69 h70 X71 W72 V73
    have f74 := (Wx.safeW Y sB W64 sL)
    have Y75 := Wx.wr Y66 W72 f74
    have O76 := O67.wr W72 gb
    refine g_iload C X71 at_435 (q := 437) rfl rfl ?_
    refine g_iconst C X71 at_437 (q := 438) rfl (z := (1 : Int32)) rfl ?_
    refine g_icN C X71 at_438 (q := 441) rfl (by decide) ?_
    refine g_aload C X71 at_441 (q := 443) rfl rfl rfl ?_
    refine g_iload C X71 at_443 (q := 445) rfl rfl ?_
    refine g_iinc C X71 at_445 (q := 448) rfl rfl (z := (o32 ((na + 1) + 1))) (r_add (na + 1) (by omega) 1 (by decide)) (L' := #[.val (.int q0), .val (.long q1), .second, .val (.int q3), .val (.int q4), .val (.int q5), .val (.int (2 : Int32)), .val (.int q7), .val (.int q8), .val (.int q9), .val (.int q10), .val (.int (o32 offN)), .val (.int (o32 mN)), .val (.int c0), .val (.int c1), .val (.int c2), .val (.int d0), .val (.int d1), .val (.int d2), .val (.ref bB), .val (.ref aL), .val (.int (o32 ((na + 1) + 1))), .val (.int (o32 (pN + 1))), .val (.int (o32 L1.length)), .unset, .unset, .unset, .unset, .unset, .unset, .unset]) rfl ?_
    refine g_iload C X71 at_448 (q := 450) rfl rfl ?_
    have f77 := (V65.other W72 (Ne.symm nbl))
    refine g_bastore C X71 f77 ⟨(r_n16 (na + 1) (by omega)).1, own_bl (a := (na + 1)) (b := 8) (by omega) (by decide)⟩ (r_n16 (na + 1) (by omega)).2.1 (own_l8 (own_la hna.symm) (by omega)) (vs' := bV (allL ((L1 ++ [d0]) ++ [d1]))) (own_allS (own_la hna.symm) (by omega) gd1) gl at_450 (q := 451) rfl ?_
    intro T78 h79 X80 W81 V82
    have f83 := (Wx.safeW Y66 (Wx.safeW Y sL W64 sL) W72 f74)
    have Y84 := Wx.wr Y75 W81 f83
    have O85 := O76.wr W81 gl
    refine g_aload C X80 at_451 (q := 453) rfl rfl rfl ?_
    refine g_iload C X80 at_453 (q := 455) rfl rfl ?_
    refine g_iinc C X80 at_455 (q := 458) rfl rfl (z := (o32 ((pN + 1) + 1))) (r_add (pN + 1) (by omega) 1 (by decide)) (L' := #[.val (.int q0), .val (.long q1), .second, .val (.int q3), .val (.int q4), .val (.int q5), .val (.int (2 : Int32)), .val (.int q7), .val (.int q8), .val (.int q9), .val (.int q10), .val (.int (o32 offN)), .val (.int (o32 mN)), .val (.int c0), .val (.int c1), .val (.int c2), .val (.int d0), .val (.int d1), .val (.int d2), .val (.ref bB), .val (.ref aL), .val (.int (o32 ((na + 1) + 1))), .val (.int (o32 ((pN + 1) + 1))), .val (.int (o32 L1.length)), .unset, .unset, .unset, .unset, .unset, .unset, .unset]) rfl ?_
    refine g_iload C X80 at_458 (q := 460) rfl rfl ?_
    have f86 := (V73.other W81 nbl)
    refine g_bastore C X80 f86 ⟨(r_n16 (pN + 1) (by omega)).1, own_bl (a := (pN + 1)) (b := 18) (by omega) (by decide)⟩ (r_n16 (pN + 1) (by omega)).2.1 (own_l18 (own_lb hpN.symm) (by omega)) (vs' := bV (bufL offN (((L1 ++ S) ++ [d0]) ++ [d1]))) (own_bufS (own_lb hpN.symm) (by omega) gd1) gb at_460 (q := 461) rfl ?_
    intro T87 h88 X89 W90 V91
    have f92 := (Wx.safeW Y75 (Wx.safeW Y66 f74 W72 f74) W81 f83)
    have Y93 := Wx.wr Y84 W90 f92
    have O94 := O85.wr W90 gb
    refine g_iload C X89 at_461 (q := 463) rfl rfl ?_
    refine g_iconst C X89 at_463 (q := 464) rfl (z := (2 : Int32)) rfl ?_
    refine g_icY C X89 at_464 (by decide) (q := 487) (by decide) (by decide) ?_
    refine g_iload C X89 at_487 (q := 489) rfl rfl ?_
    by_cases hc95 : q8 = (0 : Int32)
    · refine g_ifY C X89 at_489 (by decide) (q := 512) (by decide) (teq hc95).1 ?_
      have eV96 : (L1 ++ ((([] : List Int32) ++ [d0]) ++ [d1])) = ((L1 ++ [d0]) ++ [d1]) := by simp
      have eW97 : (L1 ++ S ++ ((([] : List Int32) ++ [d0]) ++ [d1])) = (((L1 ++ S) ++ [d0]) ++ [d1]) := by simp
      exact rmJ3 hw (q0 := q0) (q1 := q1) (q3 := q3) (q4 := q4) (q5 := q5) (q6 := (2 : Int32)) (q7 := q7) (q8 := q8) (q9 := q9) (q10 := q10) (c0 := c0) (c1 := c1) (c2 := c2) (d0 := d0) (d1 := d1) (d2 := d2) (bB := bB) (aL := aL) (offN := offN) (mN := mN) (na := ((na + 1) + 1)) (pN := ((pN + 1) + 1)) (L1 := L1) (S := S) (L2 := ((([] : List Int32) ++ [d0]) ++ [d1])) C (St.mono X89 (by decide) (by decide)) Y93 O94 W (by rw [eW97]; exact V91) (by rw [eV96]; exact (V82.other W90 (Ne.symm nbl))) gb gl (Wx.safeW Y84 f92 W90 f92) (Wx.safeW Y84 (Wx.safeW Y75 f83 W81 f83) W90 f92) nbl hoff hmN (((own_la (own_la hna.symm))).symm.trans (congrArg List.length eV96).symm) (((own_lb (own_lb hpN.symm))).symm.trans (congrArg (fun l => offN + List.length l) eW97).symm) (by omega) (by omega) gL1 nL1 lL1 hS (own_gS (own_gS own_gN gd0) gd1) (own_nS (own_nS own_nN nd0) nd1) (by simp) (Int.le_trans (by decide) lq10) (Int.le_trans uq10 (by decide))
    · refine g_ifN C X89 at_489 (q := 492) rfl (feq hc95).1 ?_
      refine g_aload C X89 at_492 (q := 494) rfl rfl rfl ?_
      refine g_iload C X89 at_494 (q := 496) rfl rfl ?_
      refine g_iinc C X89 at_496 (q := 499) rfl rfl (z := (o32 (((na + 1) + 1) + 1))) (r_add ((na + 1) + 1) (by omega) 1 (by decide)) (L' := #[.val (.int q0), .val (.long q1), .second, .val (.int q3), .val (.int q4), .val (.int q5), .val (.int (2 : Int32)), .val (.int q7), .val (.int q8), .val (.int q9), .val (.int q10), .val (.int (o32 offN)), .val (.int (o32 mN)), .val (.int c0), .val (.int c1), .val (.int c2), .val (.int d0), .val (.int d1), .val (.int d2), .val (.ref bB), .val (.ref aL), .val (.int (o32 (((na + 1) + 1) + 1))), .val (.int (o32 ((pN + 1) + 1))), .val (.int (o32 L1.length)), .unset, .unset, .unset, .unset, .unset, .unset, .unset]) rfl ?_
      refine g_bipush C X89 at_499 (q := 501) rfl (z := (13 : Int32)) rfl ?_
      have f98 := (V82.other W90 (Ne.symm nbl))
      refine g_bastore C X89 f98 ⟨(r_n16 ((na + 1) + 1) (by omega)).1, own_bl (a := ((na + 1) + 1)) (b := 8) (by omega) (by decide)⟩ (r_n16 ((na + 1) + 1) (by omega)).2.1 (own_l8 (own_la (own_la hna.symm)) (by omega)) (vs' := bV (allL (((L1 ++ [d0]) ++ [d1]) ++ [(13 : Int32)]))) (own_allS (own_la (own_la hna.symm)) (by omega) ⟨by decide, by decide⟩) gl at_501 (q := 502) rfl ?_
      intro T99 h100 X101 W102 V103
      have f104 := (Wx.safeW Y84 (Wx.safeW Y75 f83 W81 f83) W90 f92)
      have Y105 := Wx.wr Y93 W102 f104
      have O106 := O94.wr W102 gl
      refine g_aload C X101 at_502 (q := 504) rfl rfl rfl ?_
      refine g_iload C X101 at_504 (q := 506) rfl rfl ?_
      refine g_iinc C X101 at_506 (q := 509) rfl rfl (z := (o32 (((pN + 1) + 1) + 1))) (r_add ((pN + 1) + 1) (by omega) 1 (by decide)) (L' := #[.val (.int q0), .val (.long q1), .second, .val (.int q3), .val (.int q4), .val (.int q5), .val (.int (2 : Int32)), .val (.int q7), .val (.int q8), .val (.int q9), .val (.int q10), .val (.int (o32 offN)), .val (.int (o32 mN)), .val (.int c0), .val (.int c1), .val (.int c2), .val (.int d0), .val (.int d1), .val (.int d2), .val (.ref bB), .val (.ref aL), .val (.int (o32 (((na + 1) + 1) + 1))), .val (.int (o32 (((pN + 1) + 1) + 1))), .val (.int (o32 L1.length)), .unset, .unset, .unset, .unset, .unset, .unset, .unset]) rfl ?_
      refine g_bipush C X101 at_509 (q := 511) rfl (z := (13 : Int32)) rfl ?_
      have f107 := (V91.other W102 nbl)
      refine g_bastore C X101 f107 ⟨(r_n16 ((pN + 1) + 1) (by omega)).1, own_bl (a := ((pN + 1) + 1)) (b := 18) (by omega) (by decide)⟩ (r_n16 ((pN + 1) + 1) (by omega)).2.1 (own_l18 (own_lb (own_lb hpN.symm)) (by omega)) (vs' := bV (bufL offN ((((L1 ++ S) ++ [d0]) ++ [d1]) ++ [(13 : Int32)]))) (own_bufS (own_lb (own_lb hpN.symm)) (by omega) ⟨by decide, by decide⟩) gb at_511 (q := 512) rfl ?_
      intro T108 h109 X110 W111 V112
      have f113 := (Wx.safeW Y93 (Wx.safeW Y84 f92 W90 f92) W102 f104)
      have Y114 := Wx.wr Y105 W111 f113
      have O115 := O106.wr W111 gb
      have eV116 : (L1 ++ (((([] : List Int32) ++ [d0]) ++ [d1]) ++ [(13 : Int32)])) = (((L1 ++ [d0]) ++ [d1]) ++ [(13 : Int32)]) := by simp
      have eW117 : (L1 ++ S ++ (((([] : List Int32) ++ [d0]) ++ [d1]) ++ [(13 : Int32)])) = ((((L1 ++ S) ++ [d0]) ++ [d1]) ++ [(13 : Int32)]) := by simp
      exact rmJ3 hw (q0 := q0) (q1 := q1) (q3 := q3) (q4 := q4) (q5 := q5) (q6 := (2 : Int32)) (q7 := q7) (q8 := q8) (q9 := q9) (q10 := q10) (c0 := c0) (c1 := c1) (c2 := c2) (d0 := d0) (d1 := d1) (d2 := d2) (bB := bB) (aL := aL) (offN := offN) (mN := mN) (na := (((na + 1) + 1) + 1)) (pN := (((pN + 1) + 1) + 1)) (L1 := L1) (S := S) (L2 := (((([] : List Int32) ++ [d0]) ++ [d1]) ++ [(13 : Int32)])) C (St.mono X110 (by decide) (by decide)) Y114 O115 W (by rw [eW117]; exact V112) (by rw [eV116]; exact (V103.other W111 (Ne.symm nbl))) gb gl (Wx.safeW Y105 f113 W111 f113) (Wx.safeW Y105 (Wx.safeW Y93 f104 W102 f104) W111 f113) nbl hoff hmN (((own_la (own_la (own_la hna.symm)))).symm.trans (congrArg List.length eV116).symm) (((own_lb (own_lb (own_lb hpN.symm)))).symm.trans (congrArg (fun l => offN + List.length l) eW117).symm) (by omega) (by omega) gL1 nL1 lL1 hS (own_gS (own_gS (own_gS own_gN gd0) gd1) ⟨by decide, by decide⟩) (own_nS (own_nS (own_nS own_nN nd0) nd1) (by decide)) (by simp) (Int.le_trans (by decide) lq10) (Int.le_trans uq10 (by decide))
  · refine g_iload C X at_410 (q := 412) rfl rfl ?_
    refine g_ifN C X at_412 (q := 415) rfl (by decide) ?_
    refine g_aload C X at_415 (q := 417) rfl rfl rfl ?_
    refine g_iload C X at_417 (q := 419) rfl rfl ?_
    refine g_iinc C X at_419 (q := 422) rfl rfl (z := (o32 (na + 1))) (r_add na (by omega) 1 (by decide)) (L' := #[.val (.int q0), .val (.long q1), .second, .val (.int q3), .val (.int q4), .val (.int q5), .val (.int (3 : Int32)), .val (.int q7), .val (.int q8), .val (.int q9), .val (.int q10), .val (.int (o32 offN)), .val (.int (o32 mN)), .val (.int c0), .val (.int c1), .val (.int c2), .val (.int d0), .val (.int d1), .val (.int d2), .val (.ref bB), .val (.ref aL), .val (.int (o32 (na + 1))), .val (.int (o32 pN)), .val (.int (o32 L1.length)), .unset, .unset, .unset, .unset, .unset, .unset, .unset]) rfl ?_
    refine g_iload C X at_422 (q := 424) rfl rfl ?_
    refine g_bastore C X VL ⟨(r_n16 na (by omega)).1, own_bl (a := na) (b := 8) (by omega) (by decide)⟩ (r_n16 na (by omega)).2.1 (own_l8 hna.symm (by omega)) (vs' := bV (allL (L1 ++ [d0]))) (own_allS hna.symm (by omega) gd0) gl at_424 (q := 425) rfl ?_
    intro T118 h119 X120 W121 V122
    have Y123 := Wx.wr Y W121 sL
    have O124 := O.wr W121 gl
    refine g_aload C X120 at_425 (q := 427) rfl rfl rfl ?_
    refine g_iload C X120 at_427 (q := 429) rfl rfl ?_
    refine g_iinc C X120 at_429 (q := 432) rfl rfl (z := (o32 (pN + 1))) (r_add pN (by omega) 1 (by decide)) (L' := #[.val (.int q0), .val (.long q1), .second, .val (.int q3), .val (.int q4), .val (.int q5), .val (.int (3 : Int32)), .val (.int q7), .val (.int q8), .val (.int q9), .val (.int q10), .val (.int (o32 offN)), .val (.int (o32 mN)), .val (.int c0), .val (.int c1), .val (.int c2), .val (.int d0), .val (.int d1), .val (.int d2), .val (.ref bB), .val (.ref aL), .val (.int (o32 (na + 1))), .val (.int (o32 (pN + 1))), .val (.int (o32 L1.length)), .unset, .unset, .unset, .unset, .unset, .unset, .unset]) rfl ?_
    refine g_iload C X120 at_432 (q := 434) rfl rfl ?_
    have f125 := (VB.other W121 nbl)
    refine g_bastore C X120 f125 ⟨(r_n16 pN (by omega)).1, own_bl (a := pN) (b := 18) (by omega) (by decide)⟩ (r_n16 pN (by omega)).2.1 (own_l18 hpN.symm (by omega)) (vs' := bV (bufL offN ((L1 ++ S) ++ [d0]))) (own_bufS hpN.symm (by omega) gd0) gb at_434 (q := 435) rfl ?_
    intro T126 h127 X128 W129 V130
    have f131 := (Wx.safeW Y sB W121 sL)
    have Y132 := Wx.wr Y123 W129 f131
    have O133 := O124.wr W129 gb
    refine g_iload C X128 at_435 (q := 437) rfl rfl ?_
    refine g_iconst C X128 at_437 (q := 438) rfl (z := (1 : Int32)) rfl ?_
    refine g_icN C X128 at_438 (q := 441) rfl (by decide) ?_
    refine g_aload C X128 at_441 (q := 443) rfl rfl rfl ?_
    refine g_iload C X128 at_443 (q := 445) rfl rfl ?_
    refine g_iinc C X128 at_445 (q := 448) rfl rfl (z := (o32 ((na + 1) + 1))) (r_add (na + 1) (by omega) 1 (by decide)) (L' := #[.val (.int q0), .val (.long q1), .second, .val (.int q3), .val (.int q4), .val (.int q5), .val (.int (3 : Int32)), .val (.int q7), .val (.int q8), .val (.int q9), .val (.int q10), .val (.int (o32 offN)), .val (.int (o32 mN)), .val (.int c0), .val (.int c1), .val (.int c2), .val (.int d0), .val (.int d1), .val (.int d2), .val (.ref bB), .val (.ref aL), .val (.int (o32 ((na + 1) + 1))), .val (.int (o32 (pN + 1))), .val (.int (o32 L1.length)), .unset, .unset, .unset, .unset, .unset, .unset, .unset]) rfl ?_
    refine g_iload C X128 at_448 (q := 450) rfl rfl ?_
    have f134 := (V122.other W129 (Ne.symm nbl))
    refine g_bastore C X128 f134 ⟨(r_n16 (na + 1) (by omega)).1, own_bl (a := (na + 1)) (b := 8) (by omega) (by decide)⟩ (r_n16 (na + 1) (by omega)).2.1 (own_l8 (own_la hna.symm) (by omega)) (vs' := bV (allL ((L1 ++ [d0]) ++ [d1]))) (own_allS (own_la hna.symm) (by omega) gd1) gl at_450 (q := 451) rfl ?_
    intro T135 h136 X137 W138 V139
    have f140 := (Wx.safeW Y123 (Wx.safeW Y sL W121 sL) W129 f131)
    have Y141 := Wx.wr Y132 W138 f140
    have O142 := O133.wr W138 gl
    refine g_aload C X137 at_451 (q := 453) rfl rfl rfl ?_
    refine g_iload C X137 at_453 (q := 455) rfl rfl ?_
    refine g_iinc C X137 at_455 (q := 458) rfl rfl (z := (o32 ((pN + 1) + 1))) (r_add (pN + 1) (by omega) 1 (by decide)) (L' := #[.val (.int q0), .val (.long q1), .second, .val (.int q3), .val (.int q4), .val (.int q5), .val (.int (3 : Int32)), .val (.int q7), .val (.int q8), .val (.int q9), .val (.int q10), .val (.int (o32 offN)), .val (.int (o32 mN)), .val (.int c0), .val (.int c1), .val (.int c2), .val (.int d0), .val (.int d1), .val (.int d2), .val (.ref bB), .val (.ref aL), .val (.int (o32 ((na + 1) + 1))), .val (.int (o32 ((pN + 1) + 1))), .val (.int (o32 L1.length)), .unset, .unset, .unset, .unset, .unset, .unset, .unset]) rfl ?_
    refine g_iload C X137 at_458 (q := 460) rfl rfl ?_
    have f143 := (V130.other W138 nbl)
    refine g_bastore C X137 f143 ⟨(r_n16 (pN + 1) (by omega)).1, own_bl (a := (pN + 1)) (b := 18) (by omega) (by decide)⟩ (r_n16 (pN + 1) (by omega)).2.1 (own_l18 (own_lb hpN.symm) (by omega)) (vs' := bV (bufL offN (((L1 ++ S) ++ [d0]) ++ [d1]))) (own_bufS (own_lb hpN.symm) (by omega) gd1) gb at_460 (q := 461) rfl ?_
    intro T144 h145 X146 W147 V148
    have f149 := (Wx.safeW Y132 (Wx.safeW Y123 f131 W129 f131) W138 f140)
    have Y150 := Wx.wr Y141 W147 f149
    have O151 := O142.wr W147 gb
    refine g_iload C X146 at_461 (q := 463) rfl rfl ?_
    refine g_iconst C X146 at_463 (q := 464) rfl (z := (2 : Int32)) rfl ?_
    refine g_icN C X146 at_464 (q := 467) rfl (by decide) ?_
    refine g_aload C X146 at_467 (q := 469) rfl rfl rfl ?_
    refine g_iload C X146 at_469 (q := 471) rfl rfl ?_
    refine g_iinc C X146 at_471 (q := 474) rfl rfl (z := (o32 (((na + 1) + 1) + 1))) (r_add ((na + 1) + 1) (by omega) 1 (by decide)) (L' := #[.val (.int q0), .val (.long q1), .second, .val (.int q3), .val (.int q4), .val (.int q5), .val (.int (3 : Int32)), .val (.int q7), .val (.int q8), .val (.int q9), .val (.int q10), .val (.int (o32 offN)), .val (.int (o32 mN)), .val (.int c0), .val (.int c1), .val (.int c2), .val (.int d0), .val (.int d1), .val (.int d2), .val (.ref bB), .val (.ref aL), .val (.int (o32 (((na + 1) + 1) + 1))), .val (.int (o32 ((pN + 1) + 1))), .val (.int (o32 L1.length)), .unset, .unset, .unset, .unset, .unset, .unset, .unset]) rfl ?_
    refine g_iload C X146 at_474 (q := 476) rfl rfl ?_
    have f152 := (V139.other W147 (Ne.symm nbl))
    refine g_bastore C X146 f152 ⟨(r_n16 ((na + 1) + 1) (by omega)).1, own_bl (a := ((na + 1) + 1)) (b := 8) (by omega) (by decide)⟩ (r_n16 ((na + 1) + 1) (by omega)).2.1 (own_l8 (own_la (own_la hna.symm)) (by omega)) (vs' := bV (allL (((L1 ++ [d0]) ++ [d1]) ++ [d2]))) (own_allS (own_la (own_la hna.symm)) (by omega) gd2) gl at_476 (q := 477) rfl ?_
    intro T153 h154 X155 W156 V157
    have f158 := (Wx.safeW Y141 (Wx.safeW Y132 f140 W138 f140) W147 f149)
    have Y159 := Wx.wr Y150 W156 f158
    have O160 := O151.wr W156 gl
    refine g_aload C X155 at_477 (q := 479) rfl rfl rfl ?_
    refine g_iload C X155 at_479 (q := 481) rfl rfl ?_
    refine g_iinc C X155 at_481 (q := 484) rfl rfl (z := (o32 (((pN + 1) + 1) + 1))) (r_add ((pN + 1) + 1) (by omega) 1 (by decide)) (L' := #[.val (.int q0), .val (.long q1), .second, .val (.int q3), .val (.int q4), .val (.int q5), .val (.int (3 : Int32)), .val (.int q7), .val (.int q8), .val (.int q9), .val (.int q10), .val (.int (o32 offN)), .val (.int (o32 mN)), .val (.int c0), .val (.int c1), .val (.int c2), .val (.int d0), .val (.int d1), .val (.int d2), .val (.ref bB), .val (.ref aL), .val (.int (o32 (((na + 1) + 1) + 1))), .val (.int (o32 (((pN + 1) + 1) + 1))), .val (.int (o32 L1.length)), .unset, .unset, .unset, .unset, .unset, .unset, .unset]) rfl ?_
    refine g_iload C X155 at_484 (q := 486) rfl rfl ?_
    have f161 := (V148.other W156 nbl)
    refine g_bastore C X155 f161 ⟨(r_n16 ((pN + 1) + 1) (by omega)).1, own_bl (a := ((pN + 1) + 1)) (b := 18) (by omega) (by decide)⟩ (r_n16 ((pN + 1) + 1) (by omega)).2.1 (own_l18 (own_lb (own_lb hpN.symm)) (by omega)) (vs' := bV (bufL offN ((((L1 ++ S) ++ [d0]) ++ [d1]) ++ [d2]))) (own_bufS (own_lb (own_lb hpN.symm)) (by omega) gd2) gb at_486 (q := 487) rfl ?_
    intro T162 h163 X164 W165 V166
    have f167 := (Wx.safeW Y150 (Wx.safeW Y141 f149 W147 f149) W156 f158)
    have Y168 := Wx.wr Y159 W165 f167
    have O169 := O160.wr W165 gb
    refine g_iload C X164 at_487 (q := 489) rfl rfl ?_
    by_cases hc170 : q8 = (0 : Int32)
    · refine g_ifY C X164 at_489 (by decide) (q := 512) (by decide) (teq hc170).1 ?_
      have eV171 : (L1 ++ (((([] : List Int32) ++ [d0]) ++ [d1]) ++ [d2])) = (((L1 ++ [d0]) ++ [d1]) ++ [d2]) := by simp
      have eW172 : (L1 ++ S ++ (((([] : List Int32) ++ [d0]) ++ [d1]) ++ [d2])) = ((((L1 ++ S) ++ [d0]) ++ [d1]) ++ [d2]) := by simp
      exact rmJ3 hw (q0 := q0) (q1 := q1) (q3 := q3) (q4 := q4) (q5 := q5) (q6 := (3 : Int32)) (q7 := q7) (q8 := q8) (q9 := q9) (q10 := q10) (c0 := c0) (c1 := c1) (c2 := c2) (d0 := d0) (d1 := d1) (d2 := d2) (bB := bB) (aL := aL) (offN := offN) (mN := mN) (na := (((na + 1) + 1) + 1)) (pN := (((pN + 1) + 1) + 1)) (L1 := L1) (S := S) (L2 := (((([] : List Int32) ++ [d0]) ++ [d1]) ++ [d2])) C (St.mono X164 (by decide) (by decide)) Y168 O169 W (by rw [eW172]; exact V166) (by rw [eV171]; exact (V157.other W165 (Ne.symm nbl))) gb gl (Wx.safeW Y159 f167 W165 f167) (Wx.safeW Y159 (Wx.safeW Y150 f158 W156 f158) W165 f167) nbl hoff hmN (((own_la (own_la (own_la hna.symm)))).symm.trans (congrArg List.length eV171).symm) (((own_lb (own_lb (own_lb hpN.symm)))).symm.trans (congrArg (fun l => offN + List.length l) eW172).symm) (by omega) (by omega) gL1 nL1 lL1 hS (own_gS (own_gS (own_gS own_gN gd0) gd1) gd2) (own_nS (own_nS (own_nS own_nN nd0) nd1) nd2) (by simp) (Int.le_trans (by decide) lq10) (Int.le_trans uq10 (by decide))
    · refine g_ifN C X164 at_489 (q := 492) rfl (feq hc170).1 ?_
      refine g_aload C X164 at_492 (q := 494) rfl rfl rfl ?_
      refine g_iload C X164 at_494 (q := 496) rfl rfl ?_
      refine g_iinc C X164 at_496 (q := 499) rfl rfl (z := (o32 ((((na + 1) + 1) + 1) + 1))) (r_add (((na + 1) + 1) + 1) (by omega) 1 (by decide)) (L' := #[.val (.int q0), .val (.long q1), .second, .val (.int q3), .val (.int q4), .val (.int q5), .val (.int (3 : Int32)), .val (.int q7), .val (.int q8), .val (.int q9), .val (.int q10), .val (.int (o32 offN)), .val (.int (o32 mN)), .val (.int c0), .val (.int c1), .val (.int c2), .val (.int d0), .val (.int d1), .val (.int d2), .val (.ref bB), .val (.ref aL), .val (.int (o32 ((((na + 1) + 1) + 1) + 1))), .val (.int (o32 (((pN + 1) + 1) + 1))), .val (.int (o32 L1.length)), .unset, .unset, .unset, .unset, .unset, .unset, .unset]) rfl ?_
      refine g_bipush C X164 at_499 (q := 501) rfl (z := (13 : Int32)) rfl ?_
      have f173 := (V157.other W165 (Ne.symm nbl))
      refine g_bastore C X164 f173 ⟨(r_n16 (((na + 1) + 1) + 1) (by omega)).1, own_bl (a := (((na + 1) + 1) + 1)) (b := 8) (by omega) (by decide)⟩ (r_n16 (((na + 1) + 1) + 1) (by omega)).2.1 (own_l8 (own_la (own_la (own_la hna.symm))) (by omega)) (vs' := bV (allL ((((L1 ++ [d0]) ++ [d1]) ++ [d2]) ++ [(13 : Int32)]))) (own_allS (own_la (own_la (own_la hna.symm))) (by omega) ⟨by decide, by decide⟩) gl at_501 (q := 502) rfl ?_
      intro T174 h175 X176 W177 V178
      have f179 := (Wx.safeW Y159 (Wx.safeW Y150 f158 W156 f158) W165 f167)
      have Y180 := Wx.wr Y168 W177 f179
      have O181 := O169.wr W177 gl
      refine g_aload C X176 at_502 (q := 504) rfl rfl rfl ?_
      refine g_iload C X176 at_504 (q := 506) rfl rfl ?_
      refine g_iinc C X176 at_506 (q := 509) rfl rfl (z := (o32 ((((pN + 1) + 1) + 1) + 1))) (r_add (((pN + 1) + 1) + 1) (by omega) 1 (by decide)) (L' := #[.val (.int q0), .val (.long q1), .second, .val (.int q3), .val (.int q4), .val (.int q5), .val (.int (3 : Int32)), .val (.int q7), .val (.int q8), .val (.int q9), .val (.int q10), .val (.int (o32 offN)), .val (.int (o32 mN)), .val (.int c0), .val (.int c1), .val (.int c2), .val (.int d0), .val (.int d1), .val (.int d2), .val (.ref bB), .val (.ref aL), .val (.int (o32 ((((na + 1) + 1) + 1) + 1))), .val (.int (o32 ((((pN + 1) + 1) + 1) + 1))), .val (.int (o32 L1.length)), .unset, .unset, .unset, .unset, .unset, .unset, .unset]) rfl ?_
      refine g_bipush C X176 at_509 (q := 511) rfl (z := (13 : Int32)) rfl ?_
      have f182 := (V166.other W177 nbl)
      refine g_bastore C X176 f182 ⟨(r_n16 (((pN + 1) + 1) + 1) (by omega)).1, own_bl (a := (((pN + 1) + 1) + 1)) (b := 18) (by omega) (by decide)⟩ (r_n16 (((pN + 1) + 1) + 1) (by omega)).2.1 (own_l18 (own_lb (own_lb (own_lb hpN.symm))) (by omega)) (vs' := bV (bufL offN (((((L1 ++ S) ++ [d0]) ++ [d1]) ++ [d2]) ++ [(13 : Int32)]))) (own_bufS (own_lb (own_lb (own_lb hpN.symm))) (by omega) ⟨by decide, by decide⟩) gb at_511 (q := 512) rfl ?_
      intro T183 h184 X185 W186 V187
      have f188 := (Wx.safeW Y168 (Wx.safeW Y159 f167 W165 f167) W177 f179)
      have Y189 := Wx.wr Y180 W186 f188
      have O190 := O181.wr W186 gb
      have eV191 : (L1 ++ ((((([] : List Int32) ++ [d0]) ++ [d1]) ++ [d2]) ++ [(13 : Int32)])) = ((((L1 ++ [d0]) ++ [d1]) ++ [d2]) ++ [(13 : Int32)]) := by simp
      have eW192 : (L1 ++ S ++ ((((([] : List Int32) ++ [d0]) ++ [d1]) ++ [d2]) ++ [(13 : Int32)])) = (((((L1 ++ S) ++ [d0]) ++ [d1]) ++ [d2]) ++ [(13 : Int32)]) := by simp
      exact rmJ3 hw (q0 := q0) (q1 := q1) (q3 := q3) (q4 := q4) (q5 := q5) (q6 := (3 : Int32)) (q7 := q7) (q8 := q8) (q9 := q9) (q10 := q10) (c0 := c0) (c1 := c1) (c2 := c2) (d0 := d0) (d1 := d1) (d2 := d2) (bB := bB) (aL := aL) (offN := offN) (mN := mN) (na := ((((na + 1) + 1) + 1) + 1)) (pN := ((((pN + 1) + 1) + 1) + 1)) (L1 := L1) (S := S) (L2 := ((((([] : List Int32) ++ [d0]) ++ [d1]) ++ [d2]) ++ [(13 : Int32)])) C (St.mono X185 (by decide) (by decide)) Y189 O190 W (by rw [eW192]; exact V187) (by rw [eV191]; exact (V178.other W186 (Ne.symm nbl))) gb gl (Wx.safeW Y180 f188 W186 f188) (Wx.safeW Y180 (Wx.safeW Y168 f179 W177 f179) W186 f188) nbl hoff hmN (((own_la (own_la (own_la (own_la hna.symm))))).symm.trans (congrArg List.length eV191).symm) (((own_lb (own_lb (own_lb (own_lb hpN.symm))))).symm.trans (congrArg (fun l => offN + List.length l) eW192).symm) (by omega) (by omega) gL1 nL1 lL1 hS (own_gS (own_gS (own_gS (own_gS own_gN gd0) gd1) gd2) ⟨by decide, by decide⟩) (own_nS (own_nS (own_nS (own_nS own_nN nd0) nd1) nd2) (by decide)) (by simp) (Int.le_trans (by decide) lq10) (Int.le_trans uq10 (by decide))
set_option maxRecDepth 65536 in
set_option maxHeartbeats 40000000 in
theorem rmJ1 {l : Launch} {Z : State} {a0 : Array Value} (hw : ∀ d ∈ tables_1, d.before a0 Z = true) {cz : Int32} {fm : Value} {cu : Addr} {q0 q3 q4 q5 q6 q7 q8 q9 q10 c0 c1 c2 d0 d1 d2 : Int32} {q1 : Int64} {offN mN na pN : Nat} {bB aL : Addr} {kD kL : ClassId} {L1 : List Int32}  {n0 : Nat} {p : Program} {e : Env} {s : State} {m : MethodId} {below : List Frame} {meth : Method} {c : Code} {T : State} {vm : Vm} {h : Heap} {as' : Array Value} (C : Cx p (s.setVm vm) m meth c Z "com/example/isolate_to_replay/isolatetoreplay/command/LastLineAcceptPinLaw" code 31 (some .boolean) "law") (X : St p l e room_1 (s.setVm vm) m as' below meth c n0 T h 2 26) (Y : Wx Z consts_1 s vm h) (O : Old Z n0 h) (W : Wd Z cz fm cu) (VB : Arv Z h bB kD .byte 18 (bV (bufL offN L1)) (.int 0)) (VL : Arv Z h aL kL .byte 8 (bV (allL L1)) (.int 0)) (gb : n0 ≤ bB) (gl : n0 ≤ aL) (sB : Safe Z consts_1 vm h bB) (sL : Safe Z consts_1 vm h aL) (nbl : bB ≠ aL) (hoff : offN ≤ 2) (hmN : mN ≤ 15) (hna : na = List.length L1) (hpN : pN = offN + List.length L1) (hnb : na ≤ 4) (hpb : pN ≤ 6) (gL1 : Gd L1) (nL1 : NoL L1) (lL1 : L1.length ≤ 4) (gd0 : good d0) (nd0 : d0 ≠ 10) (gd1 : good d1) (nd1 : d1 ≠ 10) (gd2 : good d2) (nd2 : d2 ≠ 10) (lq6 : 0 ≤ q6.toInt) (uq6 : q6.toInt ≤ 3) (lq9 : 0 ≤ q9.toInt) (uq9 : q9.toInt ≤ 3) (lq10 : 0 ≤ q10.toInt) (uq10 : q10.toInt ≤ 3)  :
    Goes p e below (FinW Z consts_1 (fun v h => ∃ w, v = some w ∧ (fun v h => v = .int 1 ∧ True) w h) s n0 32 1216) (T.setTop (mkF m 348 #[.val (.int q0), .val (.long q1), .second, .val (.int q3), .val (.int q4), .val (.int q5), .val (.int q6), .val (.int q7), .val (.int q8), .val (.int q9), .val (.int q10), .val (.int (o32 offN)), .val (.int (o32 mN)), .val (.int c0), .val (.int c1), .val (.int c2), .val (.int d0), .val (.int d1), .val (.int d2), .val (.ref bB), .val (.ref aL), .val (.int (o32 na)), .val (.int (o32 pN)), .unset, .unset, .unset, .unset, .unset, .unset, .unset, .unset] [])) := by
  subst hna
  rcases own_split4 lq9 uq9 with rfl | rfl | rfl | rfl
  · refine g_iload C X at_348 (q := 350) rfl rfl ?_
    refine g_istore C X at_350 (q := 352) rfl (L' := #[.val (.int q0), .val (.long q1), .second, .val (.int q3), .val (.int q4), .val (.int q5), .val (.int q6), .val (.int q7), .val (.int q8), .val (.int (0 : Int32)), .val (.int q10), .val (.int (o32 offN)), .val (.int (o32 mN)), .val (.int c0), .val (.int c1), .val (.int c2), .val (.int d0), .val (.int d1), .val (.int d2), .val (.ref bB), .val (.ref aL), .val (.int (o32 L1.length)), .val (.int (o32 pN)), .val (.int (o32 L1.length)), .unset, .unset, .unset, .unset, .unset, .unset, .unset]) rfl ?_
    refine g_iload C X at_352 (q := 354) rfl rfl ?_
    refine g_iconst C X at_354 (q := 355) rfl (z := (1 : Int32)) rfl ?_
    refine g_icY C X at_355 (by decide) (q := 368) (by decide) (by decide) ?_
    refine g_iload C X at_368 (q := 370) rfl rfl ?_
    refine g_iconst C X at_370 (q := 371) rfl (z := (2 : Int32)) rfl ?_
    refine g_icY C X at_371 (by decide) (q := 384) (by decide) (by decide) ?_
    refine g_iload C X at_384 (q := 386) rfl rfl ?_
    refine g_iconst C X at_386 (q := 387) rfl (z := (3 : Int32)) rfl ?_
    refine g_icY C X at_387 (by decide) (q := 410) (by decide) (by decide) ?_
    have eV1 : L1 = L1 := rfl
    have eW2 : (L1 ++ []) = L1 := by simp
    exact rmJ2 hw (q0 := q0) (q1 := q1) (q3 := q3) (q4 := q4) (q5 := q5) (q6 := q6) (q7 := q7) (q8 := q8) (q9 := (0 : Int32)) (q10 := q10) (c0 := c0) (c1 := c1) (c2 := c2) (d0 := d0) (d1 := d1) (d2 := d2) (bB := bB) (aL := aL) (offN := offN) (mN := mN) (na := L1.length) (pN := pN) (L1 := L1) (S := []) C (St.mono X (by decide) (by decide)) Y O W (by rw [eW2]; exact VB) (by rw [eV1]; exact VL) gb gl sB sL nbl hoff hmN ((rfl).symm.trans (congrArg List.length eV1).symm) ((hpN.symm).symm.trans (congrArg (fun l => offN + List.length l) eW2).symm) (by omega) (by omega) gL1 nL1 lL1 (Or.inl ⟨rfl, rfl⟩) gd0 nd0 gd1 nd1 gd2 nd2 (Int.le_trans (by decide) lq6) (Int.le_trans uq6 (by decide)) (Int.le_trans (by decide) lq10) (Int.le_trans uq10 (by decide))
  · refine g_iload C X at_348 (q := 350) rfl rfl ?_
    refine g_istore C X at_350 (q := 352) rfl (L' := #[.val (.int q0), .val (.long q1), .second, .val (.int q3), .val (.int q4), .val (.int q5), .val (.int q6), .val (.int q7), .val (.int q8), .val (.int (1 : Int32)), .val (.int q10), .val (.int (o32 offN)), .val (.int (o32 mN)), .val (.int c0), .val (.int c1), .val (.int c2), .val (.int d0), .val (.int d1), .val (.int d2), .val (.ref bB), .val (.ref aL), .val (.int (o32 L1.length)), .val (.int (o32 pN)), .val (.int (o32 L1.length)), .unset, .unset, .unset, .unset, .unset, .unset, .unset]) rfl ?_
    refine g_iload C X at_352 (q := 354) rfl rfl ?_
    refine g_iconst C X at_354 (q := 355) rfl (z := (1 : Int32)) rfl ?_
    refine g_icN C X at_355 (q := 358) rfl (by decide) ?_
    refine g_aload C X at_358 (q := 360) rfl rfl rfl ?_
    refine g_iload C X at_360 (q := 362) rfl rfl ?_
    refine g_iinc C X at_362 (q := 365) rfl rfl (z := (o32 (pN + 1))) (r_add pN (by omega) 1 (by decide)) (L' := #[.val (.int q0), .val (.long q1), .second, .val (.int q3), .val (.int q4), .val (.int q5), .val (.int q6), .val (.int q7), .val (.int q8), .val (.int (1 : Int32)), .val (.int q10), .val (.int (o32 offN)), .val (.int (o32 mN)), .val (.int c0), .val (.int c1), .val (.int c2), .val (.int d0), .val (.int d1), .val (.int d2), .val (.ref bB), .val (.ref aL), .val (.int (o32 L1.length)), .val (.int (o32 (pN + 1))), .val (.int (o32 L1.length)), .unset, .unset, .unset, .unset, .unset, .unset, .unset]) rfl ?_
    refine g_bipush C X at_365 (q := 367) rfl (z := (10 : Int32)) rfl ?_
    refine g_bastore C X VB ⟨(r_n16 pN (by omega)).1, own_bl (a := pN) (b := 18) (by omega) (by decide)⟩ (r_n16 pN (by omega)).2.1 (own_l18 hpN.symm (by omega)) (vs' := bV (bufL offN (L1 ++ [(10 : Int32)]))) (own_bufS hpN.symm (by omega) ⟨by decide, by decide⟩) gb at_367 (q := 368) rfl ?_
    intro T3 h4 X5 W6 V7
    have Y8 := Wx.wr Y W6 sB
    have O9 := O.wr W6 gb
    refine g_iload C X5 at_368 (q := 370) rfl rfl ?_
    refine g_iconst C X5 at_370 (q := 371) rfl (z := (2 : Int32)) rfl ?_
    refine g_icY C X5 at_371 (by decide) (q := 384) (by decide) (by decide) ?_
    refine g_iload C X5 at_384 (q := 386) rfl rfl ?_
    refine g_iconst C X5 at_386 (q := 387) rfl (z := (3 : Int32)) rfl ?_
    refine g_icY C X5 at_387 (by decide) (q := 410) (by decide) (by decide) ?_
    have eV10 : L1 = L1 := rfl
    have eW11 : (L1 ++ [(10 : Int32)]) = (L1 ++ [(10 : Int32)]) := rfl
    exact rmJ2 hw (q0 := q0) (q1 := q1) (q3 := q3) (q4 := q4) (q5 := q5) (q6 := q6) (q7 := q7) (q8 := q8) (q9 := (1 : Int32)) (q10 := q10) (c0 := c0) (c1 := c1) (c2 := c2) (d0 := d0) (d1 := d1) (d2 := d2) (bB := bB) (aL := aL) (offN := offN) (mN := mN) (na := L1.length) (pN := (pN + 1)) (L1 := L1) (S := [(10 : Int32)]) C (St.mono X5 (by decide) (by decide)) Y8 O9 W (by rw [eW11]; exact V7) (by rw [eV10]; exact (VL.other W6 (Ne.symm nbl))) gb gl (Wx.safeW Y sB W6 sB) (Wx.safeW Y sL W6 sB) nbl hoff hmN ((rfl).symm.trans (congrArg List.length eV10).symm) (((own_lb hpN.symm)).symm.trans (congrArg (fun l => offN + List.length l) eW11).symm) (by omega) (by omega) gL1 nL1 lL1 (Or.inr ⟨by decide, Or.inl rfl⟩) gd0 nd0 gd1 nd1 gd2 nd2 (Int.le_trans (by decide) lq6) (Int.le_trans uq6 (by decide)) (Int.le_trans (by decide) lq10) (Int.le_trans uq10 (by decide))
  · refine g_iload C X at_348 (q := 350) rfl rfl ?_
    refine g_istore C X at_350 (q := 352) rfl (L' := #[.val (.int q0), .val (.long q1), .second, .val (.int q3), .val (.int q4), .val (.int q5), .val (.int q6), .val (.int q7), .val (.int q8), .val (.int (2 : Int32)), .val (.int q10), .val (.int (o32 offN)), .val (.int (o32 mN)), .val (.int c0), .val (.int c1), .val (.int c2), .val (.int d0), .val (.int d1), .val (.int d2), .val (.ref bB), .val (.ref aL), .val (.int (o32 L1.length)), .val (.int (o32 pN)), .val (.int (o32 L1.length)), .unset, .unset, .unset, .unset, .unset, .unset, .unset]) rfl ?_
    refine g_iload C X at_352 (q := 354) rfl rfl ?_
    refine g_iconst C X at_354 (q := 355) rfl (z := (1 : Int32)) rfl ?_
    refine g_icN C X at_355 (q := 358) rfl (by decide) ?_
    refine g_aload C X at_358 (q := 360) rfl rfl rfl ?_
    refine g_iload C X at_360 (q := 362) rfl rfl ?_
    refine g_iinc C X at_362 (q := 365) rfl rfl (z := (o32 (pN + 1))) (r_add pN (by omega) 1 (by decide)) (L' := #[.val (.int q0), .val (.long q1), .second, .val (.int q3), .val (.int q4), .val (.int q5), .val (.int q6), .val (.int q7), .val (.int q8), .val (.int (2 : Int32)), .val (.int q10), .val (.int (o32 offN)), .val (.int (o32 mN)), .val (.int c0), .val (.int c1), .val (.int c2), .val (.int d0), .val (.int d1), .val (.int d2), .val (.ref bB), .val (.ref aL), .val (.int (o32 L1.length)), .val (.int (o32 (pN + 1))), .val (.int (o32 L1.length)), .unset, .unset, .unset, .unset, .unset, .unset, .unset]) rfl ?_
    refine g_bipush C X at_365 (q := 367) rfl (z := (10 : Int32)) rfl ?_
    refine g_bastore C X VB ⟨(r_n16 pN (by omega)).1, own_bl (a := pN) (b := 18) (by omega) (by decide)⟩ (r_n16 pN (by omega)).2.1 (own_l18 hpN.symm (by omega)) (vs' := bV (bufL offN (L1 ++ [(10 : Int32)]))) (own_bufS hpN.symm (by omega) ⟨by decide, by decide⟩) gb at_367 (q := 368) rfl ?_
    intro T12 h13 X14 W15 V16
    have Y17 := Wx.wr Y W15 sB
    have O18 := O.wr W15 gb
    refine g_iload C X14 at_368 (q := 370) rfl rfl ?_
    refine g_iconst C X14 at_370 (q := 371) rfl (z := (2 : Int32)) rfl ?_
    refine g_icN C X14 at_371 (q := 374) rfl (by decide) ?_
    refine g_aload C X14 at_374 (q := 376) rfl rfl rfl ?_
    refine g_iload C X14 at_376 (q := 378) rfl rfl ?_
    refine g_iinc C X14 at_378 (q := 381) rfl rfl (z := (o32 ((pN + 1) + 1))) (r_add (pN + 1) (by omega) 1 (by decide)) (L' := #[.val (.int q0), .val (.long q1), .second, .val (.int q3), .val (.int q4), .val (.int q5), .val (.int q6), .val (.int q7), .val (.int q8), .val (.int (2 : Int32)), .val (.int q10), .val (.int (o32 offN)), .val (.int (o32 mN)), .val (.int c0), .val (.int c1), .val (.int c2), .val (.int d0), .val (.int d1), .val (.int d2), .val (.ref bB), .val (.ref aL), .val (.int (o32 L1.length)), .val (.int (o32 ((pN + 1) + 1))), .val (.int (o32 L1.length)), .unset, .unset, .unset, .unset, .unset, .unset, .unset]) rfl ?_
    refine g_bipush C X14 at_381 (q := 383) rfl (z := (10 : Int32)) rfl ?_
    refine g_bastore C X14 V16 ⟨(r_n16 (pN + 1) (by omega)).1, own_bl (a := (pN + 1)) (b := 18) (by omega) (by decide)⟩ (r_n16 (pN + 1) (by omega)).2.1 (own_l18 (own_lb hpN.symm) (by omega)) (vs' := bV (bufL offN ((L1 ++ [(10 : Int32)]) ++ [(10 : Int32)]))) (own_bufS (own_lb hpN.symm) (by omega) ⟨by decide, by decide⟩) gb at_383 (q := 384) rfl ?_
    intro T19 h20 X21 W22 V23
    have f24 := (Wx.safeW Y sB W15 sB)
    have Y25 := Wx.wr Y17 W22 f24
    have O26 := O18.wr W22 gb
    refine g_iload C X21 at_384 (q := 386) rfl rfl ?_
    refine g_iconst C X21 at_386 (q := 387) rfl (z := (3 : Int32)) rfl ?_
    refine g_icY C X21 at_387 (by decide) (q := 410) (by decide) (by decide) ?_
    have eV27 : L1 = L1 := rfl
    have eW28 : (L1 ++ [(10 : Int32), (10 : Int32)]) = ((L1 ++ [(10 : Int32)]) ++ [(10 : Int32)]) := by simp
    exact rmJ2 hw (q0 := q0) (q1 := q1) (q3 := q3) (q4 := q4) (q5 := q5) (q6 := q6) (q7 := q7) (q8 := q8) (q9 := (2 : Int32)) (q10 := q10) (c0 := c0) (c1 := c1) (c2 := c2) (d0 := d0) (d1 := d1) (d2 := d2) (bB := bB) (aL := aL) (offN := offN) (mN := mN) (na := L1.length) (pN := ((pN + 1) + 1)) (L1 := L1) (S := [(10 : Int32), (10 : Int32)]) C (St.mono X21 (by decide) (by decide)) Y25 O26 W (by rw [eW28]; exact V23) (by rw [eV27]; exact ((VL.other W15 (Ne.symm nbl)).other W22 (Ne.symm nbl))) gb gl (Wx.safeW Y17 f24 W22 f24) (Wx.safeW Y17 (Wx.safeW Y sL W15 sB) W22 f24) nbl hoff hmN ((rfl).symm.trans (congrArg List.length eV27).symm) (((own_lb (own_lb hpN.symm))).symm.trans (congrArg (fun l => offN + List.length l) eW28).symm) (by omega) (by omega) gL1 nL1 lL1 (Or.inr ⟨by decide, Or.inr (Or.inl rfl)⟩) gd0 nd0 gd1 nd1 gd2 nd2 (Int.le_trans (by decide) lq6) (Int.le_trans uq6 (by decide)) (Int.le_trans (by decide) lq10) (Int.le_trans uq10 (by decide))
  · refine g_iload C X at_348 (q := 350) rfl rfl ?_
    refine g_istore C X at_350 (q := 352) rfl (L' := #[.val (.int q0), .val (.long q1), .second, .val (.int q3), .val (.int q4), .val (.int q5), .val (.int q6), .val (.int q7), .val (.int q8), .val (.int (3 : Int32)), .val (.int q10), .val (.int (o32 offN)), .val (.int (o32 mN)), .val (.int c0), .val (.int c1), .val (.int c2), .val (.int d0), .val (.int d1), .val (.int d2), .val (.ref bB), .val (.ref aL), .val (.int (o32 L1.length)), .val (.int (o32 pN)), .val (.int (o32 L1.length)), .unset, .unset, .unset, .unset, .unset, .unset, .unset]) rfl ?_
    refine g_iload C X at_352 (q := 354) rfl rfl ?_
    refine g_iconst C X at_354 (q := 355) rfl (z := (1 : Int32)) rfl ?_
    refine g_icN C X at_355 (q := 358) rfl (by decide) ?_
    refine g_aload C X at_358 (q := 360) rfl rfl rfl ?_
    refine g_iload C X at_360 (q := 362) rfl rfl ?_
    refine g_iinc C X at_362 (q := 365) rfl rfl (z := (o32 (pN + 1))) (r_add pN (by omega) 1 (by decide)) (L' := #[.val (.int q0), .val (.long q1), .second, .val (.int q3), .val (.int q4), .val (.int q5), .val (.int q6), .val (.int q7), .val (.int q8), .val (.int (3 : Int32)), .val (.int q10), .val (.int (o32 offN)), .val (.int (o32 mN)), .val (.int c0), .val (.int c1), .val (.int c2), .val (.int d0), .val (.int d1), .val (.int d2), .val (.ref bB), .val (.ref aL), .val (.int (o32 L1.length)), .val (.int (o32 (pN + 1))), .val (.int (o32 L1.length)), .unset, .unset, .unset, .unset, .unset, .unset, .unset]) rfl ?_
    refine g_bipush C X at_365 (q := 367) rfl (z := (10 : Int32)) rfl ?_
    refine g_bastore C X VB ⟨(r_n16 pN (by omega)).1, own_bl (a := pN) (b := 18) (by omega) (by decide)⟩ (r_n16 pN (by omega)).2.1 (own_l18 hpN.symm (by omega)) (vs' := bV (bufL offN (L1 ++ [(10 : Int32)]))) (own_bufS hpN.symm (by omega) ⟨by decide, by decide⟩) gb at_367 (q := 368) rfl ?_
    intro T29 h30 X31 W32 V33
    have Y34 := Wx.wr Y W32 sB
    have O35 := O.wr W32 gb
    refine g_iload C X31 at_368 (q := 370) rfl rfl ?_
    refine g_iconst C X31 at_370 (q := 371) rfl (z := (2 : Int32)) rfl ?_
    refine g_icY C X31 at_371 (by decide) (q := 384) (by decide) (by decide) ?_
    refine g_iload C X31 at_384 (q := 386) rfl rfl ?_
    refine g_iconst C X31 at_386 (q := 387) rfl (z := (3 : Int32)) rfl ?_
    refine g_icN C X31 at_387 (q := 390) rfl (by decide) ?_
    refine g_aload C X31 at_390 (q := 392) rfl rfl rfl ?_
    refine g_iload C X31 at_392 (q := 394) rfl rfl ?_
    refine g_iinc C X31 at_394 (q := 397) rfl rfl (z := (o32 ((pN + 1) + 1))) (r_add (pN + 1) (by omega) 1 (by decide)) (L' := #[.val (.int q0), .val (.long q1), .second, .val (.int q3), .val (.int q4), .val (.int q5), .val (.int q6), .val (.int q7), .val (.int q8), .val (.int (3 : Int32)), .val (.int q10), .val (.int (o32 offN)), .val (.int (o32 mN)), .val (.int c0), .val (.int c1), .val (.int c2), .val (.int d0), .val (.int d1), .val (.int d2), .val (.ref bB), .val (.ref aL), .val (.int (o32 L1.length)), .val (.int (o32 ((pN + 1) + 1))), .val (.int (o32 L1.length)), .unset, .unset, .unset, .unset, .unset, .unset, .unset]) rfl ?_
    refine g_bipush C X31 at_397 (q := 399) rfl (z := (13 : Int32)) rfl ?_
    refine g_bastore C X31 V33 ⟨(r_n16 (pN + 1) (by omega)).1, own_bl (a := (pN + 1)) (b := 18) (by omega) (by decide)⟩ (r_n16 (pN + 1) (by omega)).2.1 (own_l18 (own_lb hpN.symm) (by omega)) (vs' := bV (bufL offN ((L1 ++ [(10 : Int32)]) ++ [(13 : Int32)]))) (own_bufS (own_lb hpN.symm) (by omega) ⟨by decide, by decide⟩) gb at_399 (q := 400) rfl ?_
    intro T36 h37 X38 W39 V40
    have f41 := (Wx.safeW Y sB W32 sB)
    have Y42 := Wx.wr Y34 W39 f41
    have O43 := O35.wr W39 gb
    refine g_aload C X38 at_400 (q := 402) rfl rfl rfl ?_
    refine g_iload C X38 at_402 (q := 404) rfl rfl ?_
    refine g_iinc C X38 at_404 (q := 407) rfl rfl (z := (o32 (((pN + 1) + 1) + 1))) (r_add ((pN + 1) + 1) (by omega) 1 (by decide)) (L' := #[.val (.int q0), .val (.long q1), .second, .val (.int q3), .val (.int q4), .val (.int q5), .val (.int q6), .val (.int q7), .val (.int q8), .val (.int (3 : Int32)), .val (.int q10), .val (.int (o32 offN)), .val (.int (o32 mN)), .val (.int c0), .val (.int c1), .val (.int c2), .val (.int d0), .val (.int d1), .val (.int d2), .val (.ref bB), .val (.ref aL), .val (.int (o32 L1.length)), .val (.int (o32 (((pN + 1) + 1) + 1))), .val (.int (o32 L1.length)), .unset, .unset, .unset, .unset, .unset, .unset, .unset]) rfl ?_
    refine g_bipush C X38 at_407 (q := 409) rfl (z := (10 : Int32)) rfl ?_
    refine g_bastore C X38 V40 ⟨(r_n16 ((pN + 1) + 1) (by omega)).1, own_bl (a := ((pN + 1) + 1)) (b := 18) (by omega) (by decide)⟩ (r_n16 ((pN + 1) + 1) (by omega)).2.1 (own_l18 (own_lb (own_lb hpN.symm)) (by omega)) (vs' := bV (bufL offN (((L1 ++ [(10 : Int32)]) ++ [(13 : Int32)]) ++ [(10 : Int32)]))) (own_bufS (own_lb (own_lb hpN.symm)) (by omega) ⟨by decide, by decide⟩) gb at_409 (q := 410) rfl ?_
    intro T44 h45 X46 W47 V48
    have f49 := (Wx.safeW Y34 f41 W39 f41)
    have Y50 := Wx.wr Y42 W47 f49
    have O51 := O43.wr W47 gb
    have eV52 : L1 = L1 := rfl
    have eW53 : (L1 ++ [(10 : Int32), (13 : Int32), (10 : Int32)]) = (((L1 ++ [(10 : Int32)]) ++ [(13 : Int32)]) ++ [(10 : Int32)]) := by simp
    exact rmJ2 hw (q0 := q0) (q1 := q1) (q3 := q3) (q4 := q4) (q5 := q5) (q6 := q6) (q7 := q7) (q8 := q8) (q9 := (3 : Int32)) (q10 := q10) (c0 := c0) (c1 := c1) (c2 := c2) (d0 := d0) (d1 := d1) (d2 := d2) (bB := bB) (aL := aL) (offN := offN) (mN := mN) (na := L1.length) (pN := (((pN + 1) + 1) + 1)) (L1 := L1) (S := [(10 : Int32), (13 : Int32), (10 : Int32)]) C (St.mono X46 (by decide) (by decide)) Y50 O51 W (by rw [eW53]; exact V48) (by rw [eV52]; exact (((VL.other W32 (Ne.symm nbl)).other W39 (Ne.symm nbl)).other W47 (Ne.symm nbl))) gb gl (Wx.safeW Y42 f49 W47 f49) (Wx.safeW Y42 (Wx.safeW Y34 (Wx.safeW Y sL W32 sB) W39 f41) W47 f49) nbl hoff hmN ((rfl).symm.trans (congrArg List.length eV52).symm) (((own_lb (own_lb (own_lb hpN.symm)))).symm.trans (congrArg (fun l => offN + List.length l) eW53).symm) (by omega) (by omega) gL1 nL1 lL1 (Or.inr ⟨by decide, Or.inr (Or.inr rfl)⟩) gd0 nd0 gd1 nd1 gd2 nd2 (Int.le_trans (by decide) lq6) (Int.le_trans uq6 (by decide)) (Int.le_trans (by decide) lq10) (Int.le_trans uq10 (by decide))
set_option maxRecDepth 65536 in
set_option maxHeartbeats 40000000 in
theorem rmLaw {l : Launch} {Z : State} {a0 : Array Value} (hw : ∀ d ∈ tables_1, d.before a0 Z = true) {p0 p2 p3 : Int32} {p1 : Int64} {cz : Int32} {fm : Value} {cu : Addr} {h0 : Heap} {n0 : Nat} (O : Old Z n0 h0) (W : Wd Z cz fm cu) :
    MetW1 l Z consts_1 x code maxLocals ret room_1 #[(.int p0), (.long p1), (.int p2), (.int p3)] h0 n0 (fun v h => v = .int 1 ∧ True) := by
  refine metW_of (L := #[.val (.int p0), .val (.long p1), .second, .val (.int p2), .val (.int p3), .unset, .unset, .unset, .unset, .unset, .unset, .unset, .unset, .unset, .unset, .unset, .unset, .unset, .unset, .unset, .unset, .unset, .unset, .unset, .unset, .unset, .unset, .unset, .unset, .unset, .unset]) (plainFor_of_name pn_18) (fun m => by first | (simp [entryFrame, mkF, argsToLocals, Value.category, maxLocals]; done) | rfl) ?_
  intro p e s m below meth c T vm C X Y
  change Cx p (s.setVm vm) m meth c Z "com/example/isolate_to_replay/isolatetoreplay/command/LastLineAcceptPinLaw" code 31 (some .boolean) "law" at C
  change Goes p e below (FinW Z consts_1 _ s n0 32 1216) _
  refine g_iloadN C X at_0 (q := 1) rfl rfl ?_
  refine g_iconst C X at_1 (q := 2) rfl (z := (3 : Int32)) rfl ?_
  obtain ⟨v1, ev1⟩ : ∃ z, (p0 &&& (3 : Int32)) = z := ⟨_, rfl⟩
  have hl2 : 0 ≤ v1.toInt := by rw [← ev1]; exact (c_and p0 (3 : Int32) (by decide)).1
  have hh3 : v1.toInt ≤ 3 := by rw [← ev1]; exact (c_and p0 (3 : Int32) (by decide)).2
  refine g_iand C X at_2 (q := 3) rfl (z := v1) ev1 ?_
  refine g_istore C X at_3 (q := 5) rfl (L' := #[.val (.int p0), .val (.long p1), .second, .val (.int p2), .val (.int p3), .val (.int v1), .unset, .unset, .unset, .unset, .unset, .unset, .unset, .unset, .unset, .unset, .unset, .unset, .unset, .unset, .unset, .unset, .unset, .unset, .unset, .unset, .unset, .unset, .unset, .unset, .unset]) rfl ?_
  refine g_iloadN C X at_5 (q := 6) rfl rfl ?_
  refine g_iconst C X at_6 (q := 7) rfl (z := (2 : Int32)) rfl ?_
  refine g_iushr C X at_7 (q := 8) rfl (z := ((p0.toUInt32 >>> ((2 : Int32) &&& 31).toUInt32).toInt32)) rfl ?_
  refine g_iconst C X at_8 (q := 9) rfl (z := (3 : Int32)) rfl ?_
  obtain ⟨v4, ev4⟩ : ∃ z, (((p0.toUInt32 >>> ((2 : Int32) &&& 31).toUInt32).toInt32) &&& (3 : Int32)) = z := ⟨_, rfl⟩
  have hl5 : 0 ≤ v4.toInt := by rw [← ev4]; exact (c_and ((p0.toUInt32 >>> ((2 : Int32) &&& 31).toUInt32).toInt32) (3 : Int32) (by decide)).1
  have hh6 : v4.toInt ≤ 3 := by rw [← ev4]; exact (c_and ((p0.toUInt32 >>> ((2 : Int32) &&& 31).toUInt32).toInt32) (3 : Int32) (by decide)).2
  refine g_iand C X at_9 (q := 10) rfl (z := v4) ev4 ?_
  refine g_istore C X at_10 (q := 12) rfl (L' := #[.val (.int p0), .val (.long p1), .second, .val (.int p2), .val (.int p3), .val (.int v1), .val (.int v4), .unset, .unset, .unset, .unset, .unset, .unset, .unset, .unset, .unset, .unset, .unset, .unset, .unset, .unset, .unset, .unset, .unset, .unset, .unset, .unset, .unset, .unset, .unset, .unset]) rfl ?_
  refine g_iloadN C X at_12 (q := 13) rfl rfl ?_
  refine g_iconst C X at_13 (q := 14) rfl (z := (4 : Int32)) rfl ?_
  refine g_iushr C X at_14 (q := 15) rfl (z := ((p0.toUInt32 >>> ((4 : Int32) &&& 31).toUInt32).toInt32)) rfl ?_
  refine g_iconst C X at_15 (q := 16) rfl (z := (1 : Int32)) rfl ?_
  obtain ⟨v7, ev7⟩ : ∃ z, (((p0.toUInt32 >>> ((4 : Int32) &&& 31).toUInt32).toInt32) &&& (1 : Int32)) = z := ⟨_, rfl⟩
  have hl8 : 0 ≤ v7.toInt := by rw [← ev7]; exact (c_and ((p0.toUInt32 >>> ((4 : Int32) &&& 31).toUInt32).toInt32) (1 : Int32) (by decide)).1
  have hh9 : v7.toInt ≤ 1 := by rw [← ev7]; exact (c_and ((p0.toUInt32 >>> ((4 : Int32) &&& 31).toUInt32).toInt32) (1 : Int32) (by decide)).2
  refine g_iand C X at_16 (q := 17) rfl (z := v7) ev7 ?_
  refine g_boolF C X at_17 at_20 at_21 at_24 (q := 25) rfl ?_
  intro bz10 hz11 hz12
  refine g_istore C X at_25 (q := 27) rfl (L' := #[.val (.int p0), .val (.long p1), .second, .val (.int p2), .val (.int p3), .val (.int v1), .val (.int v4), .val (.int bz10), .unset, .unset, .unset, .unset, .unset, .unset, .unset, .unset, .unset, .unset, .unset, .unset, .unset, .unset, .unset, .unset, .unset, .unset, .unset, .unset, .unset, .unset, .unset]) rfl ?_
  refine g_iloadN C X at_27 (q := 28) rfl rfl ?_
  refine g_iconst C X at_28 (q := 29) rfl (z := (5 : Int32)) rfl ?_
  refine g_iushr C X at_29 (q := 30) rfl (z := ((p0.toUInt32 >>> ((5 : Int32) &&& 31).toUInt32).toInt32)) rfl ?_
  refine g_iconst C X at_30 (q := 31) rfl (z := (1 : Int32)) rfl ?_
  obtain ⟨v13, ev13⟩ : ∃ z, (((p0.toUInt32 >>> ((5 : Int32) &&& 31).toUInt32).toInt32) &&& (1 : Int32)) = z := ⟨_, rfl⟩
  have hl14 : 0 ≤ v13.toInt := by rw [← ev13]; exact (c_and ((p0.toUInt32 >>> ((5 : Int32) &&& 31).toUInt32).toInt32) (1 : Int32) (by decide)).1
  have hh15 : v13.toInt ≤ 1 := by rw [← ev13]; exact (c_and ((p0.toUInt32 >>> ((5 : Int32) &&& 31).toUInt32).toInt32) (1 : Int32) (by decide)).2
  refine g_iand C X at_31 (q := 32) rfl (z := v13) ev13 ?_
  refine g_boolF C X at_32 at_35 at_36 at_39 (q := 40) rfl ?_
  intro bz16 hz17 hz18
  refine g_istore C X at_40 (q := 42) rfl (L' := #[.val (.int p0), .val (.long p1), .second, .val (.int p2), .val (.int p3), .val (.int v1), .val (.int v4), .val (.int bz10), .val (.int bz16), .unset, .unset, .unset, .unset, .unset, .unset, .unset, .unset, .unset, .unset, .unset, .unset, .unset, .unset, .unset, .unset, .unset, .unset, .unset, .unset, .unset, .unset]) rfl ?_
  refine g_iloadN C X at_42 (q := 43) rfl rfl ?_
  refine g_bipush C X at_43 (q := 45) rfl (z := (6 : Int32)) rfl ?_
  refine g_iushr C X at_45 (q := 46) rfl (z := ((p0.toUInt32 >>> ((6 : Int32) &&& 31).toUInt32).toInt32)) rfl ?_
  refine g_iconst C X at_46 (q := 47) rfl (z := (3 : Int32)) rfl ?_
  obtain ⟨v19, ev19⟩ : ∃ z, (((p0.toUInt32 >>> ((6 : Int32) &&& 31).toUInt32).toInt32) &&& (3 : Int32)) = z := ⟨_, rfl⟩
  have hl20 : 0 ≤ v19.toInt := by rw [← ev19]; exact (c_and ((p0.toUInt32 >>> ((6 : Int32) &&& 31).toUInt32).toInt32) (3 : Int32) (by decide)).1
  have hh21 : v19.toInt ≤ 3 := by rw [← ev19]; exact (c_and ((p0.toUInt32 >>> ((6 : Int32) &&& 31).toUInt32).toInt32) (3 : Int32) (by decide)).2
  refine g_iand C X at_47 (q := 48) rfl (z := v19) ev19 ?_
  refine g_istore C X at_48 (q := 50) rfl (L' := #[.val (.int p0), .val (.long p1), .second, .val (.int p2), .val (.int p3), .val (.int v1), .val (.int v4), .val (.int bz10), .val (.int bz16), .val (.int v19), .unset, .unset, .unset, .unset, .unset, .unset, .unset, .unset, .unset, .unset, .unset, .unset, .unset, .unset, .unset, .unset, .unset, .unset, .unset, .unset, .unset]) rfl ?_
  refine g_iloadN C X at_50 (q := 51) rfl rfl ?_
  refine g_bipush C X at_51 (q := 53) rfl (z := (8 : Int32)) rfl ?_
  refine g_iushr C X at_53 (q := 54) rfl (z := ((p0.toUInt32 >>> ((8 : Int32) &&& 31).toUInt32).toInt32)) rfl ?_
  refine g_iconst C X at_54 (q := 55) rfl (z := (3 : Int32)) rfl ?_
  obtain ⟨v22, ev22⟩ : ∃ z, (((p0.toUInt32 >>> ((8 : Int32) &&& 31).toUInt32).toInt32) &&& (3 : Int32)) = z := ⟨_, rfl⟩
  have hl23 : 0 ≤ v22.toInt := by rw [← ev22]; exact (c_and ((p0.toUInt32 >>> ((8 : Int32) &&& 31).toUInt32).toInt32) (3 : Int32) (by decide)).1
  have hh24 : v22.toInt ≤ 3 := by rw [← ev22]; exact (c_and ((p0.toUInt32 >>> ((8 : Int32) &&& 31).toUInt32).toInt32) (3 : Int32) (by decide)).2
  refine g_iand C X at_55 (q := 56) rfl (z := v22) ev22 ?_
  refine g_istore C X at_56 (q := 58) rfl (L' := #[.val (.int p0), .val (.long p1), .second, .val (.int p2), .val (.int p3), .val (.int v1), .val (.int v4), .val (.int bz10), .val (.int bz16), .val (.int v19), .val (.int v22), .unset, .unset, .unset, .unset, .unset, .unset, .unset, .unset, .unset, .unset, .unset, .unset, .unset, .unset, .unset, .unset, .unset, .unset, .unset, .unset]) rfl ?_
  refine g_iloadN C X at_58 (q := 59) rfl rfl ?_
  refine g_bipush C X at_59 (q := 61) rfl (z := (10 : Int32)) rfl ?_
  refine g_iushr C X at_61 (q := 62) rfl (z := ((p0.toUInt32 >>> ((10 : Int32) &&& 31).toUInt32).toInt32)) rfl ?_
  refine g_iconst C X at_62 (q := 63) rfl (z := (3 : Int32)) rfl ?_
  obtain ⟨v25, ev25⟩ : ∃ z, (((p0.toUInt32 >>> ((10 : Int32) &&& 31).toUInt32).toInt32) &&& (3 : Int32)) = z := ⟨_, rfl⟩
  have hl26 : 0 ≤ v25.toInt := by rw [← ev25]; exact (c_and ((p0.toUInt32 >>> ((10 : Int32) &&& 31).toUInt32).toInt32) (3 : Int32) (by decide)).1
  have hh27 : v25.toInt ≤ 3 := by rw [← ev25]; exact (c_and ((p0.toUInt32 >>> ((10 : Int32) &&& 31).toUInt32).toInt32) (3 : Int32) (by decide)).2
  refine g_iand C X at_63 (q := 64) rfl (z := v25) ev25 ?_
  refine g_iconst C X at_64 (q := 65) rfl (z := (3 : Int32)) rfl ?_
  obtain ⟨v28, ev28⟩ : ∃ z, (v25 % (3 : Int32)) = z := ⟨_, rfl⟩
  have hl29 : 0 ≤ v28.toInt := by rw [← ev28]; exact (own_rem (y := (3 : Int32)) (d := 2) (by decide) (by decide) (Int.le_trans (by decide) hl26)).1
  have hh30 : v28.toInt ≤ 2 := by rw [← ev28]; exact (own_rem (y := (3 : Int32)) (d := 2) (by decide) (by decide) (Int.le_trans (by decide) hl26)).2
  refine g_irem C X at_65 (q := 66) rfl (by decide) (z := v28) ev28 ?_
  obtain ⟨offN, hoff, rfl⟩ := own_nat (b := 2) hl29 hh30 (by decide)
  refine g_istore C X at_66 (q := 68) rfl (L' := #[.val (.int p0), .val (.long p1), .second, .val (.int p2), .val (.int p3), .val (.int v1), .val (.int v4), .val (.int bz10), .val (.int bz16), .val (.int v19), .val (.int v22), .val (.int (o32 offN)), .unset, .unset, .unset, .unset, .unset, .unset, .unset, .unset, .unset, .unset, .unset, .unset, .unset, .unset, .unset, .unset, .unset, .unset, .unset]) rfl ?_
  refine g_iloadN C X at_68 (q := 69) rfl rfl ?_
  refine g_bipush C X at_69 (q := 71) rfl (z := (15 : Int32)) rfl ?_
  obtain ⟨v31, ev31⟩ : ∃ z, (p2 &&& (15 : Int32)) = z := ⟨_, rfl⟩
  have hl32 : 0 ≤ v31.toInt := by rw [← ev31]; exact (c_and p2 (15 : Int32) (by decide)).1
  have hh33 : v31.toInt ≤ 15 := by rw [← ev31]; exact (c_and p2 (15 : Int32) (by decide)).2
  refine g_iand C X at_71 (q := 72) rfl (z := v31) ev31 ?_
  obtain ⟨mN, hmN, rfl⟩ := own_nat (b := 15) hl32 hh33 (by decide)
  refine g_istore C X at_72 (q := 74) rfl (L' := #[.val (.int p0), .val (.long p1), .second, .val (.int p2), .val (.int p3), .val (.int v1), .val (.int v4), .val (.int bz10), .val (.int bz16), .val (.int v19), .val (.int v22), .val (.int (o32 offN)), .val (.int (o32 mN)), .unset, .unset, .unset, .unset, .unset, .unset, .unset, .unset, .unset, .unset, .unset, .unset, .unset, .unset, .unset, .unset, .unset, .unset]) rfl ?_
  refine g_lloadN C X at_74 (q := 75) rfl rfl ?_
  refine g_callS1 C X (y := (⟨"com/example/isolate_to_replay/isolatetoreplay/command/LastLineAcceptPinLaw", "letter", "(J)B"⟩ : MethodName)) (by decide) (w0 hw) (w1 hw) (w3 hw) (w2 hw) (rm_letter hw (lx := p1) O W) (W := 0) (by decide) (by decide) (k' := 0) rfl (n' := 0) rfl (by decide) (by decide) rfl pd_486 (argsL := [(.long p1)]) rfl (rest := []) rfl rfl rfl at_75 (q := 78) rfl ?_
  rintro _ T34 _ X35 ⟨⟨lt36, rfl, g37, g38, g39⟩, rfl⟩
  refine g_istore C X35 at_78 (q := 80) rfl (L' := #[.val (.int p0), .val (.long p1), .second, .val (.int p2), .val (.int p3), .val (.int v1), .val (.int v4), .val (.int bz10), .val (.int bz16), .val (.int v19), .val (.int v22), .val (.int (o32 offN)), .val (.int (o32 mN)), .val (.int lt36), .unset, .unset, .unset, .unset, .unset, .unset, .unset, .unset, .unset, .unset, .unset, .unset, .unset, .unset, .unset, .unset, .unset]) rfl ?_
  refine g_lloadN C X35 at_80 (q := 81) rfl rfl ?_
  refine g_bipush C X35 at_81 (q := 83) rfl (z := (7 : Int32)) rfl ?_
  refine g_lushr C X35 at_83 (q := 84) rfl (z := ((p1.toUInt64 >>> ((7 : Int32) &&& 0x3f).toInt64.toUInt64).toInt64)) rfl ?_
  refine g_callS1 C X35 (y := (⟨"com/example/isolate_to_replay/isolatetoreplay/command/LastLineAcceptPinLaw", "letter", "(J)B"⟩ : MethodName)) (by decide) (w0 hw) (w1 hw) (w3 hw) (w2 hw) (rm_letter hw (lx := ((p1.toUInt64 >>> ((7 : Int32) &&& 0x3f).toInt64.toUInt64).toInt64)) O W) (W := 0) (by decide) (by decide) (k' := 0) rfl (n' := 0) rfl (by decide) (by decide) rfl pd_486 (argsL := [(.long ((p1.toUInt64 >>> ((7 : Int32) &&& 0x3f).toInt64.toUInt64).toInt64))]) rfl (rest := []) rfl rfl rfl at_84 (q := 87) rfl ?_
  rintro _ T40 _ X41 ⟨⟨lt42, rfl, g43, g44, g45⟩, rfl⟩
  refine g_istore C X41 at_87 (q := 89) rfl (L' := #[.val (.int p0), .val (.long p1), .second, .val (.int p2), .val (.int p3), .val (.int v1), .val (.int v4), .val (.int bz10), .val (.int bz16), .val (.int v19), .val (.int v22), .val (.int (o32 offN)), .val (.int (o32 mN)), .val (.int lt36), .val (.int lt42), .unset, .unset, .unset, .unset, .unset, .unset, .unset, .unset, .unset, .unset, .unset, .unset, .unset, .unset, .unset, .unset]) rfl ?_
  refine g_lloadN C X41 at_89 (q := 90) rfl rfl ?_
  refine g_bipush C X41 at_90 (q := 92) rfl (z := (14 : Int32)) rfl ?_
  refine g_lushr C X41 at_92 (q := 93) rfl (z := ((p1.toUInt64 >>> ((14 : Int32) &&& 0x3f).toInt64.toUInt64).toInt64)) rfl ?_
  refine g_callS1 C X41 (y := (⟨"com/example/isolate_to_replay/isolatetoreplay/command/LastLineAcceptPinLaw", "letter", "(J)B"⟩ : MethodName)) (by decide) (w0 hw) (w1 hw) (w3 hw) (w2 hw) (rm_letter hw (lx := ((p1.toUInt64 >>> ((14 : Int32) &&& 0x3f).toInt64.toUInt64).toInt64)) O W) (W := 0) (by decide) (by decide) (k' := 0) rfl (n' := 0) rfl (by decide) (by decide) rfl pd_486 (argsL := [(.long ((p1.toUInt64 >>> ((14 : Int32) &&& 0x3f).toInt64.toUInt64).toInt64))]) rfl (rest := []) rfl rfl rfl at_93 (q := 96) rfl ?_
  rintro _ T46 _ X47 ⟨⟨lt48, rfl, g49, g50, g51⟩, rfl⟩
  refine g_istore C X47 at_96 (q := 98) rfl (L' := #[.val (.int p0), .val (.long p1), .second, .val (.int p2), .val (.int p3), .val (.int v1), .val (.int v4), .val (.int bz10), .val (.int bz16), .val (.int v19), .val (.int v22), .val (.int (o32 offN)), .val (.int (o32 mN)), .val (.int lt36), .val (.int lt42), .val (.int lt48), .unset, .unset, .unset, .unset, .unset, .unset, .unset, .unset, .unset, .unset, .unset, .unset, .unset, .unset, .unset]) rfl ?_
  refine g_lloadN C X47 at_98 (q := 99) rfl rfl ?_
  refine g_bipush C X47 at_99 (q := 101) rfl (z := (21 : Int32)) rfl ?_
  refine g_lushr C X47 at_101 (q := 102) rfl (z := ((p1.toUInt64 >>> ((21 : Int32) &&& 0x3f).toInt64.toUInt64).toInt64)) rfl ?_
  refine g_callS1 C X47 (y := (⟨"com/example/isolate_to_replay/isolatetoreplay/command/LastLineAcceptPinLaw", "letter", "(J)B"⟩ : MethodName)) (by decide) (w0 hw) (w1 hw) (w3 hw) (w2 hw) (rm_letter hw (lx := ((p1.toUInt64 >>> ((21 : Int32) &&& 0x3f).toInt64.toUInt64).toInt64)) O W) (W := 0) (by decide) (by decide) (k' := 0) rfl (n' := 0) rfl (by decide) (by decide) rfl pd_486 (argsL := [(.long ((p1.toUInt64 >>> ((21 : Int32) &&& 0x3f).toInt64.toUInt64).toInt64))]) rfl (rest := []) rfl rfl rfl at_102 (q := 105) rfl ?_
  rintro _ T52 _ X53 ⟨⟨lt54, rfl, g55, g56, g57⟩, rfl⟩
  refine g_istore C X53 at_105 (q := 107) rfl (L' := #[.val (.int p0), .val (.long p1), .second, .val (.int p2), .val (.int p3), .val (.int v1), .val (.int v4), .val (.int bz10), .val (.int bz16), .val (.int v19), .val (.int v22), .val (.int (o32 offN)), .val (.int (o32 mN)), .val (.int lt36), .val (.int lt42), .val (.int lt48), .val (.int lt54), .unset, .unset, .unset, .unset, .unset, .unset, .unset, .unset, .unset, .unset, .unset, .unset, .unset, .unset]) rfl ?_
  refine g_lloadN C X53 at_107 (q := 108) rfl rfl ?_
  refine g_bipush C X53 at_108 (q := 110) rfl (z := (28 : Int32)) rfl ?_
  refine g_lushr C X53 at_110 (q := 111) rfl (z := ((p1.toUInt64 >>> ((28 : Int32) &&& 0x3f).toInt64.toUInt64).toInt64)) rfl ?_
  refine g_callS1 C X53 (y := (⟨"com/example/isolate_to_replay/isolatetoreplay/command/LastLineAcceptPinLaw", "letter", "(J)B"⟩ : MethodName)) (by decide) (w0 hw) (w1 hw) (w3 hw) (w2 hw) (rm_letter hw (lx := ((p1.toUInt64 >>> ((28 : Int32) &&& 0x3f).toInt64.toUInt64).toInt64)) O W) (W := 0) (by decide) (by decide) (k' := 0) rfl (n' := 0) rfl (by decide) (by decide) rfl pd_486 (argsL := [(.long ((p1.toUInt64 >>> ((28 : Int32) &&& 0x3f).toInt64.toUInt64).toInt64))]) rfl (rest := []) rfl rfl rfl at_111 (q := 114) rfl ?_
  rintro _ T58 _ X59 ⟨⟨lt60, rfl, g61, g62, g63⟩, rfl⟩
  refine g_istore C X59 at_114 (q := 116) rfl (L' := #[.val (.int p0), .val (.long p1), .second, .val (.int p2), .val (.int p3), .val (.int v1), .val (.int v4), .val (.int bz10), .val (.int bz16), .val (.int v19), .val (.int v22), .val (.int (o32 offN)), .val (.int (o32 mN)), .val (.int lt36), .val (.int lt42), .val (.int lt48), .val (.int lt54), .val (.int lt60), .unset, .unset, .unset, .unset, .unset, .unset, .unset, .unset, .unset, .unset, .unset, .unset, .unset]) rfl ?_
  refine g_lloadN C X59 at_116 (q := 117) rfl rfl ?_
  refine g_bipush C X59 at_117 (q := 119) rfl (z := (35 : Int32)) rfl ?_
  refine g_lushr C X59 at_119 (q := 120) rfl (z := ((p1.toUInt64 >>> ((35 : Int32) &&& 0x3f).toInt64.toUInt64).toInt64)) rfl ?_
  refine g_callS1 C X59 (y := (⟨"com/example/isolate_to_replay/isolatetoreplay/command/LastLineAcceptPinLaw", "letter", "(J)B"⟩ : MethodName)) (by decide) (w0 hw) (w1 hw) (w3 hw) (w2 hw) (rm_letter hw (lx := ((p1.toUInt64 >>> ((35 : Int32) &&& 0x3f).toInt64.toUInt64).toInt64)) O W) (W := 0) (by decide) (by decide) (k' := 0) rfl (n' := 0) rfl (by decide) (by decide) rfl pd_486 (argsL := [(.long ((p1.toUInt64 >>> ((35 : Int32) &&& 0x3f).toInt64.toUInt64).toInt64))]) rfl (rest := []) rfl rfl rfl at_120 (q := 123) rfl ?_
  rintro _ T64 _ X65 ⟨⟨lt66, rfl, g67, g68, g69⟩, rfl⟩
  refine g_istore C X65 at_123 (q := 125) rfl (L' := #[.val (.int p0), .val (.long p1), .second, .val (.int p2), .val (.int p3), .val (.int v1), .val (.int v4), .val (.int bz10), .val (.int bz16), .val (.int v19), .val (.int v22), .val (.int (o32 offN)), .val (.int (o32 mN)), .val (.int lt36), .val (.int lt42), .val (.int lt48), .val (.int lt54), .val (.int lt60), .val (.int lt66), .unset, .unset, .unset, .unset, .unset, .unset, .unset, .unset, .unset, .unset, .unset, .unset]) rfl ?_
  refine g_bipush C X65 at_125 (q := 127) rfl (z := (18 : Int32)) rfl ?_
  refine g_newP C X65 (w5 hw) rfl at_127 (q := 129) rfl (by decide) (cap := 18) (by decide) (by decide) (k' := 1) rfl (n' := 18) rfl (by decide) (by decide) ?_
  intro T71 h72 kA73 b70 g75 X74 E76 V77
  have ge78 : n0 ≤ b70 := own_ge O g75
  have sf79 := Wx.safe0 Y (Nat.le_of_eq g75.symm)
  have Y80 := Wx.ext Y E76
  have O81 := O.ext E76
  have V82 : Arv Z h72 b70 kA73 .byte (18 : Int32) [(.int (0 : Int32)), (.int (0 : Int32)), (.int (0 : Int32)), (.int (0 : Int32)), (.int (0 : Int32)), (.int (0 : Int32)), (.int (0 : Int32)), (.int (0 : Int32)), (.int (0 : Int32)), (.int (0 : Int32)), (.int (0 : Int32)), (.int (0 : Int32)), (.int (0 : Int32)), (.int (0 : Int32)), (.int (0 : Int32)), (.int (0 : Int32)), (.int (0 : Int32)), (.int (0 : Int32))] (.int (0 : Int32)) := Arv.pad V77 (pad_rep [] _ 18)
  have Y83 := Yar.of V82
  refine g_dup C X74 at_129 (q := 130) rfl rfl ?_
  refine g_iconst C X74 at_130 (q := 131) rfl (z := (0 : Int32)) rfl ?_
  refine g_bipush C X74 at_131 (q := 133) rfl (z := (90 : Int32)) rfl ?_
  refine g_bastore C X74 V82 (by decide) (i := 0) (by decide) (Nat.le_of_ble_eq_true rfl) (vs' := [(.int (90 : Int32)), (.int (0 : Int32)), (.int (0 : Int32)), (.int (0 : Int32)), (.int (0 : Int32)), (.int (0 : Int32)), (.int (0 : Int32)), (.int (0 : Int32)), (.int (0 : Int32)), (.int (0 : Int32)), (.int (0 : Int32)), (.int (0 : Int32)), (.int (0 : Int32)), (.int (0 : Int32)), (.int (0 : Int32)), (.int (0 : Int32)), (.int (0 : Int32)), (.int (0 : Int32))]) rfl ge78 at_133 (q := 134) rfl ?_
  intro T84 h85 X86 W87 V88
  have f89 := (Wx.safeE Y sf79 E76)
  have Y90 := Wx.wr Y80 W87 f89
  have O91 := O81.wr W87 ge78
  refine g_dup C X86 at_134 (q := 135) rfl rfl ?_
  refine g_iconst C X86 at_135 (q := 136) rfl (z := (1 : Int32)) rfl ?_
  refine g_bipush C X86 at_136 (q := 138) rfl (z := (90 : Int32)) rfl ?_
  refine g_bastore C X86 V88 (by decide) (i := 1) (by decide) (Nat.le_of_ble_eq_true rfl) (vs' := [(.int (90 : Int32)), (.int (90 : Int32)), (.int (0 : Int32)), (.int (0 : Int32)), (.int (0 : Int32)), (.int (0 : Int32)), (.int (0 : Int32)), (.int (0 : Int32)), (.int (0 : Int32)), (.int (0 : Int32)), (.int (0 : Int32)), (.int (0 : Int32)), (.int (0 : Int32)), (.int (0 : Int32)), (.int (0 : Int32)), (.int (0 : Int32)), (.int (0 : Int32)), (.int (0 : Int32))]) rfl ge78 at_138 (q := 139) rfl ?_
  intro T92 h93 X94 W95 V96
  have f97 := (Wx.safeW Y80 f89 W87 f89)
  have Y98 := Wx.wr Y90 W95 f97
  have O99 := O91.wr W95 ge78
  refine g_dup C X94 at_139 (q := 140) rfl rfl ?_
  refine g_iconst C X94 at_140 (q := 141) rfl (z := (2 : Int32)) rfl ?_
  refine g_bipush C X94 at_141 (q := 143) rfl (z := (90 : Int32)) rfl ?_
  refine g_bastore C X94 V96 (by decide) (i := 2) (by decide) (Nat.le_of_ble_eq_true rfl) (vs' := [(.int (90 : Int32)), (.int (90 : Int32)), (.int (90 : Int32)), (.int (0 : Int32)), (.int (0 : Int32)), (.int (0 : Int32)), (.int (0 : Int32)), (.int (0 : Int32)), (.int (0 : Int32)), (.int (0 : Int32)), (.int (0 : Int32)), (.int (0 : Int32)), (.int (0 : Int32)), (.int (0 : Int32)), (.int (0 : Int32)), (.int (0 : Int32)), (.int (0 : Int32)), (.int (0 : Int32))]) rfl ge78 at_143 (q := 144) rfl ?_
  intro T100 h101 X102 W103 V104
  have f105 := (Wx.safeW Y90 f97 W95 f97)
  have Y106 := Wx.wr Y98 W103 f105
  have O107 := O99.wr W103 ge78
  refine g_dup C X102 at_144 (q := 145) rfl rfl ?_
  refine g_iconst C X102 at_145 (q := 146) rfl (z := (3 : Int32)) rfl ?_
  refine g_bipush C X102 at_146 (q := 148) rfl (z := (90 : Int32)) rfl ?_
  refine g_bastore C X102 V104 (by decide) (i := 3) (by decide) (Nat.le_of_ble_eq_true rfl) (vs' := [(.int (90 : Int32)), (.int (90 : Int32)), (.int (90 : Int32)), (.int (90 : Int32)), (.int (0 : Int32)), (.int (0 : Int32)), (.int (0 : Int32)), (.int (0 : Int32)), (.int (0 : Int32)), (.int (0 : Int32)), (.int (0 : Int32)), (.int (0 : Int32)), (.int (0 : Int32)), (.int (0 : Int32)), (.int (0 : Int32)), (.int (0 : Int32)), (.int (0 : Int32)), (.int (0 : Int32))]) rfl ge78 at_148 (q := 149) rfl ?_
  intro T108 h109 X110 W111 V112
  have f113 := (Wx.safeW Y98 f105 W103 f105)
  have Y114 := Wx.wr Y106 W111 f113
  have O115 := O107.wr W111 ge78
  refine g_dup C X110 at_149 (q := 150) rfl rfl ?_
  refine g_iconst C X110 at_150 (q := 151) rfl (z := (4 : Int32)) rfl ?_
  refine g_bipush C X110 at_151 (q := 153) rfl (z := (90 : Int32)) rfl ?_
  refine g_bastore C X110 V112 (by decide) (i := 4) (by decide) (Nat.le_of_ble_eq_true rfl) (vs' := [(.int (90 : Int32)), (.int (90 : Int32)), (.int (90 : Int32)), (.int (90 : Int32)), (.int (90 : Int32)), (.int (0 : Int32)), (.int (0 : Int32)), (.int (0 : Int32)), (.int (0 : Int32)), (.int (0 : Int32)), (.int (0 : Int32)), (.int (0 : Int32)), (.int (0 : Int32)), (.int (0 : Int32)), (.int (0 : Int32)), (.int (0 : Int32)), (.int (0 : Int32)), (.int (0 : Int32))]) rfl ge78 at_153 (q := 154) rfl ?_
  intro T116 h117 X118 W119 V120
  have f121 := (Wx.safeW Y106 f113 W111 f113)
  have Y122 := Wx.wr Y114 W119 f121
  have O123 := O115.wr W119 ge78
  refine g_dup C X118 at_154 (q := 155) rfl rfl ?_
  refine g_iconst C X118 at_155 (q := 156) rfl (z := (5 : Int32)) rfl ?_
  refine g_bipush C X118 at_156 (q := 158) rfl (z := (90 : Int32)) rfl ?_
  refine g_bastore C X118 V120 (by decide) (i := 5) (by decide) (Nat.le_of_ble_eq_true rfl) (vs' := [(.int (90 : Int32)), (.int (90 : Int32)), (.int (90 : Int32)), (.int (90 : Int32)), (.int (90 : Int32)), (.int (90 : Int32)), (.int (0 : Int32)), (.int (0 : Int32)), (.int (0 : Int32)), (.int (0 : Int32)), (.int (0 : Int32)), (.int (0 : Int32)), (.int (0 : Int32)), (.int (0 : Int32)), (.int (0 : Int32)), (.int (0 : Int32)), (.int (0 : Int32)), (.int (0 : Int32))]) rfl ge78 at_158 (q := 159) rfl ?_
  intro T124 h125 X126 W127 V128
  have f129 := (Wx.safeW Y114 f121 W119 f121)
  have Y130 := Wx.wr Y122 W127 f129
  have O131 := O123.wr W127 ge78
  refine g_dup C X126 at_159 (q := 160) rfl rfl ?_
  refine g_bipush C X126 at_160 (q := 162) rfl (z := (6 : Int32)) rfl ?_
  refine g_bipush C X126 at_162 (q := 164) rfl (z := (90 : Int32)) rfl ?_
  refine g_bastore C X126 V128 (by decide) (i := 6) (by decide) (Nat.le_of_ble_eq_true rfl) (vs' := [(.int (90 : Int32)), (.int (90 : Int32)), (.int (90 : Int32)), (.int (90 : Int32)), (.int (90 : Int32)), (.int (90 : Int32)), (.int (90 : Int32)), (.int (0 : Int32)), (.int (0 : Int32)), (.int (0 : Int32)), (.int (0 : Int32)), (.int (0 : Int32)), (.int (0 : Int32)), (.int (0 : Int32)), (.int (0 : Int32)), (.int (0 : Int32)), (.int (0 : Int32)), (.int (0 : Int32))]) rfl ge78 at_164 (q := 165) rfl ?_
  intro T132 h133 X134 W135 V136
  have f137 := (Wx.safeW Y122 f129 W127 f129)
  have Y138 := Wx.wr Y130 W135 f137
  have O139 := O131.wr W135 ge78
  refine g_dup C X134 at_165 (q := 166) rfl rfl ?_
  refine g_bipush C X134 at_166 (q := 168) rfl (z := (7 : Int32)) rfl ?_
  refine g_bipush C X134 at_168 (q := 170) rfl (z := (90 : Int32)) rfl ?_
  refine g_bastore C X134 V136 (by decide) (i := 7) (by decide) (Nat.le_of_ble_eq_true rfl) (vs' := [(.int (90 : Int32)), (.int (90 : Int32)), (.int (90 : Int32)), (.int (90 : Int32)), (.int (90 : Int32)), (.int (90 : Int32)), (.int (90 : Int32)), (.int (90 : Int32)), (.int (0 : Int32)), (.int (0 : Int32)), (.int (0 : Int32)), (.int (0 : Int32)), (.int (0 : Int32)), (.int (0 : Int32)), (.int (0 : Int32)), (.int (0 : Int32)), (.int (0 : Int32)), (.int (0 : Int32))]) rfl ge78 at_170 (q := 171) rfl ?_
  intro T140 h141 X142 W143 V144
  have f145 := (Wx.safeW Y130 f137 W135 f137)
  have Y146 := Wx.wr Y138 W143 f145
  have O147 := O139.wr W143 ge78
  refine g_dup C X142 at_171 (q := 172) rfl rfl ?_
  refine g_bipush C X142 at_172 (q := 174) rfl (z := (8 : Int32)) rfl ?_
  refine g_bipush C X142 at_174 (q := 176) rfl (z := (90 : Int32)) rfl ?_
  refine g_bastore C X142 V144 (by decide) (i := 8) (by decide) (Nat.le_of_ble_eq_true rfl) (vs' := [(.int (90 : Int32)), (.int (90 : Int32)), (.int (90 : Int32)), (.int (90 : Int32)), (.int (90 : Int32)), (.int (90 : Int32)), (.int (90 : Int32)), (.int (90 : Int32)), (.int (90 : Int32)), (.int (0 : Int32)), (.int (0 : Int32)), (.int (0 : Int32)), (.int (0 : Int32)), (.int (0 : Int32)), (.int (0 : Int32)), (.int (0 : Int32)), (.int (0 : Int32)), (.int (0 : Int32))]) rfl ge78 at_176 (q := 177) rfl ?_
  intro T148 h149 X150 W151 V152
  have f153 := (Wx.safeW Y138 f145 W143 f145)
  have Y154 := Wx.wr Y146 W151 f153
  have O155 := O147.wr W151 ge78
  refine g_dup C X150 at_177 (q := 178) rfl rfl ?_
  refine g_bipush C X150 at_178 (q := 180) rfl (z := (9 : Int32)) rfl ?_
  refine g_bipush C X150 at_180 (q := 182) rfl (z := (90 : Int32)) rfl ?_
  refine g_bastore C X150 V152 (by decide) (i := 9) (by decide) (Nat.le_of_ble_eq_true rfl) (vs' := [(.int (90 : Int32)), (.int (90 : Int32)), (.int (90 : Int32)), (.int (90 : Int32)), (.int (90 : Int32)), (.int (90 : Int32)), (.int (90 : Int32)), (.int (90 : Int32)), (.int (90 : Int32)), (.int (90 : Int32)), (.int (0 : Int32)), (.int (0 : Int32)), (.int (0 : Int32)), (.int (0 : Int32)), (.int (0 : Int32)), (.int (0 : Int32)), (.int (0 : Int32)), (.int (0 : Int32))]) rfl ge78 at_182 (q := 183) rfl ?_
  intro T156 h157 X158 W159 V160
  have f161 := (Wx.safeW Y146 f153 W151 f153)
  have Y162 := Wx.wr Y154 W159 f161
  have O163 := O155.wr W159 ge78
  refine g_dup C X158 at_183 (q := 184) rfl rfl ?_
  refine g_bipush C X158 at_184 (q := 186) rfl (z := (10 : Int32)) rfl ?_
  refine g_bipush C X158 at_186 (q := 188) rfl (z := (90 : Int32)) rfl ?_
  refine g_bastore C X158 V160 (by decide) (i := 10) (by decide) (Nat.le_of_ble_eq_true rfl) (vs' := [(.int (90 : Int32)), (.int (90 : Int32)), (.int (90 : Int32)), (.int (90 : Int32)), (.int (90 : Int32)), (.int (90 : Int32)), (.int (90 : Int32)), (.int (90 : Int32)), (.int (90 : Int32)), (.int (90 : Int32)), (.int (90 : Int32)), (.int (0 : Int32)), (.int (0 : Int32)), (.int (0 : Int32)), (.int (0 : Int32)), (.int (0 : Int32)), (.int (0 : Int32)), (.int (0 : Int32))]) rfl ge78 at_188 (q := 189) rfl ?_
  intro T164 h165 X166 W167 V168
  have f169 := (Wx.safeW Y154 f161 W159 f161)
  have Y170 := Wx.wr Y162 W167 f169
  have O171 := O163.wr W167 ge78
  refine g_dup C X166 at_189 (q := 190) rfl rfl ?_
  refine g_bipush C X166 at_190 (q := 192) rfl (z := (11 : Int32)) rfl ?_
  refine g_bipush C X166 at_192 (q := 194) rfl (z := (90 : Int32)) rfl ?_
  refine g_bastore C X166 V168 (by decide) (i := 11) (by decide) (Nat.le_of_ble_eq_true rfl) (vs' := [(.int (90 : Int32)), (.int (90 : Int32)), (.int (90 : Int32)), (.int (90 : Int32)), (.int (90 : Int32)), (.int (90 : Int32)), (.int (90 : Int32)), (.int (90 : Int32)), (.int (90 : Int32)), (.int (90 : Int32)), (.int (90 : Int32)), (.int (90 : Int32)), (.int (0 : Int32)), (.int (0 : Int32)), (.int (0 : Int32)), (.int (0 : Int32)), (.int (0 : Int32)), (.int (0 : Int32))]) rfl ge78 at_194 (q := 195) rfl ?_
  intro T172 h173 X174 W175 V176
  have f177 := (Wx.safeW Y162 f169 W167 f169)
  have Y178 := Wx.wr Y170 W175 f177
  have O179 := O171.wr W175 ge78
  refine g_dup C X174 at_195 (q := 196) rfl rfl ?_
  refine g_bipush C X174 at_196 (q := 198) rfl (z := (12 : Int32)) rfl ?_
  refine g_bipush C X174 at_198 (q := 200) rfl (z := (90 : Int32)) rfl ?_
  refine g_bastore C X174 V176 (by decide) (i := 12) (by decide) (Nat.le_of_ble_eq_true rfl) (vs' := [(.int (90 : Int32)), (.int (90 : Int32)), (.int (90 : Int32)), (.int (90 : Int32)), (.int (90 : Int32)), (.int (90 : Int32)), (.int (90 : Int32)), (.int (90 : Int32)), (.int (90 : Int32)), (.int (90 : Int32)), (.int (90 : Int32)), (.int (90 : Int32)), (.int (90 : Int32)), (.int (0 : Int32)), (.int (0 : Int32)), (.int (0 : Int32)), (.int (0 : Int32)), (.int (0 : Int32))]) rfl ge78 at_200 (q := 201) rfl ?_
  intro T180 h181 X182 W183 V184
  have f185 := (Wx.safeW Y170 f177 W175 f177)
  have Y186 := Wx.wr Y178 W183 f185
  have O187 := O179.wr W183 ge78
  refine g_dup C X182 at_201 (q := 202) rfl rfl ?_
  refine g_bipush C X182 at_202 (q := 204) rfl (z := (13 : Int32)) rfl ?_
  refine g_bipush C X182 at_204 (q := 206) rfl (z := (90 : Int32)) rfl ?_
  refine g_bastore C X182 V184 (by decide) (i := 13) (by decide) (Nat.le_of_ble_eq_true rfl) (vs' := [(.int (90 : Int32)), (.int (90 : Int32)), (.int (90 : Int32)), (.int (90 : Int32)), (.int (90 : Int32)), (.int (90 : Int32)), (.int (90 : Int32)), (.int (90 : Int32)), (.int (90 : Int32)), (.int (90 : Int32)), (.int (90 : Int32)), (.int (90 : Int32)), (.int (90 : Int32)), (.int (90 : Int32)), (.int (0 : Int32)), (.int (0 : Int32)), (.int (0 : Int32)), (.int (0 : Int32))]) rfl ge78 at_206 (q := 207) rfl ?_
  intro T188 h189 X190 W191 V192
  have f193 := (Wx.safeW Y178 f185 W183 f185)
  have Y194 := Wx.wr Y186 W191 f193
  have O195 := O187.wr W191 ge78
  refine g_dup C X190 at_207 (q := 208) rfl rfl ?_
  refine g_bipush C X190 at_208 (q := 210) rfl (z := (14 : Int32)) rfl ?_
  refine g_bipush C X190 at_210 (q := 212) rfl (z := (90 : Int32)) rfl ?_
  refine g_bastore C X190 V192 (by decide) (i := 14) (by decide) (Nat.le_of_ble_eq_true rfl) (vs' := [(.int (90 : Int32)), (.int (90 : Int32)), (.int (90 : Int32)), (.int (90 : Int32)), (.int (90 : Int32)), (.int (90 : Int32)), (.int (90 : Int32)), (.int (90 : Int32)), (.int (90 : Int32)), (.int (90 : Int32)), (.int (90 : Int32)), (.int (90 : Int32)), (.int (90 : Int32)), (.int (90 : Int32)), (.int (90 : Int32)), (.int (0 : Int32)), (.int (0 : Int32)), (.int (0 : Int32))]) rfl ge78 at_212 (q := 213) rfl ?_
  intro T196 h197 X198 W199 V200
  have f201 := (Wx.safeW Y186 f193 W191 f193)
  have Y202 := Wx.wr Y194 W199 f201
  have O203 := O195.wr W199 ge78
  refine g_dup C X198 at_213 (q := 214) rfl rfl ?_
  refine g_bipush C X198 at_214 (q := 216) rfl (z := (15 : Int32)) rfl ?_
  refine g_bipush C X198 at_216 (q := 218) rfl (z := (90 : Int32)) rfl ?_
  refine g_bastore C X198 V200 (by decide) (i := 15) (by decide) (Nat.le_of_ble_eq_true rfl) (vs' := [(.int (90 : Int32)), (.int (90 : Int32)), (.int (90 : Int32)), (.int (90 : Int32)), (.int (90 : Int32)), (.int (90 : Int32)), (.int (90 : Int32)), (.int (90 : Int32)), (.int (90 : Int32)), (.int (90 : Int32)), (.int (90 : Int32)), (.int (90 : Int32)), (.int (90 : Int32)), (.int (90 : Int32)), (.int (90 : Int32)), (.int (90 : Int32)), (.int (0 : Int32)), (.int (0 : Int32))]) rfl ge78 at_218 (q := 219) rfl ?_
  intro T204 h205 X206 W207 V208
  have f209 := (Wx.safeW Y194 f201 W199 f201)
  have Y210 := Wx.wr Y202 W207 f209
  have O211 := O203.wr W207 ge78
  refine g_dup C X206 at_219 (q := 220) rfl rfl ?_
  refine g_bipush C X206 at_220 (q := 222) rfl (z := (16 : Int32)) rfl ?_
  refine g_bipush C X206 at_222 (q := 224) rfl (z := (90 : Int32)) rfl ?_
  refine g_bastore C X206 V208 (by decide) (i := 16) (by decide) (Nat.le_of_ble_eq_true rfl) (vs' := [(.int (90 : Int32)), (.int (90 : Int32)), (.int (90 : Int32)), (.int (90 : Int32)), (.int (90 : Int32)), (.int (90 : Int32)), (.int (90 : Int32)), (.int (90 : Int32)), (.int (90 : Int32)), (.int (90 : Int32)), (.int (90 : Int32)), (.int (90 : Int32)), (.int (90 : Int32)), (.int (90 : Int32)), (.int (90 : Int32)), (.int (90 : Int32)), (.int (90 : Int32)), (.int (0 : Int32))]) rfl ge78 at_224 (q := 225) rfl ?_
  intro T212 h213 X214 W215 V216
  have f217 := (Wx.safeW Y202 f209 W207 f209)
  have Y218 := Wx.wr Y210 W215 f217
  have O219 := O211.wr W215 ge78
  refine g_dup C X214 at_225 (q := 226) rfl rfl ?_
  refine g_bipush C X214 at_226 (q := 228) rfl (z := (17 : Int32)) rfl ?_
  refine g_bipush C X214 at_228 (q := 230) rfl (z := (90 : Int32)) rfl ?_
  refine g_bastore C X214 V216 (by decide) (i := 17) (by decide) (Nat.le_of_ble_eq_true rfl) (vs' := [(.int (90 : Int32)), (.int (90 : Int32)), (.int (90 : Int32)), (.int (90 : Int32)), (.int (90 : Int32)), (.int (90 : Int32)), (.int (90 : Int32)), (.int (90 : Int32)), (.int (90 : Int32)), (.int (90 : Int32)), (.int (90 : Int32)), (.int (90 : Int32)), (.int (90 : Int32)), (.int (90 : Int32)), (.int (90 : Int32)), (.int (90 : Int32)), (.int (90 : Int32)), (.int (90 : Int32))]) rfl ge78 at_230 (q := 231) rfl ?_
  intro T220 h221 X222 W223 V224
  have f225 := (Wx.safeW Y210 f217 W215 f217)
  have Y226 := Wx.wr Y218 W223 f225
  have O227 := O219.wr W223 ge78
  refine g_astore C X222 at_231 (q := 233) rfl rfl (L' := #[.val (.int p0), .val (.long p1), .second, .val (.int p2), .val (.int p3), .val (.int v1), .val (.int v4), .val (.int bz10), .val (.int bz16), .val (.int v19), .val (.int v22), .val (.int (o32 offN)), .val (.int (o32 mN)), .val (.int lt36), .val (.int lt42), .val (.int lt48), .val (.int lt54), .val (.int lt60), .val (.int lt66), .val (.ref b70), .unset, .unset, .unset, .unset, .unset, .unset, .unset, .unset, .unset, .unset, .unset]) rfl ?_
  refine g_bipush C X222 at_233 (q := 235) rfl (z := (8 : Int32)) rfl ?_
  refine g_newP C X222 (w5 hw) rfl at_235 (q := 237) rfl (by decide) (cap := 8) (by decide) (by decide) (k' := 2) rfl (n' := 26) rfl (by decide) (by decide) ?_
  intro T229 h230 kA231 b228 g233 X232 E234 V235
  have ge236 : n0 ≤ b228 := own_ge O227 g233
  have sf237 := Wx.safe0 Y226 (Nat.le_of_eq g233.symm)
  have Y238 := Wx.ext Y226 E234
  have O239 := O227.ext E234
  have V240 : Arv Z h230 b228 kA231 .byte (8 : Int32) [(.int (0 : Int32)), (.int (0 : Int32)), (.int (0 : Int32)), (.int (0 : Int32)), (.int (0 : Int32)), (.int (0 : Int32)), (.int (0 : Int32)), (.int (0 : Int32))] (.int (0 : Int32)) := Arv.pad V235 (pad_rep [] _ 8)
  have Y241 := Yar.of V240
  refine g_astore C X232 at_237 (q := 239) rfl rfl (L' := #[.val (.int p0), .val (.long p1), .second, .val (.int p2), .val (.int p3), .val (.int v1), .val (.int v4), .val (.int bz10), .val (.int bz16), .val (.int v19), .val (.int v22), .val (.int (o32 offN)), .val (.int (o32 mN)), .val (.int lt36), .val (.int lt42), .val (.int lt48), .val (.int lt54), .val (.int lt60), .val (.int lt66), .val (.ref b70), .val (.ref b228), .unset, .unset, .unset, .unset, .unset, .unset, .unset, .unset, .unset, .unset]) rfl ?_
  refine g_iconst C X232 at_239 (q := 240) rfl (z := (0 : Int32)) rfl ?_
  refine g_istore C X232 at_240 (q := 242) rfl (L' := #[.val (.int p0), .val (.long p1), .second, .val (.int p2), .val (.int p3), .val (.int v1), .val (.int v4), .val (.int bz10), .val (.int bz16), .val (.int v19), .val (.int v22), .val (.int (o32 offN)), .val (.int (o32 mN)), .val (.int lt36), .val (.int lt42), .val (.int lt48), .val (.int lt54), .val (.int lt60), .val (.int lt66), .val (.ref b70), .val (.ref b228), .val (.int (0 : Int32)), .unset, .unset, .unset, .unset, .unset, .unset, .unset, .unset, .unset]) rfl ?_
  refine g_iload C X232 at_242 (q := 244) rfl rfl ?_
  refine g_istore C X232 at_244 (q := 246) rfl (L' := #[.val (.int p0), .val (.long p1), .second, .val (.int p2), .val (.int p3), .val (.int v1), .val (.int v4), .val (.int bz10), .val (.int bz16), .val (.int v19), .val (.int v22), .val (.int (o32 offN)), .val (.int (o32 mN)), .val (.int lt36), .val (.int lt42), .val (.int lt48), .val (.int lt54), .val (.int lt60), .val (.int lt66), .val (.ref b70), .val (.ref b228), .val (.int (0 : Int32)), .val (.int (o32 offN)), .unset, .unset, .unset, .unset, .unset, .unset, .unset, .unset]) rfl ?_
  have f242 := (V224.ext E234)
  have V243 : Arv Z h230 b70 kA73 .byte 18 (bV (bufL offN ([] : List Int32))) (.int 0) := by rw [bufL_nil (by omega)]; exact f242
  have V244 : Arv Z h230 b228 kA231 .byte 8 (bV (allL ([] : List Int32))) (.int 0) := V240
  refine g_iload C X232 at_246 (q := 248) rfl rfl ?_
  by_cases hc245 : (0 : Int32) < v1
  · refine g_ifN C X232 at_248 (q := 251) rfl (tlt hc245).2.2.2 ?_
    have hr246 : 1 ≤ v1.toInt := own_f3 hc245 (by decide)
    refine g_aload C X232 at_251 (q := 253) rfl rfl rfl ?_
    refine g_iload C X232 at_253 (q := 255) rfl rfl ?_
    refine g_iinc C X232 at_255 (q := 258) rfl rfl (z := (o32 (0 + 1))) (r_add 0 (by omega) 1 (by decide)) (L' := #[.val (.int p0), .val (.long p1), .second, .val (.int p2), .val (.int p3), .val (.int v1), .val (.int v4), .val (.int bz10), .val (.int bz16), .val (.int v19), .val (.int v22), .val (.int (o32 offN)), .val (.int (o32 mN)), .val (.int lt36), .val (.int lt42), .val (.int lt48), .val (.int lt54), .val (.int lt60), .val (.int lt66), .val (.ref b70), .val (.ref b228), .val (.int (o32 (0 + 1))), .val (.int (o32 offN)), .unset, .unset, .unset, .unset, .unset, .unset, .unset, .unset]) rfl ?_
    refine g_iload C X232 at_258 (q := 260) rfl rfl ?_
    refine g_bastore C X232 V244 ⟨(r_n16 0 (by omega)).1, own_bl (a := 0) (b := 8) (by omega) (by decide)⟩ (r_n16 0 (by omega)).2.1 (own_l8 (rfl : ([] : List Int32).length = 0) (by omega)) (vs' := bV (allL (([] : List Int32) ++ [lt36]))) (own_allS (rfl : ([] : List Int32).length = 0) (by omega) ⟨g37, g38⟩) ge236 at_260 (q := 261) rfl ?_
    intro T247 h248 X249 W250 V251
    have f252 := (Wx.safeE Y226 sf237 E234)
    have Y253 := Wx.wr Y238 W250 f252
    have O254 := O239.wr W250 ge236
    refine g_aload C X249 at_261 (q := 263) rfl rfl rfl ?_
    refine g_iload C X249 at_263 (q := 265) rfl rfl ?_
    refine g_iinc C X249 at_265 (q := 268) rfl rfl (z := (o32 (offN + 1))) (r_add offN (by omega) 1 (by decide)) (L' := #[.val (.int p0), .val (.long p1), .second, .val (.int p2), .val (.int p3), .val (.int v1), .val (.int v4), .val (.int bz10), .val (.int bz16), .val (.int v19), .val (.int v22), .val (.int (o32 offN)), .val (.int (o32 mN)), .val (.int lt36), .val (.int lt42), .val (.int lt48), .val (.int lt54), .val (.int lt60), .val (.int lt66), .val (.ref b70), .val (.ref b228), .val (.int (o32 (0 + 1))), .val (.int (o32 (offN + 1))), .unset, .unset, .unset, .unset, .unset, .unset, .unset, .unset]) rfl ?_
    refine g_iload C X249 at_268 (q := 270) rfl rfl ?_
    have f255 := (V243.other W250 (own_ne (Nat.lt_of_lt_of_le V82.lt (Nat.le_trans (Nat.le_trans (Nat.le_trans (Nat.le_trans (Nat.le_trans (Nat.le_trans (Nat.le_trans (Nat.le_trans (Nat.le_trans (Nat.le_trans (Nat.le_trans (Nat.le_trans (Nat.le_trans (Nat.le_trans (Nat.le_trans (Nat.le_trans (Nat.le_trans (Nat.le_of_eq (Wr.size W87).symm) (Nat.le_of_eq (Wr.size W95).symm)) (Nat.le_of_eq (Wr.size W103).symm)) (Nat.le_of_eq (Wr.size W111).symm)) (Nat.le_of_eq (Wr.size W119).symm)) (Nat.le_of_eq (Wr.size W127).symm)) (Nat.le_of_eq (Wr.size W135).symm)) (Nat.le_of_eq (Wr.size W143).symm)) (Nat.le_of_eq (Wr.size W151).symm)) (Nat.le_of_eq (Wr.size W159).symm)) (Nat.le_of_eq (Wr.size W167).symm)) (Nat.le_of_eq (Wr.size W175).symm)) (Nat.le_of_eq (Wr.size W183).symm)) (Nat.le_of_eq (Wr.size W191).symm)) (Nat.le_of_eq (Wr.size W199).symm)) (Nat.le_of_eq (Wr.size W207).symm)) (Nat.le_of_eq (Wr.size W215).symm)) (Nat.le_of_eq (Wr.size W223).symm))) g233))
    refine g_bastore C X249 f255 ⟨(r_n16 offN (by omega)).1, own_bl (a := offN) (b := 18) (by omega) (by decide)⟩ (r_n16 offN (by omega)).2.1 (own_l18 (rfl : offN + ([] : List Int32).length = offN) (by omega)) (vs' := bV (bufL offN (([] : List Int32) ++ [lt36]))) (own_bufS (rfl : offN + ([] : List Int32).length = offN) (by omega) ⟨g37, g38⟩) ge78 at_270 (q := 271) rfl ?_
    intro T256 h257 X258 W259 V260
    have f261 := (Wx.safeW Y238 (Wx.safeE Y226 (Wx.safeW Y218 f225 W223 f225) E234) W250 f252)
    have Y262 := Wx.wr Y253 W259 f261
    have O263 := O254.wr W259 ge78
    refine g_iload C X258 at_271 (q := 273) rfl rfl ?_
    refine g_iconst C X258 at_273 (q := 274) rfl (z := (1 : Int32)) rfl ?_
    by_cases hc264 : (1 : Int32) < v1
    · refine g_icN C X258 at_274 (q := 277) rfl (tlt hc264).2.2.2 ?_
      have hr265 : 2 ≤ v1.toInt := own_f3 hc264 (by decide)
      refine g_aload C X258 at_277 (q := 279) rfl rfl rfl ?_
      refine g_iload C X258 at_279 (q := 281) rfl rfl ?_
      refine g_iinc C X258 at_281 (q := 284) rfl rfl (z := (o32 ((0 + 1) + 1))) (r_add (0 + 1) (by omega) 1 (by decide)) (L' := #[.val (.int p0), .val (.long p1), .second, .val (.int p2), .val (.int p3), .val (.int v1), .val (.int v4), .val (.int bz10), .val (.int bz16), .val (.int v19), .val (.int v22), .val (.int (o32 offN)), .val (.int (o32 mN)), .val (.int lt36), .val (.int lt42), .val (.int lt48), .val (.int lt54), .val (.int lt60), .val (.int lt66), .val (.ref b70), .val (.ref b228), .val (.int (o32 ((0 + 1) + 1))), .val (.int (o32 (offN + 1))), .unset, .unset, .unset, .unset, .unset, .unset, .unset, .unset]) rfl ?_
      refine g_iload C X258 at_284 (q := 286) rfl rfl ?_
      have f266 := (V251.other W259 (Ne.symm (own_ne (Nat.lt_of_lt_of_le V82.lt (Nat.le_trans (Nat.le_trans (Nat.le_trans (Nat.le_trans (Nat.le_trans (Nat.le_trans (Nat.le_trans (Nat.le_trans (Nat.le_trans (Nat.le_trans (Nat.le_trans (Nat.le_trans (Nat.le_trans (Nat.le_trans (Nat.le_trans (Nat.le_trans (Nat.le_trans (Nat.le_of_eq (Wr.size W87).symm) (Nat.le_of_eq (Wr.size W95).symm)) (Nat.le_of_eq (Wr.size W103).symm)) (Nat.le_of_eq (Wr.size W111).symm)) (Nat.le_of_eq (Wr.size W119).symm)) (Nat.le_of_eq (Wr.size W127).symm)) (Nat.le_of_eq (Wr.size W135).symm)) (Nat.le_of_eq (Wr.size W143).symm)) (Nat.le_of_eq (Wr.size W151).symm)) (Nat.le_of_eq (Wr.size W159).symm)) (Nat.le_of_eq (Wr.size W167).symm)) (Nat.le_of_eq (Wr.size W175).symm)) (Nat.le_of_eq (Wr.size W183).symm)) (Nat.le_of_eq (Wr.size W191).symm)) (Nat.le_of_eq (Wr.size W199).symm)) (Nat.le_of_eq (Wr.size W207).symm)) (Nat.le_of_eq (Wr.size W215).symm)) (Nat.le_of_eq (Wr.size W223).symm))) g233)))
      refine g_bastore C X258 f266 ⟨(r_n16 (0 + 1) (by omega)).1, own_bl (a := (0 + 1)) (b := 8) (by omega) (by decide)⟩ (r_n16 (0 + 1) (by omega)).2.1 (own_l8 (own_la (rfl : ([] : List Int32).length = 0)) (by omega)) (vs' := bV (allL ((([] : List Int32) ++ [lt36]) ++ [lt42]))) (own_allS (own_la (rfl : ([] : List Int32).length = 0)) (by omega) ⟨g43, g44⟩) ge236 at_286 (q := 287) rfl ?_
      intro T267 h268 X269 W270 V271
      have f272 := (Wx.safeW Y253 (Wx.safeW Y238 f252 W250 f252) W259 f261)
      have Y273 := Wx.wr Y262 W270 f272
      have O274 := O263.wr W270 ge236
      refine g_aload C X269 at_287 (q := 289) rfl rfl rfl ?_
      refine g_iload C X269 at_289 (q := 291) rfl rfl ?_
      refine g_iinc C X269 at_291 (q := 294) rfl rfl (z := (o32 ((offN + 1) + 1))) (r_add (offN + 1) (by omega) 1 (by decide)) (L' := #[.val (.int p0), .val (.long p1), .second, .val (.int p2), .val (.int p3), .val (.int v1), .val (.int v4), .val (.int bz10), .val (.int bz16), .val (.int v19), .val (.int v22), .val (.int (o32 offN)), .val (.int (o32 mN)), .val (.int lt36), .val (.int lt42), .val (.int lt48), .val (.int lt54), .val (.int lt60), .val (.int lt66), .val (.ref b70), .val (.ref b228), .val (.int (o32 ((0 + 1) + 1))), .val (.int (o32 ((offN + 1) + 1))), .unset, .unset, .unset, .unset, .unset, .unset, .unset, .unset]) rfl ?_
      refine g_iload C X269 at_294 (q := 296) rfl rfl ?_
      have f275 := (V260.other W270 (own_ne (Nat.lt_of_lt_of_le V82.lt (Nat.le_trans (Nat.le_trans (Nat.le_trans (Nat.le_trans (Nat.le_trans (Nat.le_trans (Nat.le_trans (Nat.le_trans (Nat.le_trans (Nat.le_trans (Nat.le_trans (Nat.le_trans (Nat.le_trans (Nat.le_trans (Nat.le_trans (Nat.le_trans (Nat.le_trans (Nat.le_of_eq (Wr.size W87).symm) (Nat.le_of_eq (Wr.size W95).symm)) (Nat.le_of_eq (Wr.size W103).symm)) (Nat.le_of_eq (Wr.size W111).symm)) (Nat.le_of_eq (Wr.size W119).symm)) (Nat.le_of_eq (Wr.size W127).symm)) (Nat.le_of_eq (Wr.size W135).symm)) (Nat.le_of_eq (Wr.size W143).symm)) (Nat.le_of_eq (Wr.size W151).symm)) (Nat.le_of_eq (Wr.size W159).symm)) (Nat.le_of_eq (Wr.size W167).symm)) (Nat.le_of_eq (Wr.size W175).symm)) (Nat.le_of_eq (Wr.size W183).symm)) (Nat.le_of_eq (Wr.size W191).symm)) (Nat.le_of_eq (Wr.size W199).symm)) (Nat.le_of_eq (Wr.size W207).symm)) (Nat.le_of_eq (Wr.size W215).symm)) (Nat.le_of_eq (Wr.size W223).symm))) g233))
      refine g_bastore C X269 f275 ⟨(r_n16 (offN + 1) (by omega)).1, own_bl (a := (offN + 1)) (b := 18) (by omega) (by decide)⟩ (r_n16 (offN + 1) (by omega)).2.1 (own_l18 (own_lb (rfl : offN + ([] : List Int32).length = offN)) (by omega)) (vs' := bV (bufL offN ((([] : List Int32) ++ [lt36]) ++ [lt42]))) (own_bufS (own_lb (rfl : offN + ([] : List Int32).length = offN)) (by omega) ⟨g43, g44⟩) ge78 at_296 (q := 297) rfl ?_
      intro T276 h277 X278 W279 V280
      have f281 := (Wx.safeW Y262 (Wx.safeW Y253 f261 W259 f261) W270 f272)
      have Y282 := Wx.wr Y273 W279 f281
      have O283 := O274.wr W279 ge78
      refine g_iload C X278 at_297 (q := 299) rfl rfl ?_
      refine g_iconst C X278 at_299 (q := 300) rfl (z := (2 : Int32)) rfl ?_
      by_cases hc284 : (2 : Int32) < v1
      · refine g_icN C X278 at_300 (q := 303) rfl (tlt hc284).2.2.2 ?_
        have hr285 : 3 ≤ v1.toInt := own_f3 hc284 (by decide)
        obtain rfl : v1 = (3 : Int32) := own_f0 hr285 hh3 (by decide)
        refine g_aload C X278 at_303 (q := 305) rfl rfl rfl ?_
        refine g_iload C X278 at_305 (q := 307) rfl rfl ?_
        refine g_iinc C X278 at_307 (q := 310) rfl rfl (z := (o32 (((0 + 1) + 1) + 1))) (r_add ((0 + 1) + 1) (by omega) 1 (by decide)) (L' := #[.val (.int p0), .val (.long p1), .second, .val (.int p2), .val (.int p3), .val (.int (3 : Int32)), .val (.int v4), .val (.int bz10), .val (.int bz16), .val (.int v19), .val (.int v22), .val (.int (o32 offN)), .val (.int (o32 mN)), .val (.int lt36), .val (.int lt42), .val (.int lt48), .val (.int lt54), .val (.int lt60), .val (.int lt66), .val (.ref b70), .val (.ref b228), .val (.int (o32 (((0 + 1) + 1) + 1))), .val (.int (o32 ((offN + 1) + 1))), .unset, .unset, .unset, .unset, .unset, .unset, .unset, .unset]) rfl ?_
        refine g_iload C X278 at_310 (q := 312) rfl rfl ?_
        have f286 := (V271.other W279 (Ne.symm (own_ne (Nat.lt_of_lt_of_le V82.lt (Nat.le_trans (Nat.le_trans (Nat.le_trans (Nat.le_trans (Nat.le_trans (Nat.le_trans (Nat.le_trans (Nat.le_trans (Nat.le_trans (Nat.le_trans (Nat.le_trans (Nat.le_trans (Nat.le_trans (Nat.le_trans (Nat.le_trans (Nat.le_trans (Nat.le_trans (Nat.le_of_eq (Wr.size W87).symm) (Nat.le_of_eq (Wr.size W95).symm)) (Nat.le_of_eq (Wr.size W103).symm)) (Nat.le_of_eq (Wr.size W111).symm)) (Nat.le_of_eq (Wr.size W119).symm)) (Nat.le_of_eq (Wr.size W127).symm)) (Nat.le_of_eq (Wr.size W135).symm)) (Nat.le_of_eq (Wr.size W143).symm)) (Nat.le_of_eq (Wr.size W151).symm)) (Nat.le_of_eq (Wr.size W159).symm)) (Nat.le_of_eq (Wr.size W167).symm)) (Nat.le_of_eq (Wr.size W175).symm)) (Nat.le_of_eq (Wr.size W183).symm)) (Nat.le_of_eq (Wr.size W191).symm)) (Nat.le_of_eq (Wr.size W199).symm)) (Nat.le_of_eq (Wr.size W207).symm)) (Nat.le_of_eq (Wr.size W215).symm)) (Nat.le_of_eq (Wr.size W223).symm))) g233)))
        refine g_bastore C X278 f286 ⟨(r_n16 ((0 + 1) + 1) (by omega)).1, own_bl (a := ((0 + 1) + 1)) (b := 8) (by omega) (by decide)⟩ (r_n16 ((0 + 1) + 1) (by omega)).2.1 (own_l8 (own_la (own_la (rfl : ([] : List Int32).length = 0))) (by omega)) (vs' := bV (allL (((([] : List Int32) ++ [lt36]) ++ [lt42]) ++ [lt48]))) (own_allS (own_la (own_la (rfl : ([] : List Int32).length = 0))) (by omega) ⟨g49, g50⟩) ge236 at_312 (q := 313) rfl ?_
        intro T287 h288 X289 W290 V291
        have f292 := (Wx.safeW Y273 (Wx.safeW Y262 f272 W270 f272) W279 f281)
        have Y293 := Wx.wr Y282 W290 f292
        have O294 := O283.wr W290 ge236
        refine g_aload C X289 at_313 (q := 315) rfl rfl rfl ?_
        refine g_iload C X289 at_315 (q := 317) rfl rfl ?_
        refine g_iinc C X289 at_317 (q := 320) rfl rfl (z := (o32 (((offN + 1) + 1) + 1))) (r_add ((offN + 1) + 1) (by omega) 1 (by decide)) (L' := #[.val (.int p0), .val (.long p1), .second, .val (.int p2), .val (.int p3), .val (.int (3 : Int32)), .val (.int v4), .val (.int bz10), .val (.int bz16), .val (.int v19), .val (.int v22), .val (.int (o32 offN)), .val (.int (o32 mN)), .val (.int lt36), .val (.int lt42), .val (.int lt48), .val (.int lt54), .val (.int lt60), .val (.int lt66), .val (.ref b70), .val (.ref b228), .val (.int (o32 (((0 + 1) + 1) + 1))), .val (.int (o32 (((offN + 1) + 1) + 1))), .unset, .unset, .unset, .unset, .unset, .unset, .unset, .unset]) rfl ?_
        refine g_iload C X289 at_320 (q := 322) rfl rfl ?_
        have f295 := (V280.other W290 (own_ne (Nat.lt_of_lt_of_le V82.lt (Nat.le_trans (Nat.le_trans (Nat.le_trans (Nat.le_trans (Nat.le_trans (Nat.le_trans (Nat.le_trans (Nat.le_trans (Nat.le_trans (Nat.le_trans (Nat.le_trans (Nat.le_trans (Nat.le_trans (Nat.le_trans (Nat.le_trans (Nat.le_trans (Nat.le_trans (Nat.le_of_eq (Wr.size W87).symm) (Nat.le_of_eq (Wr.size W95).symm)) (Nat.le_of_eq (Wr.size W103).symm)) (Nat.le_of_eq (Wr.size W111).symm)) (Nat.le_of_eq (Wr.size W119).symm)) (Nat.le_of_eq (Wr.size W127).symm)) (Nat.le_of_eq (Wr.size W135).symm)) (Nat.le_of_eq (Wr.size W143).symm)) (Nat.le_of_eq (Wr.size W151).symm)) (Nat.le_of_eq (Wr.size W159).symm)) (Nat.le_of_eq (Wr.size W167).symm)) (Nat.le_of_eq (Wr.size W175).symm)) (Nat.le_of_eq (Wr.size W183).symm)) (Nat.le_of_eq (Wr.size W191).symm)) (Nat.le_of_eq (Wr.size W199).symm)) (Nat.le_of_eq (Wr.size W207).symm)) (Nat.le_of_eq (Wr.size W215).symm)) (Nat.le_of_eq (Wr.size W223).symm))) g233))
        refine g_bastore C X289 f295 ⟨(r_n16 ((offN + 1) + 1) (by omega)).1, own_bl (a := ((offN + 1) + 1)) (b := 18) (by omega) (by decide)⟩ (r_n16 ((offN + 1) + 1) (by omega)).2.1 (own_l18 (own_lb (own_lb (rfl : offN + ([] : List Int32).length = offN))) (by omega)) (vs' := bV (bufL offN (((([] : List Int32) ++ [lt36]) ++ [lt42]) ++ [lt48]))) (own_bufS (own_lb (own_lb (rfl : offN + ([] : List Int32).length = offN))) (by omega) ⟨g49, g50⟩) ge78 at_322 (q := 323) rfl ?_
        intro T296 h297 X298 W299 V300
        have f301 := (Wx.safeW Y282 (Wx.safeW Y273 f281 W279 f281) W290 f292)
        have Y302 := Wx.wr Y293 W299 f301
        have O303 := O294.wr W299 ge78
        refine g_iload C X298 at_323 (q := 325) rfl rfl ?_
        by_cases hc304 : v7 = (0 : Int32)
        · obtain rfl : bz10 = 0 := hz11 (teq hc304).1
          refine g_ifY C X298 at_325 (by decide) (q := 348) (by decide) (by decide) ?_
          have eV305 : (((([] : List Int32) ++ [lt36]) ++ [lt42]) ++ [lt48]) = (((([] : List Int32) ++ [lt36]) ++ [lt42]) ++ [lt48]) := rfl
          have eW306 : (((([] : List Int32) ++ [lt36]) ++ [lt42]) ++ [lt48]) = (((([] : List Int32) ++ [lt36]) ++ [lt42]) ++ [lt48]) := rfl
          exact rmJ1 hw (q0 := p0) (q1 := p1) (q3 := p2) (q4 := p3) (q5 := (3 : Int32)) (q6 := v4) (q7 := (0 : Int32)) (q8 := bz16) (q9 := v19) (q10 := v22) (c0 := lt36) (c1 := lt42) (c2 := lt48) (d0 := lt54) (d1 := lt60) (d2 := lt66) (bB := b70) (aL := b228) (offN := offN) (mN := mN) (na := (((0 + 1) + 1) + 1)) (pN := (((offN + 1) + 1) + 1)) (L1 := (((([] : List Int32) ++ [lt36]) ++ [lt42]) ++ [lt48])) C (St.mono X298 (by decide) (by decide)) Y302 O303 W (by rw [eW306]; exact V300) (by rw [eV305]; exact (V291.other W299 (Ne.symm (own_ne (Nat.lt_of_lt_of_le V82.lt (Nat.le_trans (Nat.le_trans (Nat.le_trans (Nat.le_trans (Nat.le_trans (Nat.le_trans (Nat.le_trans (Nat.le_trans (Nat.le_trans (Nat.le_trans (Nat.le_trans (Nat.le_trans (Nat.le_trans (Nat.le_trans (Nat.le_trans (Nat.le_trans (Nat.le_trans (Nat.le_of_eq (Wr.size W87).symm) (Nat.le_of_eq (Wr.size W95).symm)) (Nat.le_of_eq (Wr.size W103).symm)) (Nat.le_of_eq (Wr.size W111).symm)) (Nat.le_of_eq (Wr.size W119).symm)) (Nat.le_of_eq (Wr.size W127).symm)) (Nat.le_of_eq (Wr.size W135).symm)) (Nat.le_of_eq (Wr.size W143).symm)) (Nat.le_of_eq (Wr.size W151).symm)) (Nat.le_of_eq (Wr.size W159).symm)) (Nat.le_of_eq (Wr.size W167).symm)) (Nat.le_of_eq (Wr.size W175).symm)) (Nat.le_of_eq (Wr.size W183).symm)) (Nat.le_of_eq (Wr.size W191).symm)) (Nat.le_of_eq (Wr.size W199).symm)) (Nat.le_of_eq (Wr.size W207).symm)) (Nat.le_of_eq (Wr.size W215).symm)) (Nat.le_of_eq (Wr.size W223).symm))) g233)))) ge78 ge236 (Wx.safeW Y293 f301 W299 f301) (Wx.safeW Y293 (Wx.safeW Y282 f292 W290 f292) W299 f301) (own_ne (Nat.lt_of_lt_of_le V82.lt (Nat.le_trans (Nat.le_trans (Nat.le_trans (Nat.le_trans (Nat.le_trans (Nat.le_trans (Nat.le_trans (Nat.le_trans (Nat.le_trans (Nat.le_trans (Nat.le_trans (Nat.le_trans (Nat.le_trans (Nat.le_trans (Nat.le_trans (Nat.le_trans (Nat.le_trans (Nat.le_of_eq (Wr.size W87).symm) (Nat.le_of_eq (Wr.size W95).symm)) (Nat.le_of_eq (Wr.size W103).symm)) (Nat.le_of_eq (Wr.size W111).symm)) (Nat.le_of_eq (Wr.size W119).symm)) (Nat.le_of_eq (Wr.size W127).symm)) (Nat.le_of_eq (Wr.size W135).symm)) (Nat.le_of_eq (Wr.size W143).symm)) (Nat.le_of_eq (Wr.size W151).symm)) (Nat.le_of_eq (Wr.size W159).symm)) (Nat.le_of_eq (Wr.size W167).symm)) (Nat.le_of_eq (Wr.size W175).symm)) (Nat.le_of_eq (Wr.size W183).symm)) (Nat.le_of_eq (Wr.size W191).symm)) (Nat.le_of_eq (Wr.size W199).symm)) (Nat.le_of_eq (Wr.size W207).symm)) (Nat.le_of_eq (Wr.size W215).symm)) (Nat.le_of_eq (Wr.size W223).symm))) g233) hoff hmN (((own_la (own_la (own_la (rfl : ([] : List Int32).length = 0))))).symm.trans (congrArg List.length eV305).symm) (((own_lb (own_lb (own_lb (rfl : offN + ([] : List Int32).length = offN))))).symm.trans (congrArg (fun l => offN + List.length l) eW306).symm) (by omega) (by omega) (own_gS (own_gS (own_gS own_gN ⟨g37, g38⟩) ⟨g43, g44⟩) ⟨g49, g50⟩) (own_nS (own_nS (own_nS own_nN g39) g45) g51) (by simp) ⟨g55, g56⟩ g57 ⟨g61, g62⟩ g63 ⟨g67, g68⟩ g69 (Int.le_trans (by decide) hl5) (Int.le_trans hh6 (by decide)) (Int.le_trans (by decide) hl20) (Int.le_trans hh21 (by decide)) (Int.le_trans (by decide) hl23) (Int.le_trans hh24 (by decide))
        · obtain rfl : bz10 = 1 := hz12 (feq hc304).1
          refine g_ifN C X298 at_325 (q := 328) rfl (by decide) ?_
          refine g_aload C X298 at_328 (q := 330) rfl rfl rfl ?_
          refine g_iload C X298 at_330 (q := 332) rfl rfl ?_
          refine g_iinc C X298 at_332 (q := 335) rfl rfl (z := (o32 ((((0 + 1) + 1) + 1) + 1))) (r_add (((0 + 1) + 1) + 1) (by omega) 1 (by decide)) (L' := #[.val (.int p0), .val (.long p1), .second, .val (.int p2), .val (.int p3), .val (.int (3 : Int32)), .val (.int v4), .val (.int (1 : Int32)), .val (.int bz16), .val (.int v19), .val (.int v22), .val (.int (o32 offN)), .val (.int (o32 mN)), .val (.int lt36), .val (.int lt42), .val (.int lt48), .val (.int lt54), .val (.int lt60), .val (.int lt66), .val (.ref b70), .val (.ref b228), .val (.int (o32 ((((0 + 1) + 1) + 1) + 1))), .val (.int (o32 (((offN + 1) + 1) + 1))), .unset, .unset, .unset, .unset, .unset, .unset, .unset, .unset]) rfl ?_
          refine g_bipush C X298 at_335 (q := 337) rfl (z := (13 : Int32)) rfl ?_
          have f307 := (V291.other W299 (Ne.symm (own_ne (Nat.lt_of_lt_of_le V82.lt (Nat.le_trans (Nat.le_trans (Nat.le_trans (Nat.le_trans (Nat.le_trans (Nat.le_trans (Nat.le_trans (Nat.le_trans (Nat.le_trans (Nat.le_trans (Nat.le_trans (Nat.le_trans (Nat.le_trans (Nat.le_trans (Nat.le_trans (Nat.le_trans (Nat.le_trans (Nat.le_of_eq (Wr.size W87).symm) (Nat.le_of_eq (Wr.size W95).symm)) (Nat.le_of_eq (Wr.size W103).symm)) (Nat.le_of_eq (Wr.size W111).symm)) (Nat.le_of_eq (Wr.size W119).symm)) (Nat.le_of_eq (Wr.size W127).symm)) (Nat.le_of_eq (Wr.size W135).symm)) (Nat.le_of_eq (Wr.size W143).symm)) (Nat.le_of_eq (Wr.size W151).symm)) (Nat.le_of_eq (Wr.size W159).symm)) (Nat.le_of_eq (Wr.size W167).symm)) (Nat.le_of_eq (Wr.size W175).symm)) (Nat.le_of_eq (Wr.size W183).symm)) (Nat.le_of_eq (Wr.size W191).symm)) (Nat.le_of_eq (Wr.size W199).symm)) (Nat.le_of_eq (Wr.size W207).symm)) (Nat.le_of_eq (Wr.size W215).symm)) (Nat.le_of_eq (Wr.size W223).symm))) g233)))
          refine g_bastore C X298 f307 ⟨(r_n16 (((0 + 1) + 1) + 1) (by omega)).1, own_bl (a := (((0 + 1) + 1) + 1)) (b := 8) (by omega) (by decide)⟩ (r_n16 (((0 + 1) + 1) + 1) (by omega)).2.1 (own_l8 (own_la (own_la (own_la (rfl : ([] : List Int32).length = 0)))) (by omega)) (vs' := bV (allL ((((([] : List Int32) ++ [lt36]) ++ [lt42]) ++ [lt48]) ++ [(13 : Int32)]))) (own_allS (own_la (own_la (own_la (rfl : ([] : List Int32).length = 0)))) (by omega) ⟨by decide, by decide⟩) ge236 at_337 (q := 338) rfl ?_
          intro T308 h309 X310 W311 V312
          have f313 := (Wx.safeW Y293 (Wx.safeW Y282 f292 W290 f292) W299 f301)
          have Y314 := Wx.wr Y302 W311 f313
          have O315 := O303.wr W311 ge236
          refine g_aload C X310 at_338 (q := 340) rfl rfl rfl ?_
          refine g_iload C X310 at_340 (q := 342) rfl rfl ?_
          refine g_iinc C X310 at_342 (q := 345) rfl rfl (z := (o32 ((((offN + 1) + 1) + 1) + 1))) (r_add (((offN + 1) + 1) + 1) (by omega) 1 (by decide)) (L' := #[.val (.int p0), .val (.long p1), .second, .val (.int p2), .val (.int p3), .val (.int (3 : Int32)), .val (.int v4), .val (.int (1 : Int32)), .val (.int bz16), .val (.int v19), .val (.int v22), .val (.int (o32 offN)), .val (.int (o32 mN)), .val (.int lt36), .val (.int lt42), .val (.int lt48), .val (.int lt54), .val (.int lt60), .val (.int lt66), .val (.ref b70), .val (.ref b228), .val (.int (o32 ((((0 + 1) + 1) + 1) + 1))), .val (.int (o32 ((((offN + 1) + 1) + 1) + 1))), .unset, .unset, .unset, .unset, .unset, .unset, .unset, .unset]) rfl ?_
          refine g_bipush C X310 at_345 (q := 347) rfl (z := (13 : Int32)) rfl ?_
          have f316 := (V300.other W311 (own_ne (Nat.lt_of_lt_of_le V82.lt (Nat.le_trans (Nat.le_trans (Nat.le_trans (Nat.le_trans (Nat.le_trans (Nat.le_trans (Nat.le_trans (Nat.le_trans (Nat.le_trans (Nat.le_trans (Nat.le_trans (Nat.le_trans (Nat.le_trans (Nat.le_trans (Nat.le_trans (Nat.le_trans (Nat.le_trans (Nat.le_of_eq (Wr.size W87).symm) (Nat.le_of_eq (Wr.size W95).symm)) (Nat.le_of_eq (Wr.size W103).symm)) (Nat.le_of_eq (Wr.size W111).symm)) (Nat.le_of_eq (Wr.size W119).symm)) (Nat.le_of_eq (Wr.size W127).symm)) (Nat.le_of_eq (Wr.size W135).symm)) (Nat.le_of_eq (Wr.size W143).symm)) (Nat.le_of_eq (Wr.size W151).symm)) (Nat.le_of_eq (Wr.size W159).symm)) (Nat.le_of_eq (Wr.size W167).symm)) (Nat.le_of_eq (Wr.size W175).symm)) (Nat.le_of_eq (Wr.size W183).symm)) (Nat.le_of_eq (Wr.size W191).symm)) (Nat.le_of_eq (Wr.size W199).symm)) (Nat.le_of_eq (Wr.size W207).symm)) (Nat.le_of_eq (Wr.size W215).symm)) (Nat.le_of_eq (Wr.size W223).symm))) g233))
          refine g_bastore C X310 f316 ⟨(r_n16 (((offN + 1) + 1) + 1) (by omega)).1, own_bl (a := (((offN + 1) + 1) + 1)) (b := 18) (by omega) (by decide)⟩ (r_n16 (((offN + 1) + 1) + 1) (by omega)).2.1 (own_l18 (own_lb (own_lb (own_lb (rfl : offN + ([] : List Int32).length = offN)))) (by omega)) (vs' := bV (bufL offN ((((([] : List Int32) ++ [lt36]) ++ [lt42]) ++ [lt48]) ++ [(13 : Int32)]))) (own_bufS (own_lb (own_lb (own_lb (rfl : offN + ([] : List Int32).length = offN)))) (by omega) ⟨by decide, by decide⟩) ge78 at_347 (q := 348) rfl ?_
          intro T317 h318 X319 W320 V321
          have f322 := (Wx.safeW Y302 (Wx.safeW Y293 f301 W299 f301) W311 f313)
          have Y323 := Wx.wr Y314 W320 f322
          have O324 := O315.wr W320 ge78
          have eV325 : ((((([] : List Int32) ++ [lt36]) ++ [lt42]) ++ [lt48]) ++ [(13 : Int32)]) = ((((([] : List Int32) ++ [lt36]) ++ [lt42]) ++ [lt48]) ++ [(13 : Int32)]) := rfl
          have eW326 : ((((([] : List Int32) ++ [lt36]) ++ [lt42]) ++ [lt48]) ++ [(13 : Int32)]) = ((((([] : List Int32) ++ [lt36]) ++ [lt42]) ++ [lt48]) ++ [(13 : Int32)]) := rfl
          exact rmJ1 hw (q0 := p0) (q1 := p1) (q3 := p2) (q4 := p3) (q5 := (3 : Int32)) (q6 := v4) (q7 := (1 : Int32)) (q8 := bz16) (q9 := v19) (q10 := v22) (c0 := lt36) (c1 := lt42) (c2 := lt48) (d0 := lt54) (d1 := lt60) (d2 := lt66) (bB := b70) (aL := b228) (offN := offN) (mN := mN) (na := ((((0 + 1) + 1) + 1) + 1)) (pN := ((((offN + 1) + 1) + 1) + 1)) (L1 := ((((([] : List Int32) ++ [lt36]) ++ [lt42]) ++ [lt48]) ++ [(13 : Int32)])) C (St.mono X319 (by decide) (by decide)) Y323 O324 W (by rw [eW326]; exact V321) (by rw [eV325]; exact (V312.other W320 (Ne.symm (own_ne (Nat.lt_of_lt_of_le V82.lt (Nat.le_trans (Nat.le_trans (Nat.le_trans (Nat.le_trans (Nat.le_trans (Nat.le_trans (Nat.le_trans (Nat.le_trans (Nat.le_trans (Nat.le_trans (Nat.le_trans (Nat.le_trans (Nat.le_trans (Nat.le_trans (Nat.le_trans (Nat.le_trans (Nat.le_trans (Nat.le_of_eq (Wr.size W87).symm) (Nat.le_of_eq (Wr.size W95).symm)) (Nat.le_of_eq (Wr.size W103).symm)) (Nat.le_of_eq (Wr.size W111).symm)) (Nat.le_of_eq (Wr.size W119).symm)) (Nat.le_of_eq (Wr.size W127).symm)) (Nat.le_of_eq (Wr.size W135).symm)) (Nat.le_of_eq (Wr.size W143).symm)) (Nat.le_of_eq (Wr.size W151).symm)) (Nat.le_of_eq (Wr.size W159).symm)) (Nat.le_of_eq (Wr.size W167).symm)) (Nat.le_of_eq (Wr.size W175).symm)) (Nat.le_of_eq (Wr.size W183).symm)) (Nat.le_of_eq (Wr.size W191).symm)) (Nat.le_of_eq (Wr.size W199).symm)) (Nat.le_of_eq (Wr.size W207).symm)) (Nat.le_of_eq (Wr.size W215).symm)) (Nat.le_of_eq (Wr.size W223).symm))) g233)))) ge78 ge236 (Wx.safeW Y314 f322 W320 f322) (Wx.safeW Y314 (Wx.safeW Y302 f313 W311 f313) W320 f322) (own_ne (Nat.lt_of_lt_of_le V82.lt (Nat.le_trans (Nat.le_trans (Nat.le_trans (Nat.le_trans (Nat.le_trans (Nat.le_trans (Nat.le_trans (Nat.le_trans (Nat.le_trans (Nat.le_trans (Nat.le_trans (Nat.le_trans (Nat.le_trans (Nat.le_trans (Nat.le_trans (Nat.le_trans (Nat.le_trans (Nat.le_of_eq (Wr.size W87).symm) (Nat.le_of_eq (Wr.size W95).symm)) (Nat.le_of_eq (Wr.size W103).symm)) (Nat.le_of_eq (Wr.size W111).symm)) (Nat.le_of_eq (Wr.size W119).symm)) (Nat.le_of_eq (Wr.size W127).symm)) (Nat.le_of_eq (Wr.size W135).symm)) (Nat.le_of_eq (Wr.size W143).symm)) (Nat.le_of_eq (Wr.size W151).symm)) (Nat.le_of_eq (Wr.size W159).symm)) (Nat.le_of_eq (Wr.size W167).symm)) (Nat.le_of_eq (Wr.size W175).symm)) (Nat.le_of_eq (Wr.size W183).symm)) (Nat.le_of_eq (Wr.size W191).symm)) (Nat.le_of_eq (Wr.size W199).symm)) (Nat.le_of_eq (Wr.size W207).symm)) (Nat.le_of_eq (Wr.size W215).symm)) (Nat.le_of_eq (Wr.size W223).symm))) g233) hoff hmN (((own_la (own_la (own_la (own_la (rfl : ([] : List Int32).length = 0)))))).symm.trans (congrArg List.length eV325).symm) (((own_lb (own_lb (own_lb (own_lb (rfl : offN + ([] : List Int32).length = offN)))))).symm.trans (congrArg (fun l => offN + List.length l) eW326).symm) (by omega) (by omega) (own_gS (own_gS (own_gS (own_gS own_gN ⟨g37, g38⟩) ⟨g43, g44⟩) ⟨g49, g50⟩) ⟨by decide, by decide⟩) (own_nS (own_nS (own_nS (own_nS own_nN g39) g45) g51) (by decide)) (by simp) ⟨g55, g56⟩ g57 ⟨g61, g62⟩ g63 ⟨g67, g68⟩ g69 (Int.le_trans (by decide) hl5) (Int.le_trans hh6 (by decide)) (Int.le_trans (by decide) hl20) (Int.le_trans hh21 (by decide)) (Int.le_trans (by decide) hl23) (Int.le_trans hh24 (by decide))
      · refine g_icY C X278 at_300 (by decide) (q := 323) (by decide) (flt hc284).2.2.2 ?_
        have hr327 : v1.toInt ≤ 2 := own_f4 hc284 (by decide)
        obtain rfl : v1 = (2 : Int32) := own_f0 hr265 hr327 (by decide)
        refine g_iload C X278 at_323 (q := 325) rfl rfl ?_
        by_cases hc328 : v7 = (0 : Int32)
        · obtain rfl : bz10 = 0 := hz11 (teq hc328).1
          refine g_ifY C X278 at_325 (by decide) (q := 348) (by decide) (by decide) ?_
          have eV329 : ((([] : List Int32) ++ [lt36]) ++ [lt42]) = ((([] : List Int32) ++ [lt36]) ++ [lt42]) := rfl
          have eW330 : ((([] : List Int32) ++ [lt36]) ++ [lt42]) = ((([] : List Int32) ++ [lt36]) ++ [lt42]) := rfl
          exact rmJ1 hw (q0 := p0) (q1 := p1) (q3 := p2) (q4 := p3) (q5 := (2 : Int32)) (q6 := v4) (q7 := (0 : Int32)) (q8 := bz16) (q9 := v19) (q10 := v22) (c0 := lt36) (c1 := lt42) (c2 := lt48) (d0 := lt54) (d1 := lt60) (d2 := lt66) (bB := b70) (aL := b228) (offN := offN) (mN := mN) (na := ((0 + 1) + 1)) (pN := ((offN + 1) + 1)) (L1 := ((([] : List Int32) ++ [lt36]) ++ [lt42])) C (St.mono X278 (by decide) (by decide)) Y282 O283 W (by rw [eW330]; exact V280) (by rw [eV329]; exact (V271.other W279 (Ne.symm (own_ne (Nat.lt_of_lt_of_le V82.lt (Nat.le_trans (Nat.le_trans (Nat.le_trans (Nat.le_trans (Nat.le_trans (Nat.le_trans (Nat.le_trans (Nat.le_trans (Nat.le_trans (Nat.le_trans (Nat.le_trans (Nat.le_trans (Nat.le_trans (Nat.le_trans (Nat.le_trans (Nat.le_trans (Nat.le_trans (Nat.le_of_eq (Wr.size W87).symm) (Nat.le_of_eq (Wr.size W95).symm)) (Nat.le_of_eq (Wr.size W103).symm)) (Nat.le_of_eq (Wr.size W111).symm)) (Nat.le_of_eq (Wr.size W119).symm)) (Nat.le_of_eq (Wr.size W127).symm)) (Nat.le_of_eq (Wr.size W135).symm)) (Nat.le_of_eq (Wr.size W143).symm)) (Nat.le_of_eq (Wr.size W151).symm)) (Nat.le_of_eq (Wr.size W159).symm)) (Nat.le_of_eq (Wr.size W167).symm)) (Nat.le_of_eq (Wr.size W175).symm)) (Nat.le_of_eq (Wr.size W183).symm)) (Nat.le_of_eq (Wr.size W191).symm)) (Nat.le_of_eq (Wr.size W199).symm)) (Nat.le_of_eq (Wr.size W207).symm)) (Nat.le_of_eq (Wr.size W215).symm)) (Nat.le_of_eq (Wr.size W223).symm))) g233)))) ge78 ge236 (Wx.safeW Y273 f281 W279 f281) (Wx.safeW Y273 (Wx.safeW Y262 f272 W270 f272) W279 f281) (own_ne (Nat.lt_of_lt_of_le V82.lt (Nat.le_trans (Nat.le_trans (Nat.le_trans (Nat.le_trans (Nat.le_trans (Nat.le_trans (Nat.le_trans (Nat.le_trans (Nat.le_trans (Nat.le_trans (Nat.le_trans (Nat.le_trans (Nat.le_trans (Nat.le_trans (Nat.le_trans (Nat.le_trans (Nat.le_trans (Nat.le_of_eq (Wr.size W87).symm) (Nat.le_of_eq (Wr.size W95).symm)) (Nat.le_of_eq (Wr.size W103).symm)) (Nat.le_of_eq (Wr.size W111).symm)) (Nat.le_of_eq (Wr.size W119).symm)) (Nat.le_of_eq (Wr.size W127).symm)) (Nat.le_of_eq (Wr.size W135).symm)) (Nat.le_of_eq (Wr.size W143).symm)) (Nat.le_of_eq (Wr.size W151).symm)) (Nat.le_of_eq (Wr.size W159).symm)) (Nat.le_of_eq (Wr.size W167).symm)) (Nat.le_of_eq (Wr.size W175).symm)) (Nat.le_of_eq (Wr.size W183).symm)) (Nat.le_of_eq (Wr.size W191).symm)) (Nat.le_of_eq (Wr.size W199).symm)) (Nat.le_of_eq (Wr.size W207).symm)) (Nat.le_of_eq (Wr.size W215).symm)) (Nat.le_of_eq (Wr.size W223).symm))) g233) hoff hmN (((own_la (own_la (rfl : ([] : List Int32).length = 0)))).symm.trans (congrArg List.length eV329).symm) (((own_lb (own_lb (rfl : offN + ([] : List Int32).length = offN)))).symm.trans (congrArg (fun l => offN + List.length l) eW330).symm) (by omega) (by omega) (own_gS (own_gS own_gN ⟨g37, g38⟩) ⟨g43, g44⟩) (own_nS (own_nS own_nN g39) g45) (by simp) ⟨g55, g56⟩ g57 ⟨g61, g62⟩ g63 ⟨g67, g68⟩ g69 (Int.le_trans (by decide) hl5) (Int.le_trans hh6 (by decide)) (Int.le_trans (by decide) hl20) (Int.le_trans hh21 (by decide)) (Int.le_trans (by decide) hl23) (Int.le_trans hh24 (by decide))
        · obtain rfl : bz10 = 1 := hz12 (feq hc328).1
          refine g_ifN C X278 at_325 (q := 328) rfl (by decide) ?_
          refine g_aload C X278 at_328 (q := 330) rfl rfl rfl ?_
          refine g_iload C X278 at_330 (q := 332) rfl rfl ?_
          refine g_iinc C X278 at_332 (q := 335) rfl rfl (z := (o32 (((0 + 1) + 1) + 1))) (r_add ((0 + 1) + 1) (by omega) 1 (by decide)) (L' := #[.val (.int p0), .val (.long p1), .second, .val (.int p2), .val (.int p3), .val (.int (2 : Int32)), .val (.int v4), .val (.int (1 : Int32)), .val (.int bz16), .val (.int v19), .val (.int v22), .val (.int (o32 offN)), .val (.int (o32 mN)), .val (.int lt36), .val (.int lt42), .val (.int lt48), .val (.int lt54), .val (.int lt60), .val (.int lt66), .val (.ref b70), .val (.ref b228), .val (.int (o32 (((0 + 1) + 1) + 1))), .val (.int (o32 ((offN + 1) + 1))), .unset, .unset, .unset, .unset, .unset, .unset, .unset, .unset]) rfl ?_
          refine g_bipush C X278 at_335 (q := 337) rfl (z := (13 : Int32)) rfl ?_
          have f331 := (V271.other W279 (Ne.symm (own_ne (Nat.lt_of_lt_of_le V82.lt (Nat.le_trans (Nat.le_trans (Nat.le_trans (Nat.le_trans (Nat.le_trans (Nat.le_trans (Nat.le_trans (Nat.le_trans (Nat.le_trans (Nat.le_trans (Nat.le_trans (Nat.le_trans (Nat.le_trans (Nat.le_trans (Nat.le_trans (Nat.le_trans (Nat.le_trans (Nat.le_of_eq (Wr.size W87).symm) (Nat.le_of_eq (Wr.size W95).symm)) (Nat.le_of_eq (Wr.size W103).symm)) (Nat.le_of_eq (Wr.size W111).symm)) (Nat.le_of_eq (Wr.size W119).symm)) (Nat.le_of_eq (Wr.size W127).symm)) (Nat.le_of_eq (Wr.size W135).symm)) (Nat.le_of_eq (Wr.size W143).symm)) (Nat.le_of_eq (Wr.size W151).symm)) (Nat.le_of_eq (Wr.size W159).symm)) (Nat.le_of_eq (Wr.size W167).symm)) (Nat.le_of_eq (Wr.size W175).symm)) (Nat.le_of_eq (Wr.size W183).symm)) (Nat.le_of_eq (Wr.size W191).symm)) (Nat.le_of_eq (Wr.size W199).symm)) (Nat.le_of_eq (Wr.size W207).symm)) (Nat.le_of_eq (Wr.size W215).symm)) (Nat.le_of_eq (Wr.size W223).symm))) g233)))
          refine g_bastore C X278 f331 ⟨(r_n16 ((0 + 1) + 1) (by omega)).1, own_bl (a := ((0 + 1) + 1)) (b := 8) (by omega) (by decide)⟩ (r_n16 ((0 + 1) + 1) (by omega)).2.1 (own_l8 (own_la (own_la (rfl : ([] : List Int32).length = 0))) (by omega)) (vs' := bV (allL (((([] : List Int32) ++ [lt36]) ++ [lt42]) ++ [(13 : Int32)]))) (own_allS (own_la (own_la (rfl : ([] : List Int32).length = 0))) (by omega) ⟨by decide, by decide⟩) ge236 at_337 (q := 338) rfl ?_
          intro T332 h333 X334 W335 V336
          have f337 := (Wx.safeW Y273 (Wx.safeW Y262 f272 W270 f272) W279 f281)
          have Y338 := Wx.wr Y282 W335 f337
          have O339 := O283.wr W335 ge236
          refine g_aload C X334 at_338 (q := 340) rfl rfl rfl ?_
          refine g_iload C X334 at_340 (q := 342) rfl rfl ?_
          refine g_iinc C X334 at_342 (q := 345) rfl rfl (z := (o32 (((offN + 1) + 1) + 1))) (r_add ((offN + 1) + 1) (by omega) 1 (by decide)) (L' := #[.val (.int p0), .val (.long p1), .second, .val (.int p2), .val (.int p3), .val (.int (2 : Int32)), .val (.int v4), .val (.int (1 : Int32)), .val (.int bz16), .val (.int v19), .val (.int v22), .val (.int (o32 offN)), .val (.int (o32 mN)), .val (.int lt36), .val (.int lt42), .val (.int lt48), .val (.int lt54), .val (.int lt60), .val (.int lt66), .val (.ref b70), .val (.ref b228), .val (.int (o32 (((0 + 1) + 1) + 1))), .val (.int (o32 (((offN + 1) + 1) + 1))), .unset, .unset, .unset, .unset, .unset, .unset, .unset, .unset]) rfl ?_
          refine g_bipush C X334 at_345 (q := 347) rfl (z := (13 : Int32)) rfl ?_
          have f340 := (V280.other W335 (own_ne (Nat.lt_of_lt_of_le V82.lt (Nat.le_trans (Nat.le_trans (Nat.le_trans (Nat.le_trans (Nat.le_trans (Nat.le_trans (Nat.le_trans (Nat.le_trans (Nat.le_trans (Nat.le_trans (Nat.le_trans (Nat.le_trans (Nat.le_trans (Nat.le_trans (Nat.le_trans (Nat.le_trans (Nat.le_trans (Nat.le_of_eq (Wr.size W87).symm) (Nat.le_of_eq (Wr.size W95).symm)) (Nat.le_of_eq (Wr.size W103).symm)) (Nat.le_of_eq (Wr.size W111).symm)) (Nat.le_of_eq (Wr.size W119).symm)) (Nat.le_of_eq (Wr.size W127).symm)) (Nat.le_of_eq (Wr.size W135).symm)) (Nat.le_of_eq (Wr.size W143).symm)) (Nat.le_of_eq (Wr.size W151).symm)) (Nat.le_of_eq (Wr.size W159).symm)) (Nat.le_of_eq (Wr.size W167).symm)) (Nat.le_of_eq (Wr.size W175).symm)) (Nat.le_of_eq (Wr.size W183).symm)) (Nat.le_of_eq (Wr.size W191).symm)) (Nat.le_of_eq (Wr.size W199).symm)) (Nat.le_of_eq (Wr.size W207).symm)) (Nat.le_of_eq (Wr.size W215).symm)) (Nat.le_of_eq (Wr.size W223).symm))) g233))
          refine g_bastore C X334 f340 ⟨(r_n16 ((offN + 1) + 1) (by omega)).1, own_bl (a := ((offN + 1) + 1)) (b := 18) (by omega) (by decide)⟩ (r_n16 ((offN + 1) + 1) (by omega)).2.1 (own_l18 (own_lb (own_lb (rfl : offN + ([] : List Int32).length = offN))) (by omega)) (vs' := bV (bufL offN (((([] : List Int32) ++ [lt36]) ++ [lt42]) ++ [(13 : Int32)]))) (own_bufS (own_lb (own_lb (rfl : offN + ([] : List Int32).length = offN))) (by omega) ⟨by decide, by decide⟩) ge78 at_347 (q := 348) rfl ?_
          intro T341 h342 X343 W344 V345
          have f346 := (Wx.safeW Y282 (Wx.safeW Y273 f281 W279 f281) W335 f337)
          have Y347 := Wx.wr Y338 W344 f346
          have O348 := O339.wr W344 ge78
          have eV349 : (((([] : List Int32) ++ [lt36]) ++ [lt42]) ++ [(13 : Int32)]) = (((([] : List Int32) ++ [lt36]) ++ [lt42]) ++ [(13 : Int32)]) := rfl
          have eW350 : (((([] : List Int32) ++ [lt36]) ++ [lt42]) ++ [(13 : Int32)]) = (((([] : List Int32) ++ [lt36]) ++ [lt42]) ++ [(13 : Int32)]) := rfl
          exact rmJ1 hw (q0 := p0) (q1 := p1) (q3 := p2) (q4 := p3) (q5 := (2 : Int32)) (q6 := v4) (q7 := (1 : Int32)) (q8 := bz16) (q9 := v19) (q10 := v22) (c0 := lt36) (c1 := lt42) (c2 := lt48) (d0 := lt54) (d1 := lt60) (d2 := lt66) (bB := b70) (aL := b228) (offN := offN) (mN := mN) (na := (((0 + 1) + 1) + 1)) (pN := (((offN + 1) + 1) + 1)) (L1 := (((([] : List Int32) ++ [lt36]) ++ [lt42]) ++ [(13 : Int32)])) C (St.mono X343 (by decide) (by decide)) Y347 O348 W (by rw [eW350]; exact V345) (by rw [eV349]; exact (V336.other W344 (Ne.symm (own_ne (Nat.lt_of_lt_of_le V82.lt (Nat.le_trans (Nat.le_trans (Nat.le_trans (Nat.le_trans (Nat.le_trans (Nat.le_trans (Nat.le_trans (Nat.le_trans (Nat.le_trans (Nat.le_trans (Nat.le_trans (Nat.le_trans (Nat.le_trans (Nat.le_trans (Nat.le_trans (Nat.le_trans (Nat.le_trans (Nat.le_of_eq (Wr.size W87).symm) (Nat.le_of_eq (Wr.size W95).symm)) (Nat.le_of_eq (Wr.size W103).symm)) (Nat.le_of_eq (Wr.size W111).symm)) (Nat.le_of_eq (Wr.size W119).symm)) (Nat.le_of_eq (Wr.size W127).symm)) (Nat.le_of_eq (Wr.size W135).symm)) (Nat.le_of_eq (Wr.size W143).symm)) (Nat.le_of_eq (Wr.size W151).symm)) (Nat.le_of_eq (Wr.size W159).symm)) (Nat.le_of_eq (Wr.size W167).symm)) (Nat.le_of_eq (Wr.size W175).symm)) (Nat.le_of_eq (Wr.size W183).symm)) (Nat.le_of_eq (Wr.size W191).symm)) (Nat.le_of_eq (Wr.size W199).symm)) (Nat.le_of_eq (Wr.size W207).symm)) (Nat.le_of_eq (Wr.size W215).symm)) (Nat.le_of_eq (Wr.size W223).symm))) g233)))) ge78 ge236 (Wx.safeW Y338 f346 W344 f346) (Wx.safeW Y338 (Wx.safeW Y282 f337 W335 f337) W344 f346) (own_ne (Nat.lt_of_lt_of_le V82.lt (Nat.le_trans (Nat.le_trans (Nat.le_trans (Nat.le_trans (Nat.le_trans (Nat.le_trans (Nat.le_trans (Nat.le_trans (Nat.le_trans (Nat.le_trans (Nat.le_trans (Nat.le_trans (Nat.le_trans (Nat.le_trans (Nat.le_trans (Nat.le_trans (Nat.le_trans (Nat.le_of_eq (Wr.size W87).symm) (Nat.le_of_eq (Wr.size W95).symm)) (Nat.le_of_eq (Wr.size W103).symm)) (Nat.le_of_eq (Wr.size W111).symm)) (Nat.le_of_eq (Wr.size W119).symm)) (Nat.le_of_eq (Wr.size W127).symm)) (Nat.le_of_eq (Wr.size W135).symm)) (Nat.le_of_eq (Wr.size W143).symm)) (Nat.le_of_eq (Wr.size W151).symm)) (Nat.le_of_eq (Wr.size W159).symm)) (Nat.le_of_eq (Wr.size W167).symm)) (Nat.le_of_eq (Wr.size W175).symm)) (Nat.le_of_eq (Wr.size W183).symm)) (Nat.le_of_eq (Wr.size W191).symm)) (Nat.le_of_eq (Wr.size W199).symm)) (Nat.le_of_eq (Wr.size W207).symm)) (Nat.le_of_eq (Wr.size W215).symm)) (Nat.le_of_eq (Wr.size W223).symm))) g233) hoff hmN (((own_la (own_la (own_la (rfl : ([] : List Int32).length = 0))))).symm.trans (congrArg List.length eV349).symm) (((own_lb (own_lb (own_lb (rfl : offN + ([] : List Int32).length = offN))))).symm.trans (congrArg (fun l => offN + List.length l) eW350).symm) (by omega) (by omega) (own_gS (own_gS (own_gS own_gN ⟨g37, g38⟩) ⟨g43, g44⟩) ⟨by decide, by decide⟩) (own_nS (own_nS (own_nS own_nN g39) g45) (by decide)) (by simp) ⟨g55, g56⟩ g57 ⟨g61, g62⟩ g63 ⟨g67, g68⟩ g69 (Int.le_trans (by decide) hl5) (Int.le_trans hh6 (by decide)) (Int.le_trans (by decide) hl20) (Int.le_trans hh21 (by decide)) (Int.le_trans (by decide) hl23) (Int.le_trans hh24 (by decide))
    · refine g_icY C X258 at_274 (by decide) (q := 297) (by decide) (flt hc264).2.2.2 ?_
      have hr351 : v1.toInt ≤ 1 := own_f4 hc264 (by decide)
      obtain rfl : v1 = (1 : Int32) := own_f0 hr246 hr351 (by decide)
      refine g_iload C X258 at_297 (q := 299) rfl rfl ?_
      refine g_iconst C X258 at_299 (q := 300) rfl (z := (2 : Int32)) rfl ?_
      refine g_icY C X258 at_300 (by decide) (q := 323) (by decide) (by decide) ?_
      refine g_iload C X258 at_323 (q := 325) rfl rfl ?_
      by_cases hc352 : v7 = (0 : Int32)
      · obtain rfl : bz10 = 0 := hz11 (teq hc352).1
        refine g_ifY C X258 at_325 (by decide) (q := 348) (by decide) (by decide) ?_
        have eV353 : (([] : List Int32) ++ [lt36]) = (([] : List Int32) ++ [lt36]) := rfl
        have eW354 : (([] : List Int32) ++ [lt36]) = (([] : List Int32) ++ [lt36]) := rfl
        exact rmJ1 hw (q0 := p0) (q1 := p1) (q3 := p2) (q4 := p3) (q5 := (1 : Int32)) (q6 := v4) (q7 := (0 : Int32)) (q8 := bz16) (q9 := v19) (q10 := v22) (c0 := lt36) (c1 := lt42) (c2 := lt48) (d0 := lt54) (d1 := lt60) (d2 := lt66) (bB := b70) (aL := b228) (offN := offN) (mN := mN) (na := (0 + 1)) (pN := (offN + 1)) (L1 := (([] : List Int32) ++ [lt36])) C (St.mono X258 (by decide) (by decide)) Y262 O263 W (by rw [eW354]; exact V260) (by rw [eV353]; exact (V251.other W259 (Ne.symm (own_ne (Nat.lt_of_lt_of_le V82.lt (Nat.le_trans (Nat.le_trans (Nat.le_trans (Nat.le_trans (Nat.le_trans (Nat.le_trans (Nat.le_trans (Nat.le_trans (Nat.le_trans (Nat.le_trans (Nat.le_trans (Nat.le_trans (Nat.le_trans (Nat.le_trans (Nat.le_trans (Nat.le_trans (Nat.le_trans (Nat.le_of_eq (Wr.size W87).symm) (Nat.le_of_eq (Wr.size W95).symm)) (Nat.le_of_eq (Wr.size W103).symm)) (Nat.le_of_eq (Wr.size W111).symm)) (Nat.le_of_eq (Wr.size W119).symm)) (Nat.le_of_eq (Wr.size W127).symm)) (Nat.le_of_eq (Wr.size W135).symm)) (Nat.le_of_eq (Wr.size W143).symm)) (Nat.le_of_eq (Wr.size W151).symm)) (Nat.le_of_eq (Wr.size W159).symm)) (Nat.le_of_eq (Wr.size W167).symm)) (Nat.le_of_eq (Wr.size W175).symm)) (Nat.le_of_eq (Wr.size W183).symm)) (Nat.le_of_eq (Wr.size W191).symm)) (Nat.le_of_eq (Wr.size W199).symm)) (Nat.le_of_eq (Wr.size W207).symm)) (Nat.le_of_eq (Wr.size W215).symm)) (Nat.le_of_eq (Wr.size W223).symm))) g233)))) ge78 ge236 (Wx.safeW Y253 f261 W259 f261) (Wx.safeW Y253 (Wx.safeW Y238 f252 W250 f252) W259 f261) (own_ne (Nat.lt_of_lt_of_le V82.lt (Nat.le_trans (Nat.le_trans (Nat.le_trans (Nat.le_trans (Nat.le_trans (Nat.le_trans (Nat.le_trans (Nat.le_trans (Nat.le_trans (Nat.le_trans (Nat.le_trans (Nat.le_trans (Nat.le_trans (Nat.le_trans (Nat.le_trans (Nat.le_trans (Nat.le_trans (Nat.le_of_eq (Wr.size W87).symm) (Nat.le_of_eq (Wr.size W95).symm)) (Nat.le_of_eq (Wr.size W103).symm)) (Nat.le_of_eq (Wr.size W111).symm)) (Nat.le_of_eq (Wr.size W119).symm)) (Nat.le_of_eq (Wr.size W127).symm)) (Nat.le_of_eq (Wr.size W135).symm)) (Nat.le_of_eq (Wr.size W143).symm)) (Nat.le_of_eq (Wr.size W151).symm)) (Nat.le_of_eq (Wr.size W159).symm)) (Nat.le_of_eq (Wr.size W167).symm)) (Nat.le_of_eq (Wr.size W175).symm)) (Nat.le_of_eq (Wr.size W183).symm)) (Nat.le_of_eq (Wr.size W191).symm)) (Nat.le_of_eq (Wr.size W199).symm)) (Nat.le_of_eq (Wr.size W207).symm)) (Nat.le_of_eq (Wr.size W215).symm)) (Nat.le_of_eq (Wr.size W223).symm))) g233) hoff hmN (((own_la (rfl : ([] : List Int32).length = 0))).symm.trans (congrArg List.length eV353).symm) (((own_lb (rfl : offN + ([] : List Int32).length = offN))).symm.trans (congrArg (fun l => offN + List.length l) eW354).symm) (by omega) (by omega) (own_gS own_gN ⟨g37, g38⟩) (own_nS own_nN g39) (by simp) ⟨g55, g56⟩ g57 ⟨g61, g62⟩ g63 ⟨g67, g68⟩ g69 (Int.le_trans (by decide) hl5) (Int.le_trans hh6 (by decide)) (Int.le_trans (by decide) hl20) (Int.le_trans hh21 (by decide)) (Int.le_trans (by decide) hl23) (Int.le_trans hh24 (by decide))
      · obtain rfl : bz10 = 1 := hz12 (feq hc352).1
        refine g_ifN C X258 at_325 (q := 328) rfl (by decide) ?_
        refine g_aload C X258 at_328 (q := 330) rfl rfl rfl ?_
        refine g_iload C X258 at_330 (q := 332) rfl rfl ?_
        refine g_iinc C X258 at_332 (q := 335) rfl rfl (z := (o32 ((0 + 1) + 1))) (r_add (0 + 1) (by omega) 1 (by decide)) (L' := #[.val (.int p0), .val (.long p1), .second, .val (.int p2), .val (.int p3), .val (.int (1 : Int32)), .val (.int v4), .val (.int (1 : Int32)), .val (.int bz16), .val (.int v19), .val (.int v22), .val (.int (o32 offN)), .val (.int (o32 mN)), .val (.int lt36), .val (.int lt42), .val (.int lt48), .val (.int lt54), .val (.int lt60), .val (.int lt66), .val (.ref b70), .val (.ref b228), .val (.int (o32 ((0 + 1) + 1))), .val (.int (o32 (offN + 1))), .unset, .unset, .unset, .unset, .unset, .unset, .unset, .unset]) rfl ?_
        refine g_bipush C X258 at_335 (q := 337) rfl (z := (13 : Int32)) rfl ?_
        have f355 := (V251.other W259 (Ne.symm (own_ne (Nat.lt_of_lt_of_le V82.lt (Nat.le_trans (Nat.le_trans (Nat.le_trans (Nat.le_trans (Nat.le_trans (Nat.le_trans (Nat.le_trans (Nat.le_trans (Nat.le_trans (Nat.le_trans (Nat.le_trans (Nat.le_trans (Nat.le_trans (Nat.le_trans (Nat.le_trans (Nat.le_trans (Nat.le_trans (Nat.le_of_eq (Wr.size W87).symm) (Nat.le_of_eq (Wr.size W95).symm)) (Nat.le_of_eq (Wr.size W103).symm)) (Nat.le_of_eq (Wr.size W111).symm)) (Nat.le_of_eq (Wr.size W119).symm)) (Nat.le_of_eq (Wr.size W127).symm)) (Nat.le_of_eq (Wr.size W135).symm)) (Nat.le_of_eq (Wr.size W143).symm)) (Nat.le_of_eq (Wr.size W151).symm)) (Nat.le_of_eq (Wr.size W159).symm)) (Nat.le_of_eq (Wr.size W167).symm)) (Nat.le_of_eq (Wr.size W175).symm)) (Nat.le_of_eq (Wr.size W183).symm)) (Nat.le_of_eq (Wr.size W191).symm)) (Nat.le_of_eq (Wr.size W199).symm)) (Nat.le_of_eq (Wr.size W207).symm)) (Nat.le_of_eq (Wr.size W215).symm)) (Nat.le_of_eq (Wr.size W223).symm))) g233)))
        refine g_bastore C X258 f355 ⟨(r_n16 (0 + 1) (by omega)).1, own_bl (a := (0 + 1)) (b := 8) (by omega) (by decide)⟩ (r_n16 (0 + 1) (by omega)).2.1 (own_l8 (own_la (rfl : ([] : List Int32).length = 0)) (by omega)) (vs' := bV (allL ((([] : List Int32) ++ [lt36]) ++ [(13 : Int32)]))) (own_allS (own_la (rfl : ([] : List Int32).length = 0)) (by omega) ⟨by decide, by decide⟩) ge236 at_337 (q := 338) rfl ?_
        intro T356 h357 X358 W359 V360
        have f361 := (Wx.safeW Y253 (Wx.safeW Y238 f252 W250 f252) W259 f261)
        have Y362 := Wx.wr Y262 W359 f361
        have O363 := O263.wr W359 ge236
        refine g_aload C X358 at_338 (q := 340) rfl rfl rfl ?_
        refine g_iload C X358 at_340 (q := 342) rfl rfl ?_
        refine g_iinc C X358 at_342 (q := 345) rfl rfl (z := (o32 ((offN + 1) + 1))) (r_add (offN + 1) (by omega) 1 (by decide)) (L' := #[.val (.int p0), .val (.long p1), .second, .val (.int p2), .val (.int p3), .val (.int (1 : Int32)), .val (.int v4), .val (.int (1 : Int32)), .val (.int bz16), .val (.int v19), .val (.int v22), .val (.int (o32 offN)), .val (.int (o32 mN)), .val (.int lt36), .val (.int lt42), .val (.int lt48), .val (.int lt54), .val (.int lt60), .val (.int lt66), .val (.ref b70), .val (.ref b228), .val (.int (o32 ((0 + 1) + 1))), .val (.int (o32 ((offN + 1) + 1))), .unset, .unset, .unset, .unset, .unset, .unset, .unset, .unset]) rfl ?_
        refine g_bipush C X358 at_345 (q := 347) rfl (z := (13 : Int32)) rfl ?_
        have f364 := (V260.other W359 (own_ne (Nat.lt_of_lt_of_le V82.lt (Nat.le_trans (Nat.le_trans (Nat.le_trans (Nat.le_trans (Nat.le_trans (Nat.le_trans (Nat.le_trans (Nat.le_trans (Nat.le_trans (Nat.le_trans (Nat.le_trans (Nat.le_trans (Nat.le_trans (Nat.le_trans (Nat.le_trans (Nat.le_trans (Nat.le_trans (Nat.le_of_eq (Wr.size W87).symm) (Nat.le_of_eq (Wr.size W95).symm)) (Nat.le_of_eq (Wr.size W103).symm)) (Nat.le_of_eq (Wr.size W111).symm)) (Nat.le_of_eq (Wr.size W119).symm)) (Nat.le_of_eq (Wr.size W127).symm)) (Nat.le_of_eq (Wr.size W135).symm)) (Nat.le_of_eq (Wr.size W143).symm)) (Nat.le_of_eq (Wr.size W151).symm)) (Nat.le_of_eq (Wr.size W159).symm)) (Nat.le_of_eq (Wr.size W167).symm)) (Nat.le_of_eq (Wr.size W175).symm)) (Nat.le_of_eq (Wr.size W183).symm)) (Nat.le_of_eq (Wr.size W191).symm)) (Nat.le_of_eq (Wr.size W199).symm)) (Nat.le_of_eq (Wr.size W207).symm)) (Nat.le_of_eq (Wr.size W215).symm)) (Nat.le_of_eq (Wr.size W223).symm))) g233))
        refine g_bastore C X358 f364 ⟨(r_n16 (offN + 1) (by omega)).1, own_bl (a := (offN + 1)) (b := 18) (by omega) (by decide)⟩ (r_n16 (offN + 1) (by omega)).2.1 (own_l18 (own_lb (rfl : offN + ([] : List Int32).length = offN)) (by omega)) (vs' := bV (bufL offN ((([] : List Int32) ++ [lt36]) ++ [(13 : Int32)]))) (own_bufS (own_lb (rfl : offN + ([] : List Int32).length = offN)) (by omega) ⟨by decide, by decide⟩) ge78 at_347 (q := 348) rfl ?_
        intro T365 h366 X367 W368 V369
        have f370 := (Wx.safeW Y262 (Wx.safeW Y253 f261 W259 f261) W359 f361)
        have Y371 := Wx.wr Y362 W368 f370
        have O372 := O363.wr W368 ge78
        have eV373 : ((([] : List Int32) ++ [lt36]) ++ [(13 : Int32)]) = ((([] : List Int32) ++ [lt36]) ++ [(13 : Int32)]) := rfl
        have eW374 : ((([] : List Int32) ++ [lt36]) ++ [(13 : Int32)]) = ((([] : List Int32) ++ [lt36]) ++ [(13 : Int32)]) := rfl
        exact rmJ1 hw (q0 := p0) (q1 := p1) (q3 := p2) (q4 := p3) (q5 := (1 : Int32)) (q6 := v4) (q7 := (1 : Int32)) (q8 := bz16) (q9 := v19) (q10 := v22) (c0 := lt36) (c1 := lt42) (c2 := lt48) (d0 := lt54) (d1 := lt60) (d2 := lt66) (bB := b70) (aL := b228) (offN := offN) (mN := mN) (na := ((0 + 1) + 1)) (pN := ((offN + 1) + 1)) (L1 := ((([] : List Int32) ++ [lt36]) ++ [(13 : Int32)])) C (St.mono X367 (by decide) (by decide)) Y371 O372 W (by rw [eW374]; exact V369) (by rw [eV373]; exact (V360.other W368 (Ne.symm (own_ne (Nat.lt_of_lt_of_le V82.lt (Nat.le_trans (Nat.le_trans (Nat.le_trans (Nat.le_trans (Nat.le_trans (Nat.le_trans (Nat.le_trans (Nat.le_trans (Nat.le_trans (Nat.le_trans (Nat.le_trans (Nat.le_trans (Nat.le_trans (Nat.le_trans (Nat.le_trans (Nat.le_trans (Nat.le_trans (Nat.le_of_eq (Wr.size W87).symm) (Nat.le_of_eq (Wr.size W95).symm)) (Nat.le_of_eq (Wr.size W103).symm)) (Nat.le_of_eq (Wr.size W111).symm)) (Nat.le_of_eq (Wr.size W119).symm)) (Nat.le_of_eq (Wr.size W127).symm)) (Nat.le_of_eq (Wr.size W135).symm)) (Nat.le_of_eq (Wr.size W143).symm)) (Nat.le_of_eq (Wr.size W151).symm)) (Nat.le_of_eq (Wr.size W159).symm)) (Nat.le_of_eq (Wr.size W167).symm)) (Nat.le_of_eq (Wr.size W175).symm)) (Nat.le_of_eq (Wr.size W183).symm)) (Nat.le_of_eq (Wr.size W191).symm)) (Nat.le_of_eq (Wr.size W199).symm)) (Nat.le_of_eq (Wr.size W207).symm)) (Nat.le_of_eq (Wr.size W215).symm)) (Nat.le_of_eq (Wr.size W223).symm))) g233)))) ge78 ge236 (Wx.safeW Y362 f370 W368 f370) (Wx.safeW Y362 (Wx.safeW Y262 f361 W359 f361) W368 f370) (own_ne (Nat.lt_of_lt_of_le V82.lt (Nat.le_trans (Nat.le_trans (Nat.le_trans (Nat.le_trans (Nat.le_trans (Nat.le_trans (Nat.le_trans (Nat.le_trans (Nat.le_trans (Nat.le_trans (Nat.le_trans (Nat.le_trans (Nat.le_trans (Nat.le_trans (Nat.le_trans (Nat.le_trans (Nat.le_trans (Nat.le_of_eq (Wr.size W87).symm) (Nat.le_of_eq (Wr.size W95).symm)) (Nat.le_of_eq (Wr.size W103).symm)) (Nat.le_of_eq (Wr.size W111).symm)) (Nat.le_of_eq (Wr.size W119).symm)) (Nat.le_of_eq (Wr.size W127).symm)) (Nat.le_of_eq (Wr.size W135).symm)) (Nat.le_of_eq (Wr.size W143).symm)) (Nat.le_of_eq (Wr.size W151).symm)) (Nat.le_of_eq (Wr.size W159).symm)) (Nat.le_of_eq (Wr.size W167).symm)) (Nat.le_of_eq (Wr.size W175).symm)) (Nat.le_of_eq (Wr.size W183).symm)) (Nat.le_of_eq (Wr.size W191).symm)) (Nat.le_of_eq (Wr.size W199).symm)) (Nat.le_of_eq (Wr.size W207).symm)) (Nat.le_of_eq (Wr.size W215).symm)) (Nat.le_of_eq (Wr.size W223).symm))) g233) hoff hmN (((own_la (own_la (rfl : ([] : List Int32).length = 0)))).symm.trans (congrArg List.length eV373).symm) (((own_lb (own_lb (rfl : offN + ([] : List Int32).length = offN)))).symm.trans (congrArg (fun l => offN + List.length l) eW374).symm) (by omega) (by omega) (own_gS (own_gS own_gN ⟨g37, g38⟩) ⟨by decide, by decide⟩) (own_nS (own_nS own_nN g39) (by decide)) (by simp) ⟨g55, g56⟩ g57 ⟨g61, g62⟩ g63 ⟨g67, g68⟩ g69 (Int.le_trans (by decide) hl5) (Int.le_trans hh6 (by decide)) (Int.le_trans (by decide) hl20) (Int.le_trans hh21 (by decide)) (Int.le_trans (by decide) hl23) (Int.le_trans hh24 (by decide))
  · refine g_ifY C X232 at_248 (by decide) (q := 271) (by decide) (flt hc245).2.2.2 ?_
    have hr375 : v1.toInt ≤ 0 := own_f4 hc245 (by decide)
    obtain rfl : v1 = (0 : Int32) := own_f0 hl2 hr375 (by decide)
    refine g_iload C X232 at_271 (q := 273) rfl rfl ?_
    refine g_iconst C X232 at_273 (q := 274) rfl (z := (1 : Int32)) rfl ?_
    refine g_icY C X232 at_274 (by decide) (q := 297) (by decide) (by decide) ?_
    refine g_iload C X232 at_297 (q := 299) rfl rfl ?_
    refine g_iconst C X232 at_299 (q := 300) rfl (z := (2 : Int32)) rfl ?_
    refine g_icY C X232 at_300 (by decide) (q := 323) (by decide) (by decide) ?_
    refine g_iload C X232 at_323 (q := 325) rfl rfl ?_
    by_cases hc376 : v7 = (0 : Int32)
    · obtain rfl : bz10 = 0 := hz11 (teq hc376).1
      refine g_ifY C X232 at_325 (by decide) (q := 348) (by decide) (by decide) ?_
      have eV377 : ([] : List Int32) = ([] : List Int32) := rfl
      have eW378 : ([] : List Int32) = ([] : List Int32) := rfl
      exact rmJ1 hw (q0 := p0) (q1 := p1) (q3 := p2) (q4 := p3) (q5 := (0 : Int32)) (q6 := v4) (q7 := (0 : Int32)) (q8 := bz16) (q9 := v19) (q10 := v22) (c0 := lt36) (c1 := lt42) (c2 := lt48) (d0 := lt54) (d1 := lt60) (d2 := lt66) (bB := b70) (aL := b228) (offN := offN) (mN := mN) (na := 0) (pN := offN) (L1 := ([] : List Int32)) C (St.mono X232 (by decide) (by decide)) Y238 O239 W (by rw [eW378]; exact V243) (by rw [eV377]; exact V244) ge78 ge236 (Wx.safeE Y226 (Wx.safeW Y218 f225 W223 f225) E234) (Wx.safeE Y226 sf237 E234) (own_ne (Nat.lt_of_lt_of_le V82.lt (Nat.le_trans (Nat.le_trans (Nat.le_trans (Nat.le_trans (Nat.le_trans (Nat.le_trans (Nat.le_trans (Nat.le_trans (Nat.le_trans (Nat.le_trans (Nat.le_trans (Nat.le_trans (Nat.le_trans (Nat.le_trans (Nat.le_trans (Nat.le_trans (Nat.le_trans (Nat.le_of_eq (Wr.size W87).symm) (Nat.le_of_eq (Wr.size W95).symm)) (Nat.le_of_eq (Wr.size W103).symm)) (Nat.le_of_eq (Wr.size W111).symm)) (Nat.le_of_eq (Wr.size W119).symm)) (Nat.le_of_eq (Wr.size W127).symm)) (Nat.le_of_eq (Wr.size W135).symm)) (Nat.le_of_eq (Wr.size W143).symm)) (Nat.le_of_eq (Wr.size W151).symm)) (Nat.le_of_eq (Wr.size W159).symm)) (Nat.le_of_eq (Wr.size W167).symm)) (Nat.le_of_eq (Wr.size W175).symm)) (Nat.le_of_eq (Wr.size W183).symm)) (Nat.le_of_eq (Wr.size W191).symm)) (Nat.le_of_eq (Wr.size W199).symm)) (Nat.le_of_eq (Wr.size W207).symm)) (Nat.le_of_eq (Wr.size W215).symm)) (Nat.le_of_eq (Wr.size W223).symm))) g233) hoff hmN (((rfl : ([] : List Int32).length = 0)).symm.trans (congrArg List.length eV377).symm) (((rfl : offN + ([] : List Int32).length = offN)).symm.trans (congrArg (fun l => offN + List.length l) eW378).symm) (by omega) (by omega) own_gN own_nN (by simp) ⟨g55, g56⟩ g57 ⟨g61, g62⟩ g63 ⟨g67, g68⟩ g69 (Int.le_trans (by decide) hl5) (Int.le_trans hh6 (by decide)) (Int.le_trans (by decide) hl20) (Int.le_trans hh21 (by decide)) (Int.le_trans (by decide) hl23) (Int.le_trans hh24 (by decide))
    · obtain rfl : bz10 = 1 := hz12 (feq hc376).1
      refine g_ifN C X232 at_325 (q := 328) rfl (by decide) ?_
      refine g_aload C X232 at_328 (q := 330) rfl rfl rfl ?_
      refine g_iload C X232 at_330 (q := 332) rfl rfl ?_
      refine g_iinc C X232 at_332 (q := 335) rfl rfl (z := (o32 (0 + 1))) (r_add 0 (by omega) 1 (by decide)) (L' := #[.val (.int p0), .val (.long p1), .second, .val (.int p2), .val (.int p3), .val (.int (0 : Int32)), .val (.int v4), .val (.int (1 : Int32)), .val (.int bz16), .val (.int v19), .val (.int v22), .val (.int (o32 offN)), .val (.int (o32 mN)), .val (.int lt36), .val (.int lt42), .val (.int lt48), .val (.int lt54), .val (.int lt60), .val (.int lt66), .val (.ref b70), .val (.ref b228), .val (.int (o32 (0 + 1))), .val (.int (o32 offN)), .unset, .unset, .unset, .unset, .unset, .unset, .unset, .unset]) rfl ?_
      refine g_bipush C X232 at_335 (q := 337) rfl (z := (13 : Int32)) rfl ?_
      refine g_bastore C X232 V244 ⟨(r_n16 0 (by omega)).1, own_bl (a := 0) (b := 8) (by omega) (by decide)⟩ (r_n16 0 (by omega)).2.1 (own_l8 (rfl : ([] : List Int32).length = 0) (by omega)) (vs' := bV (allL (([] : List Int32) ++ [(13 : Int32)]))) (own_allS (rfl : ([] : List Int32).length = 0) (by omega) ⟨by decide, by decide⟩) ge236 at_337 (q := 338) rfl ?_
      intro T379 h380 X381 W382 V383
      have f384 := (Wx.safeE Y226 sf237 E234)
      have Y385 := Wx.wr Y238 W382 f384
      have O386 := O239.wr W382 ge236
      refine g_aload C X381 at_338 (q := 340) rfl rfl rfl ?_
      refine g_iload C X381 at_340 (q := 342) rfl rfl ?_
      refine g_iinc C X381 at_342 (q := 345) rfl rfl (z := (o32 (offN + 1))) (r_add offN (by omega) 1 (by decide)) (L' := #[.val (.int p0), .val (.long p1), .second, .val (.int p2), .val (.int p3), .val (.int (0 : Int32)), .val (.int v4), .val (.int (1 : Int32)), .val (.int bz16), .val (.int v19), .val (.int v22), .val (.int (o32 offN)), .val (.int (o32 mN)), .val (.int lt36), .val (.int lt42), .val (.int lt48), .val (.int lt54), .val (.int lt60), .val (.int lt66), .val (.ref b70), .val (.ref b228), .val (.int (o32 (0 + 1))), .val (.int (o32 (offN + 1))), .unset, .unset, .unset, .unset, .unset, .unset, .unset, .unset]) rfl ?_
      refine g_bipush C X381 at_345 (q := 347) rfl (z := (13 : Int32)) rfl ?_
      have f387 := (V243.other W382 (own_ne (Nat.lt_of_lt_of_le V82.lt (Nat.le_trans (Nat.le_trans (Nat.le_trans (Nat.le_trans (Nat.le_trans (Nat.le_trans (Nat.le_trans (Nat.le_trans (Nat.le_trans (Nat.le_trans (Nat.le_trans (Nat.le_trans (Nat.le_trans (Nat.le_trans (Nat.le_trans (Nat.le_trans (Nat.le_trans (Nat.le_of_eq (Wr.size W87).symm) (Nat.le_of_eq (Wr.size W95).symm)) (Nat.le_of_eq (Wr.size W103).symm)) (Nat.le_of_eq (Wr.size W111).symm)) (Nat.le_of_eq (Wr.size W119).symm)) (Nat.le_of_eq (Wr.size W127).symm)) (Nat.le_of_eq (Wr.size W135).symm)) (Nat.le_of_eq (Wr.size W143).symm)) (Nat.le_of_eq (Wr.size W151).symm)) (Nat.le_of_eq (Wr.size W159).symm)) (Nat.le_of_eq (Wr.size W167).symm)) (Nat.le_of_eq (Wr.size W175).symm)) (Nat.le_of_eq (Wr.size W183).symm)) (Nat.le_of_eq (Wr.size W191).symm)) (Nat.le_of_eq (Wr.size W199).symm)) (Nat.le_of_eq (Wr.size W207).symm)) (Nat.le_of_eq (Wr.size W215).symm)) (Nat.le_of_eq (Wr.size W223).symm))) g233))
      refine g_bastore C X381 f387 ⟨(r_n16 offN (by omega)).1, own_bl (a := offN) (b := 18) (by omega) (by decide)⟩ (r_n16 offN (by omega)).2.1 (own_l18 (rfl : offN + ([] : List Int32).length = offN) (by omega)) (vs' := bV (bufL offN (([] : List Int32) ++ [(13 : Int32)]))) (own_bufS (rfl : offN + ([] : List Int32).length = offN) (by omega) ⟨by decide, by decide⟩) ge78 at_347 (q := 348) rfl ?_
      intro T388 h389 X390 W391 V392
      have f393 := (Wx.safeW Y238 (Wx.safeE Y226 (Wx.safeW Y218 f225 W223 f225) E234) W382 f384)
      have Y394 := Wx.wr Y385 W391 f393
      have O395 := O386.wr W391 ge78
      have eV396 : (([] : List Int32) ++ [(13 : Int32)]) = (([] : List Int32) ++ [(13 : Int32)]) := rfl
      have eW397 : (([] : List Int32) ++ [(13 : Int32)]) = (([] : List Int32) ++ [(13 : Int32)]) := rfl
      exact rmJ1 hw (q0 := p0) (q1 := p1) (q3 := p2) (q4 := p3) (q5 := (0 : Int32)) (q6 := v4) (q7 := (1 : Int32)) (q8 := bz16) (q9 := v19) (q10 := v22) (c0 := lt36) (c1 := lt42) (c2 := lt48) (d0 := lt54) (d1 := lt60) (d2 := lt66) (bB := b70) (aL := b228) (offN := offN) (mN := mN) (na := (0 + 1)) (pN := (offN + 1)) (L1 := (([] : List Int32) ++ [(13 : Int32)])) C (St.mono X390 (by decide) (by decide)) Y394 O395 W (by rw [eW397]; exact V392) (by rw [eV396]; exact (V383.other W391 (Ne.symm (own_ne (Nat.lt_of_lt_of_le V82.lt (Nat.le_trans (Nat.le_trans (Nat.le_trans (Nat.le_trans (Nat.le_trans (Nat.le_trans (Nat.le_trans (Nat.le_trans (Nat.le_trans (Nat.le_trans (Nat.le_trans (Nat.le_trans (Nat.le_trans (Nat.le_trans (Nat.le_trans (Nat.le_trans (Nat.le_trans (Nat.le_of_eq (Wr.size W87).symm) (Nat.le_of_eq (Wr.size W95).symm)) (Nat.le_of_eq (Wr.size W103).symm)) (Nat.le_of_eq (Wr.size W111).symm)) (Nat.le_of_eq (Wr.size W119).symm)) (Nat.le_of_eq (Wr.size W127).symm)) (Nat.le_of_eq (Wr.size W135).symm)) (Nat.le_of_eq (Wr.size W143).symm)) (Nat.le_of_eq (Wr.size W151).symm)) (Nat.le_of_eq (Wr.size W159).symm)) (Nat.le_of_eq (Wr.size W167).symm)) (Nat.le_of_eq (Wr.size W175).symm)) (Nat.le_of_eq (Wr.size W183).symm)) (Nat.le_of_eq (Wr.size W191).symm)) (Nat.le_of_eq (Wr.size W199).symm)) (Nat.le_of_eq (Wr.size W207).symm)) (Nat.le_of_eq (Wr.size W215).symm)) (Nat.le_of_eq (Wr.size W223).symm))) g233)))) ge78 ge236 (Wx.safeW Y385 f393 W391 f393) (Wx.safeW Y385 (Wx.safeW Y238 f384 W382 f384) W391 f393) (own_ne (Nat.lt_of_lt_of_le V82.lt (Nat.le_trans (Nat.le_trans (Nat.le_trans (Nat.le_trans (Nat.le_trans (Nat.le_trans (Nat.le_trans (Nat.le_trans (Nat.le_trans (Nat.le_trans (Nat.le_trans (Nat.le_trans (Nat.le_trans (Nat.le_trans (Nat.le_trans (Nat.le_trans (Nat.le_trans (Nat.le_of_eq (Wr.size W87).symm) (Nat.le_of_eq (Wr.size W95).symm)) (Nat.le_of_eq (Wr.size W103).symm)) (Nat.le_of_eq (Wr.size W111).symm)) (Nat.le_of_eq (Wr.size W119).symm)) (Nat.le_of_eq (Wr.size W127).symm)) (Nat.le_of_eq (Wr.size W135).symm)) (Nat.le_of_eq (Wr.size W143).symm)) (Nat.le_of_eq (Wr.size W151).symm)) (Nat.le_of_eq (Wr.size W159).symm)) (Nat.le_of_eq (Wr.size W167).symm)) (Nat.le_of_eq (Wr.size W175).symm)) (Nat.le_of_eq (Wr.size W183).symm)) (Nat.le_of_eq (Wr.size W191).symm)) (Nat.le_of_eq (Wr.size W199).symm)) (Nat.le_of_eq (Wr.size W207).symm)) (Nat.le_of_eq (Wr.size W215).symm)) (Nat.le_of_eq (Wr.size W223).symm))) g233) hoff hmN (((own_la (rfl : ([] : List Int32).length = 0))).symm.trans (congrArg List.length eV396).symm) (((own_lb (rfl : offN + ([] : List Int32).length = offN))).symm.trans (congrArg (fun l => offN + List.length l) eW397).symm) (by omega) (by omega) (own_gS own_gN ⟨by decide, by decide⟩) (own_nS own_nN (by decide)) (by simp) ⟨g55, g56⟩ g57 ⟨g61, g62⟩ g63 ⟨g67, g68⟩ g69 (Int.le_trans (by decide) hl5) (Int.le_trans hh6 (by decide)) (Int.le_trans (by decide) hl20) (Int.le_trans hh21 (by decide)) (Int.le_trans (by decide) hl23) (Int.le_trans hh24 (by decide))
set_option maxRecDepth 65536 in
set_option maxHeartbeats 40000000 in
theorem comes_1 {Post : Tables → Env → Array Value → State → Outcome → State → Prop} (hpost : ∀ tb e args s v u, (limb_1_1.after args s (.returned v) u = true ∧ limb_1_2.after args s (.returned v) u = true ∧ True) → ReturnedEndW s (.returned v) u (Jvm.fieldLocs frame_1_writes args s ++ Jvm.arrayLocs frame_1_arrays args s ++ Jvm.staticLocs frame_1_statics s) 32 1216 → Post tb e args s (.returned v) u) :
    ArmFor flags0 classFile x code maxLocals ret World_1 tables_1 room_1 Calls_1 rest_1 Pre_1 Post := by
  intro l hfl _ _ p e ha hc hk s m args below hf hA hF happ hP
  obtain ⟨hcalls, hrest, hpre⟩ := hP
  obtain ⟨-, -, -, hnamed, -, -, -, hat⟩ := (Spec.applies_iff hf).mp happ
  obtain ⟨hg, hn⟩ := and_e (Cond.before_iff.mp (show (Jvm.Cond.and given_1 narrow_1).before args s = true from hpre))
  obtain ⟨y1, y2⟩ := and_e hg
  obtain ⟨y3, y4⟩ := and_e y2
  obtain ⟨y5, y6⟩ := and_e y4
  obtain ⟨y7, y8⟩ := and_e y6
  obtain ⟨u0, u1, u2, u3, rfl⟩ : ∃ u0 u1 u2 u3 : Value, args = #[u0, u1, u2, u3] := by
    have hs : args.size = 4 := by simpa [Cond.value, given_1] using y1
    obtain ⟨L⟩ := args
    match L, hs with
    | [u0, u1, u2, u3], _ => exact ⟨u0, u1, u2, u3, rfl⟩
  have hw := fun d (hd : d ∈ tables_1) => atoms_spec (ws := Jvm.Cond.code x code maxLocals ret :: tables_1) hat d (List.mem_cons_of_mem _ hd)
  have hfit : Fit s := fun {y c} hc i hi => by
    obtain ⟨ha, rfl⟩ := Array.getElem?_eq_some_iff.mp hc
    have q := List.all_eq_true.mp ((Array.all_eq_true_iff_forall_mem.mp hF) _ (Array.getElem_mem ha)) i (List.mem_range.mpr hi)
    simpa [Array.getElem?_eq_getElem hi] using q
  obtain ⟨hsets, hown0⟩ := atoms_of _ (rest_1_c_eq ▸ (show rest_1_c.before _ s = true from hrest))
  have hr0 := Cond.before_iff.mp hown0
  obtain ⟨i0, ei0⟩ := is_v y3
  obtain rfl : u0 = (.int i0) := Option.some.inj ei0
  obtain ⟨i1, ei1⟩ := isL_v y5
  obtain rfl : u1 = (.long i1) := Option.some.inj ei1
  obtain ⟨i2, ei2⟩ := is_v y7
  obtain rfl : u2 = (.int i2) := Option.some.inj ei2
  obtain ⟨i3, ei3⟩ := is_v y8
  obtain rfl : u3 = (.int i3) := Option.some.inj ei3
  obtain ⟨cz, ecz⟩ := is_v (Cond.before_iff.mp (hsets _ (List.mem_of_getElem? (i := 7) rfl)))
  have SCz : Sta s s.heap "java/lang/String" "COMPACT_STRINGS" "Z" (.int cz) := Sta.start ecz (Or.inl (hsets _ (List.mem_of_getElem? (i := 6) rfl)))
  have hcz : ¬ cz = 0 := gotF (Cond.eq_ints ecz (Term.int_eval (0))) (not_v (Cond.before_iff.mp (hsets _ (List.mem_of_getElem? (i := 8) rfl))))
  obtain ⟨fm, efm, hfm⟩ := isR_v (Cond.before_iff.mp (hsets _ (List.mem_of_getElem? (i := 14) rfl)))
  have SFm : Sta s s.heap "jdk/internal/util/Preconditions" "SIOOBE_FORMATTER" "Ljava/util/function/BiFunction;" fm := Sta.start efm (Or.inl (hsets _ (List.mem_of_getElem? (i := 13) rfl)))
  obtain ⟨cu, ecu⟩ := exa_v (Cond.before_iff.mp (hsets _ (List.mem_of_getElem? (i := 5) rfl)))
  have SU1 : Sta s s.heap "java/nio/charset/StandardCharsets" "UTF_8" "Ljava/nio/charset/Charset;" (.ref cu) := Sta.start ecu (Or.inl (hsets _ (List.mem_of_getElem? (i := 1) rfl)))
  have SU2 : Sta s s.heap "sun/nio/cs/UTF_8" "INSTANCE" "Lsun/nio/cs/UTF_8;" (.ref cu) := Sta.start (own_eqT ecu (Cond.before_iff.mp (hsets _ (List.mem_of_getElem? (i := 4) rfl)))) (Or.inl (hsets _ (List.mem_of_getElem? (i := 3) rfl)))
  have ECu : Exa s s.heap cu "sun/nio/cs/UTF_8" := Exa.start ecu (Cond.before_iff.mp (hsets _ (List.mem_of_getElem? (i := 5) rfl)))
  have hM := rmLaw (l := l) hw (p0 := i0) (p1 := i1) (p2 := i2) (p3 := i3) (Old.start s) (show Wd s cz fm cu from ⟨SCz, hcz, SFm, hfm, SU1, SU2, ECu⟩)
  have hCH : CHv s consts_1 s.vm s.heap := CHv.start (own_EL hw) (fun p hp => hcalls.1 p hp) (hsets _ (List.mem_of_getElem? (i := 8) rfl)) (w5 hw) (w37 hw)
  obtain ⟨n, o, h1, h2, h3, _, L, rfl, ⟨N, _, rfl, rfl, -⟩, -, hq⟩ := hM tables_1 p e ha hc hk s m _ below hf ((Spec.applies_iff_loose hf).mp happ).1 ⟨rfl, State.Warmed39.refl s, rfl, hCH⟩ trivial
  refine ⟨n, _, h1, h2, h3, hpost _ _ _ _ _ _ ⟨Cond.after_iff.mpr rfl, Cond.after_iff.mpr (eq_i res_at (Term.int_eval (1)) rfl), trivial⟩ ⟨hq.1, hq.2.1, hq.2.2.1, (hq.2.2.2.sift fun y hy => Or.inr (N y hy)).mono (by decide) (by decide)⟩⟩
theorem main_1_1 : Claimed_1_1 := comes_1 fun _ _ _ _ _ _ h hF => ⟨h.1, hF⟩
theorem main_1_2 : Claimed_1_2 := comes_1 fun _ _ _ _ _ _ h hF => ⟨h.2.1, hF⟩
end Jvm.Pilot.@@N@@
namespace Jvm.Pilot.@@N@@
open Jvm Jvm.ClassFile Sem Op Lib Jvm.Free Jvm.Stand Jvm.Pilot.@@N@@.Jvm.D
/-! MADE BY PROGRAM (witnessworld.py) out of the Statement's table words and the real class files: 27 classes; the members and pool entries that the words name. The judged class is class 1, her method 1. -/
namespace start1
open Jvm.ClassFile
def u (s : String) : CpInfo := .utf8 (stringToUtf16 s)
/-- a pool by its gaps: so many unusable entries, then the entry; so many at the end -/
def gap : Nat → List CpInfo → List CpInfo
  | 0, r => r
  | n + 1, r => .unusable :: gap n r
def poolList (es : List (Nat × CpInfo)) (last : Nat) : List CpInfo := es.foldr (fun e r => gap e.1 (e.2 :: r)) (gap last [])
def pool (es : List (Nat × CpInfo)) (last : Nat) : Array CpInfo := ⟨poolList es last⟩
def fileOf (pool : Array CpInfo) (this : Nat) (attrs : Array Attribute := #[]) (ms : Array MethodInfo := #[]) (fl : Nat := 33) (sup : Nat := 0) (ifs : Array Nat := #[]) (fds : Array FieldInfo := #[]) : ClassFile where
  minorVersion := 0
  majorVersion := 65
  constantPool := pool
  accessFlags := fl
  thisClass := this
  superClass := sup
  interfaces := ifs
  fields := fds
  methods := ms
  attributes := attrs
def plain (name : String) (sup : Option ClassId) : Class where
  name := name
  kind := .ordinary
  loader := none
  accessFlags := 33
  super := sup
  interfaces := #[]
  cf := none
  fields := #[]
  methods := #[]
  instanceTypes := #[]
  staticTypes := #[]
  resolved := #[]
  callSites := []
  init := .initialized
  statics := none
  mirror := none

def pool0 : Array CpInfo := pool [(5, u "<init>"), (0, u "()V"), (1, .class_ 10), (1, u "java/lang/Object"), (85, u "clone"), (0, u "()Ljava/lang/Object;")] 26

def k0c0 : Code := { maxStack := 0, maxLocals := 1, code := object_method_1_code, exceptionTable := #[], attributes := #[] }
def k0m0 : Method := { name := "<init>", desc := "()V", sig := { parameters := [], returnType := none }, accessFlags := 1, code := some k0c0 }
def k0m1 : Method := { name := "clone", desc := "()Ljava/lang/Object;", sig := { parameters := [], returnType := some (.object "java/lang/Object") }, accessFlags := 260, code := none }
/-- java/lang/Object -/
def k0 : Class := { plain "java/lang/Object" none with
  accessFlags := 33
  interfaces := #[]
  cf := some (fileOf pool0 8 #[] #[{ accessFlags := 1, nameIndex := 5, descriptorIndex := 6, attributes := #[] }, { accessFlags := 260, nameIndex := 96, descriptorIndex := 97, attributes := #[] }] 33 0 #[] #[])
  fields := #[]
  methods := #[k0m0, k0m1]
  instanceTypes := #[]
  staticTypes := #[]
  resolved := Array.replicate 124 none
  statics := none }

def pool1 : Array CpInfo := pool [(2, .class_ 4), (1, u "java/lang/Object"), (0, u "<init>"), (0, u "()V"), (0, .methodref 8 9), (0, .class_ 10), (0, .nameAndType 11 12), (0, u "com/example/isolate_to_replay/isolatetoreplay/command/LastLineAcceptPinLaw"), (0, u "letter"), (0, u "(J)B"), (0, .integer 2147483647), (0, .class_ 15), (0, u "com/example/isolate_to_replay/isolatetoreplay/command/LastLine"), (0, .methodref 14 17), (0, .nameAndType 5 18), (0, u "(I)V"), (0, .methodref 14 20), (0, .nameAndType 21 22), (0, u "accept"), (0, u "([BII)V"), (0, .methodref 14 24), (0, .nameAndType 25 26), (0, u "text"), (0, u "()Ljava/lang/String;"), (0, .methodref 8 28), (0, .nameAndType 29 30), (0, u "kept"), (0, u "([BIII)I"), (0, .methodref 8 32), (0, .nameAndType 33 34), (0, u "matches"), (0, u "(Ljava/lang/String;[BII)Z"), (0, .long 127), (1, .methodref 38 39), (0, .class_ 40), (0, .nameAndType 41 42), (0, u "java/lang/Math"), (0, u "min"), (0, u "(II)I"), (0, .methodref 44 45), (0, .class_ 46), (0, .nameAndType 47 48), (0, u "java/lang/String"), (0, u "length"), (0, u "()I"), (0, .methodref 44 50), (0, .nameAndType 51 52), (0, u "charAt"), (0, u "(I)C"), (2, u "law"), (0, u "(IJII)Z")] 5

def k1m0 : Method := { name := "<init>", desc := "()V", sig := { parameters := [], returnType := none }, accessFlags := 1, code := none }
def k1c1 : Code := { maxStack := 5, maxLocals := 31, code := code, exceptionTable := #[], attributes := #[] }
def k1m1 : Method := { name := "law", desc := "(IJII)Z", sig := { parameters := [.int, .long, .int, .int], returnType := some .boolean }, accessFlags := 9, code := some k1c1 }
def k1c2 : Code := { maxStack := 4, maxLocals := 3, code := method_3_code, exceptionTable := #[], attributes := #[] }
def k1m2 : Method := { name := "letter", desc := "(J)B", sig := { parameters := [.long], returnType := some .byte }, accessFlags := 10, code := some k1c2 }
def k1c3 : Code := { maxStack := 3, maxLocals := 5, code := method_4_code, exceptionTable := #[], attributes := #[] }
def k1m3 : Method := { name := "kept", desc := "([BIII)I", sig := { parameters := [(.array .byte), .int, .int, .int], returnType := some .int }, accessFlags := 10, code := some k1c3 }
def k1c4 : Code := { maxStack := 4, maxLocals := 4, code := method_5_code, exceptionTable := #[], attributes := #[] }
def k1m4 : Method := { name := "matches", desc := "(Ljava/lang/String;[BII)Z", sig := { parameters := [(.object "java/lang/String"), (.array .byte), .int, .int], returnType := some .boolean }, accessFlags := 10, code := some k1c4 }
/-- com/example/isolate_to_replay/isolatetoreplay/command/LastLineAcceptPinLaw -/
def k1 : Class := { plain "com/example/isolate_to_replay/isolatetoreplay/command/LastLineAcceptPinLaw" (some 0) with
  accessFlags := 49
  interfaces := #[]
  cf := some (fileOf pool1 8 #[] #[{ accessFlags := 1, nameIndex := 5, descriptorIndex := 6, attributes := #[] }, { accessFlags := 9, nameIndex := 55, descriptorIndex := 56, attributes := #[] }, { accessFlags := 10, nameIndex := 11, descriptorIndex := 12, attributes := #[] }, { accessFlags := 10, nameIndex := 29, descriptorIndex := 30, attributes := #[] }, { accessFlags := 10, nameIndex := 33, descriptorIndex := 34, attributes := #[] }] 49 2 #[] #[])
  fields := #[]
  methods := #[k1m0, k1m1, k1m2, k1m3, k1m4]
  instanceTypes := #[]
  staticTypes := #[]
  resolved := Array.replicate 62 none
  statics := none }

def pool2 : Array CpInfo := pool [(1, .methodref 2 3), (0, .class_ 4), (0, .nameAndType 5 6), (0, u "java/lang/Object"), (0, u "<init>"), (0, u "()V"), (0, .fieldref 8 9), (0, .class_ 10), (0, .nameAndType 11 12), (0, u "com/example/isolate_to_replay/isolatetoreplay/command/LastLine"), (0, u "last"), (0, u "[B"), (0, .fieldref 8 14), (0, .nameAndType 15 12), (0, u "current"), (0, .methodref 8 17), (0, .nameAndType 18 6), (0, u "endLine"), (0, .fieldref 8 20), (0, .nameAndType 21 22), (0, u "currentLength"), (0, u "I"), (0, .methodref 8 24), (0, .nameAndType 25 26), (0, u "sequenceLength"), (0, u "(B)I"), (0, .class_ 28), (0, u "java/lang/String"), (0, .fieldref 30 31), (0, .class_ 32), (0, .nameAndType 33 34), (0, u "java/nio/charset/StandardCharsets"), (0, u "UTF_8"), (0, u "Ljava/nio/charset/Charset;"), (0, .methodref 27 36), (0, .nameAndType 5 37), (0, u "([BIILjava/nio/charset/Charset;)V"), (0, .methodref 39 40), (0, .class_ 41), (0, .nameAndType 42 43), (0, u "java/util/Arrays"), (0, u "copyOf"), (0, u "([BI)[B"), (0, u "(I)V"), (2, u "accept"), (0, u "([BII)V"), (1, u "text"), (0, u "()Ljava/lang/String;")] 2

def k2c0 : Code := { maxStack := 2, maxLocals := 2, code := prog_5_method_1_code, exceptionTable := #[], attributes := #[] }
def k2m0 : Method := { name := "<init>", desc := "(I)V", sig := { parameters := [.int], returnType := none }, accessFlags := 0, code := some k2c0 }
def k2c1 : Code := { maxStack := 5, maxLocals := 6, code := prog_5_method_2_code, exceptionTable := #[], attributes := #[] }
def k2m1 : Method := { name := "accept", desc := "([BII)V", sig := { parameters := [(.array .byte), .int, .int], returnType := none }, accessFlags := 0, code := some k2c1 }
def k2c2 : Code := { maxStack := 6, maxLocals := 3, code := prog_5_method_3_code, exceptionTable := #[], attributes := #[] }
def k2m2 : Method := { name := "text", desc := "()Ljava/lang/String;", sig := { parameters := [], returnType := some (.object "java/lang/String") }, accessFlags := 0, code := some k2c2 }
def k2c3 : Code := { maxStack := 3, maxLocals := 2, code := prog_5_method_4_code, exceptionTable := #[], attributes := #[] }
def k2m3 : Method := { name := "endLine", desc := "()V", sig := { parameters := [], returnType := none }, accessFlags := 2, code := some k2c3 }
def k2c4 : Code := { maxStack := 2, maxLocals := 1, code := prog_5_method_5_code, exceptionTable := #[], attributes := #[] }
def k2m4 : Method := { name := "sequenceLength", desc := "(B)I", sig := { parameters := [.byte], returnType := some .int }, accessFlags := 10, code := some k2c4 }
/-- com/example/isolate_to_replay/isolatetoreplay/command/LastLine -/
def k2 : Class := { plain "com/example/isolate_to_replay/isolatetoreplay/command/LastLine" (some 0) with
  accessFlags := 32
  interfaces := #[]
  cf := some (fileOf pool2 8 #[] #[{ accessFlags := 0, nameIndex := 5, descriptorIndex := 44, attributes := #[] }, { accessFlags := 0, nameIndex := 47, descriptorIndex := 48, attributes := #[] }, { accessFlags := 0, nameIndex := 50, descriptorIndex := 51, attributes := #[] }, { accessFlags := 2, nameIndex := 18, descriptorIndex := 6, attributes := #[] }, { accessFlags := 10, nameIndex := 25, descriptorIndex := 26, attributes := #[] }] 32 2 #[] #[{ accessFlags := 18, nameIndex := 15, descriptorIndex := 12, attributes := #[] }, { accessFlags := 2, nameIndex := 21, descriptorIndex := 22, attributes := #[] }, { accessFlags := 2, nameIndex := 11, descriptorIndex := 12, attributes := #[] }])
  fields := #[{ name := "current", type := (.array .byte), accessFlags := 18, slot := 0, constantValue := 0 }, { name := "currentLength", type := .int, accessFlags := 2, slot := 1, constantValue := 0 }, { name := "last", type := (.array .byte), accessFlags := 2, slot := 2, constantValue := 0 }]
  methods := #[k2m0, k2m1, k2m2, k2m3, k2m4]
  instanceTypes := #[(.array .byte), .int, (.array .byte)]
  staticTypes := #[]
  resolved := Array.replicate 54 none
  statics := none }

def pool3 : Array CpInfo := pool [(1, .class_ 2), (0, u "java/io/Serializable"), (0, .class_ 4), (0, u "java/lang/Object")] 2

/-- java/io/Serializable -/
def k3 : Class := { plain "java/io/Serializable" (some 0) with
  accessFlags := 1537
  interfaces := #[]
  cf := some (fileOf pool3 1 #[] #[] 1537 3 #[] #[])
  fields := #[]
  methods := #[]
  instanceTypes := #[]
  staticTypes := #[]
  resolved := Array.replicate 7 none
  statics := none }

def pool4 : Array CpInfo := pool [(1, .class_ 2), (0, u "java/lang/Comparable"), (0, .class_ 4), (0, u "java/lang/Object")] 7

/-- java/lang/Comparable -/
def k4 : Class := { plain "java/lang/Comparable" (some 0) with
  accessFlags := 1537
  interfaces := #[]
  cf := some (fileOf pool4 1 #[] #[] 1537 3 #[] #[])
  fields := #[]
  methods := #[]
  instanceTypes := #[]
  staticTypes := #[]
  resolved := Array.replicate 12 none
  statics := none }

def pool5 : Array CpInfo := pool [(2, .class_ 4), (1, u "java/lang/CharSequence"), (42, .class_ 48), (0, u "java/lang/CharSequence$1CodePointIterator"), (10, .class_ 60), (0, u "java/lang/CharSequence$1CharIterator"), (5, .class_ 67), (0, u "java/lang/Object")] 63

/-- java/lang/CharSequence -/
def k5 : Class := { plain "java/lang/CharSequence" (some 0) with
  accessFlags := 1537
  interfaces := #[]
  cf := some (fileOf pool5 2 #[.nestMembers #[47, 59]] #[] 1537 66 #[] #[])
  fields := #[]
  methods := #[]
  instanceTypes := #[]
  staticTypes := #[]
  resolved := Array.replicate 131 none
  statics := none }

def pool6 : Array CpInfo := pool [(1, .class_ 2), (0, u "java/lang/constant/Constable"), (0, .class_ 4), (0, u "java/lang/Object")] 6

/-- java/lang/constant/Constable -/
def k6 : Class := { plain "java/lang/constant/Constable" (some 0) with
  accessFlags := 1537
  interfaces := #[]
  cf := some (fileOf pool6 1 #[] #[] 1537 3 #[] #[])
  fields := #[]
  methods := #[]
  instanceTypes := #[]
  staticTypes := #[]
  resolved := Array.replicate 11 none
  statics := none }

def pool7 : Array CpInfo := pool [(1, .class_ 2), (0, u "java/lang/constant/ConstantDesc"), (0, .class_ 4), (0, u "java/lang/Object")] 32

/-- java/lang/constant/ConstantDesc -/
def k7 : Class := { plain "java/lang/constant/ConstantDesc" (some 0) with
  accessFlags := 1537
  interfaces := #[]
  cf := some (fileOf pool7 1 #[] #[] 1537 3 #[] #[])
  fields := #[]
  methods := #[]
  instanceTypes := #[]
  staticTypes := #[]
  resolved := Array.replicate 37 none
  statics := none }

def pool8 : Array CpInfo := pool [(1, .methodref 2 3), (0, .class_ 4), (0, .nameAndType 5 6), (0, u "java/lang/Object"), (0, u "<init>"), (0, u "()V"), (0, .string 8), (0, u ""), (0, .fieldref 10 11), (0, .class_ 12), (0, .nameAndType 13 14), (0, u "java/lang/String"), (0, u "value"), (0, u "[B"), (0, .fieldref 10 16), (0, .nameAndType 17 18), (0, u "coder"), (0, u "B"), (2, u "hash"), (0, u "I"), (2, u "hashIsZero"), (0, u "Z"), (7, .methodref 10 35), (0, .nameAndType 36 37), (0, u "checkBoundsOffCount"), (0, u "(III)I"), (0, .fieldref 10 39), (0, .nameAndType 40 26), (0, u "COMPACT_STRINGS"), (13, .methodref 55 56), (0, .class_ 57), (0, .nameAndType 58 59), (0, u "java/util/Arrays"), (0, u "copyOfRange"), (0, u "([BII)[B"), (15, .methodref 10 76), (0, .nameAndType 5 77), (0, u "(Ljava/nio/charset/Charset;[BII)V"), (0, .methodref 79 80), (0, .class_ 81), (0, .nameAndType 82 83), (0, u "java/util/Objects"), (0, u "requireNonNull"), (0, u "(Ljava/lang/Object;)Ljava/lang/Object;"), (0, .class_ 85), (0, u "java/nio/charset/Charset"), (0, .fieldref 87 88), (0, .class_ 89), (0, .nameAndType 90 91), (0, u "sun/nio/cs/UTF_8"), (0, u "INSTANCE"), (0, u "Lsun/nio/cs/UTF_8;"), (0, .methodref 93 94), (0, .class_ 95), (0, .nameAndType 96 97), (0, u "java/lang/StringCoding"), (0, u "countPositives"), (0, u "([BII)I"), (9, .class_ 109), (1, u "java/lang/StringLatin1"), (32, u "()Z"), (95, u "([BIILjava/nio/charset/Charset;)V"), (95, u "()I"), (0, .methodref 10 336), (0, .nameAndType 17 337), (0, u "()B"), (25, u "([BI)C"), (27, u "(II)V"), (35, u "(I)C"), (64, .methodref 10 493), (0, .nameAndType 494 142), (0, u "isLatin1"), (0, .methodref 107 496), (0, .nameAndType 497 363), (0, u "charAt"), (3, u "checkIndex"), (5, u "length"), (67, .class_ 576), (0, u "java/lang/CharSequence"), (22, u "CASE_INSENSITIVE_ORDER"), (0, u "Ljava/util/Comparator;"), (452, .fieldref 1054 1055), (0, .class_ 1056), (0, .nameAndType 1057 1058), (0, u "jdk/internal/util/Preconditions"), (0, u "SIOOBE_FORMATTER"), (0, u "Ljava/util/function/BiFunction;"), (0, .methodref 1054 1060), (0, .nameAndType 501 1061), (0, u "(IILjava/util/function/BiFunction;)I"), (2, u "(IIILjava/util/function/BiFunction;)I"), (0, .methodref 1054 1066), (0, .nameAndType 1067 1064), (0, u "checkFromIndexSize"), (33, u "serialPersistentFields"), (0, u "[Ljava/io/ObjectStreamField;"), (0, .class_ 1104), (0, u "java/lang/String$CaseInsensitiveComparator"), (1, .class_ 1107), (0, u "java/io/Serializable"), (0, .class_ 1109), (0, u "java/lang/Comparable"), (0, .class_ 1111), (0, u "java/lang/constant/Constable"), (0, .class_ 1113), (0, u "java/lang/constant/ConstantDesc"), (2, u "serialVersionUID"), (0, u "J"), (3, u "REPL"), (0, u "C"), (2, u "LATIN1"), (1, u "UTF16")] 323

def k8m0 : Method := { name := "<init>", desc := "()V", sig := { parameters := [], returnType := none }, accessFlags := 1, code := none }
def k8c1 : Code := { maxStack := 6, maxLocals := 5, code := jdk_42_method_10_code, exceptionTable := #[], attributes := #[] }
def k8m1 : Method := { name := "<init>", desc := "([BIILjava/nio/charset/Charset;)V", sig := { parameters := [(.array .byte), .int, .int, (.object "java/nio/charset/Charset")], returnType := none }, accessFlags := 1, code := some k8c1 }
def k8c2 : Code := { maxStack := 6, maxLocals := 11, code := jdk_42_method_11_code, exceptionTable := #[{ startPc := 800, endPc := 813, handlerPc := 816, catchType := 202 }], attributes := #[] }
def k8m2 : Method := { name := "<init>", desc := "(Ljava/nio/charset/Charset;[BII)V", sig := { parameters := [(.object "java/nio/charset/Charset"), (.array .byte), .int, .int], returnType := none }, accessFlags := 2, code := some k8c2 }
def k8c3 : Code := { maxStack := 2, maxLocals := 1, code := jdk_42_method_54_code, exceptionTable := #[], attributes := #[] }
def k8m3 : Method := { name := "length", desc := "()I", sig := { parameters := [], returnType := some .int }, accessFlags := 1, code := some k8c3 }
def k8c4 : Code := { maxStack := 2, maxLocals := 2, code := jdk_42_method_56_code, exceptionTable := #[], attributes := #[] }
def k8m4 : Method := { name := "charAt", desc := "(I)C", sig := { parameters := [.int], returnType := some .char }, accessFlags := 1, code := some k8c4 }
def k8c5 : Code := { maxStack := 1, maxLocals := 1, code := jdk_42_method_152_code, exceptionTable := #[], attributes := #[] }
def k8m5 : Method := { name := "coder", desc := "()B", sig := { parameters := [], returnType := some .byte }, accessFlags := 0, code := some k8c5 }
def k8c6 : Code := { maxStack := 1, maxLocals := 1, code := jdk_42_method_154_code, exceptionTable := #[], attributes := #[] }
def k8m6 : Method := { name := "isLatin1", desc := "()Z", sig := { parameters := [], returnType := some .boolean }, accessFlags := 0, code := some k8c6 }
def k8c7 : Code := { maxStack := 3, maxLocals := 2, code := jdk_42_method_155_code, exceptionTable := #[], attributes := #[] }
def k8m7 : Method := { name := "checkIndex", desc := "(II)V", sig := { parameters := [.int, .int], returnType := none }, accessFlags := 8, code := some k8c7 }
def k8c8 : Code := { maxStack := 4, maxLocals := 3, code := jdk_42_method_157_code, exceptionTable := #[], attributes := #[] }
def k8m8 : Method := { name := "checkBoundsOffCount", desc := "(III)I", sig := { parameters := [.int, .int, .int], returnType := some .int }, accessFlags := 8, code := some k8c8 }
/-- java/lang/String -/
def k8 : Class := { plain "java/lang/String" (some 0) with
  accessFlags := 49
  interfaces := #[3, 4, 5, 6, 7]
  cf := some (fileOf pool8 10 #[.nestMembers #[1103]] #[{ accessFlags := 1, nameIndex := 5, descriptorIndex := 6, attributes := #[] }, { accessFlags := 1, nameIndex := 5, descriptorIndex := 238, attributes := #[] }, { accessFlags := 2, nameIndex := 5, descriptorIndex := 77, attributes := #[] }, { accessFlags := 1, nameIndex := 507, descriptorIndex := 334, attributes := #[] }, { accessFlags := 1, nameIndex := 497, descriptorIndex := 427, attributes := #[] }, { accessFlags := 0, nameIndex := 17, descriptorIndex := 337, attributes := #[] }, { accessFlags := 0, nameIndex := 494, descriptorIndex := 142, attributes := #[] }, { accessFlags := 8, nameIndex := 501, descriptorIndex := 391, attributes := #[] }, { accessFlags := 8, nameIndex := 36, descriptorIndex := 37, attributes := #[] }] 49 2 #[1106, 1108, 575, 1110, 1112] #[{ accessFlags := 18, nameIndex := 13, descriptorIndex := 14, attributes := #[] }, { accessFlags := 18, nameIndex := 17, descriptorIndex := 18, attributes := #[] }, { accessFlags := 2, nameIndex := 21, descriptorIndex := 22, attributes := #[] }, { accessFlags := 2, nameIndex := 25, descriptorIndex := 26, attributes := #[] }, { accessFlags := 26, nameIndex := 1116, descriptorIndex := 1117, attributes := #[] }, { accessFlags := 24, nameIndex := 40, descriptorIndex := 26, attributes := #[] }, { accessFlags := 26, nameIndex := 1101, descriptorIndex := 1102, attributes := #[] }, { accessFlags := 26, nameIndex := 1121, descriptorIndex := 1122, attributes := #[] }, { accessFlags := 25, nameIndex := 599, descriptorIndex := 600, attributes := #[] }, { accessFlags := 24, nameIndex := 1125, descriptorIndex := 18, attributes := #[] }, { accessFlags := 24, nameIndex := 1127, descriptorIndex := 18, attributes := #[] }])
  fields := #[{ name := "value", type := (.array .byte), accessFlags := 18, slot := 0, constantValue := 0 }, { name := "coder", type := .byte, accessFlags := 18, slot := 1, constantValue := 0 }, { name := "hash", type := .int, accessFlags := 2, slot := 2, constantValue := 0 }, { name := "hashIsZero", type := .boolean, accessFlags := 2, slot := 3, constantValue := 0 }, { name := "serialVersionUID", type := .long, accessFlags := 26, slot := 0, constantValue := 0 }, { name := "COMPACT_STRINGS", type := .boolean, accessFlags := 24, slot := 1, constantValue := 0 }, { name := "serialPersistentFields", type := (.array (.object "java/io/ObjectStreamField")), accessFlags := 26, slot := 2, constantValue := 0 }, { name := "REPL", type := .char, accessFlags := 26, slot := 3, constantValue := 0 }, { name := "CASE_INSENSITIVE_ORDER", type := (.object "java/util/Comparator"), accessFlags := 25, slot := 4, constantValue := 0 }, { name := "LATIN1", type := .byte, accessFlags := 24, slot := 5, constantValue := 0 }, { name := "UTF16", type := .byte, accessFlags := 24, slot := 6, constantValue := 0 }]
  methods := #[k8m0, k8m1, k8m2, k8m3, k8m4, k8m5, k8m6, k8m7, k8m8]
  instanceTypes := #[(.array .byte), .byte, .int, .boolean]
  staticTypes := #[.long, .boolean, (.array (.object "java/io/ObjectStreamField")), .char, (.object "java/util/Comparator"), .byte, .byte]
  resolved := Array.replicate 1451 none
  statics := some 0 }

def pool9 : Array CpInfo := pool [(2, .class_ 4), (1, u "java/lang/Object"), (0, u "<init>"), (0, u "()V"), (14, .class_ 23), (1, u "java/nio/charset/StandardCharsets"), (0, u "US_ASCII"), (0, u "Ljava/nio/charset/Charset;"), (7, u "ISO_8859_1"), (7, u "UTF_8"), (5, u "UTF_16BE"), (5, u "UTF_16LE"), (5, u "UTF_16")] 8

def k9m0 : Method := { name := "<init>", desc := "()V", sig := { parameters := [], returnType := none }, accessFlags := 2, code := none }
/-- java/nio/charset/StandardCharsets -/
def k9 : Class := { plain "java/nio/charset/StandardCharsets" (some 0) with
  accessFlags := 49
  interfaces := #[]
  cf := some (fileOf pool9 21 #[] #[{ accessFlags := 2, nameIndex := 5, descriptorIndex := 6, attributes := #[] }] 49 2 #[] #[{ accessFlags := 25, nameIndex := 24, descriptorIndex := 25, attributes := #[] }, { accessFlags := 25, nameIndex := 33, descriptorIndex := 25, attributes := #[] }, { accessFlags := 25, nameIndex := 41, descriptorIndex := 25, attributes := #[] }, { accessFlags := 25, nameIndex := 47, descriptorIndex := 25, attributes := #[] }, { accessFlags := 25, nameIndex := 53, descriptorIndex := 25, attributes := #[] }, { accessFlags := 25, nameIndex := 59, descriptorIndex := 25, attributes := #[] }])
  fields := #[{ name := "US_ASCII", type := (.object "java/nio/charset/Charset"), accessFlags := 25, slot := 0, constantValue := 0 }, { name := "ISO_8859_1", type := (.object "java/nio/charset/Charset"), accessFlags := 25, slot := 1, constantValue := 0 }, { name := "UTF_8", type := (.object "java/nio/charset/Charset"), accessFlags := 25, slot := 2, constantValue := 0 }, { name := "UTF_16BE", type := (.object "java/nio/charset/Charset"), accessFlags := 25, slot := 3, constantValue := 0 }, { name := "UTF_16LE", type := (.object "java/nio/charset/Charset"), accessFlags := 25, slot := 4, constantValue := 0 }, { name := "UTF_16", type := (.object "java/nio/charset/Charset"), accessFlags := 25, slot := 5, constantValue := 0 }]
  methods := #[k9m0]
  instanceTypes := #[]
  staticTypes := #[(.object "java/nio/charset/Charset"), (.object "java/nio/charset/Charset"), (.object "java/nio/charset/Charset"), (.object "java/nio/charset/Charset"), (.object "java/nio/charset/Charset"), (.object "java/nio/charset/Charset")]
  resolved := Array.replicate 68 none
  statics := some 1 }

def pool10 : Array CpInfo := pool [(2, .class_ 4), (1, u "java/lang/Object"), (0, u "<init>"), (0, u "()V"), (35, .class_ 44), (1, u "java/util/Objects"), (0, u "requireNonNull"), (0, u "(Ljava/lang/Object;)Ljava/lang/Object;")] 137

def k10m0 : Method := { name := "<init>", desc := "()V", sig := { parameters := [], returnType := none }, accessFlags := 2, code := none }
def k10c1 : Code := { maxStack := 2, maxLocals := 1, code := jdk_31_method_10_code, exceptionTable := #[], attributes := #[] }
def k10m1 : Method := { name := "requireNonNull", desc := "(Ljava/lang/Object;)Ljava/lang/Object;", sig := { parameters := [(.object "java/lang/Object")], returnType := some (.object "java/lang/Object") }, accessFlags := 9, code := some k10c1 }
/-- java/util/Objects -/
def k10 : Class := { plain "java/util/Objects" (some 0) with
  accessFlags := 49
  interfaces := #[]
  cf := some (fileOf pool10 42 #[] #[{ accessFlags := 2, nameIndex := 5, descriptorIndex := 6, attributes := #[] }, { accessFlags := 9, nameIndex := 45, descriptorIndex := 46, attributes := #[] }] 49 2 #[] #[])
  fields := #[]
  methods := #[k10m0, k10m1]
  instanceTypes := #[]
  staticTypes := #[]
  resolved := Array.replicate 184 none
  statics := none }

def pool11 : Array CpInfo := pool [(18, .class_ 20), (1, u "java/nio/charset/Charset"), (0, u "cache1"), (0, u "[Ljava/lang/Object;"), (2, u "cache2"), (0, .class_ 27), (0, u "java/lang/Object"), (0, .class_ 29), (0, u "java/nio/charset/Charset$1"), (4, .class_ 36), (1, u "java/nio/charset/Charset$ThreadTrackHolder"), (21, .class_ 59), (0, u "java/nio/charset/Charset$2"), (11, .class_ 73), (1, u "java/nio/charset/Charset$ExtendedProviderHolder"), (22, u "standardProvider"), (0, u "Ljava/nio/charset/spi/CharsetProvider;"), (29, u "name"), (7, .class_ 136), (0, u "java/nio/charset/Charset$3"), (5, u "defaultCharset"), (0, u "Ljava/nio/charset/Charset;"), (14, u "zeroAliases"), (0, u "[Ljava/lang/String;"), (29, u "Ljava/lang/String;"), (2, u "aliases"), (2, u "aliasSet"), (0, u "Ljava/util/Set;"), (82, .class_ 280), (0, u "java/lang/Comparable"), (84, .class_ 366), (0, u "java/nio/charset/Charset$ExtendedProviderHolder$1")] 3

/-- java/nio/charset/Charset -/
def k11 : Class := { plain "java/nio/charset/Charset" (some 0) with
  accessFlags := 1057
  interfaces := #[4]
  cf := some (fileOf pool11 18 #[.nestMembers #[71, 365, 34, 135, 58, 28]] #[] 1057 26 #[279] #[{ accessFlags := 26, nameIndex := 96, descriptorIndex := 97, attributes := #[] }, { accessFlags := 26, nameIndex := 158, descriptorIndex := 159, attributes := #[] }, { accessFlags := 74, nameIndex := 21, descriptorIndex := 22, attributes := #[] }, { accessFlags := 74, nameIndex := 25, descriptorIndex := 22, attributes := #[] }, { accessFlags := 10, nameIndex := 142, descriptorIndex := 143, attributes := #[] }, { accessFlags := 18, nameIndex := 127, descriptorIndex := 189, attributes := #[] }, { accessFlags := 18, nameIndex := 192, descriptorIndex := 159, attributes := #[] }, { accessFlags := 2, nameIndex := 195, descriptorIndex := 196, attributes := #[] }])
  fields := #[{ name := "standardProvider", type := (.object "java/nio/charset/spi/CharsetProvider"), accessFlags := 26, slot := 0, constantValue := 0 }, { name := "zeroAliases", type := (.array (.object "java/lang/String")), accessFlags := 26, slot := 1, constantValue := 0 }, { name := "cache1", type := (.array (.object "java/lang/Object")), accessFlags := 74, slot := 2, constantValue := 0 }, { name := "cache2", type := (.array (.object "java/lang/Object")), accessFlags := 74, slot := 3, constantValue := 0 }, { name := "defaultCharset", type := (.object "java/nio/charset/Charset"), accessFlags := 10, slot := 4, constantValue := 0 }, { name := "name", type := (.object "java/lang/String"), accessFlags := 18, slot := 0, constantValue := 0 }, { name := "aliases", type := (.array (.object "java/lang/String")), accessFlags := 18, slot := 1, constantValue := 0 }, { name := "aliasSet", type := (.object "java/util/Set"), accessFlags := 2, slot := 2, constantValue := 0 }]
  methods := #[]
  instanceTypes := #[(.object "java/lang/String"), (.array (.object "java/lang/String")), (.object "java/util/Set")]
  staticTypes := #[(.object "java/nio/charset/spi/CharsetProvider"), (.array (.object "java/lang/String")), (.array (.object "java/lang/Object")), (.array (.object "java/lang/Object")), (.object "java/nio/charset/Charset")]
  resolved := Array.replicate 370 none
  statics := none }

def pool12 : Array CpInfo := pool [(1, .class_ 2), (0, u "sun/nio/cs/HistoricallyNamedCharset"), (0, .class_ 4), (0, u "java/lang/Object")] 4

/-- sun/nio/cs/HistoricallyNamedCharset -/
def k12 : Class := { plain "sun/nio/cs/HistoricallyNamedCharset" (some 0) with
  accessFlags := 1537
  interfaces := #[]
  cf := some (fileOf pool12 1 #[] #[] 1537 3 #[] #[])
  fields := #[]
  methods := #[]
  instanceTypes := #[]
  staticTypes := #[]
  resolved := Array.replicate 9 none
  statics := none }

def pool13 : Array CpInfo := pool [(2, .class_ 4), (1, u "java/nio/charset/Charset"), (130, .class_ 136), (0, u "sun/nio/cs/Unicode"), (0, .class_ 138), (0, u "sun/nio/cs/HistoricallyNamedCharset")] 15

/-- sun/nio/cs/Unicode -/
def k13 : Class := { plain "sun/nio/cs/Unicode" (some 11) with
  accessFlags := 1056
  interfaces := #[12]
  cf := some (fileOf pool13 135 #[] #[] 1056 2 #[137] #[])
  fields := #[]
  methods := #[]
  instanceTypes := #[(.object "java/lang/String"), (.array (.object "java/lang/String")), (.object "java/util/Set")]
  staticTypes := #[]
  resolved := Array.replicate 154 none
  statics := none }

def pool14 : Array CpInfo := pool [(10, .class_ 12), (1, u "sun/nio/cs/Unicode"), (0, u "<init>"), (3, .class_ 18), (0, u "sun/nio/cs/UTF_8$Decoder"), (3, .class_ 23), (0, u "sun/nio/cs/UTF_8$Encoder"), (15, .class_ 40), (0, u "sun/nio/cs/UTF_8"), (2, u "()V"), (2, u "INSTANCE"), (0, u "Lsun/nio/cs/UTF_8;"), (8, u "JLA"), (0, u "Ljdk/internal/access/JavaLangAccess;")] 26

def k14m0 : Method := { name := "<init>", desc := "()V", sig := { parameters := [], returnType := none }, accessFlags := 1, code := none }
/-- sun/nio/cs/UTF_8 -/
def k14 : Class := { plain "sun/nio/cs/UTF_8" (some 13) with
  accessFlags := 49
  interfaces := #[]
  cf := some (fileOf pool14 39 #[.nestMembers #[22, 17]] #[{ accessFlags := 1, nameIndex := 13, descriptorIndex := 43, attributes := #[] }] 49 10 #[] #[{ accessFlags := 25, nameIndex := 46, descriptorIndex := 47, attributes := #[] }, { accessFlags := 26, nameIndex := 56, descriptorIndex := 57, attributes := #[] }])
  fields := #[{ name := "INSTANCE", type := (.object "sun/nio/cs/UTF_8"), accessFlags := 25, slot := 0, constantValue := 0 }, { name := "JLA", type := (.object "jdk/internal/access/JavaLangAccess"), accessFlags := 26, slot := 1, constantValue := 0 }]
  methods := #[k14m0]
  instanceTypes := #[(.object "java/lang/String"), (.array (.object "java/lang/String")), (.object "java/util/Set")]
  staticTypes := #[(.object "sun/nio/cs/UTF_8"), (.object "jdk/internal/access/JavaLangAccess")]
  resolved := Array.replicate 84 none
  statics := some 2 }

def pool15 : Array CpInfo := pool [(2, .class_ 4), (1, u "java/lang/Object"), (0, u "<init>"), (0, u "()V"), (17, .class_ 26), (1, u "jdk/internal/util/Preconditions"), (6, u "checkIndex"), (15, u "checkFromIndexSize"), (5, .class_ 56), (0, u "jdk/internal/util/Preconditions$4"), (57, .class_ 115), (0, u "jdk/internal/util/Preconditions$1"), (7, u "SIOOBE_FORMATTER"), (0, u "Ljava/util/function/BiFunction;"), (0, .class_ 126), (0, u "jdk/internal/util/Preconditions$2"), (3, u "AIOOBE_FORMATTER"), (0, .class_ 132), (0, u "jdk/internal/util/Preconditions$3"), (3, u "IOOBE_FORMATTER"), (41, u "(IILjava/util/function/BiFunction;)I"), (4, u "(IIILjava/util/function/BiFunction;)I")] 10

def k15m0 : Method := { name := "<init>", desc := "()V", sig := { parameters := [], returnType := none }, accessFlags := 1, code := none }
def k15c1 : Code := { maxStack := 3, maxLocals := 3, code := jdk_41_method_11_code, exceptionTable := #[], attributes := #[] }
def k15m1 : Method := { name := "checkIndex", desc := "(IILjava/util/function/BiFunction;)I", sig := { parameters := [.int, .int, (.object "java/util/function/BiFunction")], returnType := some .int }, accessFlags := 9, code := some k15c1 }
def k15c2 : Code := { maxStack := 4, maxLocals := 4, code := jdk_41_method_13_code, exceptionTable := #[], attributes := #[] }
def k15m2 : Method := { name := "checkFromIndexSize", desc := "(IIILjava/util/function/BiFunction;)I", sig := { parameters := [.int, .int, .int, (.object "java/util/function/BiFunction")], returnType := some .int }, accessFlags := 9, code := some k15c2 }
/-- jdk/internal/util/Preconditions -/
def k15 : Class := { plain "jdk/internal/util/Preconditions" (some 0) with
  accessFlags := 33
  interfaces := #[]
  cf := some (fileOf pool15 24 #[.nestMembers #[55, 131, 125, 114]] #[{ accessFlags := 1, nameIndex := 5, descriptorIndex := 6, attributes := #[] }, { accessFlags := 9, nameIndex := 33, descriptorIndex := 178, attributes := #[] }, { accessFlags := 9, nameIndex := 49, descriptorIndex := 183, attributes := #[] }] 33 2 #[] #[{ accessFlags := 25, nameIndex := 123, descriptorIndex := 124, attributes := #[] }, { accessFlags := 25, nameIndex := 130, descriptorIndex := 124, attributes := #[] }, { accessFlags := 25, nameIndex := 136, descriptorIndex := 124, attributes := #[] }])
  fields := #[{ name := "SIOOBE_FORMATTER", type := (.object "java/util/function/BiFunction"), accessFlags := 25, slot := 0, constantValue := 0 }, { name := "AIOOBE_FORMATTER", type := (.object "java/util/function/BiFunction"), accessFlags := 25, slot := 1, constantValue := 0 }, { name := "IOOBE_FORMATTER", type := (.object "java/util/function/BiFunction"), accessFlags := 25, slot := 2, constantValue := 0 }]
  methods := #[k15m0, k15m1, k15m2]
  instanceTypes := #[]
  staticTypes := #[(.object "java/util/function/BiFunction"), (.object "java/util/function/BiFunction"), (.object "java/util/function/BiFunction")]
  resolved := Array.replicate 194 none
  statics := some 3 }

def pool16 : Array CpInfo := pool [(1, .class_ 2), (0, u "java/lang/Math"), (1, .class_ 6), (1, u "java/lang/Object"), (0, u "<init>"), (0, u "()V"), (89, .class_ 100), (1, u "java/lang/Math$RandomNumberGeneratorHolder"), (71, u "negativeZeroFloatBits"), (0, u "J"), (2, u "negativeZeroDoubleBits"), (24, u "min"), (43, u "$assertionsDisabled"), (0, u "Z"), (88, u "(II)I"), (2, u "twoToTheDoubleScaleDown"), (0, u "D"), (4, u "twoToTheDoubleScaleUp"), (9, u "E"), (3, u "PI"), (2, u "TAU"), (2, u "DEGREES_TO_RADIANS"), (0, u "RADIANS_TO_DEGREES")] 94

def k16m0 : Method := { name := "<init>", desc := "()V", sig := { parameters := [], returnType := none }, accessFlags := 2, code := none }
def k16c1 : Code := { maxStack := 2, maxLocals := 2, code := jdk_29_method_69_code, exceptionTable := #[], attributes := #[] }
def k16m1 : Method := { name := "min", desc := "(II)I", sig := { parameters := [.int, .int], returnType := some .int }, accessFlags := 9, code := some k16c1 }
/-- java/lang/Math -/
def k16 : Class := { plain "java/lang/Math" (some 0) with
  accessFlags := 49
  interfaces := #[]
  cf := some (fileOf pool16 1 #[.nestMembers #[98]] #[{ accessFlags := 2, nameIndex := 7, descriptorIndex := 8, attributes := #[] }, { accessFlags := 9, nameIndex := 201, descriptorIndex := 335, attributes := #[] }] 49 4 #[] #[{ accessFlags := 25, nameIndex := 354, descriptorIndex := 339, attributes := #[] }, { accessFlags := 25, nameIndex := 358, descriptorIndex := 339, attributes := #[] }, { accessFlags := 25, nameIndex := 361, descriptorIndex := 339, attributes := #[] }, { accessFlags := 26, nameIndex := 364, descriptorIndex := 339, attributes := #[] }, { accessFlags := 26, nameIndex := 365, descriptorIndex := 339, attributes := #[] }, { accessFlags := 26, nameIndex := 172, descriptorIndex := 173, attributes := #[] }, { accessFlags := 26, nameIndex := 176, descriptorIndex := 173, attributes := #[] }, { accessFlags := 8, nameIndex := 344, descriptorIndex := 339, attributes := #[] }, { accessFlags := 8, nameIndex := 338, descriptorIndex := 339, attributes := #[] }, { accessFlags := 4120, nameIndex := 245, descriptorIndex := 246, attributes := #[] }])
  fields := #[{ name := "E", type := .double, accessFlags := 25, slot := 0, constantValue := 0 }, { name := "PI", type := .double, accessFlags := 25, slot := 1, constantValue := 0 }, { name := "TAU", type := .double, accessFlags := 25, slot := 2, constantValue := 0 }, { name := "DEGREES_TO_RADIANS", type := .double, accessFlags := 26, slot := 3, constantValue := 0 }, { name := "RADIANS_TO_DEGREES", type := .double, accessFlags := 26, slot := 4, constantValue := 0 }, { name := "negativeZeroFloatBits", type := .long, accessFlags := 26, slot := 5, constantValue := 0 }, { name := "negativeZeroDoubleBits", type := .long, accessFlags := 26, slot := 6, constantValue := 0 }, { name := "twoToTheDoubleScaleUp", type := .double, accessFlags := 8, slot := 7, constantValue := 0 }, { name := "twoToTheDoubleScaleDown", type := .double, accessFlags := 8, slot := 8, constantValue := 0 }, { name := "$assertionsDisabled", type := .boolean, accessFlags := 4120, slot := 9, constantValue := 0 }]
  methods := #[k16m0, k16m1]
  instanceTypes := #[]
  staticTypes := #[.double, .double, .double, .double, .double, .long, .long, .double, .double, .boolean]
  resolved := Array.replicate 460 none
  statics := none }

def pool17 : Array CpInfo := pool [(2, .class_ 4), (1, u "java/lang/Object"), (0, u "<init>"), (0, u "()V"), (7, .class_ 16), (1, u "java/util/Arrays"), (57, .class_ 76), (1, u "java/util/Arrays$NaturalOrder"), (32, u "()Ljava/lang/Object;"), (3, .class_ 115), (1, u "java/util/Arrays$LegacyMergeSort"), (1, u "Z"), (10, .nameAndType 129 109), (0, u "clone"), (9, u "copyOfRange"), (10, .methodref 151 152), (0, .class_ 153), (0, .nameAndType 154 155), (0, u "java/lang/System"), (0, u "arraycopy"), (0, u "(Ljava/lang/Object;ILjava/lang/Object;II)V"), (146, u "copyOf"), (1, .methodref 305 306), (0, .class_ 307), (0, .nameAndType 308 309), (0, u "java/lang/Math"), (0, u "min"), (0, u "(II)I"), (0, .methodref 311 128), (0, .class_ 312), (0, u "[B"), (29, u "([BII)[B"), (32, .class_ 376), (0, u "java/util/Arrays$ArrayList"), (68, u "$assertionsDisabled"), (269, u "MIN_ARRAY_SORT_GRAN"), (0, u "I"), (2, u "INSERTIONSORT_THRESHOLD"), (149, u "([BI)[B"), (105, .class_ 976), (0, u "java/util/Arrays$ArrayItr")] 52

def k17m0 : Method := { name := "<init>", desc := "()V", sig := { parameters := [], returnType := none }, accessFlags := 2, code := none }
def k17c1 : Code := { maxStack := 6, maxLocals := 3, code := jdk_65_method_121_code, exceptionTable := #[], attributes := #[] }
def k17m1 : Method := { name := "copyOf", desc := "([BI)[B", sig := { parameters := [(.array .byte), .int], returnType := some (.array .byte) }, accessFlags := 9, code := some k17c1 }
def k17c2 : Code := { maxStack := 3, maxLocals := 3, code := jdk_65_method_132_code, exceptionTable := #[], attributes := #[] }
def k17m2 : Method := { name := "copyOfRange", desc := "([BII)[B", sig := { parameters := [(.array .byte), .int, .int], returnType := some (.array .byte) }, accessFlags := 9, code := some k17c2 }
/-- java/util/Arrays -/
def k17 : Class := { plain "java/util/Arrays" (some 0) with
  accessFlags := 49
  interfaces := #[]
  cf := some (fileOf pool17 14 #[.nestMembers #[975, 375, 113, 74]] #[{ accessFlags := 2, nameIndex := 5, descriptorIndex := 6, attributes := #[] }, { accessFlags := 9, nameIndex := 302, descriptorIndex := 869, attributes := #[] }, { accessFlags := 9, nameIndex := 139, descriptorIndex := 342, attributes := #[] }] 49 2 #[] #[{ accessFlags := 26, nameIndex := 715, descriptorIndex := 716, attributes := #[] }, { accessFlags := 26, nameIndex := 719, descriptorIndex := 716, attributes := #[] }, { accessFlags := 4120, nameIndex := 445, descriptorIndex := 117, attributes := #[] }])
  fields := #[{ name := "MIN_ARRAY_SORT_GRAN", type := .int, accessFlags := 26, slot := 0, constantValue := 0 }, { name := "INSERTIONSORT_THRESHOLD", type := .int, accessFlags := 26, slot := 1, constantValue := 0 }, { name := "$assertionsDisabled", type := .boolean, accessFlags := 4120, slot := 2, constantValue := 0 }]
  methods := #[k17m0, k17m1, k17m2]
  instanceTypes := #[]
  staticTypes := #[.int, .int, .boolean]
  resolved := Array.replicate 1029 none
  statics := none }

def pool18 : Array CpInfo := pool [(2, .class_ 4), (1, u "java/lang/Object"), (0, u "<init>"), (0, u "()V"), (1, .class_ 10), (1, u "java/lang/System"), (0, u "allowSecurityManager"), (0, u "I"), (16, u "cons"), (0, u "Ljava/io/Console;"), (77, .class_ 110), (1, u "java/lang/System$CallersHolder"), (43, u "initialErrStream"), (0, u "Ljava/io/PrintStream;"), (19, u "security"), (0, u "Ljava/lang/SecurityManager;"), (31, .class_ 209), (0, u "java/lang/System$1"), (7, u "props"), (0, u "Ljava/util/Properties;"), (2, u "lineSeparator"), (0, u "Ljava/lang/String;"), (96, .class_ 321), (1, u "java/lang/System$LoggerFinder"), (5, .class_ 328), (0, u "java/lang/System$Logger"), (67, u "err"), (2, u "out"), (91, u "notSupportedJnuEncoding"), (15, u "in"), (17, u "initialIn"), (0, u "Ljava/io/InputStream;"), (35, u "bootLayer"), (0, u "Ljava/lang/ModuleLayer;"), (99, .class_ 664), (0, u "java/lang/System$2"), (9, u "NEVER"), (2, u "MAYBE"), (49, u "arraycopy"), (0, u "(Ljava/lang/Object;ILjava/lang/Object;II)V"), (72, .class_ 802), (0, u "java/lang/System$Logger$Level")] 31

def k18m0 : Method := { name := "<init>", desc := "()V", sig := { parameters := [], returnType := none }, accessFlags := 2, code := none }
def k18m1 : Method := { name := "arraycopy", desc := "(Ljava/lang/Object;ILjava/lang/Object;II)V", sig := { parameters := [(.object "java/lang/Object"), .int, (.object "java/lang/Object"), .int, .int], returnType := none }, accessFlags := 265, code := none }
/-- java/lang/System -/
def k18 : Class := { plain "java/lang/System" (some 0) with
  accessFlags := 49
  interfaces := #[]
  cf := some (fileOf pool18 8 #[.nestMembers #[319, 327, 801, 108, 663, 208]] #[{ accessFlags := 2, nameIndex := 5, descriptorIndex := 6, attributes := #[] }, { accessFlags := 265, nameIndex := 727, descriptorIndex := 728, attributes := #[] }] 49 2 #[] #[{ accessFlags := 25, nameIndex := 507, descriptorIndex := 526, attributes := #[] }, { accessFlags := 25, nameIndex := 399, descriptorIndex := 155, attributes := #[] }, { accessFlags := 25, nameIndex := 396, descriptorIndex := 155, attributes := #[] }, { accessFlags := 10, nameIndex := 525, descriptorIndex := 526, attributes := #[] }, { accessFlags := 26, nameIndex := 674, descriptorIndex := 12, attributes := #[] }, { accessFlags := 26, nameIndex := 677, descriptorIndex := 12, attributes := #[] }, { accessFlags := 10, nameIndex := 11, descriptorIndex := 12, attributes := #[] }, { accessFlags := 74, nameIndex := 175, descriptorIndex := 176, attributes := #[] }, { accessFlags := 10, nameIndex := 491, descriptorIndex := 222, attributes := #[] }, { accessFlags := 74, nameIndex := 29, descriptorIndex := 30, attributes := #[] }, { accessFlags := 74, nameIndex := 154, descriptorIndex := 155, attributes := #[] }, { accessFlags := 10, nameIndex := 217, descriptorIndex := 218, attributes := #[] }, { accessFlags := 10, nameIndex := 221, descriptorIndex := 222, attributes := #[] }, { accessFlags := 8, nameIndex := 562, descriptorIndex := 563, attributes := #[] }])
  fields := #[{ name := "in", type := (.object "java/io/InputStream"), accessFlags := 25, slot := 0, constantValue := 0 }, { name := "out", type := (.object "java/io/PrintStream"), accessFlags := 25, slot := 1, constantValue := 0 }, { name := "err", type := (.object "java/io/PrintStream"), accessFlags := 25, slot := 2, constantValue := 0 }, { name := "initialIn", type := (.object "java/io/InputStream"), accessFlags := 10, slot := 3, constantValue := 0 }, { name := "NEVER", type := .int, accessFlags := 26, slot := 4, constantValue := 0 }, { name := "MAYBE", type := .int, accessFlags := 26, slot := 5, constantValue := 0 }, { name := "allowSecurityManager", type := .int, accessFlags := 10, slot := 6, constantValue := 0 }, { name := "security", type := (.object "java/lang/SecurityManager"), accessFlags := 74, slot := 7, constantValue := 0 }, { name := "notSupportedJnuEncoding", type := (.object "java/lang/String"), accessFlags := 10, slot := 8, constantValue := 0 }, { name := "cons", type := (.object "java/io/Console"), accessFlags := 74, slot := 9, constantValue := 0 }, { name := "initialErrStream", type := (.object "java/io/PrintStream"), accessFlags := 74, slot := 10, constantValue := 0 }, { name := "props", type := (.object "java/util/Properties"), accessFlags := 10, slot := 11, constantValue := 0 }, { name := "lineSeparator", type := (.object "java/lang/String"), accessFlags := 10, slot := 12, constantValue := 0 }, { name := "bootLayer", type := (.object "java/lang/ModuleLayer"), accessFlags := 8, slot := 13, constantValue := 0 }]
  methods := #[k18m0, k18m1]
  instanceTypes := #[]
  staticTypes := #[(.object "java/io/InputStream"), (.object "java/io/PrintStream"), (.object "java/io/PrintStream"), (.object "java/io/InputStream"), .int, .int, .int, (.object "java/lang/SecurityManager"), (.object "java/lang/String"), (.object "java/io/Console"), (.object "java/io/PrintStream"), (.object "java/util/Properties"), (.object "java/lang/String"), (.object "java/lang/ModuleLayer")]
  resolved := Array.replicate 834 none
  statics := none }

def pool19 : Array CpInfo := pool [(2, .class_ 4), (1, u "java/lang/Object"), (0, u "<init>"), (0, u "()V"), (1, .class_ 10), (1, u "java/lang/StringCoding"), (0, u "countPositives"), (0, u "([BII)I")] 36

def k19m0 : Method := { name := "<init>", desc := "()V", sig := { parameters := [], returnType := none }, accessFlags := 2, code := none }
def k19c1 : Code := { maxStack := 2, maxLocals := 5, code := jdk_123_method_3_code, exceptionTable := #[], attributes := #[] }
def k19m1 : Method := { name := "countPositives", desc := "([BII)I", sig := { parameters := [(.array .byte), .int, .int], returnType := some .int }, accessFlags := 9, code := some k19c1 }
/-- java/lang/StringCoding -/
def k19 : Class := { plain "java/lang/StringCoding" (some 0) with
  accessFlags := 32
  interfaces := #[]
  cf := some (fileOf pool19 8 #[] #[{ accessFlags := 2, nameIndex := 5, descriptorIndex := 6, attributes := #[] }, { accessFlags := 9, nameIndex := 11, descriptorIndex := 12, attributes := #[] }] 32 2 #[] #[])
  fields := #[]
  methods := #[k19m0, k19m1]
  instanceTypes := #[]
  staticTypes := #[]
  resolved := Array.replicate 49 none
  statics := none }

def pool20 : Array CpInfo := pool [(1, .class_ 2), (0, u "java/lang/Cloneable"), (0, .class_ 4), (0, u "java/lang/Object")] 2

/-- java/lang/Cloneable -/
def k20 : Class := { plain "java/lang/Cloneable" (some 0) with
  accessFlags := 1537
  interfaces := #[]
  cf := some (fileOf pool20 1 #[] #[] 1537 3 #[] #[])
  fields := #[]
  methods := #[]
  instanceTypes := #[]
  staticTypes := #[]
  resolved := Array.replicate 7 none
  statics := none }

def pool21 : Array CpInfo := pool [(1, .class_ 2), (0, u "java/lang/String"), (1, .class_ 6), (1, u "java/lang/Object"), (0, u "<init>"), (0, u "()V"), (0, .methodref 1 10), (0, .nameAndType 11 12), (0, u "checkIndex"), (0, u "(II)V"), (1, .class_ 16), (1, u "java/lang/StringLatin1"), (36, u "([BI)C"), (67, u "$assertionsDisabled"), (0, u "Z"), (98, .class_ 223), (1, u "java/lang/StringLatin1$LinesSpliterator"), (28, u "charAt"), (137, .class_ 391), (0, u "java/lang/StringLatin1$CharsSpliterator")] 3

def k21m0 : Method := { name := "<init>", desc := "()V", sig := { parameters := [], returnType := none }, accessFlags := 0, code := none }
def k21c1 : Code := { maxStack := 2, maxLocals := 2, code := jdk_43_method_2_code, exceptionTable := #[], attributes := #[] }
def k21m1 : Method := { name := "charAt", desc := "([BI)C", sig := { parameters := [(.array .byte), .int], returnType := some .char }, accessFlags := 9, code := some k21c1 }
/-- java/lang/StringLatin1 -/
def k21 : Class := { plain "java/lang/StringLatin1" (some 0) with
  accessFlags := 48
  interfaces := #[]
  cf := some (fileOf pool21 14 #[.nestMembers #[390, 221]] #[{ accessFlags := 0, nameIndex := 7, descriptorIndex := 8, attributes := #[] }, { accessFlags := 9, nameIndex := 252, descriptorIndex := 53, attributes := #[] }] 48 4 #[] #[{ accessFlags := 4120, nameIndex := 121, descriptorIndex := 122, attributes := #[] }])
  fields := #[{ name := "$assertionsDisabled", type := .boolean, accessFlags := 4120, slot := 0, constantValue := 0 }]
  methods := #[k21m0, k21m1]
  instanceTypes := #[]
  staticTypes := #[.boolean]
  resolved := Array.replicate 395 none
  statics := none }

def pool22 : Array CpInfo := pool [(9, u "<init>"), (6, .class_ 18), (1, u "java/lang/Object"), (0, u "()V"), (1, .class_ 23), (1, u "jdk/internal/util/ArraysSupport"), (0, u "LOG2_ARRAY_LONG_INDEX_SCALE"), (0, u "I"), (2, u "U"), (0, u "Ljdk/internal/misc/Unsafe;"), (8, u "BIG_ENDIAN"), (0, u "Z"), (8, u "LOG2_BYTE_BIT_SIZE"), (4, u "LOG2_ARRAY_INT_INDEX_SCALE"), (54, u "JLA"), (0, u "Ljdk/internal/access/JavaLangAccess;"), (11, u "LOG2_ARRAY_BOOLEAN_INDEX_SCALE"), (9, u "LOG2_ARRAY_BYTE_INDEX_SCALE"), (5, u "LOG2_ARRAY_CHAR_INDEX_SCALE"), (5, u "LOG2_ARRAY_SHORT_INDEX_SCALE"), (18, u "LOG2_ARRAY_FLOAT_INDEX_SCALE"), (24, u "LOG2_ARRAY_DOUBLE_INDEX_SCALE"), (89, u "T_BOOLEAN"), (2, u "T_CHAR"), (1, u "T_FLOAT"), (1, u "T_DOUBLE"), (1, u "T_BYTE"), (1, u "T_SHORT"), (1, u "T_INT"), (1, u "T_LONG"), (1, u "SOFT_MAX_ARRAY_LENGTH")] 83

def k22m0 : Method := { name := "<init>", desc := "()V", sig := { parameters := [], returnType := none }, accessFlags := 2, code := none }
/-- jdk/internal/util/ArraysSupport -/
def k22 : Class := { plain "jdk/internal/util/ArraysSupport" (some 0) with
  accessFlags := 33
  interfaces := #[]
  cf := some (fileOf pool22 21 #[] #[{ accessFlags := 2, nameIndex := 9, descriptorIndex := 19, attributes := #[] }] 33 16 #[] #[{ accessFlags := 24, nameIndex := 28, descriptorIndex := 29, attributes := #[] }, { accessFlags := 26, nameIndex := 38, descriptorIndex := 39, attributes := #[] }, { accessFlags := 25, nameIndex := 121, descriptorIndex := 25, attributes := #[] }, { accessFlags := 25, nameIndex := 131, descriptorIndex := 25, attributes := #[] }, { accessFlags := 25, nameIndex := 137, descriptorIndex := 25, attributes := #[] }, { accessFlags := 25, nameIndex := 143, descriptorIndex := 25, attributes := #[] }, { accessFlags := 25, nameIndex := 53, descriptorIndex := 25, attributes := #[] }, { accessFlags := 25, nameIndex := 24, descriptorIndex := 25, attributes := #[] }, { accessFlags := 25, nameIndex := 162, descriptorIndex := 25, attributes := #[] }, { accessFlags := 25, nameIndex := 187, descriptorIndex := 25, attributes := #[] }, { accessFlags := 26, nameIndex := 48, descriptorIndex := 25, attributes := #[] }, { accessFlags := 25, nameIndex := 277, descriptorIndex := 25, attributes := #[] }, { accessFlags := 25, nameIndex := 280, descriptorIndex := 25, attributes := #[] }, { accessFlags := 25, nameIndex := 282, descriptorIndex := 25, attributes := #[] }, { accessFlags := 25, nameIndex := 284, descriptorIndex := 25, attributes := #[] }, { accessFlags := 25, nameIndex := 286, descriptorIndex := 25, attributes := #[] }, { accessFlags := 25, nameIndex := 288, descriptorIndex := 25, attributes := #[] }, { accessFlags := 25, nameIndex := 290, descriptorIndex := 25, attributes := #[] }, { accessFlags := 25, nameIndex := 292, descriptorIndex := 25, attributes := #[] }, { accessFlags := 26, nameIndex := 108, descriptorIndex := 109, attributes := #[] }, { accessFlags := 25, nameIndex := 294, descriptorIndex := 25, attributes := #[] }])
  fields := #[{ name := "U", type := (.object "jdk/internal/misc/Unsafe"), accessFlags := 24, slot := 0, constantValue := 0 }, { name := "BIG_ENDIAN", type := .boolean, accessFlags := 26, slot := 1, constantValue := 0 }, { name := "LOG2_ARRAY_BOOLEAN_INDEX_SCALE", type := .int, accessFlags := 25, slot := 2, constantValue := 0 }, { name := "LOG2_ARRAY_BYTE_INDEX_SCALE", type := .int, accessFlags := 25, slot := 3, constantValue := 0 }, { name := "LOG2_ARRAY_CHAR_INDEX_SCALE", type := .int, accessFlags := 25, slot := 4, constantValue := 0 }, { name := "LOG2_ARRAY_SHORT_INDEX_SCALE", type := .int, accessFlags := 25, slot := 5, constantValue := 0 }, { name := "LOG2_ARRAY_INT_INDEX_SCALE", type := .int, accessFlags := 25, slot := 6, constantValue := 0 }, { name := "LOG2_ARRAY_LONG_INDEX_SCALE", type := .int, accessFlags := 25, slot := 7, constantValue := 0 }, { name := "LOG2_ARRAY_FLOAT_INDEX_SCALE", type := .int, accessFlags := 25, slot := 8, constantValue := 0 }, { name := "LOG2_ARRAY_DOUBLE_INDEX_SCALE", type := .int, accessFlags := 25, slot := 9, constantValue := 0 }, { name := "LOG2_BYTE_BIT_SIZE", type := .int, accessFlags := 26, slot := 10, constantValue := 0 }, { name := "T_BOOLEAN", type := .int, accessFlags := 25, slot := 11, constantValue := 0 }, { name := "T_CHAR", type := .int, accessFlags := 25, slot := 12, constantValue := 0 }, { name := "T_FLOAT", type := .int, accessFlags := 25, slot := 13, constantValue := 0 }, { name := "T_DOUBLE", type := .int, accessFlags := 25, slot := 14, constantValue := 0 }, { name := "T_BYTE", type := .int, accessFlags := 25, slot := 15, constantValue := 0 }, { name := "T_SHORT", type := .int, accessFlags := 25, slot := 16, constantValue := 0 }, { name := "T_INT", type := .int, accessFlags := 25, slot := 17, constantValue := 0 }, { name := "T_LONG", type := .int, accessFlags := 25, slot := 18, constantValue := 0 }, { name := "JLA", type := (.object "jdk/internal/access/JavaLangAccess"), accessFlags := 26, slot := 19, constantValue := 0 }, { name := "SOFT_MAX_ARRAY_LENGTH", type := .int, accessFlags := 25, slot := 20, constantValue := 0 }]
  methods := #[k22m0]
  instanceTypes := #[]
  staticTypes := #[(.object "jdk/internal/misc/Unsafe"), .boolean, .int, .int, .int, .int, .int, .int, .int, .int, .int, .int, .int, .int, .int, .int, .int, .int, .int, (.object "jdk/internal/access/JavaLangAccess"), .int]
  resolved := Array.replicate 378 none
  statics := none }

/-- the primitive byte -/
def k23 : Class := { plain "byte" none with kind := .primitive 'B', accessFlags := 0x411 }
/-- [B -/
def k24 : Class := { plain "[B" (some 0) with kind := .array 23 .byte, interfaces := #[20, 3], accessFlags := 1041 }

/-- the primitive int -/
def k25 : Class := { plain "int" none with kind := .primitive 'I', accessFlags := 0x411 }
/-- [I -/
def k26 : Class := { plain "[I" (some 0) with kind := .array 25 .int, interfaces := #[20, 3], accessFlags := 1041 }

def heap : Heap := #[{ cls := 8, slots := #[.long 0, .int 1, .null, .int 0, .null, .int 0, .int 0], vm := .statics 8 },
  { cls := 9, slots := #[.null, .null, .ref 4, .null, .null, .null], vm := .statics 9 },
  { cls := 14, slots := #[.ref 4, .null], vm := .statics 14 },
  { cls := 15, slots := #[.null, .null, .null], vm := .statics 15 },
  { cls := 14, slots := #[.null, .null, .null], vm := .none }]
def classes : Array Class := #[k0, k1, k2, k3, k4, k5, k6, k7, k8, k9, k10, k11, k12, k13, k14, k15, k16, k17, k18, k19, k20, k21, k22, k23, k24, k25, k26]
def interned : List (Array UInt16 × Addr) := []
def slotsUsed : Nat := 21
def theMethod : MethodId := ⟨1, 1⟩
def args0 : Array Value := #[.int 5, .long 5, .int 5, .int 5]
def aboutOver (below : List Frame) : State where
  vm := { classes := classes, interned := interned.toArray }
  heap := heap
  slotsUsed := slotsUsed
  threads := #[{ frames := .invoking theMethod args0 :: below }]
def below0 : List Frame := [.native { method := ⟨0, 0⟩, args := #[] }]
def about1 : State := aboutOver below0
def p0 : Program := .bare "" "" ""
def e0 : Env := launch0.env 0 0 0
theorem w_frames : about1.frames = Frame.invoking theMethod args0 :: below0 := rfl
set_option maxRecDepth 65536 in
theorem w_args : argsFit about1.vm theMethod args0 = true := by decide +kernel
set_option maxRecDepth 65536 in
theorem w_heap : heapFits about1 = true := by decide +kernel
set_option maxRecDepth 65536 in
theorem w_runnable : about1.curStatus? = some .runnable := by decide +kernel
set_option maxRecDepth 65536 in
theorem w_alone : about1.alone = true := by decide +kernel
set_option maxRecDepth 65536 in
theorem w_named : about1.methodNamed? x = some theMethod := by decide +kernel
set_option maxRecDepth 65536 in
theorem w_hears : about1.hears theMethod below0 = true := by decide +kernel
set_option maxRecDepth 65536 in
theorem w_ripe : about1.ripe theMethod args0 below0 = true := by decide +kernel
theorem w_running : about1.status = .running := rfl
set_option maxRecDepth 65536 in
theorem w_room : about1.hasRoom e0.platform room_1 = true :=
  launch0.hasRoom_least _ room_1 (by decide +kernel) (by decide +kernel) (by decide +kernel) (by decide +kernel) (by decide +kernel) (by decide +kernel)
theorem allAtoms_all (ts : List Jvm.Cond) (a : Array Jvm.Value) (st : Jvm.State) : (allAtoms ts).before a st = ts.all (fun c => c.before a st) := by
  induction ts with
  | nil => rfl
  | cons c t ih =>
    show (Jvm.Cond.and c (allAtoms t)).before a st = _
    rw [Jvm.Cond.before_and, ih, List.all_cons]
def words1 : List Jvm.Cond := Jvm.Cond.code x code maxLocals ret :: tables_1
/-- a 'code' word, met by the world's own term for the bytes: nothing is compared byte by byte -/
theorem code_word {y : MethodName} {bytes : ByteArray} {mx : Nat} {rt : Option FieldType} {a : Array Value} {s : State} {m : MethodId} {meth : Method} {c : Code} (h1 : s.methodNamed? y = some m) (h2 : s.vm.method? m = some meth) (h3 : meth.code = some c) (h4 : c.code = bytes)
    (h5 : (c.maxLocals == mx && c.exceptionTable.isEmpty && decide (c.maxStack ≤ mostOperands) && decide (meth.sig.returnType = rt) && !meth.locks && decide (parseMethodDescriptor y.desc = some meth.sig)) = true) : (Jvm.Cond.code y bytes mx rt).before a s = true := by
  simp only [Bool.and_eq_true, beq_iff_eq, Bool.not_eq_true', decide_eq_true_eq] at h5
  obtain ⟨⟨⟨⟨⟨g1, g2⟩, g3⟩, g4⟩, g5⟩, g6⟩ := h5
  simp [Cond.before, Cond.holds, Cond.value, h1, h2, h3, h4, g1, g2, g3, g4, g5, g6]
theorem codeWith_word {y : MethodName} {bytes : ByteArray} {mx : Nat} {rt : Option FieldType} {hs : List (Nat × Nat × Nat × Nat)} {a : Array Value} {s : State} {m : MethodId} {meth : Method} {c : Code} (h1 : s.methodNamed? y = some m) (h2 : s.vm.method? m = some meth) (h3 : meth.code = some c) (h4 : c.code = bytes)
    (h5 : (c.maxLocals == mx && decide (c.exceptionTable.toList.map (fun h => (h.startPc, h.endPc, h.handlerPc, h.catchType)) = hs) && decide (c.maxStack ≤ mostOperands) && decide (meth.sig.returnType = rt) && !meth.locks && decide (parseMethodDescriptor y.desc = some meth.sig)) = true) : (Jvm.Cond.codeWith y bytes mx rt hs).before a s = true := by
  simp only [Bool.and_eq_true, beq_iff_eq, Bool.not_eq_true', decide_eq_true_eq] at h5
  obtain ⟨⟨⟨⟨⟨g1, g2⟩, g3⟩, g4⟩, g5⟩, g6⟩ := h5
  simp [Cond.before, Cond.holds, Cond.value, h1, h2, h3, h4, g1, g2, g3, g4, g5, g6]
def isCode : Jvm.Cond → Bool
  | .code _ _ _ _ => true
  | .codeWith _ _ _ _ _ => true
  | _ => false
theorem all_split {L : List Jvm.Cond} {P : Jvm.Cond → Bool} (h1 : L.all (fun c => isCode c || P c) = true) (h2 : ∀ c ∈ L.filter isCode, P c = true) : L.all P = true := by
  refine List.all_eq_true.mpr fun c hc => ?_
  have h := List.all_eq_true.mp h1 c hc
  rcases Bool.eq_false_or_eq_true (isCode c) with hi | hi
  · exact h2 c (List.mem_filter.mpr ⟨hc, hi⟩)
  · simpa [hi] using h
set_option maxRecDepth 65536 in
theorem w_c0 : (Jvm.Cond.code x code maxLocals ret).before args0 about1 = true := code_word (m := ⟨1, 1⟩) (meth := k1m1) (c := k1c1) (by decide +kernel) rfl rfl rfl (by decide +kernel)
set_option maxRecDepth 65536 in
theorem w_c1 : (Jvm.Cond.code ({ cls := "com/example/isolate_to_replay/isolatetoreplay/command/LastLineAcceptPinLaw", name := "letter", desc := "(J)B" } : Jvm.MethodName) method_3_code (3 : Nat) (Option.some Jvm.ClassFile.FieldType.byte)).before args0 about1 = true := code_word (m := ⟨1, 2⟩) (meth := k1m2) (c := k1c2) (by decide +kernel) rfl rfl rfl (by decide +kernel)
set_option maxRecDepth 65536 in
theorem w_c2 : (Jvm.Cond.code ({ cls := "com/example/isolate_to_replay/isolatetoreplay/command/LastLine", name := "<init>", desc := "(I)V" } : Jvm.MethodName) prog_5_method_1_code (2 : Nat) (Option.none : Option Jvm.ClassFile.FieldType)).before args0 about1 = true := code_word (m := ⟨2, 0⟩) (meth := k2m0) (c := k2c0) (by decide +kernel) rfl rfl rfl (by decide +kernel)
set_option maxRecDepth 65536 in
theorem w_c3 : (Jvm.Cond.code ({ cls := "java/lang/Object", name := "<init>", desc := "()V" } : Jvm.MethodName) object_method_1_code (1 : Nat) (Option.none : Option Jvm.ClassFile.FieldType)).before args0 about1 = true := code_word (m := ⟨0, 0⟩) (meth := k0m0) (c := k0c0) (by decide +kernel) rfl rfl rfl (by decide +kernel)
set_option maxRecDepth 65536 in
theorem w_c4 : (Jvm.Cond.code ({ cls := "com/example/isolate_to_replay/isolatetoreplay/command/LastLine", name := "accept", desc := "([BII)V" } : Jvm.MethodName) prog_5_method_2_code (6 : Nat) (Option.none : Option Jvm.ClassFile.FieldType)).before args0 about1 = true := code_word (m := ⟨2, 1⟩) (meth := k2m1) (c := k2c1) (by decide +kernel) rfl rfl rfl (by decide +kernel)
set_option maxRecDepth 65536 in
theorem w_c5 : (Jvm.Cond.code ({ cls := "com/example/isolate_to_replay/isolatetoreplay/command/LastLine", name := "text", desc := "()Ljava/lang/String;" } : Jvm.MethodName) prog_5_method_3_code (3 : Nat) (Option.some (Jvm.ClassFile.FieldType.object "java/lang/String"))).before args0 about1 = true := code_word (m := ⟨2, 2⟩) (meth := k2m2) (c := k2c2) (by decide +kernel) rfl rfl rfl (by decide +kernel)
set_option maxRecDepth 65536 in
theorem w_c6 : (Jvm.Cond.code ({ cls := "com/example/isolate_to_replay/isolatetoreplay/command/LastLine", name := "endLine", desc := "()V" } : Jvm.MethodName) prog_5_method_4_code (2 : Nat) (Option.none : Option Jvm.ClassFile.FieldType)).before args0 about1 = true := code_word (m := ⟨2, 3⟩) (meth := k2m3) (c := k2c3) (by decide +kernel) rfl rfl rfl (by decide +kernel)
set_option maxRecDepth 65536 in
theorem w_c7 : (Jvm.Cond.code ({ cls := "java/lang/String", name := "<init>", desc := "([BIILjava/nio/charset/Charset;)V" } : Jvm.MethodName) jdk_42_method_10_code (5 : Nat) (Option.none : Option Jvm.ClassFile.FieldType)).before args0 about1 = true := code_word (m := ⟨8, 1⟩) (meth := k8m1) (c := k8c1) (by decide +kernel) rfl rfl rfl (by decide +kernel)
set_option maxRecDepth 65536 in
theorem w_c8 : (Jvm.Cond.code ({ cls := "java/util/Objects", name := "requireNonNull", desc := "(Ljava/lang/Object;)Ljava/lang/Object;" } : Jvm.MethodName) jdk_31_method_10_code (1 : Nat) (Option.some (Jvm.ClassFile.FieldType.object "java/lang/Object"))).before args0 about1 = true := code_word (m := ⟨10, 1⟩) (meth := k10m1) (c := k10c1) (by decide +kernel) rfl rfl rfl (by decide +kernel)
set_option maxRecDepth 65536 in
theorem w_c9 : (Jvm.Cond.code ({ cls := "java/lang/String", name := "checkBoundsOffCount", desc := "(III)I" } : Jvm.MethodName) jdk_42_method_157_code (3 : Nat) (Option.some Jvm.ClassFile.FieldType.int)).before args0 about1 = true := code_word (m := ⟨8, 8⟩) (meth := k8m8) (c := k8c8) (by decide +kernel) rfl rfl rfl (by decide +kernel)
set_option maxRecDepth 65536 in
theorem w_c10 : (Jvm.Cond.code ({ cls := "jdk/internal/util/Preconditions", name := "checkFromIndexSize", desc := "(IIILjava/util/function/BiFunction;)I" } : Jvm.MethodName) jdk_41_method_13_code (4 : Nat) (Option.some Jvm.ClassFile.FieldType.int)).before args0 about1 = true := code_word (m := ⟨15, 2⟩) (meth := k15m2) (c := k15c2) (by decide +kernel) rfl rfl rfl (by decide +kernel)
set_option maxRecDepth 65536 in
theorem w_c11 : (Jvm.Cond.code ({ cls := "com/example/isolate_to_replay/isolatetoreplay/command/LastLineAcceptPinLaw", name := "kept", desc := "([BIII)I" } : Jvm.MethodName) method_4_code (5 : Nat) (Option.some Jvm.ClassFile.FieldType.int)).before args0 about1 = true := code_word (m := ⟨1, 3⟩) (meth := k1m3) (c := k1c3) (by decide +kernel) rfl rfl rfl (by decide +kernel)
set_option maxRecDepth 65536 in
theorem w_c12 : (Jvm.Cond.code ({ cls := "java/lang/Math", name := "min", desc := "(II)I" } : Jvm.MethodName) jdk_29_method_69_code (2 : Nat) (Option.some Jvm.ClassFile.FieldType.int)).before args0 about1 = true := code_word (m := ⟨16, 1⟩) (meth := k16m1) (c := k16c1) (by decide +kernel) rfl rfl rfl (by decide +kernel)
set_option maxRecDepth 65536 in
theorem w_c13 : (Jvm.Cond.code ({ cls := "com/example/isolate_to_replay/isolatetoreplay/command/LastLineAcceptPinLaw", name := "matches", desc := "(Ljava/lang/String;[BII)Z" } : Jvm.MethodName) method_5_code (4 : Nat) (Option.some Jvm.ClassFile.FieldType.boolean)).before args0 about1 = true := code_word (m := ⟨1, 4⟩) (meth := k1m4) (c := k1c4) (by decide +kernel) rfl rfl rfl (by decide +kernel)
set_option maxRecDepth 65536 in
theorem w_c14 : (Jvm.Cond.code ({ cls := "java/lang/String", name := "length", desc := "()I" } : Jvm.MethodName) jdk_42_method_54_code (1 : Nat) (Option.some Jvm.ClassFile.FieldType.int)).before args0 about1 = true := code_word (m := ⟨8, 3⟩) (meth := k8m3) (c := k8c3) (by decide +kernel) rfl rfl rfl (by decide +kernel)
set_option maxRecDepth 65536 in
theorem w_c15 : (Jvm.Cond.code ({ cls := "java/lang/String", name := "coder", desc := "()B" } : Jvm.MethodName) jdk_42_method_152_code (1 : Nat) (Option.some Jvm.ClassFile.FieldType.byte)).before args0 about1 = true := code_word (m := ⟨8, 5⟩) (meth := k8m5) (c := k8c5) (by decide +kernel) rfl rfl rfl (by decide +kernel)
set_option maxRecDepth 65536 in
theorem w_c16 : (Jvm.Cond.code ({ cls := "java/util/Arrays", name := "copyOf", desc := "([BI)[B" } : Jvm.MethodName) jdk_65_method_121_code (3 : Nat) (Option.some (Jvm.ClassFile.FieldType.array Jvm.ClassFile.FieldType.byte))).before args0 about1 = true := code_word (m := ⟨17, 1⟩) (meth := k17m1) (c := k17c1) (by decide +kernel) rfl rfl rfl (by decide +kernel)
set_option maxRecDepth 65536 in
theorem w_c17 : (Jvm.Cond.code ({ cls := "java/lang/StringCoding", name := "countPositives", desc := "([BII)I" } : Jvm.MethodName) jdk_123_method_3_code (5 : Nat) (Option.some Jvm.ClassFile.FieldType.int)).before args0 about1 = true := code_word (m := ⟨19, 1⟩) (meth := k19m1) (c := k19c1) (by decide +kernel) rfl rfl rfl (by decide +kernel)
set_option maxRecDepth 65536 in
theorem w_c18 : (Jvm.Cond.code ({ cls := "java/util/Arrays", name := "copyOfRange", desc := "([BII)[B" } : Jvm.MethodName) jdk_65_method_132_code (3 : Nat) (Option.some (Jvm.ClassFile.FieldType.array Jvm.ClassFile.FieldType.byte))).before args0 about1 = true := code_word (m := ⟨17, 2⟩) (meth := k17m2) (c := k17c2) (by decide +kernel) rfl rfl rfl (by decide +kernel)
set_option maxRecDepth 65536 in
theorem w_c19 : (Jvm.Cond.code ({ cls := "java/lang/String", name := "charAt", desc := "(I)C" } : Jvm.MethodName) jdk_42_method_56_code (2 : Nat) (Option.some Jvm.ClassFile.FieldType.char)).before args0 about1 = true := code_word (m := ⟨8, 4⟩) (meth := k8m4) (c := k8c4) (by decide +kernel) rfl rfl rfl (by decide +kernel)
set_option maxRecDepth 65536 in
theorem w_c20 : (Jvm.Cond.code ({ cls := "java/lang/String", name := "isLatin1", desc := "()Z" } : Jvm.MethodName) jdk_42_method_154_code (1 : Nat) (Option.some Jvm.ClassFile.FieldType.boolean)).before args0 about1 = true := code_word (m := ⟨8, 6⟩) (meth := k8m6) (c := k8c6) (by decide +kernel) rfl rfl rfl (by decide +kernel)
set_option maxRecDepth 65536 in
theorem w_c21 : (Jvm.Cond.code ({ cls := "java/lang/StringLatin1", name := "charAt", desc := "([BI)C" } : Jvm.MethodName) jdk_43_method_2_code (2 : Nat) (Option.some Jvm.ClassFile.FieldType.char)).before args0 about1 = true := code_word (m := ⟨21, 1⟩) (meth := k21m1) (c := k21c1) (by decide +kernel) rfl rfl rfl (by decide +kernel)
set_option maxRecDepth 65536 in
theorem w_c22 : (Jvm.Cond.code ({ cls := "java/lang/String", name := "checkIndex", desc := "(II)V" } : Jvm.MethodName) jdk_42_method_155_code (2 : Nat) (Option.none : Option Jvm.ClassFile.FieldType)).before args0 about1 = true := code_word (m := ⟨8, 7⟩) (meth := k8m7) (c := k8c7) (by decide +kernel) rfl rfl rfl (by decide +kernel)
set_option maxRecDepth 65536 in
theorem w_c23 : (Jvm.Cond.code ({ cls := "jdk/internal/util/Preconditions", name := "checkIndex", desc := "(IILjava/util/function/BiFunction;)I" } : Jvm.MethodName) jdk_41_method_11_code (3 : Nat) (Option.some Jvm.ClassFile.FieldType.int)).before args0 about1 = true := code_word (m := ⟨15, 1⟩) (meth := k15m1) (c := k15c1) (by decide +kernel) rfl rfl rfl (by decide +kernel)
set_option maxRecDepth 65536 in
theorem w_c24 : (Jvm.Cond.code ({ cls := "com/example/isolate_to_replay/isolatetoreplay/command/LastLine", name := "sequenceLength", desc := "(B)I" } : Jvm.MethodName) prog_5_method_5_code (1 : Nat) (Option.some Jvm.ClassFile.FieldType.int)).before args0 about1 = true := code_word (m := ⟨2, 4⟩) (meth := k2m4) (c := k2c4) (by decide +kernel) rfl rfl rfl (by decide +kernel)
set_option maxRecDepth 65536 in
theorem w_cW : (Jvm.Cond.codeWith ({ cls := "java/lang/String", name := "<init>", desc := "(Ljava/nio/charset/Charset;[BII)V" } : Jvm.MethodName) jdk_42_method_11_code (11 : Nat) (Option.none : Option Jvm.ClassFile.FieldType) [((800 : Nat), (813 : Nat), (816 : Nat), (202 : Nat))]).before args0 about1 = true := codeWith_word (m := ⟨8, 2⟩) (meth := k8m2) (c := k8c2) (by decide +kernel) rfl rfl rfl (by decide +kernel)
def codes1 : List Jvm.Cond := [Jvm.Cond.code x code maxLocals ret, Jvm.Cond.code ({ cls := "com/example/isolate_to_replay/isolatetoreplay/command/LastLineAcceptPinLaw", name := "letter", desc := "(J)B" } : Jvm.MethodName) method_3_code (3 : Nat) (Option.some Jvm.ClassFile.FieldType.byte), Jvm.Cond.code ({ cls := "com/example/isolate_to_replay/isolatetoreplay/command/LastLine", name := "<init>", desc := "(I)V" } : Jvm.MethodName) prog_5_method_1_code (2 : Nat) (Option.none : Option Jvm.ClassFile.FieldType), Jvm.Cond.code ({ cls := "java/lang/Object", name := "<init>", desc := "()V" } : Jvm.MethodName) object_method_1_code (1 : Nat) (Option.none : Option Jvm.ClassFile.FieldType), Jvm.Cond.code ({ cls := "com/example/isolate_to_replay/isolatetoreplay/command/LastLine", name := "accept", desc := "([BII)V" } : Jvm.MethodName) prog_5_method_2_code (6 : Nat) (Option.none : Option Jvm.ClassFile.FieldType), Jvm.Cond.code ({ cls := "com/example/isolate_to_replay/isolatetoreplay/command/LastLine", name := "text", desc := "()Ljava/lang/String;" } : Jvm.MethodName) prog_5_method_3_code (3 : Nat) (Option.some (Jvm.ClassFile.FieldType.object "java/lang/String")), Jvm.Cond.code ({ cls := "com/example/isolate_to_replay/isolatetoreplay/command/LastLine", name := "endLine", desc := "()V" } : Jvm.MethodName) prog_5_method_4_code (2 : Nat) (Option.none : Option Jvm.ClassFile.FieldType), Jvm.Cond.code ({ cls := "java/lang/String", name := "<init>", desc := "([BIILjava/nio/charset/Charset;)V" } : Jvm.MethodName) jdk_42_method_10_code (5 : Nat) (Option.none : Option Jvm.ClassFile.FieldType), Jvm.Cond.code ({ cls := "java/util/Objects", name := "requireNonNull", desc := "(Ljava/lang/Object;)Ljava/lang/Object;" } : Jvm.MethodName) jdk_31_method_10_code (1 : Nat) (Option.some (Jvm.ClassFile.FieldType.object "java/lang/Object")), Jvm.Cond.code ({ cls := "java/lang/String", name := "checkBoundsOffCount", desc := "(III)I" } : Jvm.MethodName) jdk_42_method_157_code (3 : Nat) (Option.some Jvm.ClassFile.FieldType.int), Jvm.Cond.code ({ cls := "jdk/internal/util/Preconditions", name := "checkFromIndexSize", desc := "(IIILjava/util/function/BiFunction;)I" } : Jvm.MethodName) jdk_41_method_13_code (4 : Nat) (Option.some Jvm.ClassFile.FieldType.int), Jvm.Cond.codeWith ({ cls := "java/lang/String", name := "<init>", desc := "(Ljava/nio/charset/Charset;[BII)V" } : Jvm.MethodName) jdk_42_method_11_code (11 : Nat) (Option.none : Option Jvm.ClassFile.FieldType) [((800 : Nat), (813 : Nat), (816 : Nat), (202 : Nat))], Jvm.Cond.code ({ cls := "com/example/isolate_to_replay/isolatetoreplay/command/LastLineAcceptPinLaw", name := "kept", desc := "([BIII)I" } : Jvm.MethodName) method_4_code (5 : Nat) (Option.some Jvm.ClassFile.FieldType.int), Jvm.Cond.code ({ cls := "java/lang/Math", name := "min", desc := "(II)I" } : Jvm.MethodName) jdk_29_method_69_code (2 : Nat) (Option.some Jvm.ClassFile.FieldType.int), Jvm.Cond.code ({ cls := "com/example/isolate_to_replay/isolatetoreplay/command/LastLineAcceptPinLaw", name := "matches", desc := "(Ljava/lang/String;[BII)Z" } : Jvm.MethodName) method_5_code (4 : Nat) (Option.some Jvm.ClassFile.FieldType.boolean), Jvm.Cond.code ({ cls := "java/lang/String", name := "length", desc := "()I" } : Jvm.MethodName) jdk_42_method_54_code (1 : Nat) (Option.some Jvm.ClassFile.FieldType.int), Jvm.Cond.code ({ cls := "java/lang/String", name := "coder", desc := "()B" } : Jvm.MethodName) jdk_42_method_152_code (1 : Nat) (Option.some Jvm.ClassFile.FieldType.byte), Jvm.Cond.code ({ cls := "java/util/Arrays", name := "copyOf", desc := "([BI)[B" } : Jvm.MethodName) jdk_65_method_121_code (3 : Nat) (Option.some (Jvm.ClassFile.FieldType.array Jvm.ClassFile.FieldType.byte)), Jvm.Cond.code ({ cls := "java/lang/StringCoding", name := "countPositives", desc := "([BII)I" } : Jvm.MethodName) jdk_123_method_3_code (5 : Nat) (Option.some Jvm.ClassFile.FieldType.int), Jvm.Cond.code ({ cls := "java/util/Arrays", name := "copyOfRange", desc := "([BII)[B" } : Jvm.MethodName) jdk_65_method_132_code (3 : Nat) (Option.some (Jvm.ClassFile.FieldType.array Jvm.ClassFile.FieldType.byte)), Jvm.Cond.code ({ cls := "java/lang/String", name := "charAt", desc := "(I)C" } : Jvm.MethodName) jdk_42_method_56_code (2 : Nat) (Option.some Jvm.ClassFile.FieldType.char), Jvm.Cond.code ({ cls := "java/lang/String", name := "isLatin1", desc := "()Z" } : Jvm.MethodName) jdk_42_method_154_code (1 : Nat) (Option.some Jvm.ClassFile.FieldType.boolean), Jvm.Cond.code ({ cls := "java/lang/StringLatin1", name := "charAt", desc := "([BI)C" } : Jvm.MethodName) jdk_43_method_2_code (2 : Nat) (Option.some Jvm.ClassFile.FieldType.char), Jvm.Cond.code ({ cls := "java/lang/String", name := "checkIndex", desc := "(II)V" } : Jvm.MethodName) jdk_42_method_155_code (2 : Nat) (Option.none : Option Jvm.ClassFile.FieldType), Jvm.Cond.code ({ cls := "jdk/internal/util/Preconditions", name := "checkIndex", desc := "(IILjava/util/function/BiFunction;)I" } : Jvm.MethodName) jdk_41_method_11_code (3 : Nat) (Option.some Jvm.ClassFile.FieldType.int), Jvm.Cond.code ({ cls := "com/example/isolate_to_replay/isolatetoreplay/command/LastLine", name := "sequenceLength", desc := "(B)I" } : Jvm.MethodName) prog_5_method_5_code (1 : Nat) (Option.some Jvm.ClassFile.FieldType.int)]
set_option maxRecDepth 65536 in
theorem codes_eq : words1.filter isCode = codes1 := rfl
theorem w_codes : ∀ c ∈ words1.filter isCode, c.before args0 about1 = true := by
  rw [codes_eq]
  intro c hc
  simp only [codes1, List.mem_cons, List.not_mem_nil, or_false] at hc
  rcases hc with rfl | rfl | rfl | rfl | rfl | rfl | rfl | rfl | rfl | rfl | rfl | rfl | rfl | rfl | rfl | rfl | rfl | rfl | rfl | rfl | rfl | rfl | rfl | rfl | rfl | rfl
  · exact w_c0
  · exact w_c1
  · exact w_c2
  · exact w_c3
  · exact w_c4
  · exact w_c5
  · exact w_c6
  · exact w_c7
  · exact w_c8
  · exact w_c9
  · exact w_c10
  · exact w_cW
  · exact w_c11
  · exact w_c12
  · exact w_c13
  · exact w_c14
  · exact w_c15
  · exact w_c16
  · exact w_c17
  · exact w_c18
  · exact w_c19
  · exact w_c20
  · exact w_c21
  · exact w_c22
  · exact w_c23
  · exact w_c24
set_option maxRecDepth 65536 in
theorem w_t1 : (words1.take 24).all (fun c => isCode c || c.before args0 about1) = true := by decide +kernel
set_option maxRecDepth 65536 in
theorem w_t2 : ((words1.drop 24).take 24).all (fun c => isCode c || c.before args0 about1) = true := by decide +kernel
set_option maxRecDepth 65536 in
theorem w_t3 : (((words1.drop 24).drop 24).take 24).all (fun c => isCode c || c.before args0 about1) = true := by decide +kernel
set_option maxRecDepth 65536 in
theorem w_t4 : ((((words1.drop 24).drop 24).drop 24).take 24).all (fun c => isCode c || c.before args0 about1) = true := by decide +kernel
set_option maxRecDepth 65536 in
theorem w_t5 : (((((words1.drop 24).drop 24).drop 24).drop 24).take 24).all (fun c => isCode c || c.before args0 about1) = true := by decide +kernel
set_option maxRecDepth 65536 in
theorem w_t6 : (((((words1.drop 24).drop 24).drop 24).drop 24).drop 24).all (fun c => isCode c || c.before args0 about1) = true := by decide +kernel
theorem w_tables : (allAtoms (Jvm.Cond.code x code maxLocals ret :: tables_1)).before args0 about1 = true := by
  rw [allAtoms_all]
  show words1.all (fun c => c.before args0 about1) = true
  refine all_split ?_ w_codes
  rw [← List.take_append_drop 24 words1, List.all_append, w_t1, ← List.take_append_drop 24 (words1.drop 24), List.all_append, w_t2, ← List.take_append_drop 24 ((words1.drop 24).drop 24), List.all_append, w_t3, ← List.take_append_drop 24 (((words1.drop 24).drop 24).drop 24), List.all_append, w_t4, ← List.take_append_drop 24 ((((words1.drop 24).drop 24).drop 24).drop 24), List.all_append, w_t5, w_t6]
  rfl
set_option maxRecDepth 65536 in
theorem w_rest : rest_1_c.before args0 about1 = true := by decide +kernel
set_option maxRecDepth 65536 in
theorem w_case : (Jvm.Cond.and given_1 narrow_1).before args0 about1 = true := by decide +kernel
set_option maxRecDepth 65536 in
theorem w_consts : constsHeld consts_1 about1 := Jvm.Lit.constsHeldB_iff.mp (by decide +kernel)
theorem w_applies : (headSpec (Jvm.Cond.code x code maxLocals ret :: tables_1) room_1).applies x e0.platform about1 = true :=
  (Spec.applies_iff w_frames).mpr ⟨w_running, w_runnable, w_alone, w_named, w_hears, w_ripe, w_room, w_tables⟩
theorem atStart : AtStart classFile x code maxLocals ret World_1 tables_1 room_1 Calls_1 rest_1 Pre_1 launch0 p0 e0 about1 theMethod args0 below0 :=
  ⟨lists_1, trivial, launch0.admits_env _ _ _, launch0.least_env, fairChoices_fair.cas, fairChoices_fair.clock, w_frames, w_args, w_heap, w_applies, ⟨w_consts, trivial⟩, w_rest, w_case⟩
end start1
theorem witness_1 : WitnessClaimed_1 := ⟨start1.p0, start1.e0, start1.about1, start1.theMethod, start1.args0, start1.below0, start1.atStart⟩
end Jvm.Pilot.@@N@@
