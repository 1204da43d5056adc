import JvmDerived
import JvmDerived.Pilot.@@N@@Statement
import JvmDerived.Pilot.@@N@@Code
set_option linter.unusedVariables false
set_option linter.unusedSimpArgs false
namespace Jvm.Pilot.@@N@@
open Jvm Jvm.ClassFile Sem Op Lib Jvm.Free Jvm.Stand Jvm.LawKit Jvm.RoadKit Bundle Jvm.Pilot.@@N@@.Jvm.D
section Own
variable {p : Program} {l : Launch} {e : Env} {s : State} {m : MethodId} {args : Array Value} {below : List Frame} {meth : Method} {c : Code} {Z : State} {a0 : Array Value} {n0 : Nat}
  {y : MethodName} {code : ByteArray} {mx : Nat} {ret : Option FieldType} {R : Room} {T : State} {h : Heap} {cells slots : Nat} {Q : Option Value → Heap → Prop} {pc pc' : Nat} {ls ls' : Array Slot} {st : List Value}
/-- where a walk stands: all that stays from step to step, in one word -/
def own_S (p : Program) (l : Launch) (e : Env) (s : State) (m : MethodId) (args : Array Value) (below : List Frame) (meth : Method) (c : Code) (Z : State) (a0 : Array Value) (n0 : Nat) (y : MethodName) (code : ByteArray) (mx : Nat) (ret : Option FieldType) (R : Room) (T : State) (h : Heap) (cells slots : Nat) : Prop :=
  ∃ locs : List Loc, Stand p l e R s m args below meth c T locs cells slots ∧ T.heap = h ∧ Fr n0 locs ∧ n0 ≤ s.heap.size ∧ p.tables.exec = Jvm.exec ∧ Z.Warmed39 s.vm ∧ (∀ d ∈ tables_1, d.before a0 Z = true) ∧ c.code = code ∧ c.maxLocals = mx ∧ s.vm.findClass y.cls = some m.cls ∧ meth.name = y.name ∧ meth.locks = false ∧ meth.sig.returnType = ret
/-- from T with the frame f on top the invocation comes to an end of which Q speaks -/
def own_G (p : Program) (e : Env) (s : State) (below : List Frame) (R : Room) (n0 : Nat) (Q : Option Value → Heap → Prop) (T : State) (f : JFrame) : Prop :=
  ∃ (U : State) (o : Outcome), Steps p.tables e below (T.setTop f) U ∧ U.status = .running ∧ Ended U below o ∧ ∃ v L, o = .returned v ∧ (Q v U.heap ∧ Fr n0 L) ∧ FrameEnd s o U L R.cells R.slots
theorem own_by {T' : State} {f f' : JFrame} (st : ∀ target, Steps p.tables e below (T'.setTop f') target → Steps p.tables e below (T.setTop f) target) (H : own_G p e s below R n0 Q T' f') : own_G p e s below R n0 Q T f := by
  obtain ⟨U, o, h1, h2⟩ := H
  exact ⟨U, o, st U h1, h2⟩
theorem own_word (S : own_S p l e s m args below meth c Z a0 n0 y code mx ret R T h cells slots) : ∀ d ∈ tables_1, d.before a0 Z = true := by
  obtain ⟨_, _, _, _, _, _, _, hw, _⟩ := S; exact hw
theorem own_size (S : own_S p l e s m args below meth c Z a0 n0 y code mx ret R T h cells slots) : n0 ≤ h.size := by
  obtain ⟨_, X, eT, _, hs, _⟩ := S; rw [← eT]; exact Nat.le_trans hs X.same.2.1
-- plain steps
theorem own_iload {k : Nat} {v : Int32} (S : own_S p l e s m args below meth c Z a0 n0 y code mx ret R T h cells slots) (hp : pc + 2 = pc') (hd : decode code pc = .ok (.iload k, 2)) (hl : ls[k]? = some (.val (.int v)))
    (H : own_G p e s below R n0 Q T (mkF m pc' ls (.int v :: st))) : own_G p e s below R n0 Q T (mkF m pc ls st) := by
  obtain ⟨_, X, _, _, _, hx, _, _, hby, _⟩ := S; subst hp
  exact own_by (fun _ k => XS.iload X.here hx rfl (hb hby hd) hl k) H
theorem own_iloadN {k : Fin 4} {v : Int32} (S : own_S p l e s m args below meth c Z a0 n0 y code mx ret R T h cells slots) (hp : pc + 1 = pc') (hd : decode code pc = .ok (.iload_n k, 1)) (hl : ls[k.val]? = some (.val (.int v)))
    (H : own_G p e s below R n0 Q T (mkF m pc' ls (.int v :: st))) : own_G p e s below R n0 Q T (mkF m pc ls st) := by
  obtain ⟨_, X, _, _, _, hx, _, _, hby, _⟩ := S; subst hp
  exact own_by (fun _ k => XS.iloadN X.here hx rfl (hb hby hd) hl k) H
theorem own_lload {k : Nat} {v : Int64} (S : own_S p l e s m args below meth c Z a0 n0 y code mx ret R T h cells slots) (hp : pc + 2 = pc') (hd : decode code pc = .ok (.lload k, 2)) (hl : ls[k]? = some (.val (.long v)))
    (H : own_G p e s below R n0 Q T (mkF m pc' ls (.long v :: st))) : own_G p e s below R n0 Q T (mkF m pc ls st) := by
  obtain ⟨_, X, _, _, _, hx, _, _, hby, _⟩ := S; subst hp
  exact own_by (fun _ k => XT.lload X.here hx rfl (hb hby hd) hl k) H
theorem own_lloadN {k : Fin 4} {v : Int64} (S : own_S p l e s m args below meth c Z a0 n0 y code mx ret R T h cells slots) (hp : pc + 1 = pc') (hd : decode code pc = .ok (.lload_n k, 1)) (hl : ls[k.val]? = some (.val (.long v)))
    (H : own_G p e s below R n0 Q T (mkF m pc' ls (.long v :: st))) : own_G p e s below R n0 Q T (mkF m pc ls st) := by
  obtain ⟨_, X, _, _, _, hx, _, _, hby, _⟩ := S; subst hp
  exact own_by (fun _ k => XT.lloadN X.here hx rfl (hb hby hd) hl k) H
theorem own_aload {k : Nat} {v : Value} (S : own_S p l e s m args below meth c Z a0 n0 y code mx ret R T h cells slots) (hp : pc + 2 = pc') (hd : decode code pc = .ok (.aload k, 2)) (hl : ls[k]? = some (.val v)) (hv : v.isRef = true)
    (H : own_G p e s below R n0 Q T (mkF m pc' ls (v :: st))) : own_G p e s below R n0 Q T (mkF m pc ls st) := by
  obtain ⟨_, X, _, _, _, hx, _, _, hby, _⟩ := S; subst hp
  exact own_by (fun _ k => XS.aload X.here hx rfl (hb hby hd) hl hv k) H
theorem own_aloadN {k : Fin 4} {v : Value} (S : own_S p l e s m args below meth c Z a0 n0 y code mx ret R T h cells slots) (hp : pc + 1 = pc') (hd : decode code pc = .ok (.aload_n k, 1)) (hl : ls[k.val]? = some (.val v)) (hv : v.isRef = true)
    (H : own_G p e s below R n0 Q T (mkF m pc' ls (v :: st))) : own_G p e s below R n0 Q T (mkF m pc ls st) := by
  obtain ⟨_, X, _, _, _, hx, _, _, hby, _⟩ := S; subst hp
  exact own_by (fun _ k => XS.aloadN X.here hx rfl (hb hby hd) hl hv k) H
theorem own_iconst {i : Int} (v : Int32) (S : own_S p l e s m args below meth c Z a0 n0 y code mx ret R T h cells slots) (hp : pc + 1 = pc') (hd : decode code pc = .ok (.iconst i, 1)) (hv : Int32.ofInt i = v)
    (H : own_G p e s below R n0 Q T (mkF m pc' ls (.int v :: st))) : own_G p e s below R n0 Q T (mkF m pc ls st) := by
  obtain ⟨_, X, _, _, _, hx, _, _, hby, _⟩ := S; subst hp
  exact own_by (fun _ k => XT.iconstV X.here hx rfl v (hb hby hd) hv k) H
theorem own_bipush {i : Int} (v : Int32) (S : own_S p l e s m args below meth c Z a0 n0 y code mx ret R T h cells slots) (hp : pc + 2 = pc') (hd : decode code pc = .ok (.bipush i, 2)) (hv : (Int8.ofInt i).toInt32 = v)
    (H : own_G p e s below R n0 Q T (mkF m pc' ls (.int v :: st))) : own_G p e s below R n0 Q T (mkF m pc ls st) := by
  obtain ⟨_, X, _, _, _, hx, _, _, hby, _⟩ := S; subst hp
  exact own_by (fun _ k => XT.bipushV X.here hx rfl v (hb hby hd) hv k) H
theorem own_sipush {i : Int} (v : Int32) (S : own_S p l e s m args below meth c Z a0 n0 y code mx ret R T h cells slots) (hp : pc + 3 = pc') (hd : decode code pc = .ok (.sipush i, 3)) (hv : (Int16.ofInt i).toInt32 = v)
    (H : own_G p e s below R n0 Q T (mkF m pc' ls (.int v :: st))) : own_G p e s below R n0 Q T (mkF m pc ls st) := by
  obtain ⟨_, X, _, _, _, hx, _, _, hby, _⟩ := S; subst hp
  exact own_by (fun _ k => XT.sipushV X.here hx rfl v (hb hby hd) hv k) H
theorem own_null (S : own_S p l e s m args below meth c Z a0 n0 y code mx ret R T h cells slots) (hp : pc + 1 = pc') (hd : decode code pc = .ok (.aconst_null, 1))
    (H : own_G p e s below R n0 Q T (mkF m pc' ls (.null :: st))) : own_G p e s below R n0 Q T (mkF m pc ls st) := by
  obtain ⟨_, X, _, _, _, hx, _, _, hby, _⟩ := S; subst hp
  exact own_by (fun _ k => XS.aconstNull X.here hx rfl (hb hby hd) k) H
theorem own_ldc {idx : Nat} {v : Int32} (S : own_S p l e s m args below meth c Z a0 n0 y code mx ret R T h cells slots) (hp : pc + 2 = pc') (hd : decode code pc = .ok (.ldc idx, 2)) (w : Jvm.Cond.constant y.cls idx v ∈ tables_1)
    (H : own_G p e s below R n0 Q T (mkF m pc' ls (.int v :: st))) : own_G p e s below R n0 Q T (mkF m pc ls st) := by
  obtain ⟨_, X, _, _, _, hx, hZ, hw, hby, _, hown, _⟩ := S; subst hp
  exact own_by (fun _ k => X.ldcI hx hown (mvT hZ (hw _ w)) rfl (hb hby hd) k) H
theorem own_iadd {a b : Int32} (S : own_S p l e s m args below meth c Z a0 n0 y code mx ret R T h cells slots) (hp : pc + 1 = pc') (hd : decode code pc = .ok (.iadd, 1))
    (H : own_G p e s below R n0 Q T (mkF m pc' ls (.int (a + b) :: st))) : own_G p e s below R n0 Q T (mkF m pc ls (.int b :: .int a :: st)) := by
  obtain ⟨_, X, _, _, _, hx, _, _, hby, _⟩ := S; subst hp
  exact own_by (fun _ k => XS.iadd X.here hx rfl (hb hby hd) rfl k) H
theorem own_isub {a b : Int32} (S : own_S p l e s m args below meth c Z a0 n0 y code mx ret R T h cells slots) (hp : pc + 1 = pc') (hd : decode code pc = .ok (.isub, 1))
    (H : own_G p e s below R n0 Q T (mkF m pc' ls (.int (a - b) :: st))) : own_G p e s below R n0 Q T (mkF m pc ls (.int b :: .int a :: st)) := by
  obtain ⟨_, X, _, _, _, hx, _, _, hby, _⟩ := S; subst hp
  exact own_by (fun _ k => XS.isub X.here hx rfl (hb hby hd) rfl k) H
theorem own_imul {a b : Int32} (S : own_S p l e s m args below meth c Z a0 n0 y code mx ret R T h cells slots) (hp : pc + 1 = pc') (hd : decode code pc = .ok (.imul, 1))
    (H : own_G p e s below R n0 Q T (mkF m pc' ls (.int (a * b) :: st))) : own_G p e s below R n0 Q T (mkF m pc ls (.int b :: .int a :: st)) := by
  obtain ⟨_, X, _, _, _, hx, _, _, hby, _⟩ := S; subst hp
  exact own_by (fun _ k => XS.imul X.here hx rfl (hb hby hd) rfl k) H
theorem own_idiv {a b : Int32} (S : own_S p l e s m args below meth c Z a0 n0 y code mx ret R T h cells slots) (hp : pc + 1 = pc') (hd : decode code pc = .ok (.idiv, 1)) (hz : b ≠ 0)
    (H : own_G p e s below R n0 Q T (mkF m pc' ls (.int (a / b) :: st))) : own_G p e s below R n0 Q T (mkF m pc ls (.int b :: .int a :: st)) := by
  obtain ⟨_, X, _, _, _, hx, _, _, hby, _⟩ := S; subst hp
  exact own_by (fun _ k => XS.idiv X.here hx rfl (hb hby hd) rfl hz k) H
theorem own_irem {a b : Int32} (S : own_S p l e s m args below meth c Z a0 n0 y code mx ret R T h cells slots) (hp : pc + 1 = pc') (hd : decode code pc = .ok (.irem, 1)) (hz : b ≠ 0)
    (H : own_G p e s below R n0 Q T (mkF m pc' ls (.int (a % b) :: st))) : own_G p e s below R n0 Q T (mkF m pc ls (.int b :: .int a :: st)) := by
  obtain ⟨_, X, _, _, _, hx, _, _, hby, _⟩ := S; subst hp
  exact own_by (fun _ k => iremM X hx rfl (hb hby hd) rfl hz k) H
theorem own_iand {a b : Int32} (S : own_S p l e s m args below meth c Z a0 n0 y code mx ret R T h cells slots) (hp : pc + 1 = pc') (hd : decode code pc = .ok (.iand, 1))
    (H : own_G p e s below R n0 Q T (mkF m pc' ls (.int (a &&& b) :: st))) : own_G p e s below R n0 Q T (mkF m pc ls (.int b :: .int a :: st)) := by
  obtain ⟨_, X, _, _, _, hx, _, _, hby, _⟩ := S; subst hp
  exact own_by (fun _ k => XS.iand X.here hx rfl (hb hby hd) rfl k) H
theorem own_ior {a b : Int32} (S : own_S p l e s m args below meth c Z a0 n0 y code mx ret R T h cells slots) (hp : pc + 1 = pc') (hd : decode code pc = .ok (.ior, 1))
    (H : own_G p e s below R n0 Q T (mkF m pc' ls (.int (a ||| b) :: st))) : own_G p e s below R n0 Q T (mkF m pc ls (.int b :: .int a :: st)) := by
  obtain ⟨_, X, _, _, _, hx, _, _, hby, _⟩ := S; subst hp
  exact own_by (fun _ k => XT.ior X.here hx rfl (hb hby hd) rfl k) H
theorem own_ixor {a b : Int32} (S : own_S p l e s m args below meth c Z a0 n0 y code mx ret R T h cells slots) (hp : pc + 1 = pc') (hd : decode code pc = .ok (.ixor, 1))
    (H : own_G p e s below R n0 Q T (mkF m pc' ls (.int (a ^^^ b) :: st))) : own_G p e s below R n0 Q T (mkF m pc ls (.int b :: .int a :: st)) := by
  obtain ⟨_, X, _, _, _, hx, _, _, hby, _⟩ := S; subst hp
  exact own_by (fun _ k => XT.ixor X.here hx rfl (hb hby hd) rfl k) H
theorem own_ishr {a b : Int32} (S : own_S p l e s m args below meth c Z a0 n0 y code mx ret R T h cells slots) (hp : pc + 1 = pc') (hd : decode code pc = .ok (.ishr, 1))
    (H : own_G p e s below R n0 Q T (mkF m pc' ls (.int (a >>> (b &&& 31)) :: st))) : own_G p e s below R n0 Q T (mkF m pc ls (.int b :: .int a :: st)) := by
  obtain ⟨_, X, _, _, _, hx, _, _, hby, _⟩ := S; subst hp
  exact own_by (fun _ k => XT.ishr X.here hx rfl (hb hby hd) rfl k) H
theorem own_iushr {a b : Int32} (S : own_S p l e s m args below meth c Z a0 n0 y code mx ret R T h cells slots) (hp : pc + 1 = pc') (hd : decode code pc = .ok (.iushr, 1))
    (H : own_G p e s below R n0 Q T (mkF m pc' ls (.int (XT.ushr a b) :: st))) : own_G p e s below R n0 Q T (mkF m pc ls (.int b :: .int a :: st)) := by
  obtain ⟨_, X, _, _, _, hx, _, _, hby, _⟩ := S; subst hp
  exact own_by (fun _ k => XT.iushr X.here hx rfl (hb hby hd) rfl k) H
theorem own_lushr {a : Int64} {b : Int32} (S : own_S p l e s m args below meth c Z a0 n0 y code mx ret R T h cells slots) (hp : pc + 1 = pc') (hd : decode code pc = .ok (.lushr, 1))
    (H : own_G p e s below R n0 Q T (mkF m pc' ls (.long (XT.ushrL a b) :: st))) : own_G p e s below R n0 Q T (mkF m pc ls (.int b :: .long a :: st)) := by
  obtain ⟨_, X, _, _, _, hx, _, _, hby, _⟩ := S; subst hp
  exact own_by (fun _ k => XT.lushr X.here hx rfl (hb hby hd) rfl k) H
theorem own_l2i {a : Int64} (S : own_S p l e s m args below meth c Z a0 n0 y code mx ret R T h cells slots) (hp : pc + 1 = pc') (hd : decode code pc = .ok (.l2i, 1))
    (H : own_G p e s below R n0 Q T (mkF m pc' ls (.int a.toInt32 :: st))) : own_G p e s below R n0 Q T (mkF m pc ls (.long a :: st)) := by
  obtain ⟨_, X, _, _, _, hx, _, _, hby, _⟩ := S; subst hp
  exact own_by (fun _ k => XT.l2i X.here hx rfl (hb hby hd) rfl k) H
theorem own_i2b {a : Int32} (S : own_S p l e s m args below meth c Z a0 n0 y code mx ret R T h cells slots) (hp : pc + 1 = pc') (hd : decode code pc = .ok (.i2b, 1))
    (H : own_G p e s below R n0 Q T (mkF m pc' ls (.int a.toInt8.toInt32 :: st))) : own_G p e s below R n0 Q T (mkF m pc ls (.int a :: st)) := by
  obtain ⟨_, X, _, _, _, hx, _, _, hby, _⟩ := S; subst hp
  exact own_by (fun _ k => XT.i2b X.here hx rfl (hb hby hd) rfl k) H
theorem own_i2c {a : Int32} (S : own_S p l e s m args below meth c Z a0 n0 y code mx ret R T h cells slots) (hp : pc + 1 = pc') (hd : decode code pc = .ok (.i2c, 1))
    (H : own_G p e s below R n0 Q T (mkF m pc' ls (.int a.toUInt32.toUInt16.toUInt32.toInt32 :: st))) : own_G p e s below R n0 Q T (mkF m pc ls (.int a :: st)) := by
  obtain ⟨_, X, _, _, _, hx, _, _, hby, _⟩ := S; subst hp
  exact own_by (fun _ k => XT.i2c X.here hx rfl (hb hby hd) rfl k) H
theorem own_dup {a : Value} (S : own_S p l e s m args below meth c Z a0 n0 y code mx ret R T h cells slots) (hp : pc + 1 = pc') (hd : decode code pc = .ok (.dup, 1)) (hc : a.category = 1)
    (H : own_G p e s below R n0 Q T (mkF m pc' ls (a :: a :: st))) : own_G p e s below R n0 Q T (mkF m pc ls (a :: st)) := by
  obtain ⟨_, X, _, _, _, hx, _, _, hby, _⟩ := S; subst hp
  exact own_by (fun _ k => XS.dup X.here hx rfl (hb hby hd) rfl hc k) H
theorem own_dup2 {a b : Value} (S : own_S p l e s m args below meth c Z a0 n0 y code mx ret R T h cells slots) (hp : pc + 1 = pc') (hd : decode code pc = .ok (.dup2, 1)) (hc : a.category = 1) (hc' : b.category = 1)
    (H : own_G p e s below R n0 Q T (mkF m pc' ls (a :: b :: a :: b :: st))) : own_G p e s below R n0 Q T (mkF m pc ls (a :: b :: st)) := by
  obtain ⟨_, X, _, _, _, hx, _, _, hby, _⟩ := S; subst hp
  exact own_by (fun _ k => XT.dup2 X.here hx rfl (hb hby hd) rfl hc hc' k) H
theorem own_istore {k : Nat} {v : Int32} (S : own_S p l e s m args below meth c Z a0 n0 y code mx ret R T h cells slots) (hp : pc + 2 = pc') (hd : decode code pc = .ok (.istore k, 2)) (hl : storeLocals ls k (.int v) = some ls')
    (H : own_G p e s below R n0 Q T (mkF m pc' ls' st)) : own_G p e s below R n0 Q T (mkF m pc ls (.int v :: st)) := by
  obtain ⟨_, X, _, _, _, hx, _, _, hby, _⟩ := S; subst hp
  exact own_by (fun _ k => XS.istore X.here hx rfl (hb hby hd) rfl hl k) H
theorem own_istoreN {k : Fin 4} {v : Int32} (S : own_S p l e s m args below meth c Z a0 n0 y code mx ret R T h cells slots) (hp : pc + 1 = pc') (hd : decode code pc = .ok (.istore_n k, 1)) (hl : storeLocals ls k.val (.int v) = some ls')
    (H : own_G p e s below R n0 Q T (mkF m pc' ls' st)) : own_G p e s below R n0 Q T (mkF m pc ls (.int v :: st)) := by
  obtain ⟨_, X, _, _, _, hx, _, _, hby, _⟩ := S; subst hp
  exact own_by (fun _ k => XS.istoreN X.here hx rfl (hb hby hd) rfl hl k) H
theorem own_astore {k : Nat} {v : Value} (S : own_S p l e s m args below meth c Z a0 n0 y code mx ret R T h cells slots) (hp : pc + 2 = pc') (hd : decode code pc = .ok (.astore k, 2)) (hv : v.isRef = true) (hl : storeLocals ls k v = some ls')
    (H : own_G p e s below R n0 Q T (mkF m pc' ls' st)) : own_G p e s below R n0 Q T (mkF m pc ls (v :: st)) := by
  obtain ⟨_, X, _, _, _, hx, _, _, hby, _⟩ := S; subst hp
  exact own_by (fun _ k => XS.astore X.here hx rfl (hb hby hd) rfl hv hl k) H
theorem own_astoreN {k : Fin 4} {v : Value} (S : own_S p l e s m args below meth c Z a0 n0 y code mx ret R T h cells slots) (hp : pc + 1 = pc') (hd : decode code pc = .ok (.astore_n k, 1)) (hv : v.isRef = true) (hl : storeLocals ls k.val v = some ls')
    (H : own_G p e s below R n0 Q T (mkF m pc' ls' st)) : own_G p e s below R n0 Q T (mkF m pc ls (v :: st)) := by
  obtain ⟨_, X, _, _, _, hx, _, _, hby, _⟩ := S; subst hp
  exact own_by (fun _ k => XS.astoreN X.here hx rfl (hb hby hd) rfl hv hl k) H
theorem own_iinc {k : Nat} {cst : Int} {x : Int32} (v : Int32) (S : own_S p l e s m args below meth c Z a0 n0 y code mx ret R T h cells slots) (hp : pc + 3 = pc') (hd : decode code pc = .ok (.iinc k cst, 3)) (hv : Int32.ofInt cst = v) (hl : ls[k]? = some (.val (.int x))) (hl' : storeLocals ls k (.int (x + v)) = some ls')
    (H : own_G p e s below R n0 Q T (mkF m pc' ls' st)) : own_G p e s below R n0 Q T (mkF m pc ls st) := by
  obtain ⟨_, X, _, _, _, hx, _, _, hby, _⟩ := S; subst hp
  exact own_by (fun _ k => XT.iincV X.here hx rfl v (hb hby hd) hv hl hl' k) H
theorem own_goto {o : Int} (S : own_S p l e s m args below meth c Z a0 n0 y code mx ret R T h cells slots) (ho : 0 ≤ (pc : Int) + o) (hp : ((pc : Int) + o).toNat = pc') (hd : decode code pc = .ok (.goto o, 3))
    (H : own_G p e s below R n0 Q T (mkF m pc' ls st)) : own_G p e s below R n0 Q T (mkF m pc ls st) := by
  obtain ⟨_, X, _, _, _, hx, _, _, hby, _⟩ := S
  exact own_by (fun _ k => XS.goto X.here hx rfl rfl (hb hby hd) ho hp k) H
-- branches
theorem own_icY {cd : ClassFile.Cond} {a b : Int32} {o : Int} (S : own_S p l e s m args below meth c Z a0 n0 y code mx ret R T h cells slots) (ho : 0 ≤ (pc : Int) + o) (hp : ((pc : Int) + o).toNat = pc') (hd : decode code pc = .ok (.if_icmp cd o, 3)) (hc : if_icmp.holds cd a b = true)
    (H : own_G p e s below R n0 Q T (mkF m pc' ls st)) : own_G p e s below R n0 Q T (mkF m pc ls (.int b :: .int a :: st)) := by
  obtain ⟨_, X, _, _, _, hx, _, _, hby, _⟩ := S
  exact own_by (fun _ k => XS.icmpYes X.here hx rfl rfl (hb hby hd) rfl hc ho hp k) H
theorem own_icN {cd : ClassFile.Cond} {a b : Int32} {o : Int} (S : own_S p l e s m args below meth c Z a0 n0 y code mx ret R T h cells slots) (hp : pc + 3 = pc') (hd : decode code pc = .ok (.if_icmp cd o, 3)) (hc : if_icmp.holds cd a b = false)
    (H : own_G p e s below R n0 Q T (mkF m pc' ls st)) : own_G p e s below R n0 Q T (mkF m pc ls (.int b :: .int a :: st)) := by
  obtain ⟨_, X, _, _, _, hx, _, _, hby, _⟩ := S; subst hp
  exact own_by (fun _ k => XS.icmpNo X.here hx rfl (hb hby hd) rfl hc k) H
theorem own_ifY {cd : ClassFile.Cond} {a : Int32} {o : Int} (S : own_S p l e s m args below meth c Z a0 n0 y code mx ret R T h cells slots) (ho : 0 ≤ (pc : Int) + o) (hp : ((pc : Int) + o).toNat = pc') (hd : decode code pc = .ok (.ifCond cd o, 3)) (hc : ifCond.holds cd a = true)
    (H : own_G p e s below R n0 Q T (mkF m pc' ls st)) : own_G p e s below R n0 Q T (mkF m pc ls (.int a :: st)) := by
  obtain ⟨_, X, _, _, _, hx, _, _, hby, _⟩ := S
  exact own_by (fun _ k => XS.ifYes X.here hx rfl rfl (hb hby hd) rfl hc ho hp k) H
theorem own_ifN {cd : ClassFile.Cond} {a : Int32} {o : Int} (S : own_S p l e s m args below meth c Z a0 n0 y code mx ret R T h cells slots) (hp : pc + 3 = pc') (hd : decode code pc = .ok (.ifCond cd o, 3)) (hc : ifCond.holds cd a = false)
    (H : own_G p e s below R n0 Q T (mkF m pc' ls st)) : own_G p e s below R n0 Q T (mkF m pc ls (.int a :: st)) := by
  obtain ⟨_, X, _, _, _, hx, _, _, hby, _⟩ := S; subst hp
  exact own_by (fun _ k => XS.ifNo X.here hx rfl (hb hby hd) rfl hc k) H
theorem own_nullN {b : Addr} {o : Int} (S : own_S p l e s m args below meth c Z a0 n0 y code mx ret R T h cells slots) (hp : pc + 3 = pc') (hd : decode code pc = .ok (.ifnull o, 3))
    (H : own_G p e s below R n0 Q T (mkF m pc' ls st)) : own_G p e s below R n0 Q T (mkF m pc ls (.ref b :: st)) := by
  obtain ⟨_, X, _, _, _, hx, _, _, hby, _⟩ := S; subst hp
  exact own_by (fun _ k => XS.ifnullNo X.here hx rfl (hb hby hd) rfl k) H
theorem own_nonnullY {b : Addr} {o : Int} (S : own_S p l e s m args below meth c Z a0 n0 y code mx ret R T h cells slots) (ho : 0 ≤ (pc : Int) + o) (hp : ((pc : Int) + o).toNat = pc') (hd : decode code pc = .ok (.ifnonnull o, 3))
    (H : own_G p e s below R n0 Q T (mkF m pc' ls st)) : own_G p e s below R n0 Q T (mkF m pc ls (.ref b :: st)) := by
  obtain ⟨_, X, _, _, _, hx, _, _, hby, _⟩ := S
  exact own_by (fun _ k => XT.ifnonnullYes X.here hx rfl rfl (hb hby hd) rfl ho hp k) H
theorem own_nonnullN {o : Int} (S : own_S p l e s m args below meth c Z a0 n0 y code mx ret R T h cells slots) (hp : pc + 3 = pc') (hd : decode code pc = .ok (.ifnonnull o, 3))
    (H : own_G p e s below R n0 Q T (mkF m pc' ls st)) : own_G p e s below R n0 Q T (mkF m pc ls (.null :: st)) := by
  obtain ⟨_, X, _, _, _, hx, _, _, hby, _⟩ := S; subst hp
  exact own_by (fun _ k => XT.ifnonnullNo X.here hx rfl (hb hby hd) rfl k) H
-- both roads at once
theorem own_ic {cd : ClassFile.Cond} {a b : Int32} {o : Int} {pt : Nat} (S : own_S p l e s m args below meth c Z a0 n0 y code mx ret R T h cells slots) (ho : 0 ≤ (pc : Int) + o) (hp : ((pc : Int) + o).toNat = pt) (hp' : pc + 3 = pc') (hd : decode code pc = .ok (.if_icmp cd o, 3))
    (H : if_icmp.holds cd a b = true → own_G p e s below R n0 Q T (mkF m pt ls st)) (H' : if_icmp.holds cd a b = false → own_G p e s below R n0 Q T (mkF m pc' ls st)) : own_G p e s below R n0 Q T (mkF m pc ls (.int b :: .int a :: st)) := by
  cases hc : if_icmp.holds cd a b with
  | true => exact own_icY S ho hp hd hc (H hc)
  | false => exact own_icN S hp' hd hc (H' hc)
theorem own_if {cd : ClassFile.Cond} {a : Int32} {o : Int} {pt : Nat} (S : own_S p l e s m args below meth c Z a0 n0 y code mx ret R T h cells slots) (ho : 0 ≤ (pc : Int) + o) (hp : ((pc : Int) + o).toNat = pt) (hp' : pc + 3 = pc') (hd : decode code pc = .ok (.ifCond cd o, 3))
    (H : ifCond.holds cd a = true → own_G p e s below R n0 Q T (mkF m pt ls st)) (H' : ifCond.holds cd a = false → own_G p e s below R n0 Q T (mkF m pc' ls st)) : own_G p e s below R n0 Q T (mkF m pc ls (.int a :: st)) := by
  cases hc : ifCond.holds cd a with
  | true => exact own_ifY S ho hp hd hc (H hc)
  | false => exact own_ifN S hp' hd hc (H' hc)
-- what a comparison's outcome says of the numbers
theorem own_lt_t {a b : Int32} (h : if_icmp.holds .lt a b = true) : a.toInt < b.toInt := Int32.lt_iff_toInt_lt.mp (by simpa [if_icmp.holds] using h)
theorem own_lt_f {a b : Int32} (h : if_icmp.holds .lt a b = false) : b.toInt ≤ a.toInt := by
  have q : ¬ a < b := by simpa [if_icmp.holds] using h
  rw [Int32.lt_iff_toInt_lt] at q; omega
theorem own_cmp (a b : Int32) : (if_icmp.holds .ge a b = !if_icmp.holds .lt a b) ∧ (if_icmp.holds .gt a b = if_icmp.holds .lt b a) ∧ (if_icmp.holds .le a b = !if_icmp.holds .lt b a) ∧ (if_icmp.holds .ne a b = !if_icmp.holds .eq a b) := by
  refine ⟨?_, ?_, ?_, ?_⟩
  · by_cases q : a < b
    · rw [(tlt q).1, (tlt q).2.1]; rfl
    · rw [(flt q).1, (flt q).2.1]; rfl
  · by_cases q : b < a
    · rw [(tlt q).1, (tlt q).2.2.1]
    · rw [(flt q).1, (flt q).2.2.1]
  · by_cases q : b < a
    · rw [(tlt q).1, (tlt q).2.2.2]; rfl
    · rw [(flt q).1, (flt q).2.2.2]; rfl
  · by_cases q : a = b
    · rw [(teq q).1, (teq q).2]; rfl
    · rw [(feq q).1, (feq q).2]; rfl
theorem own_ge_t {a b : Int32} (h : if_icmp.holds .ge a b = true) : b.toInt ≤ a.toInt := own_lt_f (by rw [(own_cmp a b).1] at h; simpa using h)
theorem own_ge_f {a b : Int32} (h : if_icmp.holds .ge a b = false) : a.toInt < b.toInt := own_lt_t (by rw [(own_cmp a b).1] at h; simpa using h)
theorem own_gt_t {a b : Int32} (h : if_icmp.holds .gt a b = true) : b.toInt < a.toInt := own_lt_t (by rw [(own_cmp a b).2.1] at h; exact h)
theorem own_gt_f {a b : Int32} (h : if_icmp.holds .gt a b = false) : a.toInt ≤ b.toInt := own_lt_f (by rw [(own_cmp a b).2.1] at h; exact h)
theorem own_le_t {a b : Int32} (h : if_icmp.holds .le a b = true) : a.toInt ≤ b.toInt := own_lt_f (by rw [(own_cmp a b).2.2.1] at h; simpa using h)
theorem own_le_f {a b : Int32} (h : if_icmp.holds .le a b = false) : b.toInt < a.toInt := own_lt_t (by rw [(own_cmp a b).2.2.1] at h; simpa using h)
theorem own_eq_t {a b : Int32} (h : if_icmp.holds .eq a b = true) : a = b := by
  by_cases q : a = b
  · exact q
  · rw [(feq q).1] at h; cases h
theorem own_eq_f {a b : Int32} (h : if_icmp.holds .eq a b = false) : ¬ a = b := fun q => by rw [(teq q).1] at h; cases h
theorem own_ne_t {a b : Int32} (h : if_icmp.holds .ne a b = true) : ¬ a = b := fun q => by rw [(teq q).2] at h; cases h
theorem own_ne_f {a b : Int32} (h : if_icmp.holds .ne a b = false) : a = b := by
  by_cases q : a = b
  · exact q
  · rw [(feq q).2] at h; cases h
theorem own_ten {a b : Int32} (h : ¬ a = b) : ¬ a.toInt = b.toInt := fun q => h (Int32.toInt_inj.mp q)
-- and back
theorem own_t_lt {a b : Int32} (h : a.toInt < b.toInt) : if_icmp.holds .lt a b = true := (tlt (Int32.lt_iff_toInt_lt.mpr h)).1
theorem own_f_lt {a b : Int32} (h : b.toInt ≤ a.toInt) : if_icmp.holds .lt a b = false := (flt (fun q => by rw [Int32.lt_iff_toInt_lt] at q; omega)).1
theorem own_t_ge {a b : Int32} (h : b.toInt ≤ a.toInt) : if_icmp.holds .ge a b = true := by rw [(own_cmp a b).1, own_f_lt h]; rfl
theorem own_f_ge {a b : Int32} (h : a.toInt < b.toInt) : if_icmp.holds .ge a b = false := by rw [(own_cmp a b).1, own_t_lt h]; rfl
theorem own_t_gt {a b : Int32} (h : b.toInt < a.toInt) : if_icmp.holds .gt a b = true := by rw [(own_cmp a b).2.1, own_t_lt h]
theorem own_f_gt {a b : Int32} (h : a.toInt ≤ b.toInt) : if_icmp.holds .gt a b = false := by rw [(own_cmp a b).2.1, own_f_lt h]
theorem own_t_le {a b : Int32} (h : a.toInt ≤ b.toInt) : if_icmp.holds .le a b = true := by rw [(own_cmp a b).2.2.1, own_f_lt h]; rfl
theorem own_f_le {a b : Int32} (h : b.toInt < a.toInt) : if_icmp.holds .le a b = false := by rw [(own_cmp a b).2.2.1, own_t_lt h]; rfl
theorem own_t_eq {a b : Int32} (h : a = b) : if_icmp.holds .eq a b = true := (teq h).1
theorem own_f_eq {a b : Int32} (h : ¬ a = b) : if_icmp.holds .eq a b = false := (feq h).1
theorem own_t_ne {a b : Int32} (h : ¬ a = b) : if_icmp.holds .ne a b = true := (feq h).2
theorem own_f_ne {a b : Int32} (h : a = b) : if_icmp.holds .ne a b = false := (teq h).2
-- returns
theorem own_retI {z : Int32} (S : own_S p l e s m args below meth c Z a0 n0 y code mx (some .int) R T h cells slots) (hd : decode code pc = .ok (.ireturn, 1)) (hk : cells ≤ R.cells) (hn : slots ≤ R.slots) (HQ : Q (some (.int z)) h) : own_G p e s below R n0 Q T (mkF m pc ls (.int z :: st)) := by
  obtain ⟨locs, X, eT, N, _, hx, _, _, hby, _, _, _, hlk, hret⟩ := S
  obtain ⟨fs, hr, hrun, hended, hW, hsame⟩ := X.leave (v := some (.int z)) (fun q => by rw [hret] at q; cases q) hlk
  exact ⟨_, _, retOut X hx hret rfl (Or.inl ⟨rfl, Or.inl rfl, z, rfl⟩) (hb hby hd) hr, hrun, hended, _, locs, rfl, ⟨by show Q _ T.heap; rw [eT]; exact HQ, N⟩, ⟨_, rfl⟩, hW, hsame.mono hk hn⟩
theorem own_retZ {z : Int32} (hz : z = 0 ∨ z = 1) (S : own_S p l e s m args below meth c Z a0 n0 y code mx (some .boolean) R T h cells slots) (hd : decode code pc = .ok (.ireturn, 1)) (hk : cells ≤ R.cells) (hn : slots ≤ R.slots) (HQ : Q (some (.int z)) h) : own_G p e s below R n0 Q T (mkF m pc ls (.int z :: st)) := by
  obtain ⟨locs, X, eT, N, _, hx, _, _, hby, _, _, _, hlk, hret⟩ := S
  obtain ⟨fs, hr, hrun, hended, hW, hsame⟩ := X.leave (v := some (.int z)) (fun q => by rw [hret] at q; cases q) hlk
  have hnz : narrow .boolean (.int z) = .int z := by rcases hz with rfl | rfl <;> rfl
  exact ⟨_, _, retOut X hx hret hnz (Or.inl ⟨rfl, Or.inr (Or.inl rfl), z, rfl⟩) (hb hby hd) hr, hrun, hended, _, locs, rfl, ⟨by show Q _ T.heap; rw [eT]; exact HQ, N⟩, ⟨_, rfl⟩, hW, hsame.mono hk hn⟩
theorem own_retB {z : Int32} (hz : z.toInt8.toInt32 = z) (S : own_S p l e s m args below meth c Z a0 n0 y code mx (some .byte) R T h cells slots) (hd : decode code pc = .ok (.ireturn, 1)) (hk : cells ≤ R.cells) (hn : slots ≤ R.slots) (HQ : Q (some (.int z)) h) : own_G p e s below R n0 Q T (mkF m pc ls (.int z :: st)) := by
  obtain ⟨locs, X, eT, N, _, hx, _, _, hby, _, _, _, hlk, hret⟩ := S
  obtain ⟨fs, hr, hrun, hended, hW, hsame⟩ := X.leave (v := some (.int z)) (fun q => by rw [hret] at q; cases q) hlk
  have hnz : narrow .byte (.int z) = .int z := by show Value.int z.toInt8.toInt32 = _; rw [hz]
  exact ⟨_, _, retOut X hx hret hnz (Or.inl ⟨rfl, Or.inr (Or.inr (Or.inl rfl)), z, rfl⟩) (hb hby hd) hr, hrun, hended, _, locs, rfl, ⟨by show Q _ T.heap; rw [eT]; exact HQ, N⟩, ⟨_, rfl⟩, hW, hsame.mono hk hn⟩
theorem own_retA {w : Value} {t : FieldType} (hw : w.isRef = true) (ht : t.isReference = true) (S : own_S p l e s m args below meth c Z a0 n0 y code mx (some t) R T h cells slots) (hd : decode code pc = .ok (.areturn, 1)) (hk : cells ≤ R.cells) (hn : slots ≤ R.slots) (HQ : Q (some w) h) : own_G p e s below R n0 Q T (mkF m pc ls (w :: st)) := by
  obtain ⟨locs, X, eT, N, _, hx, _, _, hby, _, _, _, hlk, hret⟩ := S
  obtain ⟨fs, hr, hrun, hended, hW, hsame⟩ := X.leave (v := some w) (fun q => by rw [hret] at q; cases q) hlk
  have hnz : narrow t w = w := by rcases ref_cases hw with rfl | ⟨b, rfl⟩ <;> cases t <;> rfl
  exact ⟨_, _, retOut X hx hret hnz (Or.inr (Or.inr (Or.inr (Or.inr ⟨rfl, ht, hw⟩)))) (hb hby hd) hr, hrun, hended, _, locs, rfl, ⟨by show Q _ T.heap; rw [eT]; exact HQ, N⟩, ⟨_, rfl⟩, hW, hsame.mono hk hn⟩
theorem own_ret (S : own_S p l e s m args below meth c Z a0 n0 y code mx none R T h cells slots) (hd : decode code pc = .ok (.return_, 1)) (hk : cells ≤ R.cells) (hn : slots ≤ R.slots) (HQ : Q none h) : own_G p e s below R n0 Q T (mkF m pc ls []) := by
  obtain ⟨locs, X, eT, N, _, hx, _, _, hby, _, _, _, hlk, hret⟩ := S
  obtain ⟨fs, hr, hrun, hended, hW, hsame⟩ := X.leave (v := none) (fun _ => rfl) hlk
  exact ⟨_, _, X.returnOut hx hret (hb hby hd) hr, hrun, hended, _, locs, rfl, ⟨by show Q _ T.heap; rw [eT]; exact HQ, N⟩, ⟨_, rfl⟩, hW, hsame.mono hk hn⟩
-- arrays
/-- at a stands an array of n places of the kind ty; place j holds g j -/
def own_A (Z : State) (h : Heap) (a : Addr) (ty : FieldType) (n : Nat) (g : Nat → Value) : Prop := ∃ cl : Cell, Arr Z h a cl ty ∧ cl.slots.size = n ∧ ∀ j, j < n → cl.slots[j]? = some (g j)
def own_upd (g : Nat → Value) (k : Nat) (v : Value) : Nat → Value := fun j => if j = k then v else g j
theorem own_Alt {a : Addr} {ty : FieldType} {n : Nat} {g : Nat → Value} (A : own_A Z h a ty n g) : a < h.size := by obtain ⟨_, A, _⟩ := A; exact A.lt
theorem own_Aext {h' : Heap} {a : Addr} {ty : FieldType} {n : Nat} {g : Nat → Value} (A : own_A Z h a ty n g) (E : Ext h h') : own_A Z h' a ty n g := by obtain ⟨cl, A, r⟩ := A; exact ⟨cl, A.ext E, r⟩
theorem own_Awr {h' : Heap} {a b : Addr} {ty : FieldType} {n sl : Nat} {v : Value} {g : Nat → Value} (A : own_A Z h a ty n g) (W : Wr h h' b sl v) (ne : a ≠ b) : own_A Z h' a ty n g := by obtain ⟨cl, A, r⟩ := A; exact ⟨cl, A.other W ne, r⟩
theorem own_Akeep {h' : Heap} {a : Addr} {ty : FieldType} {n : Nat} {ws : List Addr} {g : Nat → Value} (A : own_A Z h a ty n g) (K : Keep h h' ws) (q : a ∉ ws) : own_A Z h' a ty n g := by obtain ⟨cl, A, r⟩ := A; exact ⟨cl, ⟨K.2.1 a cl A.1 q, A.2⟩, r⟩
theorem own_Aof {a : Addr} {ty : FieldType} {n : Nat} {g g' : Nat → Value} (A : own_A Z h a ty n g) (q : ∀ j, j < n → g j = g' j) : own_A Z h a ty n g' := by obtain ⟨cl, A, r, t⟩ := A; exact ⟨cl, A, r, fun j hj => by rw [← q j hj]; exact t j hj⟩
theorem own_ix {x : Int32} {k : Nat} (hi : x.toInt = k) : x.toNatClampNeg = k ∧ ¬ x < 0 := by
  refine ⟨by rw [Int32.toNatClampNeg, hi]; rfl, ?_⟩
  rw [Int32.lt_iff_toInt_lt, hi, show (0 : Int32).toInt = 0 from rfl]; omega
theorem own_in {x : Int32} {k n : Nat} {cl : Cell} (hi : x.toInt = k) (hk : k < n) (hs : cl.slots.size = n) : ¬ (x < 0 ∨ cl.slots.size ≤ x.toNatClampNeg) := by
  obtain ⟨q1, q2⟩ := own_ix hi
  rw [hs, q1]
  exact fun q => q.elim q2 (fun q => by omega)
theorem own_iaload {a : Addr} {x w : Int32} {k n : Nat} {g : Nat → Value} (S : own_S p l e s m args below meth c Z a0 n0 y code mx ret R T h cells slots) (A : own_A Z h a .int n g) (hi : x.toInt = k) (hk : k < n) (hv : g k = .int w) (hp : pc + 1 = pc') (hd : decode code pc = .ok (.iaload, 1))
    (H : own_G p e s below R n0 Q T (mkF m pc' ls (.int w :: st))) : own_G p e s below R n0 Q T (mkF m pc ls (.int x :: .ref a :: st)) := by
  obtain ⟨_, X, eT, _, _, hx, hZ, _, hby, _⟩ := S; subst hp
  obtain ⟨cl, Ar, hs, ht⟩ := A
  exact own_by (fun t k => X.iaload hx (g := mkF m pc ls (.int x :: .ref a :: st)) (by rw [eT]; exact Ar.1) (State.isArrayOf_alike hZ.alike Ar.2.1) Ar.2.2 (own_in hi hk hs) (by rw [(own_ix hi).1, ht _ hk, hv]) rfl rfl (hb hby hd) t k) H
theorem own_baloadB {a : Addr} {x w : Int32} {k n : Nat} {g : Nat → Value} (S : own_S p l e s m args below meth c Z a0 n0 y code mx ret R T h cells slots) (A : own_A Z h a .byte n g) (hi : x.toInt = k) (hk : k < n) (hv : g k = .int w) (hp : pc + 1 = pc') (hd : decode code pc = .ok (.baload, 1))
    (H : own_G p e s below R n0 Q T (mkF m pc' ls (.int w :: st))) : own_G p e s below R n0 Q T (mkF m pc ls (.int x :: .ref a :: st)) := by
  obtain ⟨_, X, eT, _, _, hx, hZ, _, hby, _⟩ := S; subst hp
  obtain ⟨cl, Ar, hs, ht⟩ := A
  exact own_by (fun t k => X.baloadBytes hx (g := mkF m pc ls (.int x :: .ref a :: st)) (by rw [eT]; exact Ar.1) (State.isArrayOf_alike hZ.alike Ar.2.1) Ar.2.2 (own_in hi hk hs) (by rw [(own_ix hi).1, ht _ hk, hv]) rfl rfl (hb hby hd) t k) H
theorem own_baloadZ {a : Addr} {x w : Int32} {k n : Nat} {g : Nat → Value} (S : own_S p l e s m args below meth c Z a0 n0 y code mx ret R T h cells slots) (A : own_A Z h a .boolean n g) (hi : x.toInt = k) (hk : k < n) (hv : g k = .int w) (hp : pc + 1 = pc') (hd : decode code pc = .ok (.baload, 1))
    (H : own_G p e s below R n0 Q T (mkF m pc' ls (.int w :: st))) : own_G p e s below R n0 Q T (mkF m pc ls (.int x :: .ref a :: st)) := by
  obtain ⟨_, X, eT, _, _, hx, hZ, _, hby, _⟩ := S; subst hp
  obtain ⟨cl, Ar, hs, ht⟩ := A
  exact own_by (fun t k => X.baloadBooleans hx (g := mkF m pc ls (.int x :: .ref a :: st)) (by rw [eT]; exact Ar.1) (State.isArrayOf_alike hZ.alike Ar.2.1) Ar.2.2 (own_in hi hk hs) (by rw [(own_ix hi).1, ht _ hk, hv]) rfl rfl (hb hby hd) t k) H
theorem own_caload {a : Addr} {x w : Int32} {k n : Nat} {g : Nat → Value} (S : own_S p l e s m args below meth c Z a0 n0 y code mx ret R T h cells slots) (A : own_A Z h a .char n g) (hi : x.toInt = k) (hk : k < n) (hv : g k = .int w) (hp : pc + 1 = pc') (hd : decode code pc = .ok (.caload, 1))
    (H : own_G p e s below R n0 Q T (mkF m pc' ls (.int w :: st))) : own_G p e s below R n0 Q T (mkF m pc ls (.int x :: .ref a :: st)) := by
  obtain ⟨_, X, eT, _, _, hx, hZ, _, hby, _⟩ := S; subst hp
  obtain ⟨cl, Ar, hs, ht⟩ := A
  exact own_by (fun t k => X.caload hx (g := mkF m pc ls (.int x :: .ref a :: st)) (by rw [eT]; exact Ar.1) (State.isArrayOf_alike hZ.alike Ar.2.1) Ar.2.2 (own_in hi hk hs) (by rw [(own_ix hi).1, ht _ hk, hv]) rfl rfl (hb hby hd) t k) H
theorem own_alen {a : Addr} {ty : FieldType} {w : Int32} {n : Nat} {g : Nat → Value} (S : own_S p l e s m args below meth c Z a0 n0 y code mx ret R T h cells slots) (A : own_A Z h a ty n g) (hv : w.toInt = n) (hp : pc + 1 = pc') (hd : decode code pc = .ok (.arraylength, 1))
    (H : own_G p e s below R n0 Q T (mkF m pc' ls (.int w :: st))) : own_G p e s below R n0 Q T (mkF m pc ls (.ref a :: st)) := by
  obtain ⟨_, X, eT, _, _, hx, hZ, _, hby, _⟩ := S; subst hp
  obtain ⟨cl, Ar, hs, ht⟩ := A
  have hq : cl.slots.size.toInt32 = w := by
    have := w.toInt_lt
    apply Int32.toInt_inj.mp
    rw [hs, len_toInt (by omega), hv]
  exact own_by (fun t k => X.arraylength hx (g := mkF m pc ls (.ref a :: st)) (by rw [eT]; exact Ar.1) (State.isArrayOf_alike hZ.alike Ar.2.1) rfl rfl (hb hby hd) t (by rw [hq]; exact k)) H
theorem own_Aset {h' : Heap} {a : Addr} {ty : FieldType} {n k : Nat} {v : Value} {g : Nat → Value} (A : own_A Z h a ty n g) (W : Wr h h' a k v) : own_A Z h' a ty n (own_upd g k v) := by
  obtain ⟨cl, Ar, hs, ht⟩ := A
  refine ⟨_, Ar.same W, by rw [sz_set]; exact hs, fun j hj => ?_⟩
  unfold own_upd
  by_cases q : j = k
  · subst q
    rw [if_pos rfl]
    have : j < cl.slots.size := by rw [hs]; exact hj
    simp [Cell.setSlot, this]
  · rw [if_neg q]
    simp only [Cell.setSlot]
    rw [Array.getElem?_setIfInBounds_ne (Ne.symm q)]
    exact ht j hj
theorem own_iastore {a : Addr} {x w : Int32} {k n : Nat} {g : Nat → Value} (S : own_S p l e s m args below meth c Z a0 n0 y code mx ret R T h cells slots) (A : own_A Z h a .int n g) (hi : x.toInt = k) (hk : k < n) (ha : n0 ≤ a) (hp : pc + 1 = pc') (hd : decode code pc = .ok (.iastore, 1))
    (H : ∀ T' h', own_S p l e s m args below meth c Z a0 n0 y code mx ret R T' h' cells slots → Wr h h' a k (.int w) → own_A Z h' a .int n (own_upd g k (.int w)) → own_G p e s below R n0 Q T' (mkF m pc' ls st)) : own_G p e s below R n0 Q T (mkF m pc ls (.int w :: .int x :: .ref a :: st)) := by
  obtain ⟨locs, X, eT, N, hn, hx, hZ, hw, hby, r⟩ := S; subst hp
  have A' := A
  obtain ⟨cl, Ar, hs, ht⟩ := A
  obtain ⟨T', h', X', e', W, stp⟩ := stI X hx hZ eT Ar (j := x) (own_in hi hk hs) (g := mkF m pc ls (.int w :: .int x :: .ref a :: st)) rfl rfl (hb hby hd)
  have N' := Fr.snoc X' N ha
  rw [(own_ix hi).1] at W
  exact own_by stp (H T' h' ⟨_, X', e', N', hn, hx, hZ, hw, hby, r⟩ W (own_Aset A' W))
theorem own_bastoreB {a : Addr} {x w : Int32} {k n : Nat} {g : Nat → Value} (S : own_S p l e s m args below meth c Z a0 n0 y code mx ret R T h cells slots) (A : own_A Z h a .byte n g) (hi : x.toInt = k) (hk : k < n) (ha : n0 ≤ a) (hp : pc + 1 = pc') (hd : decode code pc = .ok (.bastore, 1))
    (H : ∀ T' h', own_S p l e s m args below meth c Z a0 n0 y code mx ret R T' h' cells slots → Wr h h' a k (.int (nar .byte w)) → own_A Z h' a .byte n (own_upd g k (.int (nar .byte w))) → own_G p e s below R n0 Q T' (mkF m pc' ls st)) : own_G p e s below R n0 Q T (mkF m pc ls (.int w :: .int x :: .ref a :: st)) := by
  obtain ⟨locs, X, eT, N, hn, hx, hZ, hw, hby, r⟩ := S; subst hp
  have A' := A
  obtain ⟨cl, Ar, hs, ht⟩ := A
  obtain ⟨T', h', X', e', W, stp⟩ := stB X hx hZ eT Ar (j := x) (own_in hi hk hs) (g := mkF m pc ls (.int w :: .int x :: .ref a :: st)) rfl rfl (hb hby hd)
  have N' := Fr.snoc X' N ha
  rw [(own_ix hi).1] at W
  exact own_by stp (H T' h' ⟨_, X', e', N', hn, hx, hZ, hw, hby, r⟩ W (own_Aset A' W))
theorem own_bastoreZ {a : Addr} {x w : Int32} {k n : Nat} {g : Nat → Value} (S : own_S p l e s m args below meth c Z a0 n0 y code mx ret R T h cells slots) (A : own_A Z h a .boolean n g) (hi : x.toInt = k) (hk : k < n) (ha : n0 ≤ a) (hp : pc + 1 = pc') (hd : decode code pc = .ok (.bastore, 1))
    (H : ∀ T' h', own_S p l e s m args below meth c Z a0 n0 y code mx ret R T' h' cells slots → Wr h h' a k (.int (nar .boolean w)) → own_A Z h' a .boolean n (own_upd g k (.int (nar .boolean w))) → own_G p e s below R n0 Q T' (mkF m pc' ls st)) : own_G p e s below R n0 Q T (mkF m pc ls (.int w :: .int x :: .ref a :: st)) := by
  obtain ⟨locs, X, eT, N, hn, hx, hZ, hw, hby, r⟩ := S; subst hp
  have A' := A
  obtain ⟨cl, Ar, hs, ht⟩ := A
  obtain ⟨T', h', X', e', W, stp⟩ := stZ X hx hZ eT Ar (j := x) (own_in hi hk hs) (g := mkF m pc ls (.int w :: .int x :: .ref a :: st)) rfl rfl (hb hby hd)
  have N' := Fr.snoc X' N ha
  rw [(own_ix hi).1] at W
  exact own_by stp (H T' h' ⟨_, X', e', N', hn, hx, hZ, hw, hby, r⟩ W (own_Aset A' W))
theorem own_castore {a : Addr} {x w : Int32} {k n : Nat} {g : Nat → Value} (S : own_S p l e s m args below meth c Z a0 n0 y code mx ret R T h cells slots) (A : own_A Z h a .char n g) (hi : x.toInt = k) (hk : k < n) (ha : n0 ≤ a) (hp : pc + 1 = pc') (hd : decode code pc = .ok (.castore, 1))
    (H : ∀ T' h', own_S p l e s m args below meth c Z a0 n0 y code mx ret R T' h' cells slots → Wr h h' a k (.int (nar .char w)) → own_A Z h' a .char n (own_upd g k (.int (nar .char w))) → own_G p e s below R n0 Q T' (mkF m pc' ls st)) : own_G p e s below R n0 Q T (mkF m pc ls (.int w :: .int x :: .ref a :: st)) := by
  obtain ⟨locs, X, eT, N, hn, hx, hZ, hw, hby, r⟩ := S; subst hp
  have A' := A
  obtain ⟨cl, Ar, hs, ht⟩ := A
  obtain ⟨T', h', X', e', W, stp⟩ := stC X hx hZ eT Ar (j := x) (own_in hi hk hs) (g := mkF m pc ls (.int w :: .int x :: .ref a :: st)) rfl rfl (hb hby hd)
  have N' := Fr.snoc X' N ha
  rw [(own_ix hi).1] at W
  exact own_by stp (H T' h' ⟨_, X', e', N', hn, hx, hZ, hw, hby, r⟩ W (own_Aset A' W))
theorem own_newarray {aty : ArrayType} {x : Int32} {n : Nat} (cap : Nat) (S : own_S p l e s m args below meth c Z a0 n0 y code mx ret R T h cells slots) (w : Jvm.Cond.arrayClass (newarray.typeOf aty) ∈ tables_1) (hi : x.toInt = n) (hcap : n ≤ cap) (hb8 : cap * 8 ≤ 536870912) (hc : cells + 1 ≤ R.cells) (hl : slots + cap ≤ R.slots) (hp : pc + 2 = pc') (hd : decode code pc = .ok (.newarray aty, 2))
    (H : ∀ T' h' a, a = h.size → n0 ≤ a → own_S p l e s m args below meth c Z a0 n0 y code mx ret R T' h' (cells + 1) (slots + cap) → Ext h h' → own_A Z h' a (newarray.typeOf aty) n (fun _ => defaultValue (newarray.typeOf aty)) → own_G p e s below R n0 Q T' (mkF m pc' ls (.ref a :: st))) : own_G p e s below R n0 Q T (mkF m pc ls (.int x :: st)) := by
  obtain ⟨locs, X, eT, N, hn, hx, hZ, hw, hby, r⟩ := S; subst hp
  obtain ⟨q1, q2⟩ := own_ix hi
  obtain ⟨T', h', k, X', e', E, Ar, stp⟩ := newP X hx hZ (hw _ w) eT (g := mkF m pc ls (.int x :: st)) rfl (hb hby hd) rfl q2 (cap := cap) (by rw [q1]; exact hcap) hb8 hc hl
  refine own_by stp (H T' h' h.size rfl (by rw [← eT]; exact Nat.le_trans hn X.same.2.1) ⟨_, X', e', N, hn, hx, hZ, hw, hby, r⟩ E ⟨_, Ar, by rw [sz_new, q1], fun j hj => ?_⟩)
  simp [newA, q1, hj]
-- objects
theorem own_new {idx n : Nat} {C : String} (S : own_S p l e s m args below meth c Z a0 n0 y code mx ret R T h cells slots) (w1 : Jvm.Cond.classLink y.cls idx C ∈ tables_1) (w2 : Jvm.Cond.instantiable C n ∈ tables_1) (w3 : Jvm.Cond.initialized C ∈ tables_1) (hc : cells + 1 ≤ R.cells) (hl : slots + n ≤ R.slots) (hp : pc + 3 = pc') (hd : decode code pc = .ok (.new idx, 3))
    (H : ∀ T' h' a, a = h.size → n0 ≤ a → own_S p l e s m args below meth c Z a0 n0 y code mx ret R T' h' (cells + 1) (slots + n) → Ext h h' → Exa Z h' a C → (∀ {O nm d : String} {ty : FieldType}, (Jvm.Cond.lays C O nm d ∈ tables_1 ∨ Jvm.Cond.laysFinal C O nm d ∈ tables_1) → parseFieldDescriptor d = some ty → Fld Z h' a O nm d (defaultValue ty)) → own_G p e s below R n0 Q T' (mkF m pc' ls (.ref a :: st))) : own_G p e s below R n0 Q T (mkF m pc ls st) := by
  obtain ⟨locs, X, eT, N, hn, hx, hZ, hw, hby, hmx, hown, r⟩ := S; subst hp
  obtain ⟨T', h', X', e', E, A, D, -, stp⟩ := newO X hx hZ hown (hw _ w1) (hw _ w2) (hw _ w3) eT (g := mkF m pc ls st) rfl (hb hby hd) hc hl
  exact own_by stp (H T' h' h.size rfl (by rw [← eT]; exact Nat.le_trans hn X.same.2.1) ⟨_, X', e', N, hn, hx, hZ, hw, hby, hmx, hown, r⟩ E A (fun q ht => D (q.imp (hw _) (hw _)) ht))
theorem own_getfield {idx : Nat} {O n d : String} {a : Addr} {v : Value} (S : own_S p l e s m args below meth c Z a0 n0 y code mx ret R T h cells slots) (w : Jvm.Cond.fieldLink y.cls idx O n d ∈ tables_1) (F : Fld Z h a O n d v) (hp : pc + 3 = pc') (hd : decode code pc = .ok (.getfield idx, 3))
    (H : ∀ T', own_S p l e s m args below meth c Z a0 n0 y code mx ret R T' h cells slots → own_G p e s below R n0 Q T' (mkF m pc' ls (v :: st))) : own_G p e s below R n0 Q T (mkF m pc ls (.ref a :: st)) := by
  obtain ⟨locs, X, eT, N, hn, hx, hZ, hw, hby, hmx, hown, r⟩ := S; subst hp
  obtain ⟨T', X', e', stp⟩ := getF X hx hZ hown (host := "") (Or.inl (hw _ w)) Via.refl eT F (g := mkF m pc ls (.ref a :: st)) rfl rfl (hb hby hd)
  exact own_by stp (H T' ⟨_, X', e', N, hn, hx, hZ, hw, hby, hmx, hown, r⟩)
theorem own_putfield {idx kk : Nat} {O n d C : String} {a : Addr} {v old : Value} {ty : FieldType} (S : own_S p l e s m args below meth c Z a0 n0 y code mx ret R T h cells slots) (w : Jvm.Cond.fieldLink y.cls idx O n d ∈ tables_1) (F : Fld Z h a O n d old) (E : Exa Z h a C) (L : Jvm.Cond.lays C O n d ∈ tables_1 ∨ (Jvm.Cond.laysFinal C O n d ∈ tables_1 ∧ y.cls = O ∧ y.name = "<init>")) (wi : Jvm.Cond.instantiable C kk ∈ tables_1)
    (hty : parseFieldDescriptor d = some ty) (hnr : narrow ty v = v) (hf : fits ty v = true) (ha : n0 ≤ a) (hp : pc + 3 = pc') (hd : decode code pc = .ok (.putfield idx, 3))
    (H : ∀ T' h', own_S p l e s m args below meth c Z a0 n0 y code mx ret R T' h' cells slots → Wr h h' a (RoadKit.slotOf Z O n d) v → Fld Z h' a O n d v → own_G p e s below R n0 Q T' (mkF m pc' ls st)) : own_G p e s below R n0 Q T (mkF m pc ls (v :: .ref a :: st)) := by
  obtain ⟨locs, X, eT, N, hn, hx, hZ, hw, hby, hmx, hown, hnm, r⟩ := S; subst hp
  obtain ⟨T', h', X', e', W, stp⟩ := putF X hx hZ hown (host := "") (Or.inl (hw _ w)) Via.refl eT F E (L.imp (hw _) (fun q => ⟨hw _ q.1, q.2.1, hnm.trans q.2.2⟩)) (hw _ wi) hty hnr hf (g := mkF m pc ls (v :: .ref a :: st)) rfl rfl (hb hby hd)
  exact own_by stp (H T' h' ⟨_, X', e', Fr.snoc X' N ha, hn, hx, hZ, hw, hby, hmx, hown, hnm, r⟩ W (F.same W))
theorem own_initO {idx : Nat} {a : Addr} (S : own_S p l e s m args below meth c Z a0 n0 y code mx ret R T h cells slots) (w1 : Jvm.Cond.methodLink y.cls idx Lib.objectInit ∈ tables_1) (w2 : Jvm.Cond.instanceMethod Lib.objectInit ∈ tables_1) (w3 : Jvm.Cond.code Lib.objectInit ⟨#[0xb1]⟩ 1 none ∈ tables_1) (hsz : ls.size = mx) (hf : 1 ≤ R.frames) {W : Nat} (hW : (st.map fun v => v.category).sum ≤ W) (hl : W + 12 ≤ R.locals) (hp : pc + 3 = pc') (hd : decode code pc = .ok (.invokespecial idx, 3))
    (H : ∀ T', own_S p l e s m args below meth c Z a0 n0 y code mx ret R T' h cells slots → own_G p e s below R n0 Q T' (mkF m pc' ls st)) : own_G p e s below R n0 Q T (mkF m pc ls (.ref a :: st)) := by
  obtain ⟨locs, X, eT, N, hn, hx, hZ, hw, hby, hmx, hown, r⟩ := S; subst hp
  obtain ⟨T', X', e', stp⟩ := initO X hx hZ hown (hw _ w1) (hw _ w2) (hw _ w3) eT (g := mkF m pc ls (.ref a :: st)) rfl (by rw [hmx]; exact hsz) rfl (hb hby hd) hf (W := W) (by show 2 * 0 + _ ≤ _; omega) hl
  exact own_by stp (H T' ⟨_, X', e', N, hn, hx, hZ, hw, hby, hmx, hown, r⟩)
-- contracts
/-- yy, called at the heap h0 with the arguments as', returns as Q says -/
def own_Met (l : Launch) (Z : State) (h0 : Heap) (n0 : Nat) (yy : MethodName) (bytes : ByteArray) (mx : Nat) (ret : Option FieldType) (ws : List Jvm.Cond) (rm : Room) (as' : Array Value) (Q : Option Value → Heap → Prop) : Prop :=
  MetFree l yy (head1 (Jvm.Cond.code yy bytes mx ret :: ws) rm) (fun a U => a = as' ∧ Z.Warmed39 U.vm ∧ U.heap = h0) (fun _ _ _ _ _ => True) (fun _ U o U' => ∃ v L, o = .returned v ∧ (Q v U'.heap ∧ Fr n0 L) ∧ FrameEnd U o U' L rm.cells rm.slots)
theorem own_met {yy : MethodName} {bytes : ByteArray} {ws : List Jvm.Cond} {rm : Room} {as' : Array Value} {h0 : Heap} (hpn : plainName yy.cls = true) (hef : ∀ m, entryFrame m as' mx = mkF m 0 ls []) (hn : n0 ≤ h0.size) (hw : ∀ d ∈ tables_1, d.before a0 Z = true)
    (H : ∀ p e s m below meth c T, own_S p l e s m as' below meth c Z a0 n0 yy bytes mx ret rm T h0 0 0 → own_G p e s below rm n0 Q T (mkF m 0 ls [])) : own_Met l Z h0 n0 yy bytes mx ret ws rm as' Q := by
  refine MetFree.of_bodySF (plainFor_of_name hpn) hisR ?_
  intro p e s m args below meth c s₁ Bd hml0 hP hK
  obtain ⟨rfl, hZ, hh⟩ := hP
  have e0 : s₁.heap = h0 := by rw [← hh, Bd.state]; rfl
  rw [hef m]
  exact H p e s m below meth c s₁ ⟨[], Stand.of_body Bd, e0, Fr.nil n0, by rw [hh]; exact hn, Bd.exec, hZ, hw, Bd.bytes, hml0, findClass_of_methodNamed Bd.named, (name_of_methodNamed Bd.named Bd.method).1, Bd.notSynchronized, Bd.returns⟩
/-- what a method that hands back a value, or none, says -/
def own_V (q : Value → Heap → Prop) : Option Value → Heap → Prop := fun v h => ∃ w, v = some w ∧ q w h
def own_N (q : Heap → Prop) : Option Value → Heap → Prop := fun v h => v = none ∧ q h
theorem own_callS {idx : Nat} {yy : MethodName} {bytes : ByteArray} {maxL : Nat} {rt : Option FieldType} {rm : Room} {Q' : Option Value → Heap → Prop} {ps : List FieldType} {r' : Option FieldType} (argsL rest : List Value) (S : own_S p l e s m args below meth c Z a0 n0 y code mx ret R T h cells slots)
    (w1 : Jvm.Cond.methodLink y.cls idx yy ∈ tables_1) (w2 : Jvm.Cond.static yy ∈ tables_1) (w3 : Jvm.Cond.initialized yy.cls ∈ tables_1) (w4 : Jvm.Cond.code yy bytes maxL rt ∈ tables_1) (hy : yy.cls ≠ "java/lang/invoke/MethodHandle" ∧ yy.cls ≠ "java/lang/invoke/VarHandle")
    (M : own_Met l Z h n0 yy bytes maxL rt [] rm argsL.toArray Q') (hds : parseMethodDescriptor yy.desc = some ⟨ps, r'⟩) (hal : argsL.length = ps.length) (hst : st = argsL.reverse ++ rest) (hsz : ls.size = mx) {W : Nat} (hW : (rest.map fun v => v.category).sum ≤ W)
    (hfr : rm.frames + 1 ≤ R.frames) (hlo : W + (maxL + 11) + rm.locals ≤ R.locals) (hc : cells + rm.cells ≤ R.cells) (hs : slots + rm.slots ≤ R.slots) (hp : pc + 3 = pc') (hd : decode code pc = .ok (.invokestatic idx, 3))
    (H : ∀ T' h' v, own_S p l e s m args below meth c Z a0 n0 y code mx ret R T' h' (cells + rm.cells) (slots + rm.slots) → Q' v h' → own_G p e s below R n0 Q T' (mkF m pc' ls (v.toList ++ rest))) : own_G p e s below R n0 Q T (mkF m pc ls st) := by
  obtain ⟨locs, X, eT, N, hn, hx, hZ, hw, hby, hmx, hown, r⟩ := S; subst hp hst
  obtain ⟨v, _, ⟨T', L', k', n'⟩, -, X', ⟨Lc, hQ, l', y', z'⟩, stp⟩ := Jvm.LawKit.callS X hx (y := yy) hown (mvT hZ (hw _ w1)) (mvT hZ (hw _ w2)) (mvT hZ (hw _ w3)) (mvT hZ (hw _ w4)) hy (backOf (Q := fun v h L => Q' v h ∧ Fr n0 L) (W := W) M hZ (hw _ w4) (hw _ w3) hfr hlo) (g := mkF m pc ls (argsL.reverse ++ rest)) rfl (by rw [hmx]; exact hsz) (argsL := argsL) (rest := rest) (lenOf hds hal) rfl (by show 2 * 0 + _ ≤ _; omega) (hb hby hd) (fun _ _ => ⟨rfl, eT, hc, hs⟩)
  dsimp only [Pt.U, Pt.locs, Pt.cells, Pt.slots] at X' l' y' z' stp hQ
  subst l' y' z'
  exact own_by stp (H T' T'.heap v ⟨_, X', rfl, Fr.app N hQ.2, hn, hx, hZ, hw, hby, hmx, hown, r⟩ hQ.1)
theorem own_callI {idx : Nat} {yy : MethodName} {bytes : ByteArray} {maxL : Nat} {rm : Room} {Q' : Option Value → Heap → Prop} {ps : List FieldType} {r' : Option FieldType} (argsL rest : List Value) (S : own_S p l e s m args below meth c Z a0 n0 y code mx ret R T h cells slots) {b : Addr}
    (w1 : Jvm.Cond.methodLink y.cls idx yy ∈ tables_1) (w2 : Jvm.Cond.instanceMethod yy ∈ tables_1) (w3 : Jvm.Cond.initialized yy.cls ∈ tables_1) (w4 : Jvm.Cond.code yy bytes maxL none ∈ tables_1) (hnm : yy.name = "<init>") (hy : yy.cls ≠ "java/lang/invoke/MethodHandle" ∧ yy.cls ≠ "java/lang/invoke/VarHandle")
    (M : own_Met l Z h n0 yy bytes maxL none [] rm (.ref b :: argsL).toArray Q') (hds : parseMethodDescriptor yy.desc = some ⟨ps, r'⟩) (hal : argsL.length = ps.length) (hst : st = argsL.reverse ++ .ref b :: rest) (hsz : ls.size = mx) {W : Nat} (hW : (rest.map fun v => v.category).sum ≤ W)
    (hfr : rm.frames + 1 ≤ R.frames) (hlo : W + (maxL + 11) + rm.locals ≤ R.locals) (hc : cells + rm.cells ≤ R.cells) (hs : slots + rm.slots ≤ R.slots) (hp : pc + 3 = pc') (hd : decode code pc = .ok (.invokespecial idx, 3))
    (H : ∀ T' h' v, own_S p l e s m args below meth c Z a0 n0 y code mx ret R T' h' (cells + rm.cells) (slots + rm.slots) → Q' v h' → own_G p e s below R n0 Q T' (mkF m pc' ls (v.toList ++ rest))) : own_G p e s below R n0 Q T (mkF m pc ls st) := by
  obtain ⟨locs, X, eT, N, hn, hx, hZ, hw, hby, hmx, hown, r⟩ := S; subst hp hst
  obtain ⟨v, _, ⟨T', L', k', n'⟩, -, X', ⟨Lc, hQ, l', y', z'⟩, stp⟩ := X.specialBack hx (y := yy) hnm hown (mvT hZ (hw _ w1)) (mvT hZ (hw _ w2)) (mvT hZ (hw _ w4)) hy (backOf (Q := fun v h L => Q' v h ∧ Fr n0 L) (W := W) M hZ (hw _ w4) (hw _ w3) hfr hlo) (g := mkF m pc ls (argsL.reverse ++ .ref b :: rest)) rfl (by rw [hmx]; exact hsz) (Steps.refl _) (a := b) (argsL := argsL) (rest := rest) (lenOf hds hal) rfl (by show 2 * 0 + _ ≤ _; omega) (hb hby hd) (fun _ _ => ⟨rfl, eT, hc, hs⟩)
  dsimp only [Pt.U, Pt.locs, Pt.cells, Pt.slots] at X' l' y' z' stp hQ
  subst l' y' z'
  exact own_by (fun _ k => stp.trans k) (H T' T'.heap v ⟨_, X', rfl, Fr.app N hQ.2, hn, hx, hZ, hw, hby, hmx, hown, r⟩ hQ.1)
theorem own_callV {idx : Nat} {yy : MethodName} {bytes : ByteArray} {maxL : Nat} {rt : Option FieldType} {rm : Room} {Q' : Option Value → Heap → Prop} {ps : List FieldType} {r' : Option FieldType} (argsL rest : List Value) (S : own_S p l e s m args below meth c Z a0 n0 y code mx ret R T h cells slots) {b : Addr} {C : String}
    (w1 : Jvm.Cond.methodLink y.cls idx yy ∈ tables_1) (w2 : Jvm.Cond.declares yy ∈ tables_1) (w5 : Jvm.Cond.selects C yy yy ∈ tables_1) (w6 : Jvm.Cond.instanceMethod yy ∈ tables_1) (w3 : Jvm.Cond.initialized yy.cls ∈ tables_1) (w4 : Jvm.Cond.code yy bytes maxL rt ∈ tables_1) (hy : yy.cls ≠ "java/lang/invoke/MethodHandle" ∧ yy.cls ≠ "java/lang/invoke/VarHandle")
    (E : Exa Z h b C) (M : own_Met l Z h n0 yy bytes maxL rt [] rm (.ref b :: argsL).toArray Q') (hds : parseMethodDescriptor yy.desc = some ⟨ps, r'⟩) (hal : argsL.length = ps.length) (hst : st = argsL.reverse ++ .ref b :: rest) (hsz : ls.size = mx) {W : Nat} (hW : (rest.map fun v => v.category).sum ≤ W)
    (hfr : rm.frames + 1 ≤ R.frames) (hlo : W + (maxL + 11) + rm.locals ≤ R.locals) (hc : cells + rm.cells ≤ R.cells) (hs : slots + rm.slots ≤ R.slots) (hp : pc + 3 = pc') (hd : decode code pc = .ok (.invokevirtual idx, 3))
    (H : ∀ T' h' v, own_S p l e s m args below meth c Z a0 n0 y code mx ret R T' h' (cells + rm.cells) (slots + rm.slots) → Q' v h' → own_G p e s below R n0 Q T' (mkF m pc' ls (v.toList ++ rest))) : own_G p e s below R n0 Q T (mkF m pc ls st) := by
  obtain ⟨locs, X, eT, N, hn, hx, hZ, hw, hby, hmx, hown, r⟩ := S; subst hp hst
  obtain ⟨cq, kq, qa, qb, qc⟩ := isOf hZ eT E
  obtain ⟨v, _, ⟨T', L', k', n'⟩, -, X', ⟨Lc, hQ, l', y', z'⟩, stp⟩ := X.virtualBack hx (y := yy) (z := yy) hown (mvT hZ (hw _ w1)) (mvT hZ (hw _ w2)) (notFace_of_selects (args := #[]) (mvT hZ (hw _ w5))) (mvT hZ (hw _ w5)) (mvT hZ (hw _ w6)) hy (backOf (Q := fun v h L => Q' v h ∧ Fr n0 L) (W := W) M hZ (hw _ w4) (hw _ w3) hfr hlo) qa qc (g := mkF m pc ls (argsL.reverse ++ .ref b :: rest)) rfl (by rw [hmx]; exact hsz) (Steps.refl _) (argsL := argsL) (rest := rest) (lenOf hds hal) rfl (by show 2 * 0 + _ ≤ _; omega) (hb hby hd) (fun _ _ => ⟨rfl, eT, hc, hs⟩)
  dsimp only [Pt.U, Pt.locs, Pt.cells, Pt.slots] at X' l' y' z' stp hQ
  subst l' y' z'
  exact own_by (fun _ k => stp.trans k) (H T' T'.heap v ⟨_, X', rfl, Fr.app N hQ.2, hn, hx, hZ, hw, hby, hmx, hown, r⟩ hQ.1)
theorem own_callP {idx : Nat} {yy : MethodName} {bytes : ByteArray} {maxL : Nat} {rt : Option FieldType} {rm : Room} {Q' : Option Value → Heap → Prop} {ps : List FieldType} {r' : Option FieldType} (argsL rest : List Value) (S : own_S p l e s m args below meth c Z a0 n0 y code mx ret R T h cells slots) {b : Addr} {C : String} {kk : Nat}
    (w1 : Jvm.Cond.methodLink y.cls idx yy ∈ tables_1) (w6 : Jvm.Cond.instanceMethod yy ∈ tables_1) (w7 : Jvm.Cond.privateMethod yy ∈ tables_1) (w8 : Jvm.Cond.instantiable yy.cls kk ∈ tables_1) (w3 : Jvm.Cond.initialized yy.cls ∈ tables_1) (w4 : Jvm.Cond.code yy bytes maxL rt ∈ tables_1) (hy : yy.cls ≠ "java/lang/invoke/MethodHandle" ∧ yy.cls ≠ "java/lang/invoke/VarHandle")
    (E : Exa Z h b C) (M : own_Met l Z h n0 yy bytes maxL rt [] rm (.ref b :: argsL).toArray Q') (hds : parseMethodDescriptor yy.desc = some ⟨ps, r'⟩) (hal : argsL.length = ps.length) (hst : st = argsL.reverse ++ .ref b :: rest) (hsz : ls.size = mx) {W : Nat} (hW : (rest.map fun v => v.category).sum ≤ W)
    (hfr : rm.frames + 1 ≤ R.frames) (hlo : W + (maxL + 11) + rm.locals ≤ R.locals) (hc : cells + rm.cells ≤ R.cells) (hs : slots + rm.slots ≤ R.slots) (hp : pc + 3 = pc') (hd : decode code pc = .ok (.invokevirtual idx, 3))
    (H : ∀ T' h' v, own_S p l e s m args below meth c Z a0 n0 y code mx ret R T' h' (cells + rm.cells) (slots + rm.slots) → Q' v h' → own_G p e s below R n0 Q T' (mkF m pc' ls (v.toList ++ rest))) : own_G p e s below R n0 Q T (mkF m pc ls st) := by
  obtain ⟨locs, X, eT, N, hn, hx, hZ, hw, hby, hmx, hown, r⟩ := S; subst hp hst
  obtain ⟨cell, kx, c1, c2, c3, c4, -⟩ := E
  have hpriv : s.PrivateAt yy := Cond.privateMethod_at (mvP hZ (hw _ w7) (args := #[]))
  have hinst : (Jvm.Cond.instanceMethod yy).before args s = true := mvT hZ (hw _ w6)
  have hini : (Jvm.Cond.instantiable yy.cls kk).before args s = true := mvT hZ (hw _ w8)
  have hsel : (Jvm.Cond.selects yy.cls yy yy).before args s = true := by
    obtain ⟨cc, k, i1, i2, i3, i4, -⟩ := Cond.instantiable_spec hini
    exact Stand.selects_self_of_private i1 i2 (by simp only [Bool.or_eq_false_iff] at i4; exact i4.1) hpriv hinst hy
  obtain ⟨v, _, ⟨T', L', k', n'⟩, -, X', ⟨Lc, hQ, l', y', z'⟩, stp⟩ := X.privateBack hx (y := yy) hown (mvT hZ (hw _ w1)) hinst hsel hpriv (mvT hZ (hw _ w4)) hy (backOf (Q := fun v h L => Q' v h ∧ Fr n0 L) (W := W) M hZ (hw _ w4) (hw _ w3) hfr hlo) (g := mkF m pc ls (argsL.reverse ++ .ref b :: rest)) rfl (by rw [hmx]; exact hsz) (Steps.refl _) (a := b) (cell := cell) (by rw [eT]; exact c1) (fun q e => by rw [e] at c4; cases c4) (argsL := argsL) (rest := rest) (lenOf hds hal) rfl (by show 2 * 0 + _ ≤ _; omega) (hb hby hd) (fun _ _ => ⟨rfl, eT, hc, hs⟩)
  dsimp only [Pt.U, Pt.locs, Pt.cells, Pt.slots] at X' l' y' z' stp hQ
  subst l' y' z'
  exact own_by (fun _ k => stp.trans k) (H T' T'.heap v ⟨_, X', rfl, Fr.app N hQ.2, hn, hx, hZ, hw, hby, hmx, hown, r⟩ hQ.1)
theorem own_dupx1 {a b : Value} (S : own_S p l e s m args below meth c Z a0 n0 y code mx ret R T h cells slots) (hp : pc + 1 = pc') (hd : decode code pc = .ok (.dup_x1, 1)) (hc : a.category = 1) (hc' : b.category = 1)
    (H : own_G p e s below R n0 Q T (mkF m pc' ls (a :: b :: a :: st))) : own_G p e s below R n0 Q T (mkF m pc ls (a :: b :: st)) := by
  obtain ⟨_, X, _, _, _, hx, _, _, hby, _⟩ := S; subst hp
  exact own_by (fun _ k => XT.dupX1 X.here hx rfl (hb hby hd) rfl hc hc' k) H
theorem own_anewarray {idx : Nat} {C : String} {x : Int32} {n : Nat} (cap : Nat) (S : own_S p l e s m args below meth c Z a0 n0 y code mx ret R T h cells slots) (w1 : Jvm.Cond.classLink y.cls idx C ∈ tables_1) (w2 : Jvm.Cond.arrayOver (.object C) ∈ tables_1) (hi : x.toInt = n) (hcap : n ≤ cap) (hb8 : cap * 8 ≤ 536870912) (hc : cells + 1 ≤ R.cells) (hl : slots + cap ≤ R.slots) (hp : pc + 3 = pc') (hd : decode code pc = .ok (.anewarray idx, 3))
    (H : ∀ T' h' a, a = h.size → n0 ≤ a → own_S p l e s m args below meth c Z a0 n0 y code mx ret R T' h' (cells + 1) (slots + cap) → Ext h h' → own_G p e s below R n0 Q T' (mkF m pc' ls (.ref a :: st))) : own_G p e s below R n0 Q T (mkF m pc ls (.int x :: st)) := by
  obtain ⟨locs, X, eT, N, hn, hx, hZ, hw, hby, hmx, hown, r⟩ := S; subst hp
  obtain ⟨q1, q2⟩ := own_ix hi
  obtain ⟨T', h', k, X', e', E, Ar, -, stp⟩ := newR X hx hZ hown (hw _ w1) (hw _ w2) eT (g := mkF m pc ls (.int x :: st)) rfl (hb hby hd) rfl q2 (cap := cap) (by rw [q1]; exact hcap) hb8 hc hl
  exact own_by stp (H T' h' h.size rfl (by rw [← eT]; exact Nat.le_trans hn X.same.2.1) ⟨_, X', e', N, hn, hx, hZ, hw, hby, hmx, hown, r⟩ E)
/-- a cell is there, of a known kind -/
def own_U (h : Heap) (a : Addr) : Prop := ∃ cell : Cell, h[a]? = some cell ∧ cell.vm ≠ .unknown
theorem own_Uext {h h' : Heap} {a : Addr} (U : own_U h a) (E : Ext h h') : own_U h' a := by obtain ⟨cl, h1, h2⟩ := U; exact ⟨cl, E.2 _ _ h1, h2⟩
theorem own_Ukeep {h h' : Heap} {a : Addr} {ws : List Addr} (U : own_U h a) (K : Keep h h' ws) : own_U h' a := by obtain ⟨cl, h1, h2⟩ := U; obtain ⟨c', q1, _, q2, _⟩ := K.2.2 _ _ h1; exact ⟨c', q1, by rw [q2]; exact h2⟩
theorem own_Uwr {h h' : Heap} {a b : Addr} {sl : Nat} {v : Value} (U : own_U h a) (W : Wr h h' b sl v) : own_U h' a := own_Ukeep U (Keep.of_wr W)
theorem own_Uof {Z : State} {h : Heap} {a : Addr} {C n d : String} {v : Value} (F : Fld Z h a C n d v) : own_U h a := by obtain ⟨cl, _, _, _, _, h1, _, _, h4, _⟩ := F; exact ⟨cl, h1, h4⟩
end Own
theorem d1_0 : decode method_3_code 0 = .ok (.aload_n 0, 1) := by decide +kernel
theorem d1_1 : decode method_3_code 1 = .ok (.iload_n 1, 1) := by decide +kernel
theorem d1_2 : decode method_3_code 2 = .ok (.lload_n 2, 1) := by decide +kernel
theorem d1_3 : decode method_3_code 3 = .ok (.l2i, 1) := by decide +kernel
theorem d1_4 : decode method_3_code 4 = .ok (.i2b, 1) := by decide +kernel
theorem d1_5 : decode method_3_code 5 = .ok (.bastore, 1) := by decide +kernel
theorem d1_6 : decode method_3_code 6 = .ok (.aload_n 0, 1) := by decide +kernel
theorem d1_7 : decode method_3_code 7 = .ok (.iload_n 1, 1) := by decide +kernel
theorem d1_8 : decode method_3_code 8 = .ok (.iconst 1, 1) := by decide +kernel
theorem d1_9 : decode method_3_code 9 = .ok (.iadd, 1) := by decide +kernel
theorem d1_10 : decode method_3_code 10 = .ok (.lload_n 2, 1) := by decide +kernel
theorem d1_11 : decode method_3_code 11 = .ok (.bipush 8, 2) := by decide +kernel
theorem d1_13 : decode method_3_code 13 = .ok (.lushr, 1) := by decide +kernel
theorem d1_14 : decode method_3_code 14 = .ok (.l2i, 1) := by decide +kernel
theorem d1_15 : decode method_3_code 15 = .ok (.i2b, 1) := by decide +kernel
theorem d1_16 : decode method_3_code 16 = .ok (.bastore, 1) := by decide +kernel
theorem d1_17 : decode method_3_code 17 = .ok (.aload_n 0, 1) := by decide +kernel
theorem d1_18 : decode method_3_code 18 = .ok (.iload_n 1, 1) := by decide +kernel
theorem d1_19 : decode method_3_code 19 = .ok (.iconst 2, 1) := by decide +kernel
theorem d1_20 : decode method_3_code 20 = .ok (.iadd, 1) := by decide +kernel
theorem d1_21 : decode method_3_code 21 = .ok (.lload_n 2, 1) := by decide +kernel
theorem d1_22 : decode method_3_code 22 = .ok (.bipush 16, 2) := by decide +kernel
theorem d1_24 : decode method_3_code 24 = .ok (.lushr, 1) := by decide +kernel
theorem d1_25 : decode method_3_code 25 = .ok (.l2i, 1) := by decide +kernel
theorem d1_26 : decode method_3_code 26 = .ok (.i2b, 1) := by decide +kernel
theorem d1_27 : decode method_3_code 27 = .ok (.bastore, 1) := by decide +kernel
theorem d1_28 : decode method_3_code 28 = .ok (.aload_n 0, 1) := by decide +kernel
theorem d1_29 : decode method_3_code 29 = .ok (.iload_n 1, 1) := by decide +kernel
theorem d1_30 : decode method_3_code 30 = .ok (.iconst 3, 1) := by decide +kernel
theorem d1_31 : decode method_3_code 31 = .ok (.iadd, 1) := by decide +kernel
theorem d1_32 : decode method_3_code 32 = .ok (.lload_n 2, 1) := by decide +kernel
theorem d1_33 : decode method_3_code 33 = .ok (.bipush 24, 2) := by decide +kernel
theorem d1_35 : decode method_3_code 35 = .ok (.lushr, 1) := by decide +kernel
theorem d1_36 : decode method_3_code 36 = .ok (.l2i, 1) := by decide +kernel
theorem d1_37 : decode method_3_code 37 = .ok (.i2b, 1) := by decide +kernel
theorem d1_38 : decode method_3_code 38 = .ok (.bastore, 1) := by decide +kernel
theorem d1_39 : decode method_3_code 39 = .ok (.aload_n 0, 1) := by decide +kernel
theorem d1_40 : decode method_3_code 40 = .ok (.iload_n 1, 1) := by decide +kernel
theorem d1_41 : decode method_3_code 41 = .ok (.iconst 4, 1) := by decide +kernel
theorem d1_42 : decode method_3_code 42 = .ok (.iadd, 1) := by decide +kernel
theorem d1_43 : decode method_3_code 43 = .ok (.lload_n 2, 1) := by decide +kernel
theorem d1_44 : decode method_3_code 44 = .ok (.bipush 32, 2) := by decide +kernel
theorem d1_46 : decode method_3_code 46 = .ok (.lushr, 1) := by decide +kernel
theorem d1_47 : decode method_3_code 47 = .ok (.l2i, 1) := by decide +kernel
theorem d1_48 : decode method_3_code 48 = .ok (.i2b, 1) := by decide +kernel
theorem d1_49 : decode method_3_code 49 = .ok (.bastore, 1) := by decide +kernel
theorem d1_50 : decode method_3_code 50 = .ok (.aload_n 0, 1) := by decide +kernel
theorem d1_51 : decode method_3_code 51 = .ok (.iload_n 1, 1) := by decide +kernel
theorem d1_52 : decode method_3_code 52 = .ok (.iconst 5, 1) := by decide +kernel
theorem d1_53 : decode method_3_code 53 = .ok (.iadd, 1) := by decide +kernel
theorem d1_54 : decode method_3_code 54 = .ok (.lload_n 2, 1) := by decide +kernel
theorem d1_55 : decode method_3_code 55 = .ok (.bipush 40, 2) := by decide +kernel
theorem d1_57 : decode method_3_code 57 = .ok (.lushr, 1) := by decide +kernel
theorem d1_58 : decode method_3_code 58 = .ok (.l2i, 1) := by decide +kernel
theorem d1_59 : decode method_3_code 59 = .ok (.i2b, 1) := by decide +kernel
theorem d1_60 : decode method_3_code 60 = .ok (.bastore, 1) := by decide +kernel
theorem d1_61 : decode method_3_code 61 = .ok (.aload_n 0, 1) := by decide +kernel
theorem d1_62 : decode method_3_code 62 = .ok (.iload_n 1, 1) := by decide +kernel
theorem d1_63 : decode method_3_code 63 = .ok (.bipush 6, 2) := by decide +kernel
theorem d1_65 : decode method_3_code 65 = .ok (.iadd, 1) := by decide +kernel
theorem d1_66 : decode method_3_code 66 = .ok (.lload_n 2, 1) := by decide +kernel
theorem d1_67 : decode method_3_code 67 = .ok (.bipush 48, 2) := by decide +kernel
theorem d1_69 : decode method_3_code 69 = .ok (.lushr, 1) := by decide +kernel
theorem d1_70 : decode method_3_code 70 = .ok (.l2i, 1) := by decide +kernel
theorem d1_71 : decode method_3_code 71 = .ok (.i2b, 1) := by decide +kernel
theorem d1_72 : decode method_3_code 72 = .ok (.bastore, 1) := by decide +kernel
theorem d1_73 : decode method_3_code 73 = .ok (.aload_n 0, 1) := by decide +kernel
theorem d1_74 : decode method_3_code 74 = .ok (.iload_n 1, 1) := by decide +kernel
theorem d1_75 : decode method_3_code 75 = .ok (.bipush 7, 2) := by decide +kernel
theorem d1_77 : decode method_3_code 77 = .ok (.iadd, 1) := by decide +kernel
theorem d1_78 : decode method_3_code 78 = .ok (.lload_n 2, 1) := by decide +kernel
theorem d1_79 : decode method_3_code 79 = .ok (.bipush 56, 2) := by decide +kernel
theorem d1_81 : decode method_3_code 81 = .ok (.lushr, 1) := by decide +kernel
theorem d1_82 : decode method_3_code 82 = .ok (.l2i, 1) := by decide +kernel
theorem d1_83 : decode method_3_code 83 = .ok (.i2b, 1) := by decide +kernel
theorem d1_84 : decode method_3_code 84 = .ok (.bastore, 1) := by decide +kernel
theorem d1_85 : decode method_3_code 85 = .ok (.return_, 1) := by decide +kernel
theorem d2_0 : decode prog_171_method_2_code 0 = .ok (.iload_n 2, 1) := by decide +kernel
theorem d2_1 : decode prog_171_method_2_code 1 = .ok (.iload_n 1, 1) := by decide +kernel
theorem d2_2 : decode prog_171_method_2_code 2 = .ok (.isub, 1) := by decide +kernel
theorem d2_3 : decode prog_171_method_2_code 3 = .ok (.iload_n 3, 1) := by decide +kernel
theorem d2_4 : decode prog_171_method_2_code 4 = .ok (.idiv, 1) := by decide +kernel
theorem d2_5 : decode prog_171_method_2_code 5 = .ok (.istore 4, 2) := by decide +kernel
theorem d2_7 : decode prog_171_method_2_code 7 = .ok (.iload_n 2, 1) := by decide +kernel
theorem d2_8 : decode prog_171_method_2_code 8 = .ok (.iload_n 1, 1) := by decide +kernel
theorem d2_9 : decode prog_171_method_2_code 9 = .ok (.isub, 1) := by decide +kernel
theorem d2_10 : decode prog_171_method_2_code 10 = .ok (.newarray .byte, 2) := by decide +kernel
theorem d2_12 : decode prog_171_method_2_code 12 = .ok (.astore 5, 2) := by decide +kernel
theorem d2_14 : decode prog_171_method_2_code 14 = .ok (.iconst 0, 1) := by decide +kernel
theorem d2_15 : decode prog_171_method_2_code 15 = .ok (.istore 6, 2) := by decide +kernel
theorem d2_17 : decode prog_171_method_2_code 17 = .ok (.iload 6, 2) := by decide +kernel
theorem d2_19 : decode prog_171_method_2_code 19 = .ok (.iload_n 3, 1) := by decide +kernel
theorem d2_20 : decode prog_171_method_2_code 20 = .ok (.if_icmp .ge 51, 3) := by decide +kernel
theorem d2_23 : decode prog_171_method_2_code 23 = .ok (.iload_n 1, 1) := by decide +kernel
theorem d2_24 : decode prog_171_method_2_code 24 = .ok (.iload 6, 2) := by decide +kernel
theorem d2_26 : decode prog_171_method_2_code 26 = .ok (.iload 4, 2) := by decide +kernel
theorem d2_28 : decode prog_171_method_2_code 28 = .ok (.imul, 1) := by decide +kernel
theorem d2_29 : decode prog_171_method_2_code 29 = .ok (.iadd, 1) := by decide +kernel
theorem d2_30 : decode prog_171_method_2_code 30 = .ok (.istore 7, 2) := by decide +kernel
theorem d2_32 : decode prog_171_method_2_code 32 = .ok (.iconst 0, 1) := by decide +kernel
theorem d2_33 : decode prog_171_method_2_code 33 = .ok (.istore 8, 2) := by decide +kernel
theorem d2_35 : decode prog_171_method_2_code 35 = .ok (.iload 8, 2) := by decide +kernel
theorem d2_37 : decode prog_171_method_2_code 37 = .ok (.iload 4, 2) := by decide +kernel
theorem d2_39 : decode prog_171_method_2_code 39 = .ok (.if_icmp .ge 26, 3) := by decide +kernel
theorem d2_42 : decode prog_171_method_2_code 42 = .ok (.aload 5, 2) := by decide +kernel
theorem d2_44 : decode prog_171_method_2_code 44 = .ok (.iload 8, 2) := by decide +kernel
theorem d2_46 : decode prog_171_method_2_code 46 = .ok (.iload_n 3, 1) := by decide +kernel
theorem d2_47 : decode prog_171_method_2_code 47 = .ok (.imul, 1) := by decide +kernel
theorem d2_48 : decode prog_171_method_2_code 48 = .ok (.iload 6, 2) := by decide +kernel
theorem d2_50 : decode prog_171_method_2_code 50 = .ok (.iadd, 1) := by decide +kernel
theorem d2_51 : decode prog_171_method_2_code 51 = .ok (.aload_n 0, 1) := by decide +kernel
theorem d2_52 : decode prog_171_method_2_code 52 = .ok (.iload 7, 2) := by decide +kernel
theorem d2_54 : decode prog_171_method_2_code 54 = .ok (.iload 8, 2) := by decide +kernel
theorem d2_56 : decode prog_171_method_2_code 56 = .ok (.iadd, 1) := by decide +kernel
theorem d2_57 : decode prog_171_method_2_code 57 = .ok (.baload, 1) := by decide +kernel
theorem d2_58 : decode prog_171_method_2_code 58 = .ok (.bastore, 1) := by decide +kernel
theorem d2_59 : decode prog_171_method_2_code 59 = .ok (.iinc 8 1, 3) := by decide +kernel
theorem d2_62 : decode prog_171_method_2_code 62 = .ok (.goto (-27), 3) := by decide +kernel
theorem d2_65 : decode prog_171_method_2_code 65 = .ok (.iinc 6 1, 3) := by decide +kernel
theorem d2_68 : decode prog_171_method_2_code 68 = .ok (.goto (-51), 3) := by decide +kernel
theorem d2_71 : decode prog_171_method_2_code 71 = .ok (.aload 5, 2) := by decide +kernel
theorem d2_73 : decode prog_171_method_2_code 73 = .ok (.areturn, 1) := by decide +kernel
theorem d3_0 : decode method_4_code 0 = .ok (.iload 5, 2) := by decide +kernel
theorem d3_2 : decode method_4_code 2 = .ok (.aload_n 0, 1) := by decide +kernel
theorem d3_3 : decode method_4_code 3 = .ok (.arraylength, 1) := by decide +kernel
theorem d3_4 : decode method_4_code 4 = .ok (.if_icmp .lt 5, 3) := by decide +kernel
theorem d3_7 : decode method_4_code 7 = .ok (.iconst 1, 1) := by decide +kernel
theorem d3_8 : decode method_4_code 8 = .ok (.ireturn, 1) := by decide +kernel
theorem d3_9 : decode method_4_code 9 = .ok (.iload 5, 2) := by decide +kernel
theorem d3_11 : decode method_4_code 11 = .ok (.iload 4, 2) := by decide +kernel
theorem d3_13 : decode method_4_code 13 = .ok (.idiv, 1) := by decide +kernel
theorem d3_14 : decode method_4_code 14 = .ok (.istore 6, 2) := by decide +kernel
theorem d3_16 : decode method_4_code 16 = .ok (.iload 5, 2) := by decide +kernel
theorem d3_18 : decode method_4_code 18 = .ok (.iload 4, 2) := by decide +kernel
theorem d3_20 : decode method_4_code 20 = .ok (.irem, 1) := by decide +kernel
theorem d3_21 : decode method_4_code 21 = .ok (.istore 7, 2) := by decide +kernel
theorem d3_23 : decode method_4_code 23 = .ok (.aload_n 0, 1) := by decide +kernel
theorem d3_24 : decode method_4_code 24 = .ok (.iload 5, 2) := by decide +kernel
theorem d3_26 : decode method_4_code 26 = .ok (.baload, 1) := by decide +kernel
theorem d3_27 : decode method_4_code 27 = .ok (.aload_n 1, 1) := by decide +kernel
theorem d3_28 : decode method_4_code 28 = .ok (.iload_n 2, 1) := by decide +kernel
theorem d3_29 : decode method_4_code 29 = .ok (.iload 7, 2) := by decide +kernel
theorem d3_31 : decode method_4_code 31 = .ok (.iload_n 3, 1) := by decide +kernel
theorem d3_32 : decode method_4_code 32 = .ok (.imul, 1) := by decide +kernel
theorem d3_33 : decode method_4_code 33 = .ok (.iadd, 1) := by decide +kernel
theorem d3_34 : decode method_4_code 34 = .ok (.iload 6, 2) := by decide +kernel
theorem d3_36 : decode method_4_code 36 = .ok (.iadd, 1) := by decide +kernel
theorem d3_37 : decode method_4_code 37 = .ok (.baload, 1) := by decide +kernel
theorem d3_38 : decode method_4_code 38 = .ok (.if_icmp .ne 7, 3) := by decide +kernel
theorem d3_41 : decode method_4_code 41 = .ok (.iconst 1, 1) := by decide +kernel
theorem d3_42 : decode method_4_code 42 = .ok (.goto 4, 3) := by decide +kernel
theorem d3_45 : decode method_4_code 45 = .ok (.iconst 0, 1) := by decide +kernel
theorem d3_46 : decode method_4_code 46 = .ok (.ireturn, 1) := by decide +kernel
theorem own_tn {i : Nat} (h : i < 2147483648) : (Int32.ofNat i).toInt = i := Int32.toInt_ofNat_of_lt (by omega)
theorem own_one (i : Nat) : Int32.ofNat i + (1 : Int32) = Int32.ofNat (i + 1) := (Int32.ofNat_add i 1).symm
theorem own_addN (a b : Nat) : Int32.ofNat a + Int32.ofNat b = Int32.ofNat (a + b) := (Int32.ofNat_add a b).symm
theorem own_mulN (a b : Nat) : Int32.ofNat a * Int32.ofNat b = Int32.ofNat (a * b) := (Int32.ofNat_mul a b).symm
theorem own_two (a : Nat) : (2 : Int32) * Int32.ofNat a = Int32.ofNat (2 * a) := own_mulN 2 a
theorem own_subN {a b : Nat} (ha : a < 2147483648) (hab : b ≤ a) : Int32.ofNat a - Int32.ofNat b = Int32.ofNat (a - b) := by
  apply Int32.toInt_inj.mp
  have h1 := c_isub (Int32.ofNat a) (Int32.ofNat b)
  have h2 := rng32 (Int32.ofNat a - Int32.ofNat b)
  rw [own_tn ha, own_tn (i := b) (by omega)] at h1
  rw [own_tn (i := a - b) (by omega)]
  omega
theorem own_sub1 {a : Nat} (ha : a < 2147483648) (hab : 1 ≤ a) : Int32.ofNat a - (1 : Int32) = Int32.ofNat (a - 1) := own_subN ha hab
theorem own_modN {a b : Nat} (ha : a < 2147483648) (hb : b < 2147483648) : Int32.ofNat a % Int32.ofNat b = Int32.ofNat (a % b) := by
  apply Int32.toInt_inj.mp
  rw [Int32.toInt_mod, own_tn ha, own_tn hb, own_tn (i := a % b) (Nat.lt_of_le_of_lt (Nat.mod_le a b) ha)]
  rfl
theorem own_divN {a b : Nat} (ha : a < 2147483648) (hb : b < 2147483648) : Int32.ofNat a / Int32.ofNat b = Int32.ofNat (a / b) := by
  apply Int32.toInt_inj.mp
  rw [Int32.toInt_div_of_ne_right _ _ (fun q => by have := congrArg Int32.toInt q; rw [own_tn hb] at this; have e : (-1 : Int32).toInt = -1 := rfl; omega), own_tn ha, own_tn hb, own_tn (i := a / b) (Nat.lt_of_le_of_lt (Nat.div_le_self a b) ha)]
  rfl
theorem own_nz {a : Nat} (ha : a < 2147483648) (h : a ≠ 0) : Int32.ofNat a ≠ 0 := fun q => by
  have := congrArg Int32.toInt q
  rw [own_tn ha] at this
  have e : (0 : Int32).toInt = 0 := rfl
  omega
theorem own_nat {y : Int32} (h : 0 ≤ y.toInt) : y = Int32.ofNat y.toInt.toNat := by
  apply Int32.toInt_inj.mp
  have := y.toInt_lt
  rw [own_tn (by omega)]
  omega
theorem own_mask (x m : Int32) (h : 0 ≤ m.toInt) : ∃ k : Nat, (k : Int) ≤ m.toInt ∧ x &&& m = Int32.ofNat k := by
  have r := c_and x m h
  exact ⟨(x &&& m).toInt.toNat, by omega, own_nat r.1⟩
theorem own_at (a k : Nat) (h : a + k < 2147483648) : (Int32.ofNat a + Int32.ofNat k).toInt = ((a + k : Nat) : Int) := by rw [own_addN, own_tn h]
/-- bytes: place j holds f j, cut to a byte -/
def own_by8 (f : Nat → Int32) : Nat → Value := fun j => .int (nar .byte (f j))
def own_uI (f : Nat → Int32) (k : Nat) (w : Int32) : Nat → Int32 := fun j => if j = k then w else f j
theorem own_Bupd (f : Nat → Int32) (k : Nat) (w : Int32) (n : Nat) : ∀ j, j < n → own_upd (own_by8 f) k (.int (nar .byte w)) j = own_by8 (own_uI f k w) j := fun j _ => by
  unfold own_upd own_by8 own_uI
  by_cases q : j = k
  · rw [if_pos q, if_pos q]
  · rw [if_neg q, if_neg q]
theorem own_nn (x : Int32) : nar .byte (nar .byte x) = nar .byte x := by simp [nar]
def own_ar1B (w c : Nat) : Bool := decide (∀ s, s < w → ∀ v, v < c → v * w + s < w * c ∧ (v * w + s) % w = s ∧ (v * w + s) / w = v ∧ s * c + v + 3 < 32)
set_option maxRecDepth 65536 in
theorem own_ar1C : ∀ w, w < 9 → ∀ c, c < 4 → own_ar1B w c = true := by decide +kernel
theorem own_ar1 (w : Nat) (h1 : w < 9) (c : Nat) (h2 : c < 4) (s : Nat) (h3 : s < w) (v : Nat) (h4 : v < c) : v * w + s < w * c ∧ (v * w + s) % w = s ∧ (v * w + s) / w = v ∧ s * c + v + 3 < 32 := of_decide_eq_true (own_ar1C w h1 c h2) s h3 v h4
set_option maxRecDepth 65536 in
theorem own_ar2 : ∀ w, w < 9 → ∀ c, c < 4 → ∀ i, i < w * c → i / w < c ∧ i % w < w ∧ i % w * c + i / w + 3 < 32 ∧ i < 24 := by decide +kernel
set_option maxRecDepth 65536 in
theorem own_ar3 : ∀ w, w < 9 → ∀ c, c < 4 → w * c ≤ 24 ∧ ∀ s, s < w + 1 → s * c ≤ 24 := by decide +kernel
set_option maxRecDepth 65536 in
theorem own_ar4 : ∀ w, w < 9 → ∀ c, c < 4 → ∀ v, v < c + 1 → v * w ≤ 24 := by decide +kernel
theorem own_ar5 {w s v i : Nat} (hw : 0 < w) (h1 : i % w = s) (h2 : i / w = v) : i = v * w + s := by rw [← h1, ← h2, Nat.mul_comm]; exact (Nat.div_add_mod i w).symm
/-- the places of the streams before s, and of stream s before v, are filled -/
def own_Inv (f : Nat → Int32) (st c w s v : Nat) (g : Nat → Value) : Prop := ∀ i, i < w * c → (i % w < s ∨ (i % w = s ∧ i / w < v)) → g i = own_by8 f (st + i % w * c + i / w)
def own_y1 : MethodName := ⟨"com/example/colonnade/colonnade/parquet/ByteStreamSplitJoinPinLaw", "fill", "([BIJ)V"⟩
theorem own_pn1 : plainName "com/example/colonnade/colonnade/parquet/ByteStreamSplitJoinPinLaw" = true := by first | (simp [plainName, overriddenIn]; done) | decide +kernel
theorem own_ef1 (m : MethodId) (d : Addr) (x : Int32) (z : Int64) : entryFrame m #[.ref d, .int x, .long z] 4 = mkF m 0 #[.val (.ref d), .val (.int x), .val (.long z), .second] [] := by first | (simp [entryFrame, mkF, argsToLocals, Value.category]; done) | rfl
set_option maxRecDepth 65536 in
set_option maxHeartbeats 40000000 in
theorem own_m1 (l : Launch) (Z : State) (a0 : Array Value) (hw : ∀ d ∈ tables_1, d.before a0 Z = true) (d : Addr) (off : Nat) (z : Int64) (f : Nat → Int32) (h0 : Heap) (n0 : Nat) (hn : n0 ≤ h0.size) (hd : n0 ≤ d) (hoff : off + 7 < 32) (A : own_A Z h0 d .byte 32 (own_by8 f)) :
    own_Met l Z h0 n0 own_y1 method_3_code 4 none [] ({ frames := 0, cells := 0, slots := 0, locals := 0 } : Room) #[.ref d, .int (Int32.ofNat off), .long z] (own_N fun h => ∃ f', own_A Z h d .byte 32 (own_by8 f')) := by
  refine own_met (ls := #[.val (.ref d), .val (.int (Int32.ofNat off)), .val (.long z), .second]) own_pn1 (fun m => own_ef1 m d _ z) hn hw fun p e s m below meth c T S => ?_
  refine own_aloadN (pc' := 1) S rfl d1_0 rfl rfl ?_
  refine own_iloadN (pc' := 2) S rfl d1_1 rfl ?_
  refine own_lloadN (pc' := 3) S rfl d1_2 rfl ?_
  refine own_l2i (pc' := 4) S rfl d1_3 ?_
  refine own_i2b (pc' := 5) S rfl d1_4 ?_
  refine own_bastoreB (pc' := 6) S A (k := off) (own_tn (by omega)) (by omega) hd rfl d1_5 ?_
  clear A
  intro T h S W A
  replace A := own_Aof A (own_Bupd _ _ _ _)
  refine own_aloadN (pc' := 7) S rfl d1_6 rfl rfl ?_
  refine own_iloadN (pc' := 8) S rfl d1_7 rfl ?_
  refine own_iconst (1 : Int32) (pc' := 9) S rfl d1_8 rfl ?_
  refine own_iadd (pc' := 10) S rfl d1_9 ?_
  refine own_lloadN (pc' := 11) S rfl d1_10 rfl ?_
  refine own_bipush (8 : Int32) (pc' := 13) S rfl d1_11 rfl ?_
  refine own_lushr (pc' := 14) S rfl d1_13 ?_
  refine own_l2i (pc' := 15) S rfl d1_14 ?_
  refine own_i2b (pc' := 16) S rfl d1_15 ?_
  refine own_bastoreB (pc' := 17) S A (k := off + 1) (own_at off 1 (by omega)) (by omega) hd rfl d1_16 ?_
  clear A
  intro T h S W A
  replace A := own_Aof A (own_Bupd _ _ _ _)
  refine own_aloadN (pc' := 18) S rfl d1_17 rfl rfl ?_
  refine own_iloadN (pc' := 19) S rfl d1_18 rfl ?_
  refine own_iconst (2 : Int32) (pc' := 20) S rfl d1_19 rfl ?_
  refine own_iadd (pc' := 21) S rfl d1_20 ?_
  refine own_lloadN (pc' := 22) S rfl d1_21 rfl ?_
  refine own_bipush (16 : Int32) (pc' := 24) S rfl d1_22 rfl ?_
  refine own_lushr (pc' := 25) S rfl d1_24 ?_
  refine own_l2i (pc' := 26) S rfl d1_25 ?_
  refine own_i2b (pc' := 27) S rfl d1_26 ?_
  refine own_bastoreB (pc' := 28) S A (k := off + 2) (own_at off 2 (by omega)) (by omega) hd rfl d1_27 ?_
  clear A
  intro T h S W A
  replace A := own_Aof A (own_Bupd _ _ _ _)
  refine own_aloadN (pc' := 29) S rfl d1_28 rfl rfl ?_
  refine own_iloadN (pc' := 30) S rfl d1_29 rfl ?_
  refine own_iconst (3 : Int32) (pc' := 31) S rfl d1_30 rfl ?_
  refine own_iadd (pc' := 32) S rfl d1_31 ?_
  refine own_lloadN (pc' := 33) S rfl d1_32 rfl ?_
  refine own_bipush (24 : Int32) (pc' := 35) S rfl d1_33 rfl ?_
  refine own_lushr (pc' := 36) S rfl d1_35 ?_
  refine own_l2i (pc' := 37) S rfl d1_36 ?_
  refine own_i2b (pc' := 38) S rfl d1_37 ?_
  refine own_bastoreB (pc' := 39) S A (k := off + 3) (own_at off 3 (by omega)) (by omega) hd rfl d1_38 ?_
  clear A
  intro T h S W A
  replace A := own_Aof A (own_Bupd _ _ _ _)
  refine own_aloadN (pc' := 40) S rfl d1_39 rfl rfl ?_
  refine own_iloadN (pc' := 41) S rfl d1_40 rfl ?_
  refine own_iconst (4 : Int32) (pc' := 42) S rfl d1_41 rfl ?_
  refine own_iadd (pc' := 43) S rfl d1_42 ?_
  refine own_lloadN (pc' := 44) S rfl d1_43 rfl ?_
  refine own_bipush (32 : Int32) (pc' := 46) S rfl d1_44 rfl ?_
  refine own_lushr (pc' := 47) S rfl d1_46 ?_
  refine own_l2i (pc' := 48) S rfl d1_47 ?_
  refine own_i2b (pc' := 49) S rfl d1_48 ?_
  refine own_bastoreB (pc' := 50) S A (k := off + 4) (own_at off 4 (by omega)) (by omega) hd rfl d1_49 ?_
  clear A
  intro T h S W A
  replace A := own_Aof A (own_Bupd _ _ _ _)
  refine own_aloadN (pc' := 51) S rfl d1_50 rfl rfl ?_
  refine own_iloadN (pc' := 52) S rfl d1_51 rfl ?_
  refine own_iconst (5 : Int32) (pc' := 53) S rfl d1_52 rfl ?_
  refine own_iadd (pc' := 54) S rfl d1_53 ?_
  refine own_lloadN (pc' := 55) S rfl d1_54 rfl ?_
  refine own_bipush (40 : Int32) (pc' := 57) S rfl d1_55 rfl ?_
  refine own_lushr (pc' := 58) S rfl d1_57 ?_
  refine own_l2i (pc' := 59) S rfl d1_58 ?_
  refine own_i2b (pc' := 60) S rfl d1_59 ?_
  refine own_bastoreB (pc' := 61) S A (k := off + 5) (own_at off 5 (by omega)) (by omega) hd rfl d1_60 ?_
  clear A
  intro T h S W A
  replace A := own_Aof A (own_Bupd _ _ _ _)
  refine own_aloadN (pc' := 62) S rfl d1_61 rfl rfl ?_
  refine own_iloadN (pc' := 63) S rfl d1_62 rfl ?_
  refine own_bipush (6 : Int32) (pc' := 65) S rfl d1_63 rfl ?_
  refine own_iadd (pc' := 66) S rfl d1_65 ?_
  refine own_lloadN (pc' := 67) S rfl d1_66 rfl ?_
  refine own_bipush (48 : Int32) (pc' := 69) S rfl d1_67 rfl ?_
  refine own_lushr (pc' := 70) S rfl d1_69 ?_
  refine own_l2i (pc' := 71) S rfl d1_70 ?_
  refine own_i2b (pc' := 72) S rfl d1_71 ?_
  refine own_bastoreB (pc' := 73) S A (k := off + 6) (own_at off 6 (by omega)) (by omega) hd rfl d1_72 ?_
  clear A
  intro T h S W A
  replace A := own_Aof A (own_Bupd _ _ _ _)
  refine own_aloadN (pc' := 74) S rfl d1_73 rfl rfl ?_
  refine own_iloadN (pc' := 75) S rfl d1_74 rfl ?_
  refine own_bipush (7 : Int32) (pc' := 77) S rfl d1_75 rfl ?_
  refine own_iadd (pc' := 78) S rfl d1_77 ?_
  refine own_lloadN (pc' := 79) S rfl d1_78 rfl ?_
  refine own_bipush (56 : Int32) (pc' := 81) S rfl d1_79 rfl ?_
  refine own_lushr (pc' := 82) S rfl d1_81 ?_
  refine own_l2i (pc' := 83) S rfl d1_82 ?_
  refine own_i2b (pc' := 84) S rfl d1_83 ?_
  refine own_bastoreB (pc' := 85) S A (k := off + 7) (own_at off 7 (by omega)) (by omega) hd rfl d1_84 ?_
  clear A
  intro T h S W A
  replace A := own_Aof A (own_Bupd _ _ _ _)
  exact own_ret  S d1_85 (by decide) (by decide) ⟨rfl, _, A⟩
def own_y2 : MethodName := ⟨"com/example/colonnade/colonnade/parquet/ByteStreamSplit", "join", "([BIII)[B"⟩
set_option maxRecDepth 65536 in
set_option maxHeartbeats 40000000 in
theorem own_lpI {p : Program} {l : Launch} {e : Env} {s : State} {m : MethodId} {args : Array Value} {below : List Frame} {meth : Method} {c : Code} {Z : State} {a0 : Array Value} {n0 : Nat} {b d : Addr} {w cn sb : Nat} {f : Nat → Int32} (hw9 : w < 9) (hw1 : 1 ≤ w) (hc4 : cn < 4) (hs4 : sb < 4) (hb0 : n0 ≤ b) (hdb : d ≠ b) {s_ : Nat} (hs : s_ < w) {Q : Option Value → Heap → Prop}
    (K : ∀ T h g (s7 s8 : Slot), One s7 → One s8 → own_S p l e s m args below meth c Z a0 n0 own_y2 prog_171_method_2_code 9 (some (.array .byte)) ({ frames := 0, cells := 1, slots := 24, locals := 0 } : Room) T h (0 + 1) (0 + 24) → own_A Z h b .byte (w * cn) g → own_A Z h d .byte 32 (own_by8 f) → own_Inv f sb cn w (s_ + 1) 0 g → own_G p e s below ({ frames := 0, cells := 1, slots := 24, locals := 0 } : Room) n0 Q T (mkF m 17 #[.val (.ref d), .val (.int (Int32.ofNat sb)), .val (.int (Int32.ofNat (sb + w * cn))), .val (.int (Int32.ofNat w)), .val (.int (Int32.ofNat cn)), .val (.ref b), .val (.int (Int32.ofNat (s_ + 1))), s7, s8] [])) :
    ∀ q v T h g, v + q = cn → own_S p l e s m args below meth c Z a0 n0 own_y2 prog_171_method_2_code 9 (some (.array .byte)) ({ frames := 0, cells := 1, slots := 24, locals := 0 } : Room) T h (0 + 1) (0 + 24) → own_A Z h b .byte (w * cn) g → own_A Z h d .byte 32 (own_by8 f) → own_Inv f sb cn w s_ v g → own_G p e s below ({ frames := 0, cells := 1, slots := 24, locals := 0 } : Room) n0 Q T (mkF m 35 #[.val (.ref d), .val (.int (Int32.ofNat sb)), .val (.int (Int32.ofNat (sb + w * cn))), .val (.int (Int32.ofNat w)), .val (.int (Int32.ofNat cn)), .val (.ref b), .val (.int (Int32.ofNat s_)), .val (.int (Int32.ofNat (sb + s_ * cn))), .val (.int (Int32.ofNat v))] []) := by
  intro q
  induction q with
  | zero =>
    intro v T h g hv S A D H
    have tc := own_tn (i := cn) (by omega)
    have tv := own_tn (i := v) (by omega)
    refine own_iload (pc' := 37) S rfl d2_35 rfl ?_
    refine own_iload (pc' := 39) S rfl d2_37 rfl ?_
    refine own_icY (pc' := 65) S (by decide) rfl d2_39 (own_t_ge (by omega)) ?_
    refine own_iinc (1 : Int32) (ls' := #[.val (.ref d), .val (.int (Int32.ofNat sb)), .val (.int (Int32.ofNat (sb + w * cn))), .val (.int (Int32.ofNat w)), .val (.int (Int32.ofNat cn)), .val (.ref b), .val (.int ((Int32.ofNat s_) + (1 : Int32))), .val (.int (Int32.ofNat (sb + s_ * cn))), .val (.int (Int32.ofNat v))]) (pc' := 68) S rfl d2_65 rfl rfl rfl ?_
    refine own_goto (pc' := 17) S (by decide) rfl d2_68 ?_
    rw [own_one]
    refine K T h g _ _ (One.val rfl) (One.val rfl) S A D (fun i hi q => H i hi ?_)
    have z1 := (own_ar2 w hw9 cn hc4 i hi).1
    rcases q with q | ⟨_, q⟩
    · rcases Nat.lt_or_ge (i % w) s_ with z | z
      · exact Or.inl z
      · exact Or.inr ⟨by omega, by omega⟩
    · exact absurd q (Nat.not_lt_zero _)
  | succ q ih =>
    intro v T h g hv S A D H
    have tc := own_tn (i := cn) (by omega)
    have tv := own_tn (i := v) (by omega)
    obtain ⟨f1, f2, f3, f4⟩ := own_ar1 w hw9 cn hc4 s_ hs v (by omega)
    have f5 := (own_ar3 w hw9 cn hc4).1
    refine own_iload (pc' := 37) S rfl d2_35 rfl ?_
    refine own_iload (pc' := 39) S rfl d2_37 rfl ?_
    refine own_icN (pc' := 42) S rfl d2_39 (own_f_ge (by omega)) ?_
    refine own_aload (pc' := 44) S rfl d2_42 rfl rfl ?_
    refine own_iload (pc' := 46) S rfl d2_44 rfl ?_
    refine own_iloadN (pc' := 47) S rfl d2_46 rfl ?_
    refine own_imul (pc' := 48) S rfl d2_47 ?_
    rw [own_mulN]
    refine own_iload (pc' := 50) S rfl d2_48 rfl ?_
    refine own_iadd (pc' := 51) S rfl d2_50 ?_
    rw [own_addN]
    refine own_aloadN (pc' := 52) S rfl d2_51 rfl rfl ?_
    refine own_iload (pc' := 54) S rfl d2_52 rfl ?_
    refine own_iload (pc' := 56) S rfl d2_54 rfl ?_
    refine own_iadd (pc' := 57) S rfl d2_56 ?_
    rw [own_addN]
    refine own_baloadB (pc' := 58) (w := (nar .byte (f (sb + s_ * cn + v)))) S D (k := (sb + s_ * cn + v)) (own_tn (by omega)) (by omega) rfl rfl d2_57 ?_
    refine own_bastoreB (pc' := 59) S A (k := v * w + s_) (own_tn (by omega)) f1 hb0 rfl d2_58 ?_
    skip
    intro T' h' S W A
    replace D := own_Awr D W hdb
    refine own_iinc (1 : Int32) (ls' := #[.val (.ref d), .val (.int (Int32.ofNat sb)), .val (.int (Int32.ofNat (sb + w * cn))), .val (.int (Int32.ofNat w)), .val (.int (Int32.ofNat cn)), .val (.ref b), .val (.int (Int32.ofNat s_)), .val (.int (Int32.ofNat (sb + s_ * cn))), .val (.int ((Int32.ofNat v) + (1 : Int32)))]) (pc' := 62) S rfl d2_59 rfl rfl rfl ?_
    refine own_goto (pc' := 35) S (by decide) rfl d2_62 ?_
    rw [own_one]
    refine ih (v + 1) T' h' _ (by omega) S A D (fun i hi q => ?_)
    unfold own_upd
    by_cases e : i = v * w + s_
    · rw [if_pos e, e, f2, f3]; show Value.int (nar .byte (nar .byte _)) = _; rw [own_nn]; rfl
    · rw [if_neg e]; refine H i hi ?_
      rcases q with q | ⟨q1, q2⟩
      · exact Or.inl q
      · refine Or.inr ⟨q1, ?_⟩
        rcases Nat.lt_or_ge (i / w) v with z | z
        · exact z
        · exact absurd (own_ar5 (by omega) q1 (by omega)) e
set_option maxRecDepth 65536 in
set_option maxHeartbeats 40000000 in
theorem own_lpO {p : Program} {l : Launch} {e : Env} {s : State} {m : MethodId} {args : Array Value} {below : List Frame} {meth : Method} {c : Code} {Z : State} {a0 : Array Value} {n0 : Nat} {b d : Addr} {w cn sb : Nat} {f : Nat → Int32} (hw9 : w < 9) (hw1 : 1 ≤ w) (hc4 : cn < 4) (hs4 : sb < 4) (hb0 : n0 ≤ b) (hdb : d ≠ b) :
    ∀ q s_ T h g (s7 s8 : Slot), s_ + q = w → One s7 → One s8 → own_S p l e s m args below meth c Z a0 n0 own_y2 prog_171_method_2_code 9 (some (.array .byte)) ({ frames := 0, cells := 1, slots := 24, locals := 0 } : Room) T h (0 + 1) (0 + 24) → own_A Z h b .byte (w * cn) g → own_A Z h d .byte 32 (own_by8 f) → own_Inv f sb cn w s_ 0 g → own_G p e s below ({ frames := 0, cells := 1, slots := 24, locals := 0 } : Room) n0 (own_V fun r h => ∃ b g, r = .ref b ∧ own_A Z h b .byte (w * cn) g ∧ own_A Z h d .byte 32 (own_by8 f) ∧ own_Inv f sb cn w w 0 g) T (mkF m 17 #[.val (.ref d), .val (.int (Int32.ofNat sb)), .val (.int (Int32.ofNat (sb + w * cn))), .val (.int (Int32.ofNat w)), .val (.int (Int32.ofNat cn)), .val (.ref b), .val (.int (Int32.ofNat s_)), s7, s8] []) := by
  intro q
  induction q with
  | zero =>
    intro s_ T h g s7 s8 hs h_s7 h_s8 S A D H
    have tw := own_tn (i := w) (by omega)
    have ts := own_tn (i := s_) (by omega)
    refine own_iload (pc' := 19) S rfl d2_17 rfl ?_
    refine own_iloadN (pc' := 20) S rfl d2_19 rfl ?_
    refine own_icY (pc' := 71) S (by decide) rfl d2_20 (own_t_ge (by omega)) ?_
    refine own_aload (pc' := 73) S rfl d2_71 rfl rfl ?_
    exact own_retA (t := .array .byte) rfl rfl S d2_73 (by decide) (by decide) ⟨_, rfl, b, g, rfl, A, D, (by have e : s_ = w := (by omega); rw [e] at H; exact H)⟩
  | succ q ih =>
    intro s_ T h g s7 s8 hs h_s7 h_s8 S A D H
    have tw := own_tn (i := w) (by omega)
    have ts := own_tn (i := s_) (by omega)
    refine own_iload (pc' := 19) S rfl d2_17 rfl ?_
    refine own_iloadN (pc' := 20) S rfl d2_19 rfl ?_
    refine own_icN (pc' := 23) S rfl d2_20 (own_f_ge (by omega)) ?_
    refine own_iloadN (pc' := 24) S rfl d2_23 rfl ?_
    refine own_iload (pc' := 26) S rfl d2_24 rfl ?_
    refine own_iload (pc' := 28) S rfl d2_26 rfl ?_
    refine own_imul (pc' := 29) S rfl d2_28 ?_
    rw [own_mulN]
    refine own_iadd (pc' := 30) S rfl d2_29 ?_
    rw [own_addN]
    refine own_istore (ls' := #[.val (.ref d), .val (.int (Int32.ofNat sb)), .val (.int (Int32.ofNat (sb + w * cn))), .val (.int (Int32.ofNat w)), .val (.int (Int32.ofNat cn)), .val (.ref b), .val (.int (Int32.ofNat s_)), .val (.int (Int32.ofNat (sb + s_ * cn))), s8]) (pc' := 32) S rfl d2_30 ((XS.store1 (o := s7) rfl h_s7 rfl).trans rfl) ?_
    refine own_iconst (0 : Int32) (pc' := 33) S rfl d2_32 rfl ?_
    refine own_istore (ls' := #[.val (.ref d), .val (.int (Int32.ofNat sb)), .val (.int (Int32.ofNat (sb + w * cn))), .val (.int (Int32.ofNat w)), .val (.int (Int32.ofNat cn)), .val (.ref b), .val (.int (Int32.ofNat s_)), .val (.int (Int32.ofNat (sb + s_ * cn))), .val (.int (0 : Int32))]) (pc' := 35) S rfl d2_33 ((XS.store1 (o := s8) rfl h_s8 rfl).trans rfl) ?_
    exact own_lpI hw9 hw1 hc4 hs4 hb0 hdb (by omega) (fun T h g s7 s8 q7 q8 S A D H => ih (s_ + 1) T h g s7 s8 (by omega) q7 q8 S A D H) cn 0 T h g (by omega) S A D H
theorem own_pn2 : plainName "com/example/colonnade/colonnade/parquet/ByteStreamSplit" = true := by first | (simp [plainName, overriddenIn]; done) | decide +kernel
theorem own_ef2 (m : MethodId) (d : Addr) (x y z : Int32) : entryFrame m #[.ref d, .int x, .int y, .int z] 9 = mkF m 0 #[.val (.ref d), .val (.int x), .val (.int y), .val (.int z), .unset, .unset, .unset, .unset, .unset] [] := by first | (simp [entryFrame, mkF, argsToLocals, Value.category]; done) | rfl
set_option maxRecDepth 65536 in
set_option maxHeartbeats 40000000 in
theorem own_m2 (l : Launch) (Z : State) (a0 : Array Value) (hw : ∀ d ∈ tables_1, d.before a0 Z = true) (d : Addr) (w cn sb : Nat) (f : Nat → Int32) (hw9 : w < 9) (hw1 : 1 ≤ w) (hc4 : cn < 4) (hs4 : sb < 4) (h0 : Heap) (n0 : Nat) (hn : n0 ≤ h0.size) (D : own_A Z h0 d .byte 32 (own_by8 f)) :
    own_Met l Z h0 n0 own_y2 prog_171_method_2_code 9 (some (.array .byte)) [] ({ frames := 0, cells := 1, slots := 24, locals := 0 } : Room) #[.ref d, .int (Int32.ofNat sb), .int (Int32.ofNat (sb + w * cn)), .int (Int32.ofNat w)] (own_V fun r h => ∃ b g, r = .ref b ∧ own_A Z h b .byte (w * cn) g ∧ own_A Z h d .byte 32 (own_by8 f) ∧ own_Inv f sb cn w w 0 g) := by
  refine own_met (ls := #[.val (.ref d), .val (.int (Int32.ofNat sb)), .val (.int (Int32.ofNat (sb + w * cn))), .val (.int (Int32.ofNat w)), .unset, .unset, .unset, .unset, .unset]) own_pn2 (fun m => own_ef2 m d _ _ _) hn hw fun p e s m below meth c T S => ?_
  have f5 := (own_ar3 w hw9 cn hc4).1
  have dlt := own_Alt D
  refine own_iloadN (pc' := 1) S rfl d2_0 rfl ?_
  refine own_iloadN (pc' := 2) S rfl d2_1 rfl ?_
  refine own_isub (pc' := 3) S rfl d2_2 ?_
  rw [own_subN (by omega) (by omega), show sb + w * cn - sb = w * cn by omega]
  refine own_iloadN (pc' := 4) S rfl d2_3 rfl ?_
  refine own_idiv (pc' := 5) S rfl d2_4 (own_nz (by omega) (by omega)) ?_
  rw [own_divN (by omega) (by omega), Nat.mul_div_cancel_left cn hw1]
  refine own_istore (ls' := #[.val (.ref d), .val (.int (Int32.ofNat sb)), .val (.int (Int32.ofNat (sb + w * cn))), .val (.int (Int32.ofNat w)), .val (.int (Int32.ofNat cn)), .unset, .unset, .unset, .unset]) (pc' := 7) S rfl d2_5 rfl ?_
  refine own_iloadN (pc' := 8) S rfl d2_7 rfl ?_
  refine own_iloadN (pc' := 9) S rfl d2_8 rfl ?_
  refine own_isub (pc' := 10) S rfl d2_9 ?_
  rw [own_subN (by omega) (by omega), show sb + w * cn - sb = w * cn by omega]
  refine own_newarray (pc' := 12) 24 S (List.mem_of_getElem? (i := 0) rfl) (n := w * cn) (own_tn (by omega)) f5 (by decide) (by decide) (by decide) rfl d2_10 ?_
  intro T h b hb hb0 S E A
  replace D := own_Aext D E
  refine own_astore (ls' := #[.val (.ref d), .val (.int (Int32.ofNat sb)), .val (.int (Int32.ofNat (sb + w * cn))), .val (.int (Int32.ofNat w)), .val (.int (Int32.ofNat cn)), .val (.ref b), .unset, .unset, .unset]) (pc' := 14) S rfl d2_12 rfl rfl ?_
  refine own_iconst (0 : Int32) (pc' := 15) S rfl d2_14 rfl ?_
  refine own_istore (ls' := #[.val (.ref d), .val (.int (Int32.ofNat sb)), .val (.int (Int32.ofNat (sb + w * cn))), .val (.int (Int32.ofNat w)), .val (.int (Int32.ofNat cn)), .val (.ref b), .val (.int (0 : Int32)), .unset, .unset]) (pc' := 17) S rfl d2_15 rfl ?_
  exact own_lpO hw9 hw1 hc4 hs4 hb0 (Nat.ne_of_lt (by rw [hb]; exact dlt)) w 0 T h _ .unset .unset (by omega) One.u One.u S A D (fun i hi q => by rcases q with q | ⟨_, q⟩ <;> exact absurd q (Nat.not_lt_zero _))
def own_y3 : MethodName := ⟨"com/example/colonnade/colonnade/parquet/ByteStreamSplitJoinPinLaw", "at", "([B[BIIII)Z"⟩
theorem own_pn3 : plainName "com/example/colonnade/colonnade/parquet/ByteStreamSplitJoinPinLaw" = true := by first | (simp [plainName, overriddenIn]; done) | decide +kernel
theorem own_ef3 (m : MethodId) (b d : Addr) (x y z i : Int32) : entryFrame m #[.ref b, .ref d, .int x, .int y, .int z, .int i] 8 = mkF m 0 #[.val (.ref b), .val (.ref d), .val (.int x), .val (.int y), .val (.int z), .val (.int i), .unset, .unset] [] := by first | (simp [entryFrame, mkF, argsToLocals, Value.category]; done) | rfl
set_option maxRecDepth 65536 in
set_option maxHeartbeats 40000000 in
theorem own_m3 (l : Launch) (Z : State) (a0 : Array Value) (hw : ∀ d ∈ tables_1, d.before a0 Z = true) (b d : Addr) (w cn sb i : Nat) (f : Nat → Int32) (g : Nat → Value) (hw9 : w < 9) (hw1 : 1 ≤ w) (hc4 : cn < 4) (hs4 : sb < 4) (hi : i < 24) (h0 : Heap) (n0 : Nat) (hn : n0 ≤ h0.size) (A : own_A Z h0 b .byte (w * cn) g) (D : own_A Z h0 d .byte 32 (own_by8 f)) (H : own_Inv f sb cn w w 0 g) :
    own_Met l Z h0 n0 own_y3 method_4_code 8 (some .boolean) [] ({ frames := 0, cells := 0, slots := 0, locals := 0 } : Room) #[.ref b, .ref d, .int (Int32.ofNat sb), .int (Int32.ofNat cn), .int (Int32.ofNat w), .int (Int32.ofNat i)] (own_V fun r h => r = .int 1 ∧ h0 = h) := by
  refine own_met (ls := #[.val (.ref b), .val (.ref d), .val (.int (Int32.ofNat sb)), .val (.int (Int32.ofNat cn)), .val (.int (Int32.ofNat w)), .val (.int (Int32.ofNat i)), .unset, .unset]) own_pn3 (fun m => own_ef3 m b d _ _ _ _) hn hw fun p e s m below meth c T S => ?_
  have f5 := (own_ar3 w hw9 cn hc4).1
  have ti := own_tn (i := i) (by omega)
  have tl := own_tn (i := w * cn) (by omega)
  refine own_iload (pc' := 2) S rfl d3_0 rfl ?_
  refine own_aloadN (pc' := 3) S rfl d3_2 rfl rfl ?_
  refine own_alen (pc' := 4) (w := (Int32.ofNat (w * cn))) S A tl rfl d3_3 ?_
  refine own_ic (pt := 9) (pc' := 7) S (by decide) rfl rfl d3_4 ?_ ?_
  · intro c4
    replace c4 := own_lt_t c4
    have hil : i < w * cn := by omega
    obtain ⟨g1, g2, g3, g4⟩ := own_ar2 w hw9 cn hc4 i hil
    refine own_iload (pc' := 11) S rfl d3_9 rfl ?_
    refine own_iload (pc' := 13) S rfl d3_11 rfl ?_
    refine own_idiv (pc' := 14) S rfl d3_13 (own_nz (by omega) (by omega)) ?_
    rw [own_divN (by omega) (by omega)]
    refine own_istore (ls' := #[.val (.ref b), .val (.ref d), .val (.int (Int32.ofNat sb)), .val (.int (Int32.ofNat cn)), .val (.int (Int32.ofNat w)), .val (.int (Int32.ofNat i)), .val (.int (Int32.ofNat (i / w))), .unset]) (pc' := 16) S rfl d3_14 rfl ?_
    refine own_iload (pc' := 18) S rfl d3_16 rfl ?_
    refine own_iload (pc' := 20) S rfl d3_18 rfl ?_
    refine own_irem (pc' := 21) S rfl d3_20 (own_nz (by omega) (by omega)) ?_
    rw [own_modN (by omega) (by omega)]
    refine own_istore (ls' := #[.val (.ref b), .val (.ref d), .val (.int (Int32.ofNat sb)), .val (.int (Int32.ofNat cn)), .val (.int (Int32.ofNat w)), .val (.int (Int32.ofNat i)), .val (.int (Int32.ofNat (i / w))), .val (.int (Int32.ofNat (i % w)))]) (pc' := 23) S rfl d3_21 rfl ?_
    refine own_aloadN (pc' := 24) S rfl d3_23 rfl rfl ?_
    refine own_iload (pc' := 26) S rfl d3_24 rfl ?_
    refine own_baloadB (pc' := 27) (w := (nar .byte (f (sb + i % w * cn + i / w)))) S A (k := i) ti hil (H i hil (Or.inl g2)) rfl d3_26 ?_
    refine own_aloadN (pc' := 28) S rfl d3_27 rfl rfl ?_
    refine own_iloadN (pc' := 29) S rfl d3_28 rfl ?_
    refine own_iload (pc' := 31) S rfl d3_29 rfl ?_
    refine own_iloadN (pc' := 32) S rfl d3_31 rfl ?_
    refine own_imul (pc' := 33) S rfl d3_32 ?_
    rw [own_mulN]
    refine own_iadd (pc' := 34) S rfl d3_33 ?_
    rw [own_addN]
    refine own_iload (pc' := 36) S rfl d3_34 rfl ?_
    refine own_iadd (pc' := 37) S rfl d3_36 ?_
    rw [own_addN]
    refine own_baloadB (pc' := 38) (w := (nar .byte (f (sb + i % w * cn + i / w)))) S D (k := (sb + i % w * cn + i / w)) (own_tn (by omega)) (by omega) rfl rfl d3_37 ?_
    refine own_icN (pc' := 41) S rfl d3_38 (own_f_ne rfl) ?_
    refine own_iconst (1 : Int32) (pc' := 42) S rfl d3_41 rfl ?_
    refine own_goto (pc' := 46) S (by decide) rfl d3_42 ?_
    exact own_retZ (Or.inr rfl) S d3_46 (by decide) (by decide) ⟨_, rfl, rfl, rfl⟩
  · intro c4
    replace c4 := own_lt_f c4
    refine own_iconst (1 : Int32) (pc' := 8) S rfl d3_7 rfl ?_
    exact own_retZ (Or.inr rfl) S d3_8 (by decide) (by decide) ⟨_, rfl, rfl, rfl⟩
theorem own_pn0 : plainName "com/example/colonnade/colonnade/parquet/ByteStreamSplitJoinPinLaw" = true := by first | (simp [plainName, overriddenIn]; done) | decide +kernel
theorem own_ef0 (m : MethodId) (x0 : Int64) (x1 : Int64) (x2 : Int64) (x3 : Int64) (x4 : Int32) : entryFrame m #[(.long x0), (.long x1), (.long x2), (.long x3), (.int x4)] maxLocals = mkF m 0 #[.val (.long x0), .second, .val (.long x1), .second, .val (.long x2), .second, .val (.long x3), .second, .val (.int x4), .unset, .unset, .unset, .unset, .unset, .unset, .unset] [] := by first | (simp [entryFrame, mkF, argsToLocals, Value.category, maxLocals]; done) | rfl
set_option maxRecDepth 65536 in
set_option maxHeartbeats 40000000 in
theorem own_m0 (l : Launch) (Z : State) (a0 : Array Value) (hw : ∀ d ∈ tables_1, d.before a0 Z = true) (x0 : Int64) (x1 : Int64) (x2 : Int64) (x3 : Int64) (x4 : Int32) (h0 : Heap) (n0 : Nat) (hn : n0 ≤ h0.size) :
    own_Met l Z h0 n0 x code maxLocals ret tables_1 room_1 #[(.long x0), (.long x1), (.long x2), (.long x3), (.int x4)] (own_V fun w h => w = .int 1) := by
  refine own_met (ls := #[.val (.long x0), .second, .val (.long x1), .second, .val (.long x2), .second, .val (.long x3), .second, .val (.int x4), .unset, .unset, .unset, .unset, .unset, .unset, .unset]) own_pn0 (fun m => own_ef0 m x0 x1 x2 x3 x4) hn hw fun p e s m below meth c T S => ?_
  obtain ⟨w, hw9, hw1, ew⟩ : ∃ w : Nat, w < 9 ∧ 1 ≤ w ∧ (1 : Int32) + (x4 &&& 7) = Int32.ofNat w := by
    obtain ⟨k, hk, ek⟩ := own_mask x4 7 (by decide)
    have : (7 : Int32).toInt = 7 := rfl
    exact ⟨1 + k, by omega, by omega, by rw [ek]; exact own_addN 1 k⟩
  obtain ⟨cn, hc4, ec⟩ : ∃ k : Nat, k < 4 ∧ XT.ushr x4 3 &&& 3 = Int32.ofNat k := by
    obtain ⟨k, hk, ek⟩ := own_mask (XT.ushr x4 3) 3 (by decide)
    have : (3 : Int32).toInt = 3 := rfl
    exact ⟨k, by omega, ek⟩
  obtain ⟨sb, hs4, es⟩ : ∃ k : Nat, k < 4 ∧ XT.ushr x4 5 &&& 3 = Int32.ofNat k := by
    obtain ⟨k, hk, ek⟩ := own_mask (XT.ushr x4 5) 3 (by decide)
    have : (3 : Int32).toInt = 3 := rfl
    exact ⟨k, by omega, ek⟩
  have f5 := (own_ar3 w hw9 cn hc4).1
  refine own_iconst (1 : Int32) (pc' := 1) S rfl at_0 rfl ?_
  refine own_iload (pc' := 3) S rfl at_1 rfl ?_
  refine own_bipush (7 : Int32) (pc' := 5) S rfl at_3 rfl ?_
  refine own_iand (pc' := 6) S rfl at_5 ?_
  refine own_iadd (pc' := 7) S rfl at_6 ?_
  rw [ew]
  refine own_istore (ls' := #[.val (.long x0), .second, .val (.long x1), .second, .val (.long x2), .second, .val (.long x3), .second, .val (.int x4), .val (.int (Int32.ofNat w)), .unset, .unset, .unset, .unset, .unset, .unset]) (pc' := 9) S rfl at_7 rfl ?_
  refine own_iload (pc' := 11) S rfl at_9 rfl ?_
  refine own_iconst (3 : Int32) (pc' := 12) S rfl at_11 rfl ?_
  refine own_iushr (pc' := 13) S rfl at_12 ?_
  refine own_iconst (3 : Int32) (pc' := 14) S rfl at_13 rfl ?_
  refine own_iand (pc' := 15) S rfl at_14 ?_
  rw [ec]
  refine own_istore (ls' := #[.val (.long x0), .second, .val (.long x1), .second, .val (.long x2), .second, .val (.long x3), .second, .val (.int x4), .val (.int (Int32.ofNat w)), .val (.int (Int32.ofNat cn)), .unset, .unset, .unset, .unset, .unset]) (pc' := 17) S rfl at_15 rfl ?_
  refine own_iload (pc' := 19) S rfl at_17 rfl ?_
  refine own_iconst (5 : Int32) (pc' := 20) S rfl at_19 rfl ?_
  refine own_iushr (pc' := 21) S rfl at_20 ?_
  refine own_iconst (3 : Int32) (pc' := 22) S rfl at_21 rfl ?_
  refine own_iand (pc' := 23) S rfl at_22 ?_
  rw [es]
  refine own_istore (ls' := #[.val (.long x0), .second, .val (.long x1), .second, .val (.long x2), .second, .val (.long x3), .second, .val (.int x4), .val (.int (Int32.ofNat w)), .val (.int (Int32.ofNat cn)), .val (.int (Int32.ofNat sb)), .unset, .unset, .unset, .unset]) (pc' := 25) S rfl at_23 rfl ?_
  refine own_iload (pc' := 27) S rfl at_25 rfl ?_
  refine own_iload (pc' := 29) S rfl at_27 rfl ?_
  refine own_iload (pc' := 31) S rfl at_29 rfl ?_
  refine own_imul (pc' := 32) S rfl at_31 ?_
  rw [own_mulN]
  refine own_iadd (pc' := 33) S rfl at_32 ?_
  rw [own_addN]
  refine own_istore (ls' := #[.val (.long x0), .second, .val (.long x1), .second, .val (.long x2), .second, .val (.long x3), .second, .val (.int x4), .val (.int (Int32.ofNat w)), .val (.int (Int32.ofNat cn)), .val (.int (Int32.ofNat sb)), .val (.int (Int32.ofNat (sb + w * cn))), .unset, .unset, .unset]) (pc' := 35) S rfl at_33 rfl ?_
  refine own_bipush (32 : Int32) (pc' := 37) S rfl at_35 rfl ?_
  refine own_newarray (pc' := 39) 32 S (List.mem_of_getElem? (i := 0) rfl) (n := 32) rfl (by decide) (by decide) (by decide) (by decide) rfl at_37 ?_
  intro T h d hdd hd S E D
  replace D : own_A Z h d .byte 32 (own_by8 fun _ => 0) := own_Aof D (fun j _ => rfl)
  refine own_astore (ls' := #[.val (.long x0), .second, .val (.long x1), .second, .val (.long x2), .second, .val (.long x3), .second, .val (.int x4), .val (.int (Int32.ofNat w)), .val (.int (Int32.ofNat cn)), .val (.int (Int32.ofNat sb)), .val (.int (Int32.ofNat (sb + w * cn))), .val (.ref d), .unset, .unset]) (pc' := 41) S rfl at_39 rfl rfl ?_
  refine own_aload (pc' := 43) S rfl at_41 rfl rfl ?_
  refine own_iconst (0 : Int32) (pc' := 44) S rfl at_43 rfl ?_
  refine own_lloadN (pc' := 45) S rfl at_44 rfl ?_
  refine own_callS (pc' := 48) (yy := own_y1) (rm := ({ frames := 0, cells := 0, slots := 0, locals := 0 } : Room)) (W := 2) [(.ref d), (.int (0 : Int32)), (.long x0)] [] S (List.mem_of_getElem? (i := 1) rfl) (List.mem_of_getElem? (i := 2) rfl) (List.mem_of_getElem? (i := 3) rfl) (List.mem_of_getElem? (i := 4) rfl) (by decide) (own_m1 l Z a0 hw d 0 x0 _ _ n0 (own_size S) hd (by decide) D) (ps := [.array .byte, .int, .long]) (r' := none) (by decide +kernel) rfl rfl rfl (Nat.le_of_ble_eq_true rfl) (by decide) (by decide) (by decide) (by decide) rfl at_45 ?_
  skip
  replace hn := own_size S
  rintro T h _ S ⟨rfl, f, D⟩
  refine own_aload (pc' := 50) S rfl at_48 rfl rfl ?_
  refine own_bipush (8 : Int32) (pc' := 52) S rfl at_50 rfl ?_
  refine own_lloadN (pc' := 53) S rfl at_52 rfl ?_
  refine own_callS (pc' := 56) (yy := own_y1) (rm := ({ frames := 0, cells := 0, slots := 0, locals := 0 } : Room)) (W := 2) [(.ref d), (.int (8 : Int32)), (.long x1)] [] S (List.mem_of_getElem? (i := 1) rfl) (List.mem_of_getElem? (i := 2) rfl) (List.mem_of_getElem? (i := 3) rfl) (List.mem_of_getElem? (i := 4) rfl) (by decide) (own_m1 l Z a0 hw d 8 x1 _ _ n0 (own_size S) hd (by decide) D) (ps := [.array .byte, .int, .long]) (r' := none) (by decide +kernel) rfl rfl rfl (Nat.le_of_ble_eq_true rfl) (by decide) (by decide) (by decide) (by decide) rfl at_53 ?_
  skip
  replace hn := own_size S
  rintro T h _ S ⟨rfl, f, D⟩
  refine own_aload (pc' := 58) S rfl at_56 rfl rfl ?_
  refine own_bipush (16 : Int32) (pc' := 60) S rfl at_58 rfl ?_
  refine own_lload (pc' := 62) S rfl at_60 rfl ?_
  refine own_callS (pc' := 65) (yy := own_y1) (rm := ({ frames := 0, cells := 0, slots := 0, locals := 0 } : Room)) (W := 2) [(.ref d), (.int (16 : Int32)), (.long x2)] [] S (List.mem_of_getElem? (i := 1) rfl) (List.mem_of_getElem? (i := 2) rfl) (List.mem_of_getElem? (i := 3) rfl) (List.mem_of_getElem? (i := 4) rfl) (by decide) (own_m1 l Z a0 hw d 16 x2 _ _ n0 (own_size S) hd (by decide) D) (ps := [.array .byte, .int, .long]) (r' := none) (by decide +kernel) rfl rfl rfl (Nat.le_of_ble_eq_true rfl) (by decide) (by decide) (by decide) (by decide) rfl at_62 ?_
  skip
  replace hn := own_size S
  rintro T h _ S ⟨rfl, f, D⟩
  refine own_aload (pc' := 67) S rfl at_65 rfl rfl ?_
  refine own_bipush (24 : Int32) (pc' := 69) S rfl at_67 rfl ?_
  refine own_lload (pc' := 71) S rfl at_69 rfl ?_
  refine own_callS (pc' := 74) (yy := own_y1) (rm := ({ frames := 0, cells := 0, slots := 0, locals := 0 } : Room)) (W := 2) [(.ref d), (.int (24 : Int32)), (.long x3)] [] S (List.mem_of_getElem? (i := 1) rfl) (List.mem_of_getElem? (i := 2) rfl) (List.mem_of_getElem? (i := 3) rfl) (List.mem_of_getElem? (i := 4) rfl) (by decide) (own_m1 l Z a0 hw d 24 x3 _ _ n0 (own_size S) hd (by decide) D) (ps := [.array .byte, .int, .long]) (r' := none) (by decide +kernel) rfl rfl rfl (Nat.le_of_ble_eq_true rfl) (by decide) (by decide) (by decide) (by decide) rfl at_71 ?_
  skip
  replace hn := own_size S
  rintro T h _ S ⟨rfl, f, D⟩
  refine own_aload (pc' := 76) S rfl at_74 rfl rfl ?_
  refine own_iload (pc' := 78) S rfl at_76 rfl ?_
  refine own_iload (pc' := 80) S rfl at_78 rfl ?_
  refine own_iload (pc' := 82) S rfl at_80 rfl ?_
  refine own_callS (pc' := 85) (yy := own_y2) (rm := ({ frames := 0, cells := 1, slots := 24, locals := 0 } : Room)) (W := 2) [(.ref d), (.int (Int32.ofNat sb)), (.int (Int32.ofNat (sb + w * cn))), (.int (Int32.ofNat w))] [] S (List.mem_of_getElem? (i := 5) rfl) (List.mem_of_getElem? (i := 6) rfl) (List.mem_of_getElem? (i := 7) rfl) (List.mem_of_getElem? (i := 8) rfl) (by decide) (own_m2 l Z a0 hw d w cn sb f hw9 hw1 hc4 hs4 _ n0 (own_size S) D) (ps := [.array .byte, .int, .int, .int]) (r' := some (.array .byte)) (by decide +kernel) rfl rfl rfl (Nat.le_of_ble_eq_true rfl) (by decide) (by decide) (by decide) (by decide) rfl at_82 ?_
  rintro T h _ S ⟨_, rfl, b, g, rfl, A, D, H⟩
  refine own_astore (ls' := #[.val (.long x0), .second, .val (.long x1), .second, .val (.long x2), .second, .val (.long x3), .second, .val (.int x4), .val (.int (Int32.ofNat w)), .val (.int (Int32.ofNat cn)), .val (.int (Int32.ofNat sb)), .val (.int (Int32.ofNat (sb + w * cn))), .val (.ref d), .val (.ref b), .unset]) (pc' := 87) S rfl at_85 rfl rfl ?_
  refine own_aload (pc' := 89) S rfl at_87 rfl rfl ?_
  refine own_alen (pc' := 90) (w := (Int32.ofNat (w * cn))) S A (own_tn (by omega)) rfl at_89 ?_
  refine own_iload (pc' := 92) S rfl at_90 rfl ?_
  refine own_iload (pc' := 94) S rfl at_92 rfl ?_
  refine own_imul (pc' := 95) S rfl at_94 ?_
  rw [own_mulN]
  refine own_icY (pc' := 100) S (by decide) rfl at_95 (own_t_eq rfl) ?_
  refine own_iconst (1 : Int32) (pc' := 101) S rfl at_100 rfl ?_
  refine own_istore (ls' := #[.val (.long x0), .second, .val (.long x1), .second, .val (.long x2), .second, .val (.long x3), .second, .val (.int x4), .val (.int (Int32.ofNat w)), .val (.int (Int32.ofNat cn)), .val (.int (Int32.ofNat sb)), .val (.int (Int32.ofNat (sb + w * cn))), .val (.ref d), .val (.ref b), .val (.int (1 : Int32))]) (pc' := 103) S rfl at_101 rfl ?_
  refine own_iload (pc' := 105) S rfl at_103 rfl ?_
  refine own_aload (pc' := 107) S rfl at_105 rfl rfl ?_
  refine own_aload (pc' := 109) S rfl at_107 rfl rfl ?_
  refine own_iload (pc' := 111) S rfl at_109 rfl ?_
  refine own_iload (pc' := 113) S rfl at_111 rfl ?_
  refine own_iload (pc' := 115) S rfl at_113 rfl ?_
  refine own_iconst (0 : Int32) (pc' := 116) S rfl at_115 rfl ?_
  refine own_callS (pc' := 119) (yy := own_y3) (rm := ({ frames := 0, cells := 0, slots := 0, locals := 0 } : Room)) (W := 3) [(.ref b), (.ref d), (.int (Int32.ofNat sb)), (.int (Int32.ofNat cn)), (.int (Int32.ofNat w)), (.int (0 : Int32))] [(.int (1 : Int32))] S (List.mem_of_getElem? (i := 9) rfl) (List.mem_of_getElem? (i := 10) rfl) (List.mem_of_getElem? (i := 3) rfl) (List.mem_of_getElem? (i := 11) rfl) (by decide) (own_m3 l Z a0 hw b d w cn sb 0 f g hw9 hw1 hc4 hs4 (by decide) _ n0 (own_size S) A D H) (ps := [.array .byte, .array .byte, .int, .int, .int, .int]) (r' := some .boolean) (by decide +kernel) rfl rfl rfl (Nat.le_of_ble_eq_true rfl) (by decide) (by decide) (by decide) (by decide) rfl at_116 ?_
  rintro T h2 _ S ⟨_, rfl, rfl, rfl⟩
  refine own_iand (pc' := 120) S rfl at_119 ?_
  rw [show (1 : Int32) &&& 1 = 1 from rfl]
  refine own_istore (ls' := #[.val (.long x0), .second, .val (.long x1), .second, .val (.long x2), .second, .val (.long x3), .second, .val (.int x4), .val (.int (Int32.ofNat w)), .val (.int (Int32.ofNat cn)), .val (.int (Int32.ofNat sb)), .val (.int (Int32.ofNat (sb + w * cn))), .val (.ref d), .val (.ref b), .val (.int (1 : Int32))]) (pc' := 122) S rfl at_120 rfl ?_
  refine own_iload (pc' := 124) S rfl at_122 rfl ?_
  refine own_aload (pc' := 126) S rfl at_124 rfl rfl ?_
  refine own_aload (pc' := 128) S rfl at_126 rfl rfl ?_
  refine own_iload (pc' := 130) S rfl at_128 rfl ?_
  refine own_iload (pc' := 132) S rfl at_130 rfl ?_
  refine own_iload (pc' := 134) S rfl at_132 rfl ?_
  refine own_iconst (1 : Int32) (pc' := 135) S rfl at_134 rfl ?_
  refine own_callS (pc' := 138) (yy := own_y3) (rm := ({ frames := 0, cells := 0, slots := 0, locals := 0 } : Room)) (W := 3) [(.ref b), (.ref d), (.int (Int32.ofNat sb)), (.int (Int32.ofNat cn)), (.int (Int32.ofNat w)), (.int (1 : Int32))] [(.int (1 : Int32))] S (List.mem_of_getElem? (i := 9) rfl) (List.mem_of_getElem? (i := 10) rfl) (List.mem_of_getElem? (i := 3) rfl) (List.mem_of_getElem? (i := 11) rfl) (by decide) (own_m3 l Z a0 hw b d w cn sb 1 f g hw9 hw1 hc4 hs4 (by decide) _ n0 (own_size S) A D H) (ps := [.array .byte, .array .byte, .int, .int, .int, .int]) (r' := some .boolean) (by decide +kernel) rfl rfl rfl (Nat.le_of_ble_eq_true rfl) (by decide) (by decide) (by decide) (by decide) rfl at_135 ?_
  rintro T h2 _ S ⟨_, rfl, rfl, rfl⟩
  refine own_iand (pc' := 139) S rfl at_138 ?_
  rw [show (1 : Int32) &&& 1 = 1 from rfl]
  refine own_istore (ls' := #[.val (.long x0), .second, .val (.long x1), .second, .val (.long x2), .second, .val (.long x3), .second, .val (.int x4), .val (.int (Int32.ofNat w)), .val (.int (Int32.ofNat cn)), .val (.int (Int32.ofNat sb)), .val (.int (Int32.ofNat (sb + w * cn))), .val (.ref d), .val (.ref b), .val (.int (1 : Int32))]) (pc' := 141) S rfl at_139 rfl ?_
  refine own_iload (pc' := 143) S rfl at_141 rfl ?_
  refine own_aload (pc' := 145) S rfl at_143 rfl rfl ?_
  refine own_aload (pc' := 147) S rfl at_145 rfl rfl ?_
  refine own_iload (pc' := 149) S rfl at_147 rfl ?_
  refine own_iload (pc' := 151) S rfl at_149 rfl ?_
  refine own_iload (pc' := 153) S rfl at_151 rfl ?_
  refine own_iconst (2 : Int32) (pc' := 154) S rfl at_153 rfl ?_
  refine own_callS (pc' := 157) (yy := own_y3) (rm := ({ frames := 0, cells := 0, slots := 0, locals := 0 } : Room)) (W := 3) [(.ref b), (.ref d), (.int (Int32.ofNat sb)), (.int (Int32.ofNat cn)), (.int (Int32.ofNat w)), (.int (2 : Int32))] [(.int (1 : Int32))] S (List.mem_of_getElem? (i := 9) rfl) (List.mem_of_getElem? (i := 10) rfl) (List.mem_of_getElem? (i := 3) rfl) (List.mem_of_getElem? (i := 11) rfl) (by decide) (own_m3 l Z a0 hw b d w cn sb 2 f g hw9 hw1 hc4 hs4 (by decide) _ n0 (own_size S) A D H) (ps := [.array .byte, .array .byte, .int, .int, .int, .int]) (r' := some .boolean) (by decide +kernel) rfl rfl rfl (Nat.le_of_ble_eq_true rfl) (by decide) (by decide) (by decide) (by decide) rfl at_154 ?_
  rintro T h2 _ S ⟨_, rfl, rfl, rfl⟩
  refine own_iand (pc' := 158) S rfl at_157 ?_
  rw [show (1 : Int32) &&& 1 = 1 from rfl]
  refine own_istore (ls' := #[.val (.long x0), .second, .val (.long x1), .second, .val (.long x2), .second, .val (.long x3), .second, .val (.int x4), .val (.int (Int32.ofNat w)), .val (.int (Int32.ofNat cn)), .val (.int (Int32.ofNat sb)), .val (.int (Int32.ofNat (sb + w * cn))), .val (.ref d), .val (.ref b), .val (.int (1 : Int32))]) (pc' := 160) S rfl at_158 rfl ?_
  refine own_iload (pc' := 162) S rfl at_160 rfl ?_
  refine own_aload (pc' := 164) S rfl at_162 rfl rfl ?_
  refine own_aload (pc' := 166) S rfl at_164 rfl rfl ?_
  refine own_iload (pc' := 168) S rfl at_166 rfl ?_
  refine own_iload (pc' := 170) S rfl at_168 rfl ?_
  refine own_iload (pc' := 172) S rfl at_170 rfl ?_
  refine own_iconst (3 : Int32) (pc' := 173) S rfl at_172 rfl ?_
  refine own_callS (pc' := 176) (yy := own_y3) (rm := ({ frames := 0, cells := 0, slots := 0, locals := 0 } : Room)) (W := 3) [(.ref b), (.ref d), (.int (Int32.ofNat sb)), (.int (Int32.ofNat cn)), (.int (Int32.ofNat w)), (.int (3 : Int32))] [(.int (1 : Int32))] S (List.mem_of_getElem? (i := 9) rfl) (List.mem_of_getElem? (i := 10) rfl) (List.mem_of_getElem? (i := 3) rfl) (List.mem_of_getElem? (i := 11) rfl) (by decide) (own_m3 l Z a0 hw b d w cn sb 3 f g hw9 hw1 hc4 hs4 (by decide) _ n0 (own_size S) A D H) (ps := [.array .byte, .array .byte, .int, .int, .int, .int]) (r' := some .boolean) (by decide +kernel) rfl rfl rfl (Nat.le_of_ble_eq_true rfl) (by decide) (by decide) (by decide) (by decide) rfl at_173 ?_
  rintro T h2 _ S ⟨_, rfl, rfl, rfl⟩
  refine own_iand (pc' := 177) S rfl at_176 ?_
  rw [show (1 : Int32) &&& 1 = 1 from rfl]
  refine own_istore (ls' := #[.val (.long x0), .second, .val (.long x1), .second, .val (.long x2), .second, .val (.long x3), .second, .val (.int x4), .val (.int (Int32.ofNat w)), .val (.int (Int32.ofNat cn)), .val (.int (Int32.ofNat sb)), .val (.int (Int32.ofNat (sb + w * cn))), .val (.ref d), .val (.ref b), .val (.int (1 : Int32))]) (pc' := 179) S rfl at_177 rfl ?_
  refine own_iload (pc' := 181) S rfl at_179 rfl ?_
  refine own_aload (pc' := 183) S rfl at_181 rfl rfl ?_
  refine own_aload (pc' := 185) S rfl at_183 rfl rfl ?_
  refine own_iload (pc' := 187) S rfl at_185 rfl ?_
  refine own_iload (pc' := 189) S rfl at_187 rfl ?_
  refine own_iload (pc' := 191) S rfl at_189 rfl ?_
  refine own_iconst (4 : Int32) (pc' := 192) S rfl at_191 rfl ?_
  refine own_callS (pc' := 195) (yy := own_y3) (rm := ({ frames := 0, cells := 0, slots := 0, locals := 0 } : Room)) (W := 3) [(.ref b), (.ref d), (.int (Int32.ofNat sb)), (.int (Int32.ofNat cn)), (.int (Int32.ofNat w)), (.int (4 : Int32))] [(.int (1 : Int32))] S (List.mem_of_getElem? (i := 9) rfl) (List.mem_of_getElem? (i := 10) rfl) (List.mem_of_getElem? (i := 3) rfl) (List.mem_of_getElem? (i := 11) rfl) (by decide) (own_m3 l Z a0 hw b d w cn sb 4 f g hw9 hw1 hc4 hs4 (by decide) _ n0 (own_size S) A D H) (ps := [.array .byte, .array .byte, .int, .int, .int, .int]) (r' := some .boolean) (by decide +kernel) rfl rfl rfl (Nat.le_of_ble_eq_true rfl) (by decide) (by decide) (by decide) (by decide) rfl at_192 ?_
  rintro T h2 _ S ⟨_, rfl, rfl, rfl⟩
  refine own_iand (pc' := 196) S rfl at_195 ?_
  rw [show (1 : Int32) &&& 1 = 1 from rfl]
  refine own_istore (ls' := #[.val (.long x0), .second, .val (.long x1), .second, .val (.long x2), .second, .val (.long x3), .second, .val (.int x4), .val (.int (Int32.ofNat w)), .val (.int (Int32.ofNat cn)), .val (.int (Int32.ofNat sb)), .val (.int (Int32.ofNat (sb + w * cn))), .val (.ref d), .val (.ref b), .val (.int (1 : Int32))]) (pc' := 198) S rfl at_196 rfl ?_
  refine own_iload (pc' := 200) S rfl at_198 rfl ?_
  refine own_aload (pc' := 202) S rfl at_200 rfl rfl ?_
  refine own_aload (pc' := 204) S rfl at_202 rfl rfl ?_
  refine own_iload (pc' := 206) S rfl at_204 rfl ?_
  refine own_iload (pc' := 208) S rfl at_206 rfl ?_
  refine own_iload (pc' := 210) S rfl at_208 rfl ?_
  refine own_iconst (5 : Int32) (pc' := 211) S rfl at_210 rfl ?_
  refine own_callS (pc' := 214) (yy := own_y3) (rm := ({ frames := 0, cells := 0, slots := 0, locals := 0 } : Room)) (W := 3) [(.ref b), (.ref d), (.int (Int32.ofNat sb)), (.int (Int32.ofNat cn)), (.int (Int32.ofNat w)), (.int (5 : Int32))] [(.int (1 : Int32))] S (List.mem_of_getElem? (i := 9) rfl) (List.mem_of_getElem? (i := 10) rfl) (List.mem_of_getElem? (i := 3) rfl) (List.mem_of_getElem? (i := 11) rfl) (by decide) (own_m3 l Z a0 hw b d w cn sb 5 f g hw9 hw1 hc4 hs4 (by decide) _ n0 (own_size S) A D H) (ps := [.array .byte, .array .byte, .int, .int, .int, .int]) (r' := some .boolean) (by decide +kernel) rfl rfl rfl (Nat.le_of_ble_eq_true rfl) (by decide) (by decide) (by decide) (by decide) rfl at_211 ?_
  rintro T h2 _ S ⟨_, rfl, rfl, rfl⟩
  refine own_iand (pc' := 215) S rfl at_214 ?_
  rw [show (1 : Int32) &&& 1 = 1 from rfl]
  refine own_istore (ls' := #[.val (.long x0), .second, .val (.long x1), .second, .val (.long x2), .second, .val (.long x3), .second, .val (.int x4), .val (.int (Int32.ofNat w)), .val (.int (Int32.ofNat cn)), .val (.int (Int32.ofNat sb)), .val (.int (Int32.ofNat (sb + w * cn))), .val (.ref d), .val (.ref b), .val (.int (1 : Int32))]) (pc' := 217) S rfl at_215 rfl ?_
  refine own_iload (pc' := 219) S rfl at_217 rfl ?_
  refine own_aload (pc' := 221) S rfl at_219 rfl rfl ?_
  refine own_aload (pc' := 223) S rfl at_221 rfl rfl ?_
  refine own_iload (pc' := 225) S rfl at_223 rfl ?_
  refine own_iload (pc' := 227) S rfl at_225 rfl ?_
  refine own_iload (pc' := 229) S rfl at_227 rfl ?_
  refine own_bipush (6 : Int32) (pc' := 231) S rfl at_229 rfl ?_
  refine own_callS (pc' := 234) (yy := own_y3) (rm := ({ frames := 0, cells := 0, slots := 0, locals := 0 } : Room)) (W := 3) [(.ref b), (.ref d), (.int (Int32.ofNat sb)), (.int (Int32.ofNat cn)), (.int (Int32.ofNat w)), (.int (6 : Int32))] [(.int (1 : Int32))] S (List.mem_of_getElem? (i := 9) rfl) (List.mem_of_getElem? (i := 10) rfl) (List.mem_of_getElem? (i := 3) rfl) (List.mem_of_getElem? (i := 11) rfl) (by decide) (own_m3 l Z a0 hw b d w cn sb 6 f g hw9 hw1 hc4 hs4 (by decide) _ n0 (own_size S) A D H) (ps := [.array .byte, .array .byte, .int, .int, .int, .int]) (r' := some .boolean) (by decide +kernel) rfl rfl rfl (Nat.le_of_ble_eq_true rfl) (by decide) (by decide) (by decide) (by decide) rfl at_231 ?_
  rintro T h2 _ S ⟨_, rfl, rfl, rfl⟩
  refine own_iand (pc' := 235) S rfl at_234 ?_
  rw [show (1 : Int32) &&& 1 = 1 from rfl]
  refine own_istore (ls' := #[.val (.long x0), .second, .val (.long x1), .second, .val (.long x2), .second, .val (.long x3), .second, .val (.int x4), .val (.int (Int32.ofNat w)), .val (.int (Int32.ofNat cn)), .val (.int (Int32.ofNat sb)), .val (.int (Int32.ofNat (sb + w * cn))), .val (.ref d), .val (.ref b), .val (.int (1 : Int32))]) (pc' := 237) S rfl at_235 rfl ?_
  refine own_iload (pc' := 239) S rfl at_237 rfl ?_
  refine own_aload (pc' := 241) S rfl at_239 rfl rfl ?_
  refine own_aload (pc' := 243) S rfl at_241 rfl rfl ?_
  refine own_iload (pc' := 245) S rfl at_243 rfl ?_
  refine own_iload (pc' := 247) S rfl at_245 rfl ?_
  refine own_iload (pc' := 249) S rfl at_247 rfl ?_
  refine own_bipush (7 : Int32) (pc' := 251) S rfl at_249 rfl ?_
  refine own_callS (pc' := 254) (yy := own_y3) (rm := ({ frames := 0, cells := 0, slots := 0, locals := 0 } : Room)) (W := 3) [(.ref b), (.ref d), (.int (Int32.ofNat sb)), (.int (Int32.ofNat cn)), (.int (Int32.ofNat w)), (.int (7 : Int32))] [(.int (1 : Int32))] S (List.mem_of_getElem? (i := 9) rfl) (List.mem_of_getElem? (i := 10) rfl) (List.mem_of_getElem? (i := 3) rfl) (List.mem_of_getElem? (i := 11) rfl) (by decide) (own_m3 l Z a0 hw b d w cn sb 7 f g hw9 hw1 hc4 hs4 (by decide) _ n0 (own_size S) A D H) (ps := [.array .byte, .array .byte, .int, .int, .int, .int]) (r' := some .boolean) (by decide +kernel) rfl rfl rfl (Nat.le_of_ble_eq_true rfl) (by decide) (by decide) (by decide) (by decide) rfl at_251 ?_
  rintro T h2 _ S ⟨_, rfl, rfl, rfl⟩
  refine own_iand (pc' := 255) S rfl at_254 ?_
  rw [show (1 : Int32) &&& 1 = 1 from rfl]
  refine own_istore (ls' := #[.val (.long x0), .second, .val (.long x1), .second, .val (.long x2), .second, .val (.long x3), .second, .val (.int x4), .val (.int (Int32.ofNat w)), .val (.int (Int32.ofNat cn)), .val (.int (Int32.ofNat sb)), .val (.int (Int32.ofNat (sb + w * cn))), .val (.ref d), .val (.ref b), .val (.int (1 : Int32))]) (pc' := 257) S rfl at_255 rfl ?_
  refine own_iload (pc' := 259) S rfl at_257 rfl ?_
  refine own_aload (pc' := 261) S rfl at_259 rfl rfl ?_
  refine own_aload (pc' := 263) S rfl at_261 rfl rfl ?_
  refine own_iload (pc' := 265) S rfl at_263 rfl ?_
  refine own_iload (pc' := 267) S rfl at_265 rfl ?_
  refine own_iload (pc' := 269) S rfl at_267 rfl ?_
  refine own_bipush (8 : Int32) (pc' := 271) S rfl at_269 rfl ?_
  refine own_callS (pc' := 274) (yy := own_y3) (rm := ({ frames := 0, cells := 0, slots := 0, locals := 0 } : Room)) (W := 3) [(.ref b), (.ref d), (.int (Int32.ofNat sb)), (.int (Int32.ofNat cn)), (.int (Int32.ofNat w)), (.int (8 : Int32))] [(.int (1 : Int32))] S (List.mem_of_getElem? (i := 9) rfl) (List.mem_of_getElem? (i := 10) rfl) (List.mem_of_getElem? (i := 3) rfl) (List.mem_of_getElem? (i := 11) rfl) (by decide) (own_m3 l Z a0 hw b d w cn sb 8 f g hw9 hw1 hc4 hs4 (by decide) _ n0 (own_size S) A D H) (ps := [.array .byte, .array .byte, .int, .int, .int, .int]) (r' := some .boolean) (by decide +kernel) rfl rfl rfl (Nat.le_of_ble_eq_true rfl) (by decide) (by decide) (by decide) (by decide) rfl at_271 ?_
  rintro T h2 _ S ⟨_, rfl, rfl, rfl⟩
  refine own_iand (pc' := 275) S rfl at_274 ?_
  rw [show (1 : Int32) &&& 1 = 1 from rfl]
  refine own_istore (ls' := #[.val (.long x0), .second, .val (.long x1), .second, .val (.long x2), .second, .val (.long x3), .second, .val (.int x4), .val (.int (Int32.ofNat w)), .val (.int (Int32.ofNat cn)), .val (.int (Int32.ofNat sb)), .val (.int (Int32.ofNat (sb + w * cn))), .val (.ref d), .val (.ref b), .val (.int (1 : Int32))]) (pc' := 277) S rfl at_275 rfl ?_
  refine own_iload (pc' := 279) S rfl at_277 rfl ?_
  refine own_aload (pc' := 281) S rfl at_279 rfl rfl ?_
  refine own_aload (pc' := 283) S rfl at_281 rfl rfl ?_
  refine own_iload (pc' := 285) S rfl at_283 rfl ?_
  refine own_iload (pc' := 287) S rfl at_285 rfl ?_
  refine own_iload (pc' := 289) S rfl at_287 rfl ?_
  refine own_bipush (9 : Int32) (pc' := 291) S rfl at_289 rfl ?_
  refine own_callS (pc' := 294) (yy := own_y3) (rm := ({ frames := 0, cells := 0, slots := 0, locals := 0 } : Room)) (W := 3) [(.ref b), (.ref d), (.int (Int32.ofNat sb)), (.int (Int32.ofNat cn)), (.int (Int32.ofNat w)), (.int (9 : Int32))] [(.int (1 : Int32))] S (List.mem_of_getElem? (i := 9) rfl) (List.mem_of_getElem? (i := 10) rfl) (List.mem_of_getElem? (i := 3) rfl) (List.mem_of_getElem? (i := 11) rfl) (by decide) (own_m3 l Z a0 hw b d w cn sb 9 f g hw9 hw1 hc4 hs4 (by decide) _ n0 (own_size S) A D H) (ps := [.array .byte, .array .byte, .int, .int, .int, .int]) (r' := some .boolean) (by decide +kernel) rfl rfl rfl (Nat.le_of_ble_eq_true rfl) (by decide) (by decide) (by decide) (by decide) rfl at_291 ?_
  rintro T h2 _ S ⟨_, rfl, rfl, rfl⟩
  refine own_iand (pc' := 295) S rfl at_294 ?_
  rw [show (1 : Int32) &&& 1 = 1 from rfl]
  refine own_istore (ls' := #[.val (.long x0), .second, .val (.long x1), .second, .val (.long x2), .second, .val (.long x3), .second, .val (.int x4), .val (.int (Int32.ofNat w)), .val (.int (Int32.ofNat cn)), .val (.int (Int32.ofNat sb)), .val (.int (Int32.ofNat (sb + w * cn))), .val (.ref d), .val (.ref b), .val (.int (1 : Int32))]) (pc' := 297) S rfl at_295 rfl ?_
  refine own_iload (pc' := 299) S rfl at_297 rfl ?_
  refine own_aload (pc' := 301) S rfl at_299 rfl rfl ?_
  refine own_aload (pc' := 303) S rfl at_301 rfl rfl ?_
  refine own_iload (pc' := 305) S rfl at_303 rfl ?_
  refine own_iload (pc' := 307) S rfl at_305 rfl ?_
  refine own_iload (pc' := 309) S rfl at_307 rfl ?_
  refine own_bipush (10 : Int32) (pc' := 311) S rfl at_309 rfl ?_
  refine own_callS (pc' := 314) (yy := own_y3) (rm := ({ frames := 0, cells := 0, slots := 0, locals := 0 } : Room)) (W := 3) [(.ref b), (.ref d), (.int (Int32.ofNat sb)), (.int (Int32.ofNat cn)), (.int (Int32.ofNat w)), (.int (10 : Int32))] [(.int (1 : Int32))] S (List.mem_of_getElem? (i := 9) rfl) (List.mem_of_getElem? (i := 10) rfl) (List.mem_of_getElem? (i := 3) rfl) (List.mem_of_getElem? (i := 11) rfl) (by decide) (own_m3 l Z a0 hw b d w cn sb 10 f g hw9 hw1 hc4 hs4 (by decide) _ n0 (own_size S) A D H) (ps := [.array .byte, .array .byte, .int, .int, .int, .int]) (r' := some .boolean) (by decide +kernel) rfl rfl rfl (Nat.le_of_ble_eq_true rfl) (by decide) (by decide) (by decide) (by decide) rfl at_311 ?_
  rintro T h2 _ S ⟨_, rfl, rfl, rfl⟩
  refine own_iand (pc' := 315) S rfl at_314 ?_
  rw [show (1 : Int32) &&& 1 = 1 from rfl]
  refine own_istore (ls' := #[.val (.long x0), .second, .val (.long x1), .second, .val (.long x2), .second, .val (.long x3), .second, .val (.int x4), .val (.int (Int32.ofNat w)), .val (.int (Int32.ofNat cn)), .val (.int (Int32.ofNat sb)), .val (.int (Int32.ofNat (sb + w * cn))), .val (.ref d), .val (.ref b), .val (.int (1 : Int32))]) (pc' := 317) S rfl at_315 rfl ?_
  refine own_iload (pc' := 319) S rfl at_317 rfl ?_
  refine own_aload (pc' := 321) S rfl at_319 rfl rfl ?_
  refine own_aload (pc' := 323) S rfl at_321 rfl rfl ?_
  refine own_iload (pc' := 325) S rfl at_323 rfl ?_
  refine own_iload (pc' := 327) S rfl at_325 rfl ?_
  refine own_iload (pc' := 329) S rfl at_327 rfl ?_
  refine own_bipush (11 : Int32) (pc' := 331) S rfl at_329 rfl ?_
  refine own_callS (pc' := 334) (yy := own_y3) (rm := ({ frames := 0, cells := 0, slots := 0, locals := 0 } : Room)) (W := 3) [(.ref b), (.ref d), (.int (Int32.ofNat sb)), (.int (Int32.ofNat cn)), (.int (Int32.ofNat w)), (.int (11 : Int32))] [(.int (1 : Int32))] S (List.mem_of_getElem? (i := 9) rfl) (List.mem_of_getElem? (i := 10) rfl) (List.mem_of_getElem? (i := 3) rfl) (List.mem_of_getElem? (i := 11) rfl) (by decide) (own_m3 l Z a0 hw b d w cn sb 11 f g hw9 hw1 hc4 hs4 (by decide) _ n0 (own_size S) A D H) (ps := [.array .byte, .array .byte, .int, .int, .int, .int]) (r' := some .boolean) (by decide +kernel) rfl rfl rfl (Nat.le_of_ble_eq_true rfl) (by decide) (by decide) (by decide) (by decide) rfl at_331 ?_
  rintro T h2 _ S ⟨_, rfl, rfl, rfl⟩
  refine own_iand (pc' := 335) S rfl at_334 ?_
  rw [show (1 : Int32) &&& 1 = 1 from rfl]
  refine own_istore (ls' := #[.val (.long x0), .second, .val (.long x1), .second, .val (.long x2), .second, .val (.long x3), .second, .val (.int x4), .val (.int (Int32.ofNat w)), .val (.int (Int32.ofNat cn)), .val (.int (Int32.ofNat sb)), .val (.int (Int32.ofNat (sb + w * cn))), .val (.ref d), .val (.ref b), .val (.int (1 : Int32))]) (pc' := 337) S rfl at_335 rfl ?_
  refine own_iload (pc' := 339) S rfl at_337 rfl ?_
  refine own_aload (pc' := 341) S rfl at_339 rfl rfl ?_
  refine own_aload (pc' := 343) S rfl at_341 rfl rfl ?_
  refine own_iload (pc' := 345) S rfl at_343 rfl ?_
  refine own_iload (pc' := 347) S rfl at_345 rfl ?_
  refine own_iload (pc' := 349) S rfl at_347 rfl ?_
  refine own_bipush (12 : Int32) (pc' := 351) S rfl at_349 rfl ?_
  refine own_callS (pc' := 354) (yy := own_y3) (rm := ({ frames := 0, cells := 0, slots := 0, locals := 0 } : Room)) (W := 3) [(.ref b), (.ref d), (.int (Int32.ofNat sb)), (.int (Int32.ofNat cn)), (.int (Int32.ofNat w)), (.int (12 : Int32))] [(.int (1 : Int32))] S (List.mem_of_getElem? (i := 9) rfl) (List.mem_of_getElem? (i := 10) rfl) (List.mem_of_getElem? (i := 3) rfl) (List.mem_of_getElem? (i := 11) rfl) (by decide) (own_m3 l Z a0 hw b d w cn sb 12 f g hw9 hw1 hc4 hs4 (by decide) _ n0 (own_size S) A D H) (ps := [.array .byte, .array .byte, .int, .int, .int, .int]) (r' := some .boolean) (by decide +kernel) rfl rfl rfl (Nat.le_of_ble_eq_true rfl) (by decide) (by decide) (by decide) (by decide) rfl at_351 ?_
  rintro T h2 _ S ⟨_, rfl, rfl, rfl⟩
  refine own_iand (pc' := 355) S rfl at_354 ?_
  rw [show (1 : Int32) &&& 1 = 1 from rfl]
  refine own_istore (ls' := #[.val (.long x0), .second, .val (.long x1), .second, .val (.long x2), .second, .val (.long x3), .second, .val (.int x4), .val (.int (Int32.ofNat w)), .val (.int (Int32.ofNat cn)), .val (.int (Int32.ofNat sb)), .val (.int (Int32.ofNat (sb + w * cn))), .val (.ref d), .val (.ref b), .val (.int (1 : Int32))]) (pc' := 357) S rfl at_355 rfl ?_
  refine own_iload (pc' := 359) S rfl at_357 rfl ?_
  refine own_aload (pc' := 361) S rfl at_359 rfl rfl ?_
  refine own_aload (pc' := 363) S rfl at_361 rfl rfl ?_
  refine own_iload (pc' := 365) S rfl at_363 rfl ?_
  refine own_iload (pc' := 367) S rfl at_365 rfl ?_
  refine own_iload (pc' := 369) S rfl at_367 rfl ?_
  refine own_bipush (13 : Int32) (pc' := 371) S rfl at_369 rfl ?_
  refine own_callS (pc' := 374) (yy := own_y3) (rm := ({ frames := 0, cells := 0, slots := 0, locals := 0 } : Room)) (W := 3) [(.ref b), (.ref d), (.int (Int32.ofNat sb)), (.int (Int32.ofNat cn)), (.int (Int32.ofNat w)), (.int (13 : Int32))] [(.int (1 : Int32))] S (List.mem_of_getElem? (i := 9) rfl) (List.mem_of_getElem? (i := 10) rfl) (List.mem_of_getElem? (i := 3) rfl) (List.mem_of_getElem? (i := 11) rfl) (by decide) (own_m3 l Z a0 hw b d w cn sb 13 f g hw9 hw1 hc4 hs4 (by decide) _ n0 (own_size S) A D H) (ps := [.array .byte, .array .byte, .int, .int, .int, .int]) (r' := some .boolean) (by decide +kernel) rfl rfl rfl (Nat.le_of_ble_eq_true rfl) (by decide) (by decide) (by decide) (by decide) rfl at_371 ?_
  rintro T h2 _ S ⟨_, rfl, rfl, rfl⟩
  refine own_iand (pc' := 375) S rfl at_374 ?_
  rw [show (1 : Int32) &&& 1 = 1 from rfl]
  refine own_istore (ls' := #[.val (.long x0), .second, .val (.long x1), .second, .val (.long x2), .second, .val (.long x3), .second, .val (.int x4), .val (.int (Int32.ofNat w)), .val (.int (Int32.ofNat cn)), .val (.int (Int32.ofNat sb)), .val (.int (Int32.ofNat (sb + w * cn))), .val (.ref d), .val (.ref b), .val (.int (1 : Int32))]) (pc' := 377) S rfl at_375 rfl ?_
  refine own_iload (pc' := 379) S rfl at_377 rfl ?_
  refine own_aload (pc' := 381) S rfl at_379 rfl rfl ?_
  refine own_aload (pc' := 383) S rfl at_381 rfl rfl ?_
  refine own_iload (pc' := 385) S rfl at_383 rfl ?_
  refine own_iload (pc' := 387) S rfl at_385 rfl ?_
  refine own_iload (pc' := 389) S rfl at_387 rfl ?_
  refine own_bipush (14 : Int32) (pc' := 391) S rfl at_389 rfl ?_
  refine own_callS (pc' := 394) (yy := own_y3) (rm := ({ frames := 0, cells := 0, slots := 0, locals := 0 } : Room)) (W := 3) [(.ref b), (.ref d), (.int (Int32.ofNat sb)), (.int (Int32.ofNat cn)), (.int (Int32.ofNat w)), (.int (14 : Int32))] [(.int (1 : Int32))] S (List.mem_of_getElem? (i := 9) rfl) (List.mem_of_getElem? (i := 10) rfl) (List.mem_of_getElem? (i := 3) rfl) (List.mem_of_getElem? (i := 11) rfl) (by decide) (own_m3 l Z a0 hw b d w cn sb 14 f g hw9 hw1 hc4 hs4 (by decide) _ n0 (own_size S) A D H) (ps := [.array .byte, .array .byte, .int, .int, .int, .int]) (r' := some .boolean) (by decide +kernel) rfl rfl rfl (Nat.le_of_ble_eq_true rfl) (by decide) (by decide) (by decide) (by decide) rfl at_391 ?_
  rintro T h2 _ S ⟨_, rfl, rfl, rfl⟩
  refine own_iand (pc' := 395) S rfl at_394 ?_
  rw [show (1 : Int32) &&& 1 = 1 from rfl]
  refine own_istore (ls' := #[.val (.long x0), .second, .val (.long x1), .second, .val (.long x2), .second, .val (.long x3), .second, .val (.int x4), .val (.int (Int32.ofNat w)), .val (.int (Int32.ofNat cn)), .val (.int (Int32.ofNat sb)), .val (.int (Int32.ofNat (sb + w * cn))), .val (.ref d), .val (.ref b), .val (.int (1 : Int32))]) (pc' := 397) S rfl at_395 rfl ?_
  refine own_iload (pc' := 399) S rfl at_397 rfl ?_
  refine own_aload (pc' := 401) S rfl at_399 rfl rfl ?_
  refine own_aload (pc' := 403) S rfl at_401 rfl rfl ?_
  refine own_iload (pc' := 405) S rfl at_403 rfl ?_
  refine own_iload (pc' := 407) S rfl at_405 rfl ?_
  refine own_iload (pc' := 409) S rfl at_407 rfl ?_
  refine own_bipush (15 : Int32) (pc' := 411) S rfl at_409 rfl ?_
  refine own_callS (pc' := 414) (yy := own_y3) (rm := ({ frames := 0, cells := 0, slots := 0, locals := 0 } : Room)) (W := 3) [(.ref b), (.ref d), (.int (Int32.ofNat sb)), (.int (Int32.ofNat cn)), (.int (Int32.ofNat w)), (.int (15 : Int32))] [(.int (1 : Int32))] S (List.mem_of_getElem? (i := 9) rfl) (List.mem_of_getElem? (i := 10) rfl) (List.mem_of_getElem? (i := 3) rfl) (List.mem_of_getElem? (i := 11) rfl) (by decide) (own_m3 l Z a0 hw b d w cn sb 15 f g hw9 hw1 hc4 hs4 (by decide) _ n0 (own_size S) A D H) (ps := [.array .byte, .array .byte, .int, .int, .int, .int]) (r' := some .boolean) (by decide +kernel) rfl rfl rfl (Nat.le_of_ble_eq_true rfl) (by decide) (by decide) (by decide) (by decide) rfl at_411 ?_
  rintro T h2 _ S ⟨_, rfl, rfl, rfl⟩
  refine own_iand (pc' := 415) S rfl at_414 ?_
  rw [show (1 : Int32) &&& 1 = 1 from rfl]
  refine own_istore (ls' := #[.val (.long x0), .second, .val (.long x1), .second, .val (.long x2), .second, .val (.long x3), .second, .val (.int x4), .val (.int (Int32.ofNat w)), .val (.int (Int32.ofNat cn)), .val (.int (Int32.ofNat sb)), .val (.int (Int32.ofNat (sb + w * cn))), .val (.ref d), .val (.ref b), .val (.int (1 : Int32))]) (pc' := 417) S rfl at_415 rfl ?_
  refine own_iload (pc' := 419) S rfl at_417 rfl ?_
  refine own_aload (pc' := 421) S rfl at_419 rfl rfl ?_
  refine own_aload (pc' := 423) S rfl at_421 rfl rfl ?_
  refine own_iload (pc' := 425) S rfl at_423 rfl ?_
  refine own_iload (pc' := 427) S rfl at_425 rfl ?_
  refine own_iload (pc' := 429) S rfl at_427 rfl ?_
  refine own_bipush (16 : Int32) (pc' := 431) S rfl at_429 rfl ?_
  refine own_callS (pc' := 434) (yy := own_y3) (rm := ({ frames := 0, cells := 0, slots := 0, locals := 0 } : Room)) (W := 3) [(.ref b), (.ref d), (.int (Int32.ofNat sb)), (.int (Int32.ofNat cn)), (.int (Int32.ofNat w)), (.int (16 : Int32))] [(.int (1 : Int32))] S (List.mem_of_getElem? (i := 9) rfl) (List.mem_of_getElem? (i := 10) rfl) (List.mem_of_getElem? (i := 3) rfl) (List.mem_of_getElem? (i := 11) rfl) (by decide) (own_m3 l Z a0 hw b d w cn sb 16 f g hw9 hw1 hc4 hs4 (by decide) _ n0 (own_size S) A D H) (ps := [.array .byte, .array .byte, .int, .int, .int, .int]) (r' := some .boolean) (by decide +kernel) rfl rfl rfl (Nat.le_of_ble_eq_true rfl) (by decide) (by decide) (by decide) (by decide) rfl at_431 ?_
  rintro T h2 _ S ⟨_, rfl, rfl, rfl⟩
  refine own_iand (pc' := 435) S rfl at_434 ?_
  rw [show (1 : Int32) &&& 1 = 1 from rfl]
  refine own_istore (ls' := #[.val (.long x0), .second, .val (.long x1), .second, .val (.long x2), .second, .val (.long x3), .second, .val (.int x4), .val (.int (Int32.ofNat w)), .val (.int (Int32.ofNat cn)), .val (.int (Int32.ofNat sb)), .val (.int (Int32.ofNat (sb + w * cn))), .val (.ref d), .val (.ref b), .val (.int (1 : Int32))]) (pc' := 437) S rfl at_435 rfl ?_
  refine own_iload (pc' := 439) S rfl at_437 rfl ?_
  refine own_aload (pc' := 441) S rfl at_439 rfl rfl ?_
  refine own_aload (pc' := 443) S rfl at_441 rfl rfl ?_
  refine own_iload (pc' := 445) S rfl at_443 rfl ?_
  refine own_iload (pc' := 447) S rfl at_445 rfl ?_
  refine own_iload (pc' := 449) S rfl at_447 rfl ?_
  refine own_bipush (17 : Int32) (pc' := 451) S rfl at_449 rfl ?_
  refine own_callS (pc' := 454) (yy := own_y3) (rm := ({ frames := 0, cells := 0, slots := 0, locals := 0 } : Room)) (W := 3) [(.ref b), (.ref d), (.int (Int32.ofNat sb)), (.int (Int32.ofNat cn)), (.int (Int32.ofNat w)), (.int (17 : Int32))] [(.int (1 : Int32))] S (List.mem_of_getElem? (i := 9) rfl) (List.mem_of_getElem? (i := 10) rfl) (List.mem_of_getElem? (i := 3) rfl) (List.mem_of_getElem? (i := 11) rfl) (by decide) (own_m3 l Z a0 hw b d w cn sb 17 f g hw9 hw1 hc4 hs4 (by decide) _ n0 (own_size S) A D H) (ps := [.array .byte, .array .byte, .int, .int, .int, .int]) (r' := some .boolean) (by decide +kernel) rfl rfl rfl (Nat.le_of_ble_eq_true rfl) (by decide) (by decide) (by decide) (by decide) rfl at_451 ?_
  rintro T h2 _ S ⟨_, rfl, rfl, rfl⟩
  refine own_iand (pc' := 455) S rfl at_454 ?_
  rw [show (1 : Int32) &&& 1 = 1 from rfl]
  refine own_istore (ls' := #[.val (.long x0), .second, .val (.long x1), .second, .val (.long x2), .second, .val (.long x3), .second, .val (.int x4), .val (.int (Int32.ofNat w)), .val (.int (Int32.ofNat cn)), .val (.int (Int32.ofNat sb)), .val (.int (Int32.ofNat (sb + w * cn))), .val (.ref d), .val (.ref b), .val (.int (1 : Int32))]) (pc' := 457) S rfl at_455 rfl ?_
  refine own_iload (pc' := 459) S rfl at_457 rfl ?_
  refine own_aload (pc' := 461) S rfl at_459 rfl rfl ?_
  refine own_aload (pc' := 463) S rfl at_461 rfl rfl ?_
  refine own_iload (pc' := 465) S rfl at_463 rfl ?_
  refine own_iload (pc' := 467) S rfl at_465 rfl ?_
  refine own_iload (pc' := 469) S rfl at_467 rfl ?_
  refine own_bipush (18 : Int32) (pc' := 471) S rfl at_469 rfl ?_
  refine own_callS (pc' := 474) (yy := own_y3) (rm := ({ frames := 0, cells := 0, slots := 0, locals := 0 } : Room)) (W := 3) [(.ref b), (.ref d), (.int (Int32.ofNat sb)), (.int (Int32.ofNat cn)), (.int (Int32.ofNat w)), (.int (18 : Int32))] [(.int (1 : Int32))] S (List.mem_of_getElem? (i := 9) rfl) (List.mem_of_getElem? (i := 10) rfl) (List.mem_of_getElem? (i := 3) rfl) (List.mem_of_getElem? (i := 11) rfl) (by decide) (own_m3 l Z a0 hw b d w cn sb 18 f g hw9 hw1 hc4 hs4 (by decide) _ n0 (own_size S) A D H) (ps := [.array .byte, .array .byte, .int, .int, .int, .int]) (r' := some .boolean) (by decide +kernel) rfl rfl rfl (Nat.le_of_ble_eq_true rfl) (by decide) (by decide) (by decide) (by decide) rfl at_471 ?_
  rintro T h2 _ S ⟨_, rfl, rfl, rfl⟩
  refine own_iand (pc' := 475) S rfl at_474 ?_
  rw [show (1 : Int32) &&& 1 = 1 from rfl]
  refine own_istore (ls' := #[.val (.long x0), .second, .val (.long x1), .second, .val (.long x2), .second, .val (.long x3), .second, .val (.int x4), .val (.int (Int32.ofNat w)), .val (.int (Int32.ofNat cn)), .val (.int (Int32.ofNat sb)), .val (.int (Int32.ofNat (sb + w * cn))), .val (.ref d), .val (.ref b), .val (.int (1 : Int32))]) (pc' := 477) S rfl at_475 rfl ?_
  refine own_iload (pc' := 479) S rfl at_477 rfl ?_
  refine own_aload (pc' := 481) S rfl at_479 rfl rfl ?_
  refine own_aload (pc' := 483) S rfl at_481 rfl rfl ?_
  refine own_iload (pc' := 485) S rfl at_483 rfl ?_
  refine own_iload (pc' := 487) S rfl at_485 rfl ?_
  refine own_iload (pc' := 489) S rfl at_487 rfl ?_
  refine own_bipush (19 : Int32) (pc' := 491) S rfl at_489 rfl ?_
  refine own_callS (pc' := 494) (yy := own_y3) (rm := ({ frames := 0, cells := 0, slots := 0, locals := 0 } : Room)) (W := 3) [(.ref b), (.ref d), (.int (Int32.ofNat sb)), (.int (Int32.ofNat cn)), (.int (Int32.ofNat w)), (.int (19 : Int32))] [(.int (1 : Int32))] S (List.mem_of_getElem? (i := 9) rfl) (List.mem_of_getElem? (i := 10) rfl) (List.mem_of_getElem? (i := 3) rfl) (List.mem_of_getElem? (i := 11) rfl) (by decide) (own_m3 l Z a0 hw b d w cn sb 19 f g hw9 hw1 hc4 hs4 (by decide) _ n0 (own_size S) A D H) (ps := [.array .byte, .array .byte, .int, .int, .int, .int]) (r' := some .boolean) (by decide +kernel) rfl rfl rfl (Nat.le_of_ble_eq_true rfl) (by decide) (by decide) (by decide) (by decide) rfl at_491 ?_
  rintro T h2 _ S ⟨_, rfl, rfl, rfl⟩
  refine own_iand (pc' := 495) S rfl at_494 ?_
  rw [show (1 : Int32) &&& 1 = 1 from rfl]
  refine own_istore (ls' := #[.val (.long x0), .second, .val (.long x1), .second, .val (.long x2), .second, .val (.long x3), .second, .val (.int x4), .val (.int (Int32.ofNat w)), .val (.int (Int32.ofNat cn)), .val (.int (Int32.ofNat sb)), .val (.int (Int32.ofNat (sb + w * cn))), .val (.ref d), .val (.ref b), .val (.int (1 : Int32))]) (pc' := 497) S rfl at_495 rfl ?_
  refine own_iload (pc' := 499) S rfl at_497 rfl ?_
  refine own_aload (pc' := 501) S rfl at_499 rfl rfl ?_
  refine own_aload (pc' := 503) S rfl at_501 rfl rfl ?_
  refine own_iload (pc' := 505) S rfl at_503 rfl ?_
  refine own_iload (pc' := 507) S rfl at_505 rfl ?_
  refine own_iload (pc' := 509) S rfl at_507 rfl ?_
  refine own_bipush (20 : Int32) (pc' := 511) S rfl at_509 rfl ?_
  refine own_callS (pc' := 514) (yy := own_y3) (rm := ({ frames := 0, cells := 0, slots := 0, locals := 0 } : Room)) (W := 3) [(.ref b), (.ref d), (.int (Int32.ofNat sb)), (.int (Int32.ofNat cn)), (.int (Int32.ofNat w)), (.int (20 : Int32))] [(.int (1 : Int32))] S (List.mem_of_getElem? (i := 9) rfl) (List.mem_of_getElem? (i := 10) rfl) (List.mem_of_getElem? (i := 3) rfl) (List.mem_of_getElem? (i := 11) rfl) (by decide) (own_m3 l Z a0 hw b d w cn sb 20 f g hw9 hw1 hc4 hs4 (by decide) _ n0 (own_size S) A D H) (ps := [.array .byte, .array .byte, .int, .int, .int, .int]) (r' := some .boolean) (by decide +kernel) rfl rfl rfl (Nat.le_of_ble_eq_true rfl) (by decide) (by decide) (by decide) (by decide) rfl at_511 ?_
  rintro T h2 _ S ⟨_, rfl, rfl, rfl⟩
  refine own_iand (pc' := 515) S rfl at_514 ?_
  rw [show (1 : Int32) &&& 1 = 1 from rfl]
  refine own_istore (ls' := #[.val (.long x0), .second, .val (.long x1), .second, .val (.long x2), .second, .val (.long x3), .second, .val (.int x4), .val (.int (Int32.ofNat w)), .val (.int (Int32.ofNat cn)), .val (.int (Int32.ofNat sb)), .val (.int (Int32.ofNat (sb + w * cn))), .val (.ref d), .val (.ref b), .val (.int (1 : Int32))]) (pc' := 517) S rfl at_515 rfl ?_
  refine own_iload (pc' := 519) S rfl at_517 rfl ?_
  refine own_aload (pc' := 521) S rfl at_519 rfl rfl ?_
  refine own_aload (pc' := 523) S rfl at_521 rfl rfl ?_
  refine own_iload (pc' := 525) S rfl at_523 rfl ?_
  refine own_iload (pc' := 527) S rfl at_525 rfl ?_
  refine own_iload (pc' := 529) S rfl at_527 rfl ?_
  refine own_bipush (21 : Int32) (pc' := 531) S rfl at_529 rfl ?_
  refine own_callS (pc' := 534) (yy := own_y3) (rm := ({ frames := 0, cells := 0, slots := 0, locals := 0 } : Room)) (W := 3) [(.ref b), (.ref d), (.int (Int32.ofNat sb)), (.int (Int32.ofNat cn)), (.int (Int32.ofNat w)), (.int (21 : Int32))] [(.int (1 : Int32))] S (List.mem_of_getElem? (i := 9) rfl) (List.mem_of_getElem? (i := 10) rfl) (List.mem_of_getElem? (i := 3) rfl) (List.mem_of_getElem? (i := 11) rfl) (by decide) (own_m3 l Z a0 hw b d w cn sb 21 f g hw9 hw1 hc4 hs4 (by decide) _ n0 (own_size S) A D H) (ps := [.array .byte, .array .byte, .int, .int, .int, .int]) (r' := some .boolean) (by decide +kernel) rfl rfl rfl (Nat.le_of_ble_eq_true rfl) (by decide) (by decide) (by decide) (by decide) rfl at_531 ?_
  rintro T h2 _ S ⟨_, rfl, rfl, rfl⟩
  refine own_iand (pc' := 535) S rfl at_534 ?_
  rw [show (1 : Int32) &&& 1 = 1 from rfl]
  refine own_istore (ls' := #[.val (.long x0), .second, .val (.long x1), .second, .val (.long x2), .second, .val (.long x3), .second, .val (.int x4), .val (.int (Int32.ofNat w)), .val (.int (Int32.ofNat cn)), .val (.int (Int32.ofNat sb)), .val (.int (Int32.ofNat (sb + w * cn))), .val (.ref d), .val (.ref b), .val (.int (1 : Int32))]) (pc' := 537) S rfl at_535 rfl ?_
  refine own_iload (pc' := 539) S rfl at_537 rfl ?_
  refine own_aload (pc' := 541) S rfl at_539 rfl rfl ?_
  refine own_aload (pc' := 543) S rfl at_541 rfl rfl ?_
  refine own_iload (pc' := 545) S rfl at_543 rfl ?_
  refine own_iload (pc' := 547) S rfl at_545 rfl ?_
  refine own_iload (pc' := 549) S rfl at_547 rfl ?_
  refine own_bipush (22 : Int32) (pc' := 551) S rfl at_549 rfl ?_
  refine own_callS (pc' := 554) (yy := own_y3) (rm := ({ frames := 0, cells := 0, slots := 0, locals := 0 } : Room)) (W := 3) [(.ref b), (.ref d), (.int (Int32.ofNat sb)), (.int (Int32.ofNat cn)), (.int (Int32.ofNat w)), (.int (22 : Int32))] [(.int (1 : Int32))] S (List.mem_of_getElem? (i := 9) rfl) (List.mem_of_getElem? (i := 10) rfl) (List.mem_of_getElem? (i := 3) rfl) (List.mem_of_getElem? (i := 11) rfl) (by decide) (own_m3 l Z a0 hw b d w cn sb 22 f g hw9 hw1 hc4 hs4 (by decide) _ n0 (own_size S) A D H) (ps := [.array .byte, .array .byte, .int, .int, .int, .int]) (r' := some .boolean) (by decide +kernel) rfl rfl rfl (Nat.le_of_ble_eq_true rfl) (by decide) (by decide) (by decide) (by decide) rfl at_551 ?_
  rintro T h2 _ S ⟨_, rfl, rfl, rfl⟩
  refine own_iand (pc' := 555) S rfl at_554 ?_
  rw [show (1 : Int32) &&& 1 = 1 from rfl]
  refine own_istore (ls' := #[.val (.long x0), .second, .val (.long x1), .second, .val (.long x2), .second, .val (.long x3), .second, .val (.int x4), .val (.int (Int32.ofNat w)), .val (.int (Int32.ofNat cn)), .val (.int (Int32.ofNat sb)), .val (.int (Int32.ofNat (sb + w * cn))), .val (.ref d), .val (.ref b), .val (.int (1 : Int32))]) (pc' := 557) S rfl at_555 rfl ?_
  refine own_iload (pc' := 559) S rfl at_557 rfl ?_
  refine own_aload (pc' := 561) S rfl at_559 rfl rfl ?_
  refine own_aload (pc' := 563) S rfl at_561 rfl rfl ?_
  refine own_iload (pc' := 565) S rfl at_563 rfl ?_
  refine own_iload (pc' := 567) S rfl at_565 rfl ?_
  refine own_iload (pc' := 569) S rfl at_567 rfl ?_
  refine own_bipush (23 : Int32) (pc' := 571) S rfl at_569 rfl ?_
  refine own_callS (pc' := 574) (yy := own_y3) (rm := ({ frames := 0, cells := 0, slots := 0, locals := 0 } : Room)) (W := 3) [(.ref b), (.ref d), (.int (Int32.ofNat sb)), (.int (Int32.ofNat cn)), (.int (Int32.ofNat w)), (.int (23 : Int32))] [(.int (1 : Int32))] S (List.mem_of_getElem? (i := 9) rfl) (List.mem_of_getElem? (i := 10) rfl) (List.mem_of_getElem? (i := 3) rfl) (List.mem_of_getElem? (i := 11) rfl) (by decide) (own_m3 l Z a0 hw b d w cn sb 23 f g hw9 hw1 hc4 hs4 (by decide) _ n0 (own_size S) A D H) (ps := [.array .byte, .array .byte, .int, .int, .int, .int]) (r' := some .boolean) (by decide +kernel) rfl rfl rfl (Nat.le_of_ble_eq_true rfl) (by decide) (by decide) (by decide) (by decide) rfl at_571 ?_
  rintro T h2 _ S ⟨_, rfl, rfl, rfl⟩
  refine own_iand (pc' := 575) S rfl at_574 ?_
  rw [show (1 : Int32) &&& 1 = 1 from rfl]
  refine own_istore (ls' := #[.val (.long x0), .second, .val (.long x1), .second, .val (.long x2), .second, .val (.long x3), .second, .val (.int x4), .val (.int (Int32.ofNat w)), .val (.int (Int32.ofNat cn)), .val (.int (Int32.ofNat sb)), .val (.int (Int32.ofNat (sb + w * cn))), .val (.ref d), .val (.ref b), .val (.int (1 : Int32))]) (pc' := 577) S rfl at_575 rfl ?_
  refine own_iload (pc' := 579) S rfl at_577 rfl ?_
  exact own_retZ (Or.inr rfl) S at_579 (by decide) (by decide) ⟨_, rfl, rfl⟩
set_option maxRecDepth 65536 in
set_option maxHeartbeats 40000000 in
theorem own_comes {Post : Tables → Env → Array Value → State → Outcome → State → Prop} (hpost : ∀ tb e args s v u, (limb_1_1.after args s (.returned v) u = true ∧ limb_1_2.after args s (.returned v) u = true ∧ True) → FrameEnd s (.returned v) u (Jvm.fieldLocs frame_1_writes args s ++ Jvm.arrayLocs frame_1_arrays args s ++ Jvm.staticLocs frame_1_statics s) 16 192 → Post tb e args s (.returned v) u) :
    ArmFor flags0 classFile x code maxLocals ret World_1 tables_1 room_1 Calls_1 rest_1 Pre_1 Post := by
  intro l hfl _ _ p e ha hc hk s m args below hf hA hF happ hP
  obtain ⟨hcalls, hrest, hpre⟩ := hP
  obtain ⟨-, -, -, hnamed, -, -, -, hat⟩ := (Spec.applies_iff hf).mp happ
  obtain ⟨hg, hn⟩ := and_e (Cond.before_iff.mp (show (Jvm.Cond.and given_1 narrow_1).before args s = true from hpre))
  obtain ⟨g0, r0⟩ := and_e hg
  obtain ⟨b0, r1⟩ := and_e r0
  obtain ⟨b1, r2⟩ := and_e r1
  obtain ⟨b2, r3⟩ := and_e r2
  obtain ⟨b3, r4⟩ := and_e r3
  have b4 := r4
  obtain ⟨w0, w1, w2, w3, w4, rfl⟩ : ∃ w0 w1 w2 w3 w4 : Value, args = #[w0, w1, w2, w3, w4] := by
    have hs : args.size = 5 := by simpa [Cond.value, given_1] using g0
    obtain ⟨L⟩ := args
    match L, hs with
    | [w0, w1, w2, w3, w4], _ => exact ⟨w0, w1, w2, w3, w4, rfl⟩
  have hw := fun d (hd : d ∈ tables_1) => atoms_spec (ws := Jvm.Cond.code x code maxLocals ret :: tables_1) hat d (List.mem_cons_of_mem _ hd)
  obtain ⟨i0, ei0⟩ := isL_v b0
  obtain rfl : w0 = (.long i0) := Option.some.inj ei0
  obtain ⟨i1, ei1⟩ := isL_v b1
  obtain rfl : w1 = (.long i1) := Option.some.inj ei1
  obtain ⟨i2, ei2⟩ := isL_v b2
  obtain rfl : w2 = (.long i2) := Option.some.inj ei2
  obtain ⟨i3, ei3⟩ := isL_v b3
  obtain rfl : w3 = (.long i3) := Option.some.inj ei3
  obtain ⟨i4, ei4⟩ := is_v b4
  obtain rfl : w4 = (.int i4) := Option.some.inj ei4
  obtain ⟨n, o, h1, h2, h3, _, L, rfl, ⟨⟨_, rfl, rfl⟩, N⟩, hq⟩ := own_m0 l s _ hw i0 i1 i2 i3 i4 s.heap s.heap.size (Nat.le_refl _) p e ha hc hk s m _ below hf ((Spec.applies_iff_loose hf).mp happ).1 ⟨rfl, State.Warmed39.refl s, rfl⟩ trivial
  exact ⟨n, _, h1, h2, h3, hpost _ _ _ _ _ _ ⟨Cond.after_iff.mpr rfl, Cond.after_iff.mpr (eq_i res_at (Term.int_eval (1)) rfl), trivial⟩ ⟨hq.1, hq.2.1, (hq.2.2.sift fun y hy => Or.inr (N y hy)).mono (by decide) (by decide)⟩⟩
theorem main_1_1 : Claimed_1_1 := own_comes fun _ _ _ _ _ _ h hF => ⟨h.1, hF⟩
theorem main_1_2 : Claimed_1_2 := own_comes fun _ _ _ _ _ _ h hF => ⟨h.2.1, hF⟩
end Jvm.Pilot.@@N@@
namespace Jvm.Pilot.@@N@@
open Jvm Jvm.ClassFile Sem Op Lib Jvm.Free Jvm.Stand Jvm.Pilot.@@N@@.Jvm.D
/-! MADE BY PROGRAM (witnessworld.py) out of the Statement's table words and the real class files: 9 classes; the members and pool entries that the words name. The judged class is class 1, her method 1. -/
namespace start1
open Jvm.ClassFile
def u (s : String) : CpInfo := .utf8 (stringToUtf16 s)
/-- a pool by its gaps: so many unusable entries, then the entry; so many at the end -/
def gap : Nat → List CpInfo → List CpInfo
  | 0, r => r
  | n + 1, r => .unusable :: gap n r
def poolList (es : List (Nat × CpInfo)) (last : Nat) : List CpInfo := es.foldr (fun e r => gap e.1 (e.2 :: r)) (gap last [])
def pool (es : List (Nat × CpInfo)) (last : Nat) : Array CpInfo := ⟨poolList es last⟩
def fileOf (pool : Array CpInfo) (this : Nat) (attrs : Array Attribute := #[]) (ms : Array MethodInfo := #[]) (fl : Nat := 33) (sup : Nat := 0) (ifs : Array Nat := #[]) (fds : Array FieldInfo := #[]) : ClassFile where
  minorVersion := 0
  majorVersion := 65
  constantPool := pool
  accessFlags := fl
  thisClass := this
  superClass := sup
  interfaces := ifs
  fields := fds
  methods := ms
  attributes := attrs
def plain (name : String) (sup : Option ClassId) : Class where
  name := name
  kind := .ordinary
  loader := none
  accessFlags := 33
  super := sup
  interfaces := #[]
  cf := none
  fields := #[]
  methods := #[]
  instanceTypes := #[]
  staticTypes := #[]
  resolved := #[]
  callSites := []
  init := .initialized
  statics := none
  mirror := none

def pool0 : Array CpInfo := pool [(5, u "<init>"), (0, u "()V"), (1, .class_ 10), (1, u "java/lang/Object")] 113

def k0m0 : Method := { name := "<init>", desc := "()V", sig := { parameters := [], returnType := none }, accessFlags := 1, code := none }
/-- java/lang/Object -/
def k0 : Class := { plain "java/lang/Object" none with
  accessFlags := 33
  interfaces := #[]
  cf := some (fileOf pool0 8 #[] #[{ accessFlags := 1, nameIndex := 5, descriptorIndex := 6, attributes := #[] }] 33 0 #[] #[])
  fields := #[]
  methods := #[k0m0]
  instanceTypes := #[]
  staticTypes := #[]
  resolved := Array.replicate 124 none
  statics := none }

def pool1 : Array CpInfo := pool [(2, .class_ 4), (1, u "java/lang/Object"), (0, u "<init>"), (0, u "()V"), (0, .methodref 8 9), (0, .class_ 10), (0, .nameAndType 11 12), (0, u "com/example/colonnade/colonnade/parquet/ByteStreamSplitJoinPinLaw"), (0, u "fill"), (0, u "([BIJ)V"), (0, .methodref 14 15), (0, .class_ 16), (0, .nameAndType 17 18), (0, u "com/example/colonnade/colonnade/parquet/ByteStreamSplit"), (0, u "join"), (0, u "([BIII)[B"), (0, .methodref 8 20), (0, .nameAndType 21 22), (0, u "at"), (0, u "([B[BIIII)Z"), (2, u "law"), (0, u "(JJJJI)Z")] 5

def k1m0 : Method := { name := "<init>", desc := "()V", sig := { parameters := [], returnType := none }, accessFlags := 2, code := none }
def k1c1 : Code := { maxStack := 7, maxLocals := 16, code := code, exceptionTable := #[], attributes := #[] }
def k1m1 : Method := { name := "law", desc := "(JJJJI)Z", sig := { parameters := [.long, .long, .long, .long, .int], returnType := some .boolean }, accessFlags := 9, code := some k1c1 }
def k1c2 : Code := { maxStack := 5, maxLocals := 4, code := method_3_code, exceptionTable := #[], attributes := #[] }
def k1m2 : Method := { name := "fill", desc := "([BIJ)V", sig := { parameters := [(.array .byte), .int, .long], returnType := none }, accessFlags := 10, code := some k1c2 }
def k1c3 : Code := { maxStack := 5, maxLocals := 8, code := method_4_code, exceptionTable := #[], attributes := #[] }
def k1m3 : Method := { name := "at", desc := "([B[BIIII)Z", sig := { parameters := [(.array .byte), (.array .byte), .int, .int, .int, .int], returnType := some .boolean }, accessFlags := 10, code := some k1c3 }
/-- com/example/colonnade/colonnade/parquet/ByteStreamSplitJoinPinLaw -/
def k1 : Class := { plain "com/example/colonnade/colonnade/parquet/ByteStreamSplitJoinPinLaw" (some 0) with
  accessFlags := 49
  interfaces := #[]
  cf := some (fileOf pool1 8 #[] #[{ accessFlags := 2, nameIndex := 5, descriptorIndex := 6, attributes := #[] }, { accessFlags := 9, nameIndex := 25, descriptorIndex := 26, attributes := #[] }, { accessFlags := 10, nameIndex := 11, descriptorIndex := 12, attributes := #[] }, { accessFlags := 10, nameIndex := 21, descriptorIndex := 22, attributes := #[] }] 49 2 #[] #[])
  fields := #[]
  methods := #[k1m0, k1m1, k1m2, k1m3]
  instanceTypes := #[]
  staticTypes := #[]
  resolved := Array.replicate 32 none
  statics := none }

def pool2 : Array CpInfo := pool [(2, .class_ 4), (1, u "java/lang/Object"), (0, u "<init>"), (0, u "()V"), (16, .class_ 24), (0, u "com/example/colonnade/colonnade/parquet/ByteStreamSplit"), (2, u "join"), (0, u "([BIII)[B")] 9

def k2m0 : Method := { name := "<init>", desc := "()V", sig := { parameters := [], returnType := none }, accessFlags := 2, code := none }
def k2c1 : Code := { maxStack := 5, maxLocals := 9, code := prog_171_method_2_code, exceptionTable := #[], attributes := #[] }
def k2m1 : Method := { name := "join", desc := "([BIII)[B", sig := { parameters := [(.array .byte), .int, .int, .int], returnType := some (.array .byte) }, accessFlags := 8, code := some k2c1 }
/-- com/example/colonnade/colonnade/parquet/ByteStreamSplit -/
def k2 : Class := { plain "com/example/colonnade/colonnade/parquet/ByteStreamSplit" (some 0) with
  accessFlags := 48
  interfaces := #[]
  cf := some (fileOf pool2 23 #[] #[{ accessFlags := 2, nameIndex := 5, descriptorIndex := 6, attributes := #[] }, { accessFlags := 8, nameIndex := 27, descriptorIndex := 28, attributes := #[] }] 48 2 #[] #[])
  fields := #[]
  methods := #[k2m0, k2m1]
  instanceTypes := #[]
  staticTypes := #[]
  resolved := Array.replicate 38 none
  statics := none }

def pool3 : Array CpInfo := pool [(1, u "java/lang/Cloneable"), (0, .class_ 1), (0, u "java/lang/Object"), (0, .class_ 3)] 3

/-- java/lang/Cloneable -/
def k3 : Class := { plain "java/lang/Cloneable" (some 0) with
  accessFlags := 1537
  interfaces := #[]
  cf := some (fileOf pool3 2 #[] #[] 1537 4 #[] #[])
  fields := #[]
  methods := #[]
  instanceTypes := #[]
  staticTypes := #[]
  resolved := Array.replicate 8 none
  statics := none }

def pool4 : Array CpInfo := pool [(1, u "java/io/Serializable"), (0, .class_ 1), (0, u "java/lang/Object"), (0, .class_ 3)] 3

/-- java/io/Serializable -/
def k4 : Class := { plain "java/io/Serializable" (some 0) with
  accessFlags := 1537
  interfaces := #[]
  cf := some (fileOf pool4 2 #[] #[] 1537 4 #[] #[])
  fields := #[]
  methods := #[]
  instanceTypes := #[]
  staticTypes := #[]
  resolved := Array.replicate 8 none
  statics := none }

/-- the primitive byte -/
def k5 : Class := { plain "byte" none with kind := .primitive 'B', accessFlags := 0x411 }
/-- [B -/
def k6 : Class := { plain "[B" (some 0) with kind := .array 5 .byte, interfaces := #[3, 4], accessFlags := 1041 }

/-- the primitive int -/
def k7 : Class := { plain "int" none with kind := .primitive 'I', accessFlags := 0x411 }
/-- [I -/
def k8 : Class := { plain "[I" (some 0) with kind := .array 7 .int, interfaces := #[3, 4], accessFlags := 1041 }

def heap : Heap := #[]
def classes : Array Class := #[k0, k1, k2, k3, k4, k5, k6, k7, k8]
def interned : List (Array UInt16 × Addr) := []
def slotsUsed : Nat := 0
def theMethod : MethodId := ⟨1, 1⟩
def args0 : Array Value := #[.long 1, .long 2, .long 3, .long 4, .int 5]
def aboutOver (below : List Frame) : State where
  vm := { classes := classes, interned := interned.toArray }
  heap := heap
  slotsUsed := slotsUsed
  threads := #[{ frames := .invoking theMethod args0 :: below }]
def below0 : List Frame := [.native { method := ⟨0, 0⟩, args := #[] }]
def about1 : State := aboutOver below0
def p0 : Program := .bare "" "" ""
def e0 : Env := launch0.env 0 0 0
theorem w_frames : about1.frames = Frame.invoking theMethod args0 :: below0 := rfl
set_option maxRecDepth 65536 in
theorem w_args : argsFit about1.vm theMethod args0 = true := by decide +kernel
set_option maxRecDepth 65536 in
theorem w_heap : heapFits about1 = true := by decide +kernel
set_option maxRecDepth 65536 in
theorem w_runnable : about1.curStatus? = some .runnable := by decide +kernel
set_option maxRecDepth 65536 in
theorem w_alone : about1.alone = true := by decide +kernel
set_option maxRecDepth 65536 in
theorem w_named : about1.methodNamed? x = some theMethod := by decide +kernel
set_option maxRecDepth 65536 in
theorem w_hears : about1.hears theMethod below0 = true := by decide +kernel
set_option maxRecDepth 65536 in
theorem w_ripe : about1.ripe theMethod args0 below0 = true := by decide +kernel
theorem w_running : about1.status = .running := rfl
set_option maxRecDepth 65536 in
theorem w_room : about1.hasRoom e0.platform room_1 = true :=
  launch0.hasRoom_least _ room_1 (by decide +kernel) (by decide +kernel) (by decide +kernel) (by decide +kernel) (by decide +kernel) (by decide +kernel)
theorem allAtoms_all (ts : List Jvm.Cond) (a : Array Jvm.Value) (st : Jvm.State) : (allAtoms ts).before a st = ts.all (fun c => c.before a st) := by
  induction ts with
  | nil => rfl
  | cons c t ih =>
    show (Jvm.Cond.and c (allAtoms t)).before a st = _
    rw [Jvm.Cond.before_and, ih, List.all_cons]
def words1 : List Jvm.Cond := Jvm.Cond.code x code maxLocals ret :: tables_1
/-- a 'code' word, met by the world's own term for the bytes: nothing is compared byte by byte -/
theorem code_word {y : MethodName} {bytes : ByteArray} {mx : Nat} {rt : Option FieldType} {a : Array Value} {s : State} {m : MethodId} {meth : Method} {c : Code} (h1 : s.methodNamed? y = some m) (h2 : s.vm.method? m = some meth) (h3 : meth.code = some c) (h4 : c.code = bytes)
    (h5 : (c.maxLocals == mx && c.exceptionTable.isEmpty && decide (c.maxStack ≤ mostOperands) && decide (meth.sig.returnType = rt) && !meth.locks && decide (parseMethodDescriptor y.desc = some meth.sig)) = true) : (Jvm.Cond.code y bytes mx rt).before a s = true := by
  simp only [Bool.and_eq_true, beq_iff_eq, Bool.not_eq_true', decide_eq_true_eq] at h5
  obtain ⟨⟨⟨⟨⟨g1, g2⟩, g3⟩, g4⟩, g5⟩, g6⟩ := h5
  simp [Cond.before, Cond.holds, Cond.value, h1, h2, h3, h4, g1, g2, g3, g4, g5, g6]
def isCode : Jvm.Cond → Bool
  | .code _ _ _ _ => true
  | _ => false
theorem all_split {L : List Jvm.Cond} {P : Jvm.Cond → Bool} (h1 : L.all (fun c => isCode c || P c) = true) (h2 : ∀ c ∈ L.filter isCode, P c = true) : L.all P = true := by
  refine List.all_eq_true.mpr fun c hc => ?_
  have h := List.all_eq_true.mp h1 c hc
  rcases Bool.eq_false_or_eq_true (isCode c) with hi | hi
  · exact h2 c (List.mem_filter.mpr ⟨hc, hi⟩)
  · simpa [hi] using h
set_option maxRecDepth 65536 in
theorem w_c0 : (Jvm.Cond.code x code maxLocals ret).before args0 about1 = true := code_word (m := ⟨1, 1⟩) (meth := k1m1) (c := k1c1) (by decide +kernel) rfl rfl rfl (by decide +kernel)
set_option maxRecDepth 65536 in
theorem w_c1 : (Jvm.Cond.code ({ cls := "com/example/colonnade/colonnade/parquet/ByteStreamSplitJoinPinLaw", name := "fill", desc := "([BIJ)V" } : Jvm.MethodName) method_3_code (4 : Nat) (Option.none : Option Jvm.ClassFile.FieldType)).before args0 about1 = true := code_word (m := ⟨1, 2⟩) (meth := k1m2) (c := k1c2) (by decide +kernel) rfl rfl rfl (by decide +kernel)
set_option maxRecDepth 65536 in
theorem w_c2 : (Jvm.Cond.code ({ cls := "com/example/colonnade/colonnade/parquet/ByteStreamSplit", name := "join", desc := "([BIII)[B" } : Jvm.MethodName) prog_171_method_2_code (9 : Nat) (Option.some (Jvm.ClassFile.FieldType.array Jvm.ClassFile.FieldType.byte))).before args0 about1 = true := code_word (m := ⟨2, 1⟩) (meth := k2m1) (c := k2c1) (by decide +kernel) rfl rfl rfl (by decide +kernel)
set_option maxRecDepth 65536 in
theorem w_c3 : (Jvm.Cond.code ({ cls := "com/example/colonnade/colonnade/parquet/ByteStreamSplitJoinPinLaw", name := "at", desc := "([B[BIIII)Z" } : Jvm.MethodName) method_4_code (8 : Nat) (Option.some Jvm.ClassFile.FieldType.boolean)).before args0 about1 = true := code_word (m := ⟨1, 3⟩) (meth := k1m3) (c := k1c3) (by decide +kernel) rfl rfl rfl (by decide +kernel)
def codes1 : List Jvm.Cond := [Jvm.Cond.code x code maxLocals ret, Jvm.Cond.code ({ cls := "com/example/colonnade/colonnade/parquet/ByteStreamSplitJoinPinLaw", name := "fill", desc := "([BIJ)V" } : Jvm.MethodName) method_3_code (4 : Nat) (Option.none : Option Jvm.ClassFile.FieldType), Jvm.Cond.code ({ cls := "com/example/colonnade/colonnade/parquet/ByteStreamSplit", name := "join", desc := "([BIII)[B" } : Jvm.MethodName) prog_171_method_2_code (9 : Nat) (Option.some (Jvm.ClassFile.FieldType.array Jvm.ClassFile.FieldType.byte)), Jvm.Cond.code ({ cls := "com/example/colonnade/colonnade/parquet/ByteStreamSplitJoinPinLaw", name := "at", desc := "([B[BIIII)Z" } : Jvm.MethodName) method_4_code (8 : Nat) (Option.some Jvm.ClassFile.FieldType.boolean)]
set_option maxRecDepth 65536 in
theorem codes_eq : words1.filter isCode = codes1 := rfl
theorem w_codes : ∀ c ∈ words1.filter isCode, c.before args0 about1 = true := by
  rw [codes_eq]
  intro c hc
  simp only [codes1, List.mem_cons, List.not_mem_nil, or_false] at hc
  rcases hc with rfl | rfl | rfl | rfl
  · exact w_c0
  · exact w_c1
  · exact w_c2
  · exact w_c3
set_option maxRecDepth 65536 in
theorem w_t1 : words1.all (fun c => isCode c || c.before args0 about1) = true := by decide +kernel
theorem w_tables : (allAtoms (Jvm.Cond.code x code maxLocals ret :: tables_1)).before args0 about1 = true := by
  rw [allAtoms_all]
  show words1.all (fun c => c.before args0 about1) = true
  refine all_split ?_ w_codes
  rw [w_t1]
set_option maxRecDepth 65536 in
theorem w_case : (Jvm.Cond.and given_1 narrow_1).before args0 about1 = true := by decide +kernel
theorem w_applies : (headSpec (Jvm.Cond.code x code maxLocals ret :: tables_1) room_1).applies x e0.platform about1 = true :=
  (Spec.applies_iff w_frames).mpr ⟨w_running, w_runnable, w_alone, w_named, w_hears, w_ripe, w_room, w_tables⟩
theorem atStart : AtStart classFile x code maxLocals ret World_1 tables_1 room_1 Calls_1 rest_1 Pre_1 launch0 p0 e0 about1 theMethod args0 below0 :=
  ⟨lists_1, trivial, launch0.admits_env _ _ _, launch0.least_env, fairChoices_fair.cas, fairChoices_fair.clock, w_frames, w_args, w_heap, w_applies, trivial, trivial, w_case⟩
end start1
theorem witness_1 : WitnessClaimed_1 := ⟨start1.p0, start1.e0, start1.about1, start1.theMethod, start1.args0, start1.below0, start1.atStart⟩
end Jvm.Pilot.@@N@@
