import JvmDerived
import JvmDerived.Pilot.@@N@@Statement
import JvmDerived.Pilot.@@N@@Code
set_option linter.unusedVariables false
set_option linter.unusedSimpArgs false
namespace Jvm.Pilot.@@N@@
open Jvm Jvm.ClassFile Sem Op Lib Jvm.Free Jvm.Stand Jvm.LawKit Jvm.RoadKit Bundle Jvm.Pilot.@@N@@.Jvm.D
section Own
variable {p : Program} {l : Launch} {e : Env} {s : State} {m : MethodId} {args : Array Value} {below : List Frame} {meth : Method} {c : Code} {Z : State} {a0 : Array Value} {n0 : Nat}
  {y : MethodName} {code : ByteArray} {mx : Nat} {ret : Option FieldType} {R : Room} {T : State} {h : Heap} {cells slots : Nat} {Q : Option Value → Heap → Prop} {pc pc' : Nat} {ls ls' : Array Slot} {st : List Value}
/-- where a walk stands: all that stays from step to step, in one word -/
def own_S (p : Program) (l : Launch) (e : Env) (s : State) (m : MethodId) (args : Array Value) (below : List Frame) (meth : Method) (c : Code) (Z : State) (a0 : Array Value) (n0 : Nat) (y : MethodName) (code : ByteArray) (mx : Nat) (ret : Option FieldType) (R : Room) (T : State) (h : Heap) (cells slots : Nat) : Prop :=
  ∃ locs : List Loc, Stand p l e R s m args below meth c T locs cells slots ∧ T.heap = h ∧ Fr n0 locs ∧ n0 ≤ s.heap.size ∧ p.tables.exec = Jvm.exec ∧ Z.Warmed39 s.vm ∧ (∀ d ∈ tables_1, d.before a0 Z = true) ∧ c.code = code ∧ c.maxLocals = mx ∧ s.vm.findClass y.cls = some m.cls ∧ meth.name = y.name ∧ meth.locks = false ∧ meth.sig.returnType = ret
/-- from T with the frame f on top the invocation comes to an end of which Q speaks -/
def own_G (p : Program) (e : Env) (s : State) (below : List Frame) (R : Room) (n0 : Nat) (Q : Option Value → Heap → Prop) (T : State) (f : JFrame) : Prop :=
  ∃ (U : State) (o : Outcome), Steps p.tables e below (T.setTop f) U ∧ U.status = .running ∧ Ended U below o ∧ ∃ v L, o = .returned v ∧ (Q v U.heap ∧ Fr n0 L) ∧ FrameEnd s o U L R.cells R.slots
theorem own_by {T' : State} {f f' : JFrame} (st : ∀ target, Steps p.tables e below (T'.setTop f') target → Steps p.tables e below (T.setTop f) target) (H : own_G p e s below R n0 Q T' f') : own_G p e s below R n0 Q T f := by
  obtain ⟨U, o, h1, h2⟩ := H
  exact ⟨U, o, st U h1, h2⟩
theorem own_word (S : own_S p l e s m args below meth c Z a0 n0 y code mx ret R T h cells slots) : ∀ d ∈ tables_1, d.before a0 Z = true := by
  obtain ⟨_, _, _, _, _, _, _, hw, _⟩ := S; exact hw
theorem own_size (S : own_S p l e s m args below meth c Z a0 n0 y code mx ret R T h cells slots) : n0 ≤ h.size := by
  obtain ⟨_, X, eT, _, hs, _⟩ := S; rw [← eT]; exact Nat.le_trans hs X.same.2.1
-- plain steps
theorem own_iload {k : Nat} {v : Int32} (S : own_S p l e s m args below meth c Z a0 n0 y code mx ret R T h cells slots) (hp : pc + 2 = pc') (hd : decode code pc = .ok (.iload k, 2)) (hl : ls[k]? = some (.val (.int v)))
    (H : own_G p e s below R n0 Q T (mkF m pc' ls (.int v :: st))) : own_G p e s below R n0 Q T (mkF m pc ls st) := by
  obtain ⟨_, X, _, _, _, hx, _, _, hby, _⟩ := S; subst hp
  exact own_by (fun _ k => XS.iload X.here hx rfl (hb hby hd) hl k) H
theorem own_iloadN {k : Fin 4} {v : Int32} (S : own_S p l e s m args below meth c Z a0 n0 y code mx ret R T h cells slots) (hp : pc + 1 = pc') (hd : decode code pc = .ok (.iload_n k, 1)) (hl : ls[k.val]? = some (.val (.int v)))
    (H : own_G p e s below R n0 Q T (mkF m pc' ls (.int v :: st))) : own_G p e s below R n0 Q T (mkF m pc ls st) := by
  obtain ⟨_, X, _, _, _, hx, _, _, hby, _⟩ := S; subst hp
  exact own_by (fun _ k => XS.iloadN X.here hx rfl (hb hby hd) hl k) H
theorem own_lload {k : Nat} {v : Int64} (S : own_S p l e s m args below meth c Z a0 n0 y code mx ret R T h cells slots) (hp : pc + 2 = pc') (hd : decode code pc = .ok (.lload k, 2)) (hl : ls[k]? = some (.val (.long v)))
    (H : own_G p e s below R n0 Q T (mkF m pc' ls (.long v :: st))) : own_G p e s below R n0 Q T (mkF m pc ls st) := by
  obtain ⟨_, X, _, _, _, hx, _, _, hby, _⟩ := S; subst hp
  exact own_by (fun _ k => XT.lload X.here hx rfl (hb hby hd) hl k) H
theorem own_lloadN {k : Fin 4} {v : Int64} (S : own_S p l e s m args below meth c Z a0 n0 y code mx ret R T h cells slots) (hp : pc + 1 = pc') (hd : decode code pc = .ok (.lload_n k, 1)) (hl : ls[k.val]? = some (.val (.long v)))
    (H : own_G p e s below R n0 Q T (mkF m pc' ls (.long v :: st))) : own_G p e s below R n0 Q T (mkF m pc ls st) := by
  obtain ⟨_, X, _, _, _, hx, _, _, hby, _⟩ := S; subst hp
  exact own_by (fun _ k => XT.lloadN X.here hx rfl (hb hby hd) hl k) H
theorem own_aload {k : Nat} {v : Value} (S : own_S p l e s m args below meth c Z a0 n0 y code mx ret R T h cells slots) (hp : pc + 2 = pc') (hd : decode code pc = .ok (.aload k, 2)) (hl : ls[k]? = some (.val v)) (hv : v.isRef = true)
    (H : own_G p e s below R n0 Q T (mkF m pc' ls (v :: st))) : own_G p e s below R n0 Q T (mkF m pc ls st) := by
  obtain ⟨_, X, _, _, _, hx, _, _, hby, _⟩ := S; subst hp
  exact own_by (fun _ k => XS.aload X.here hx rfl (hb hby hd) hl hv k) H
theorem own_aloadN {k : Fin 4} {v : Value} (S : own_S p l e s m args below meth c Z a0 n0 y code mx ret R T h cells slots) (hp : pc + 1 = pc') (hd : decode code pc = .ok (.aload_n k, 1)) (hl : ls[k.val]? = some (.val v)) (hv : v.isRef = true)
    (H : own_G p e s below R n0 Q T (mkF m pc' ls (v :: st))) : own_G p e s below R n0 Q T (mkF m pc ls st) := by
  obtain ⟨_, X, _, _, _, hx, _, _, hby, _⟩ := S; subst hp
  exact own_by (fun _ k => XS.aloadN X.here hx rfl (hb hby hd) hl hv k) H
theorem own_iconst {i : Int} (v : Int32) (S : own_S p l e s m args below meth c Z a0 n0 y code mx ret R T h cells slots) (hp : pc + 1 = pc') (hd : decode code pc = .ok (.iconst i, 1)) (hv : Int32.ofInt i = v)
    (H : own_G p e s below R n0 Q T (mkF m pc' ls (.int v :: st))) : own_G p e s below R n0 Q T (mkF m pc ls st) := by
  obtain ⟨_, X, _, _, _, hx, _, _, hby, _⟩ := S; subst hp
  exact own_by (fun _ k => XT.iconstV X.here hx rfl v (hb hby hd) hv k) H
theorem own_bipush {i : Int} (v : Int32) (S : own_S p l e s m args below meth c Z a0 n0 y code mx ret R T h cells slots) (hp : pc + 2 = pc') (hd : decode code pc = .ok (.bipush i, 2)) (hv : (Int8.ofInt i).toInt32 = v)
    (H : own_G p e s below R n0 Q T (mkF m pc' ls (.int v :: st))) : own_G p e s below R n0 Q T (mkF m pc ls st) := by
  obtain ⟨_, X, _, _, _, hx, _, _, hby, _⟩ := S; subst hp
  exact own_by (fun _ k => XT.bipushV X.here hx rfl v (hb hby hd) hv k) H
theorem own_sipush {i : Int} (v : Int32) (S : own_S p l e s m args below meth c Z a0 n0 y code mx ret R T h cells slots) (hp : pc + 3 = pc') (hd : decode code pc = .ok (.sipush i, 3)) (hv : (Int16.ofInt i).toInt32 = v)
    (H : own_G p e s below R n0 Q T (mkF m pc' ls (.int v :: st))) : own_G p e s below R n0 Q T (mkF m pc ls st) := by
  obtain ⟨_, X, _, _, _, hx, _, _, hby, _⟩ := S; subst hp
  exact own_by (fun _ k => XT.sipushV X.here hx rfl v (hb hby hd) hv k) H
theorem own_null (S : own_S p l e s m args below meth c Z a0 n0 y code mx ret R T h cells slots) (hp : pc + 1 = pc') (hd : decode code pc = .ok (.aconst_null, 1))
    (H : own_G p e s below R n0 Q T (mkF m pc' ls (.null :: st))) : own_G p e s below R n0 Q T (mkF m pc ls st) := by
  obtain ⟨_, X, _, _, _, hx, _, _, hby, _⟩ := S; subst hp
  exact own_by (fun _ k => XS.aconstNull X.here hx rfl (hb hby hd) k) H
theorem own_ldc {idx : Nat} {v : Int32} (S : own_S p l e s m args below meth c Z a0 n0 y code mx ret R T h cells slots) (hp : pc + 2 = pc') (hd : decode code pc = .ok (.ldc idx, 2)) (w : Jvm.Cond.constant y.cls idx v ∈ tables_1)
    (H : own_G p e s below R n0 Q T (mkF m pc' ls (.int v :: st))) : own_G p e s below R n0 Q T (mkF m pc ls st) := by
  obtain ⟨_, X, _, _, _, hx, hZ, hw, hby, _, hown, _⟩ := S; subst hp
  exact own_by (fun _ k => X.ldcI hx hown (mvT hZ (hw _ w)) rfl (hb hby hd) k) H
theorem own_iadd {a b : Int32} (S : own_S p l e s m args below meth c Z a0 n0 y code mx ret R T h cells slots) (hp : pc + 1 = pc') (hd : decode code pc = .ok (.iadd, 1))
    (H : own_G p e s below R n0 Q T (mkF m pc' ls (.int (a + b) :: st))) : own_G p e s below R n0 Q T (mkF m pc ls (.int b :: .int a :: st)) := by
  obtain ⟨_, X, _, _, _, hx, _, _, hby, _⟩ := S; subst hp
  exact own_by (fun _ k => XS.iadd X.here hx rfl (hb hby hd) rfl k) H
theorem own_isub {a b : Int32} (S : own_S p l e s m args below meth c Z a0 n0 y code mx ret R T h cells slots) (hp : pc + 1 = pc') (hd : decode code pc = .ok (.isub, 1))
    (H : own_G p e s below R n0 Q T (mkF m pc' ls (.int (a - b) :: st))) : own_G p e s below R n0 Q T (mkF m pc ls (.int b :: .int a :: st)) := by
  obtain ⟨_, X, _, _, _, hx, _, _, hby, _⟩ := S; subst hp
  exact own_by (fun _ k => XS.isub X.here hx rfl (hb hby hd) rfl k) H
theorem own_imul {a b : Int32} (S : own_S p l e s m args below meth c Z a0 n0 y code mx ret R T h cells slots) (hp : pc + 1 = pc') (hd : decode code pc = .ok (.imul, 1))
    (H : own_G p e s below R n0 Q T (mkF m pc' ls (.int (a * b) :: st))) : own_G p e s below R n0 Q T (mkF m pc ls (.int b :: .int a :: st)) := by
  obtain ⟨_, X, _, _, _, hx, _, _, hby, _⟩ := S; subst hp
  exact own_by (fun _ k => XS.imul X.here hx rfl (hb hby hd) rfl k) H
theorem own_idiv {a b : Int32} (S : own_S p l e s m args below meth c Z a0 n0 y code mx ret R T h cells slots) (hp : pc + 1 = pc') (hd : decode code pc = .ok (.idiv, 1)) (hz : b ≠ 0)
    (H : own_G p e s below R n0 Q T (mkF m pc' ls (.int (a / b) :: st))) : own_G p e s below R n0 Q T (mkF m pc ls (.int b :: .int a :: st)) := by
  obtain ⟨_, X, _, _, _, hx, _, _, hby, _⟩ := S; subst hp
  exact own_by (fun _ k => XS.idiv X.here hx rfl (hb hby hd) rfl hz k) H
theorem own_irem {a b : Int32} (S : own_S p l e s m args below meth c Z a0 n0 y code mx ret R T h cells slots) (hp : pc + 1 = pc') (hd : decode code pc = .ok (.irem, 1)) (hz : b ≠ 0)
    (H : own_G p e s below R n0 Q T (mkF m pc' ls (.int (a % b) :: st))) : own_G p e s below R n0 Q T (mkF m pc ls (.int b :: .int a :: st)) := by
  obtain ⟨_, X, _, _, _, hx, _, _, hby, _⟩ := S; subst hp
  exact own_by (fun _ k => iremM X hx rfl (hb hby hd) rfl hz k) H
theorem own_iand {a b : Int32} (S : own_S p l e s m args below meth c Z a0 n0 y code mx ret R T h cells slots) (hp : pc + 1 = pc') (hd : decode code pc = .ok (.iand, 1))
    (H : own_G p e s below R n0 Q T (mkF m pc' ls (.int (a &&& b) :: st))) : own_G p e s below R n0 Q T (mkF m pc ls (.int b :: .int a :: st)) := by
  obtain ⟨_, X, _, _, _, hx, _, _, hby, _⟩ := S; subst hp
  exact own_by (fun _ k => XS.iand X.here hx rfl (hb hby hd) rfl k) H
theorem own_ior {a b : Int32} (S : own_S p l e s m args below meth c Z a0 n0 y code mx ret R T h cells slots) (hp : pc + 1 = pc') (hd : decode code pc = .ok (.ior, 1))
    (H : own_G p e s below R n0 Q T (mkF m pc' ls (.int (a ||| b) :: st))) : own_G p e s below R n0 Q T (mkF m pc ls (.int b :: .int a :: st)) := by
  obtain ⟨_, X, _, _, _, hx, _, _, hby, _⟩ := S; subst hp
  exact own_by (fun _ k => XT.ior X.here hx rfl (hb hby hd) rfl k) H
theorem own_ixor {a b : Int32} (S : own_S p l e s m args below meth c Z a0 n0 y code mx ret R T h cells slots) (hp : pc + 1 = pc') (hd : decode code pc = .ok (.ixor, 1))
    (H : own_G p e s below R n0 Q T (mkF m pc' ls (.int (a ^^^ b) :: st))) : own_G p e s below R n0 Q T (mkF m pc ls (.int b :: .int a :: st)) := by
  obtain ⟨_, X, _, _, _, hx, _, _, hby, _⟩ := S; subst hp
  exact own_by (fun _ k => XT.ixor X.here hx rfl (hb hby hd) rfl k) H
theorem own_ishr {a b : Int32} (S : own_S p l e s m args below meth c Z a0 n0 y code mx ret R T h cells slots) (hp : pc + 1 = pc') (hd : decode code pc = .ok (.ishr, 1))
    (H : own_G p e s below R n0 Q T (mkF m pc' ls (.int (a >>> (b &&& 31)) :: st))) : own_G p e s below R n0 Q T (mkF m pc ls (.int b :: .int a :: st)) := by
  obtain ⟨_, X, _, _, _, hx, _, _, hby, _⟩ := S; subst hp
  exact own_by (fun _ k => XT.ishr X.here hx rfl (hb hby hd) rfl k) H
theorem own_iushr {a b : Int32} (S : own_S p l e s m args below meth c Z a0 n0 y code mx ret R T h cells slots) (hp : pc + 1 = pc') (hd : decode code pc = .ok (.iushr, 1))
    (H : own_G p e s below R n0 Q T (mkF m pc' ls (.int (XT.ushr a b) :: st))) : own_G p e s below R n0 Q T (mkF m pc ls (.int b :: .int a :: st)) := by
  obtain ⟨_, X, _, _, _, hx, _, _, hby, _⟩ := S; subst hp
  exact own_by (fun _ k => XT.iushr X.here hx rfl (hb hby hd) rfl k) H
theorem own_lushr {a : Int64} {b : Int32} (S : own_S p l e s m args below meth c Z a0 n0 y code mx ret R T h cells slots) (hp : pc + 1 = pc') (hd : decode code pc = .ok (.lushr, 1))
    (H : own_G p e s below R n0 Q T (mkF m pc' ls (.long (XT.ushrL a b) :: st))) : own_G p e s below R n0 Q T (mkF m pc ls (.int b :: .long a :: st)) := by
  obtain ⟨_, X, _, _, _, hx, _, _, hby, _⟩ := S; subst hp
  exact own_by (fun _ k => XT.lushr X.here hx rfl (hb hby hd) rfl k) H
theorem own_l2i {a : Int64} (S : own_S p l e s m args below meth c Z a0 n0 y code mx ret R T h cells slots) (hp : pc + 1 = pc') (hd : decode code pc = .ok (.l2i, 1))
    (H : own_G p e s below R n0 Q T (mkF m pc' ls (.int a.toInt32 :: st))) : own_G p e s below R n0 Q T (mkF m pc ls (.long a :: st)) := by
  obtain ⟨_, X, _, _, _, hx, _, _, hby, _⟩ := S; subst hp
  exact own_by (fun _ k => XT.l2i X.here hx rfl (hb hby hd) rfl k) H
theorem own_i2b {a : Int32} (S : own_S p l e s m args below meth c Z a0 n0 y code mx ret R T h cells slots) (hp : pc + 1 = pc') (hd : decode code pc = .ok (.i2b, 1))
    (H : own_G p e s below R n0 Q T (mkF m pc' ls (.int a.toInt8.toInt32 :: st))) : own_G p e s below R n0 Q T (mkF m pc ls (.int a :: st)) := by
  obtain ⟨_, X, _, _, _, hx, _, _, hby, _⟩ := S; subst hp
  exact own_by (fun _ k => XT.i2b X.here hx rfl (hb hby hd) rfl k) H
theorem own_i2c {a : Int32} (S : own_S p l e s m args below meth c Z a0 n0 y code mx ret R T h cells slots) (hp : pc + 1 = pc') (hd : decode code pc = .ok (.i2c, 1))
    (H : own_G p e s below R n0 Q T (mkF m pc' ls (.int a.toUInt32.toUInt16.toUInt32.toInt32 :: st))) : own_G p e s below R n0 Q T (mkF m pc ls (.int a :: st)) := by
  obtain ⟨_, X, _, _, _, hx, _, _, hby, _⟩ := S; subst hp
  exact own_by (fun _ k => XT.i2c X.here hx rfl (hb hby hd) rfl k) H
theorem own_dup {a : Value} (S : own_S p l e s m args below meth c Z a0 n0 y code mx ret R T h cells slots) (hp : pc + 1 = pc') (hd : decode code pc = .ok (.dup, 1)) (hc : a.category = 1)
    (H : own_G p e s below R n0 Q T (mkF m pc' ls (a :: a :: st))) : own_G p e s below R n0 Q T (mkF m pc ls (a :: st)) := by
  obtain ⟨_, X, _, _, _, hx, _, _, hby, _⟩ := S; subst hp
  exact own_by (fun _ k => XS.dup X.here hx rfl (hb hby hd) rfl hc k) H
theorem own_dup2 {a b : Value} (S : own_S p l e s m args below meth c Z a0 n0 y code mx ret R T h cells slots) (hp : pc + 1 = pc') (hd : decode code pc = .ok (.dup2, 1)) (hc : a.category = 1) (hc' : b.category = 1)
    (H : own_G p e s below R n0 Q T (mkF m pc' ls (a :: b :: a :: b :: st))) : own_G p e s below R n0 Q T (mkF m pc ls (a :: b :: st)) := by
  obtain ⟨_, X, _, _, _, hx, _, _, hby, _⟩ := S; subst hp
  exact own_by (fun _ k => XT.dup2 X.here hx rfl (hb hby hd) rfl hc hc' k) H
theorem own_istore {k : Nat} {v : Int32} (S : own_S p l e s m args below meth c Z a0 n0 y code mx ret R T h cells slots) (hp : pc + 2 = pc') (hd : decode code pc = .ok (.istore k, 2)) (hl : storeLocals ls k (.int v) = some ls')
    (H : own_G p e s below R n0 Q T (mkF m pc' ls' st)) : own_G p e s below R n0 Q T (mkF m pc ls (.int v :: st)) := by
  obtain ⟨_, X, _, _, _, hx, _, _, hby, _⟩ := S; subst hp
  exact own_by (fun _ k => XS.istore X.here hx rfl (hb hby hd) rfl hl k) H
theorem own_istoreN {k : Fin 4} {v : Int32} (S : own_S p l e s m args below meth c Z a0 n0 y code mx ret R T h cells slots) (hp : pc + 1 = pc') (hd : decode code pc = .ok (.istore_n k, 1)) (hl : storeLocals ls k.val (.int v) = some ls')
    (H : own_G p e s below R n0 Q T (mkF m pc' ls' st)) : own_G p e s below R n0 Q T (mkF m pc ls (.int v :: st)) := by
  obtain ⟨_, X, _, _, _, hx, _, _, hby, _⟩ := S; subst hp
  exact own_by (fun _ k => XS.istoreN X.here hx rfl (hb hby hd) rfl hl k) H
theorem own_astore {k : Nat} {v : Value} (S : own_S p l e s m args below meth c Z a0 n0 y code mx ret R T h cells slots) (hp : pc + 2 = pc') (hd : decode code pc = .ok (.astore k, 2)) (hv : v.isRef = true) (hl : storeLocals ls k v = some ls')
    (H : own_G p e s below R n0 Q T (mkF m pc' ls' st)) : own_G p e s below R n0 Q T (mkF m pc ls (v :: st)) := by
  obtain ⟨_, X, _, _, _, hx, _, _, hby, _⟩ := S; subst hp
  exact own_by (fun _ k => XS.astore X.here hx rfl (hb hby hd) rfl hv hl k) H
theorem own_astoreN {k : Fin 4} {v : Value} (S : own_S p l e s m args below meth c Z a0 n0 y code mx ret R T h cells slots) (hp : pc + 1 = pc') (hd : decode code pc = .ok (.astore_n k, 1)) (hv : v.isRef = true) (hl : storeLocals ls k.val v = some ls')
    (H : own_G p e s below R n0 Q T (mkF m pc' ls' st)) : own_G p e s below R n0 Q T (mkF m pc ls (v :: st)) := by
  obtain ⟨_, X, _, _, _, hx, _, _, hby, _⟩ := S; subst hp
  exact own_by (fun _ k => XS.astoreN X.here hx rfl (hb hby hd) rfl hv hl k) H
theorem own_iinc {k : Nat} {cst : Int} {x : Int32} (v : Int32) (S : own_S p l e s m args below meth c Z a0 n0 y code mx ret R T h cells slots) (hp : pc + 3 = pc') (hd : decode code pc = .ok (.iinc k cst, 3)) (hv : Int32.ofInt cst = v) (hl : ls[k]? = some (.val (.int x))) (hl' : storeLocals ls k (.int (x + v)) = some ls')
    (H : own_G p e s below R n0 Q T (mkF m pc' ls' st)) : own_G p e s below R n0 Q T (mkF m pc ls st) := by
  obtain ⟨_, X, _, _, _, hx, _, _, hby, _⟩ := S; subst hp
  exact own_by (fun _ k => XT.iincV X.here hx rfl v (hb hby hd) hv hl hl' k) H
theorem own_goto {o : Int} (S : own_S p l e s m args below meth c Z a0 n0 y code mx ret R T h cells slots) (ho : 0 ≤ (pc : Int) + o) (hp : ((pc : Int) + o).toNat = pc') (hd : decode code pc = .ok (.goto o, 3))
    (H : own_G p e s below R n0 Q T (mkF m pc' ls st)) : own_G p e s below R n0 Q T (mkF m pc ls st) := by
  obtain ⟨_, X, _, _, _, hx, _, _, hby, _⟩ := S
  exact own_by (fun _ k => XS.goto X.here hx rfl rfl (hb hby hd) ho hp k) H
-- branches
theorem own_icY {cd : ClassFile.Cond} {a b : Int32} {o : Int} (S : own_S p l e s m args below meth c Z a0 n0 y code mx ret R T h cells slots) (ho : 0 ≤ (pc : Int) + o) (hp : ((pc : Int) + o).toNat = pc') (hd : decode code pc = .ok (.if_icmp cd o, 3)) (hc : if_icmp.holds cd a b = true)
    (H : own_G p e s below R n0 Q T (mkF m pc' ls st)) : own_G p e s below R n0 Q T (mkF m pc ls (.int b :: .int a :: st)) := by
  obtain ⟨_, X, _, _, _, hx, _, _, hby, _⟩ := S
  exact own_by (fun _ k => XS.icmpYes X.here hx rfl rfl (hb hby hd) rfl hc ho hp k) H
theorem own_icN {cd : ClassFile.Cond} {a b : Int32} {o : Int} (S : own_S p l e s m args below meth c Z a0 n0 y code mx ret R T h cells slots) (hp : pc + 3 = pc') (hd : decode code pc = .ok (.if_icmp cd o, 3)) (hc : if_icmp.holds cd a b = false)
    (H : own_G p e s below R n0 Q T (mkF m pc' ls st)) : own_G p e s below R n0 Q T (mkF m pc ls (.int b :: .int a :: st)) := by
  obtain ⟨_, X, _, _, _, hx, _, _, hby, _⟩ := S; subst hp
  exact own_by (fun _ k => XS.icmpNo X.here hx rfl (hb hby hd) rfl hc k) H
theorem own_ifY {cd : ClassFile.Cond} {a : Int32} {o : Int} (S : own_S p l e s m args below meth c Z a0 n0 y code mx ret R T h cells slots) (ho : 0 ≤ (pc : Int) + o) (hp : ((pc : Int) + o).toNat = pc') (hd : decode code pc = .ok (.ifCond cd o, 3)) (hc : ifCond.holds cd a = true)
    (H : own_G p e s below R n0 Q T (mkF m pc' ls st)) : own_G p e s below R n0 Q T (mkF m pc ls (.int a :: st)) := by
  obtain ⟨_, X, _, _, _, hx, _, _, hby, _⟩ := S
  exact own_by (fun _ k => XS.ifYes X.here hx rfl rfl (hb hby hd) rfl hc ho hp k) H
theorem own_ifN {cd : ClassFile.Cond} {a : Int32} {o : Int} (S : own_S p l e s m args below meth c Z a0 n0 y code mx ret R T h cells slots) (hp : pc + 3 = pc') (hd : decode code pc = .ok (.ifCond cd o, 3)) (hc : ifCond.holds cd a = false)
    (H : own_G p e s below R n0 Q T (mkF m pc' ls st)) : own_G p e s below R n0 Q T (mkF m pc ls (.int a :: st)) := by
  obtain ⟨_, X, _, _, _, hx, _, _, hby, _⟩ := S; subst hp
  exact own_by (fun _ k => XS.ifNo X.here hx rfl (hb hby hd) rfl hc k) H
theorem own_nullN {b : Addr} {o : Int} (S : own_S p l e s m args below meth c Z a0 n0 y code mx ret R T h cells slots) (hp : pc + 3 = pc') (hd : decode code pc = .ok (.ifnull o, 3))
    (H : own_G p e s below R n0 Q T (mkF m pc' ls st)) : own_G p e s below R n0 Q T (mkF m pc ls (.ref b :: st)) := by
  obtain ⟨_, X, _, _, _, hx, _, _, hby, _⟩ := S; subst hp
  exact own_by (fun _ k => XS.ifnullNo X.here hx rfl (hb hby hd) rfl k) H
theorem own_nonnullY {b : Addr} {o : Int} (S : own_S p l e s m args below meth c Z a0 n0 y code mx ret R T h cells slots) (ho : 0 ≤ (pc : Int) + o) (hp : ((pc : Int) + o).toNat = pc') (hd : decode code pc = .ok (.ifnonnull o, 3))
    (H : own_G p e s below R n0 Q T (mkF m pc' ls st)) : own_G p e s below R n0 Q T (mkF m pc ls (.ref b :: st)) := by
  obtain ⟨_, X, _, _, _, hx, _, _, hby, _⟩ := S
  exact own_by (fun _ k => XT.ifnonnullYes X.here hx rfl rfl (hb hby hd) rfl ho hp k) H
theorem own_nonnullN {o : Int} (S : own_S p l e s m args below meth c Z a0 n0 y code mx ret R T h cells slots) (hp : pc + 3 = pc') (hd : decode code pc = .ok (.ifnonnull o, 3))
    (H : own_G p e s below R n0 Q T (mkF m pc' ls st)) : own_G p e s below R n0 Q T (mkF m pc ls (.null :: st)) := by
  obtain ⟨_, X, _, _, _, hx, _, _, hby, _⟩ := S; subst hp
  exact own_by (fun _ k => XT.ifnonnullNo X.here hx rfl (hb hby hd) rfl k) H
-- both roads at once
theorem own_ic {cd : ClassFile.Cond} {a b : Int32} {o : Int} {pt : Nat} (S : own_S p l e s m args below meth c Z a0 n0 y code mx ret R T h cells slots) (ho : 0 ≤ (pc : Int) + o) (hp : ((pc : Int) + o).toNat = pt) (hp' : pc + 3 = pc') (hd : decode code pc = .ok (.if_icmp cd o, 3))
    (H : if_icmp.holds cd a b = true → own_G p e s below R n0 Q T (mkF m pt ls st)) (H' : if_icmp.holds cd a b = false → own_G p e s below R n0 Q T (mkF m pc' ls st)) : own_G p e s below R n0 Q T (mkF m pc ls (.int b :: .int a :: st)) := by
  cases hc : if_icmp.holds cd a b with
  | true => exact own_icY S ho hp hd hc (H hc)
  | false => exact own_icN S hp' hd hc (H' hc)
theorem own_if {cd : ClassFile.Cond} {a : Int32} {o : Int} {pt : Nat} (S : own_S p l e s m args below meth c Z a0 n0 y code mx ret R T h cells slots) (ho : 0 ≤ (pc : Int) + o) (hp : ((pc : Int) + o).toNat = pt) (hp' : pc + 3 = pc') (hd : decode code pc = .ok (.ifCond cd o, 3))
    (H : ifCond.holds cd a = true → own_G p e s below R n0 Q T (mkF m pt ls st)) (H' : ifCond.holds cd a = false → own_G p e s below R n0 Q T (mkF m pc' ls st)) : own_G p e s below R n0 Q T (mkF m pc ls (.int a :: st)) := by
  cases hc : ifCond.holds cd a with
  | true => exact own_ifY S ho hp hd hc (H hc)
  | false => exact own_ifN S hp' hd hc (H' hc)
-- what a comparison's outcome says of the numbers
theorem own_lt_t {a b : Int32} (h : if_icmp.holds .lt a b = true) : a.toInt < b.toInt := Int32.lt_iff_toInt_lt.mp (by simpa [if_icmp.holds] using h)
theorem own_lt_f {a b : Int32} (h : if_icmp.holds .lt a b = false) : b.toInt ≤ a.toInt := by
  have q : ¬ a < b := by simpa [if_icmp.holds] using h
  rw [Int32.lt_iff_toInt_lt] at q; omega
theorem own_cmp (a b : Int32) : (if_icmp.holds .ge a b = !if_icmp.holds .lt a b) ∧ (if_icmp.holds .gt a b = if_icmp.holds .lt b a) ∧ (if_icmp.holds .le a b = !if_icmp.holds .lt b a) ∧ (if_icmp.holds .ne a b = !if_icmp.holds .eq a b) := by
  refine ⟨?_, ?_, ?_, ?_⟩
  · by_cases q : a < b
    · rw [(tlt q).1, (tlt q).2.1]; rfl
    · rw [(flt q).1, (flt q).2.1]; rfl
  · by_cases q : b < a
    · rw [(tlt q).1, (tlt q).2.2.1]
    · rw [(flt q).1, (flt q).2.2.1]
  · by_cases q : b < a
    · rw [(tlt q).1, (tlt q).2.2.2]; rfl
    · rw [(flt q).1, (flt q).2.2.2]; rfl
  · by_cases q : a = b
    · rw [(teq q).1, (teq q).2]; rfl
    · rw [(feq q).1, (feq q).2]; rfl
theorem own_ge_t {a b : Int32} (h : if_icmp.holds .ge a b = true) : b.toInt ≤ a.toInt := own_lt_f (by rw [(own_cmp a b).1] at h; simpa using h)
theorem own_ge_f {a b : Int32} (h : if_icmp.holds .ge a b = false) : a.toInt < b.toInt := own_lt_t (by rw [(own_cmp a b).1] at h; simpa using h)
theorem own_gt_t {a b : Int32} (h : if_icmp.holds .gt a b = true) : b.toInt < a.toInt := own_lt_t (by rw [(own_cmp a b).2.1] at h; exact h)
theorem own_gt_f {a b : Int32} (h : if_icmp.holds .gt a b = false) : a.toInt ≤ b.toInt := own_lt_f (by rw [(own_cmp a b).2.1] at h; exact h)
theorem own_le_t {a b : Int32} (h : if_icmp.holds .le a b = true) : a.toInt ≤ b.toInt := own_lt_f (by rw [(own_cmp a b).2.2.1] at h; simpa using h)
theorem own_le_f {a b : Int32} (h : if_icmp.holds .le a b = false) : b.toInt < a.toInt := own_lt_t (by rw [(own_cmp a b).2.2.1] at h; simpa using h)
theorem own_eq_t {a b : Int32} (h : if_icmp.holds .eq a b = true) : a = b := by
  by_cases q : a = b
  · exact q
  · rw [(feq q).1] at h; cases h
theorem own_eq_f {a b : Int32} (h : if_icmp.holds .eq a b = false) : ¬ a = b := fun q => by rw [(teq q).1] at h; cases h
theorem own_ne_t {a b : Int32} (h : if_icmp.holds .ne a b = true) : ¬ a = b := fun q => by rw [(teq q).2] at h; cases h
theorem own_ne_f {a b : Int32} (h : if_icmp.holds .ne a b = false) : a = b := by
  by_cases q : a = b
  · exact q
  · rw [(feq q).2] at h; cases h
theorem own_ten {a b : Int32} (h : ¬ a = b) : ¬ a.toInt = b.toInt := fun q => h (Int32.toInt_inj.mp q)
-- and back
theorem own_t_lt {a b : Int32} (h : a.toInt < b.toInt) : if_icmp.holds .lt a b = true := (tlt (Int32.lt_iff_toInt_lt.mpr h)).1
theorem own_f_lt {a b : Int32} (h : b.toInt ≤ a.toInt) : if_icmp.holds .lt a b = false := (flt (fun q => by rw [Int32.lt_iff_toInt_lt] at q; omega)).1
theorem own_t_ge {a b : Int32} (h : b.toInt ≤ a.toInt) : if_icmp.holds .ge a b = true := by rw [(own_cmp a b).1, own_f_lt h]; rfl
theorem own_f_ge {a b : Int32} (h : a.toInt < b.toInt) : if_icmp.holds .ge a b = false := by rw [(own_cmp a b).1, own_t_lt h]; rfl
theorem own_t_gt {a b : Int32} (h : b.toInt < a.toInt) : if_icmp.holds .gt a b = true := by rw [(own_cmp a b).2.1, own_t_lt h]
theorem own_f_gt {a b : Int32} (h : a.toInt ≤ b.toInt) : if_icmp.holds .gt a b = false := by rw [(own_cmp a b).2.1, own_f_lt h]
theorem own_t_le {a b : Int32} (h : a.toInt ≤ b.toInt) : if_icmp.holds .le a b = true := by rw [(own_cmp a b).2.2.1, own_f_lt h]; rfl
theorem own_f_le {a b : Int32} (h : b.toInt < a.toInt) : if_icmp.holds .le a b = false := by rw [(own_cmp a b).2.2.1, own_t_lt h]; rfl
theorem own_t_eq {a b : Int32} (h : a = b) : if_icmp.holds .eq a b = true := (teq h).1
theorem own_f_eq {a b : Int32} (h : ¬ a = b) : if_icmp.holds .eq a b = false := (feq h).1
theorem own_t_ne {a b : Int32} (h : ¬ a = b) : if_icmp.holds .ne a b = true := (feq h).2
theorem own_f_ne {a b : Int32} (h : a = b) : if_icmp.holds .ne a b = false := (teq h).2
-- returns
theorem own_retI {z : Int32} (S : own_S p l e s m args below meth c Z a0 n0 y code mx (some .int) R T h cells slots) (hd : decode code pc = .ok (.ireturn, 1)) (hk : cells ≤ R.cells) (hn : slots ≤ R.slots) (HQ : Q (some (.int z)) h) : own_G p e s below R n0 Q T (mkF m pc ls (.int z :: st)) := by
  obtain ⟨locs, X, eT, N, _, hx, _, _, hby, _, _, _, hlk, hret⟩ := S
  obtain ⟨fs, hr, hrun, hended, hW, hsame⟩ := X.leave (v := some (.int z)) (fun q => by rw [hret] at q; cases q) hlk
  exact ⟨_, _, retOut X hx hret rfl (Or.inl ⟨rfl, Or.inl rfl, z, rfl⟩) (hb hby hd) hr, hrun, hended, _, locs, rfl, ⟨by show Q _ T.heap; rw [eT]; exact HQ, N⟩, ⟨_, rfl⟩, hW, hsame.mono hk hn⟩
theorem own_retZ {z : Int32} (hz : z = 0 ∨ z = 1) (S : own_S p l e s m args below meth c Z a0 n0 y code mx (some .boolean) R T h cells slots) (hd : decode code pc = .ok (.ireturn, 1)) (hk : cells ≤ R.cells) (hn : slots ≤ R.slots) (HQ : Q (some (.int z)) h) : own_G p e s below R n0 Q T (mkF m pc ls (.int z :: st)) := by
  obtain ⟨locs, X, eT, N, _, hx, _, _, hby, _, _, _, hlk, hret⟩ := S
  obtain ⟨fs, hr, hrun, hended, hW, hsame⟩ := X.leave (v := some (.int z)) (fun q => by rw [hret] at q; cases q) hlk
  have hnz : narrow .boolean (.int z) = .int z := by rcases hz with rfl | rfl <;> rfl
  exact ⟨_, _, retOut X hx hret hnz (Or.inl ⟨rfl, Or.inr (Or.inl rfl), z, rfl⟩) (hb hby hd) hr, hrun, hended, _, locs, rfl, ⟨by show Q _ T.heap; rw [eT]; exact HQ, N⟩, ⟨_, rfl⟩, hW, hsame.mono hk hn⟩
theorem own_retB {z : Int32} (hz : z.toInt8.toInt32 = z) (S : own_S p l e s m args below meth c Z a0 n0 y code mx (some .byte) R T h cells slots) (hd : decode code pc = .ok (.ireturn, 1)) (hk : cells ≤ R.cells) (hn : slots ≤ R.slots) (HQ : Q (some (.int z)) h) : own_G p e s below R n0 Q T (mkF m pc ls (.int z :: st)) := by
  obtain ⟨locs, X, eT, N, _, hx, _, _, hby, _, _, _, hlk, hret⟩ := S
  obtain ⟨fs, hr, hrun, hended, hW, hsame⟩ := X.leave (v := some (.int z)) (fun q => by rw [hret] at q; cases q) hlk
  have hnz : narrow .byte (.int z) = .int z := by show Value.int z.toInt8.toInt32 = _; rw [hz]
  exact ⟨_, _, retOut X hx hret hnz (Or.inl ⟨rfl, Or.inr (Or.inr (Or.inl rfl)), z, rfl⟩) (hb hby hd) hr, hrun, hended, _, locs, rfl, ⟨by show Q _ T.heap; rw [eT]; exact HQ, N⟩, ⟨_, rfl⟩, hW, hsame.mono hk hn⟩
theorem own_retA {w : Value} {t : FieldType} (hw : w.isRef = true) (ht : t.isReference = true) (S : own_S p l e s m args below meth c Z a0 n0 y code mx (some t) R T h cells slots) (hd : decode code pc = .ok (.areturn, 1)) (hk : cells ≤ R.cells) (hn : slots ≤ R.slots) (HQ : Q (some w) h) : own_G p e s below R n0 Q T (mkF m pc ls (w :: st)) := by
  obtain ⟨locs, X, eT, N, _, hx, _, _, hby, _, _, _, hlk, hret⟩ := S
  obtain ⟨fs, hr, hrun, hended, hW, hsame⟩ := X.leave (v := some w) (fun q => by rw [hret] at q; cases q) hlk
  have hnz : narrow t w = w := by rcases ref_cases hw with rfl | ⟨b, rfl⟩ <;> cases t <;> rfl
  exact ⟨_, _, retOut X hx hret hnz (Or.inr (Or.inr (Or.inr (Or.inr ⟨rfl, ht, hw⟩)))) (hb hby hd) hr, hrun, hended, _, locs, rfl, ⟨by show Q _ T.heap; rw [eT]; exact HQ, N⟩, ⟨_, rfl⟩, hW, hsame.mono hk hn⟩
theorem own_ret (S : own_S p l e s m args below meth c Z a0 n0 y code mx none R T h cells slots) (hd : decode code pc = .ok (.return_, 1)) (hk : cells ≤ R.cells) (hn : slots ≤ R.slots) (HQ : Q none h) : own_G p e s below R n0 Q T (mkF m pc ls []) := by
  obtain ⟨locs, X, eT, N, _, hx, _, _, hby, _, _, _, hlk, hret⟩ := S
  obtain ⟨fs, hr, hrun, hended, hW, hsame⟩ := X.leave (v := none) (fun _ => rfl) hlk
  exact ⟨_, _, X.returnOut hx hret (hb hby hd) hr, hrun, hended, _, locs, rfl, ⟨by show Q _ T.heap; rw [eT]; exact HQ, N⟩, ⟨_, rfl⟩, hW, hsame.mono hk hn⟩
-- arrays
/-- at a stands an array of n places of the kind ty; place j holds g j -/
def own_A (Z : State) (h : Heap) (a : Addr) (ty : FieldType) (n : Nat) (g : Nat → Value) : Prop := ∃ cl : Cell, Arr Z h a cl ty ∧ cl.slots.size = n ∧ ∀ j, j < n → cl.slots[j]? = some (g j)
def own_upd (g : Nat → Value) (k : Nat) (v : Value) : Nat → Value := fun j => if j = k then v else g j
theorem own_Alt {a : Addr} {ty : FieldType} {n : Nat} {g : Nat → Value} (A : own_A Z h a ty n g) : a < h.size := by obtain ⟨_, A, _⟩ := A; exact A.lt
theorem own_Aext {h' : Heap} {a : Addr} {ty : FieldType} {n : Nat} {g : Nat → Value} (A : own_A Z h a ty n g) (E : Ext h h') : own_A Z h' a ty n g := by obtain ⟨cl, A, r⟩ := A; exact ⟨cl, A.ext E, r⟩
theorem own_Awr {h' : Heap} {a b : Addr} {ty : FieldType} {n sl : Nat} {v : Value} {g : Nat → Value} (A : own_A Z h a ty n g) (W : Wr h h' b sl v) (ne : a ≠ b) : own_A Z h' a ty n g := by obtain ⟨cl, A, r⟩ := A; exact ⟨cl, A.other W ne, r⟩
theorem own_Akeep {h' : Heap} {a : Addr} {ty : FieldType} {n : Nat} {ws : List Addr} {g : Nat → Value} (A : own_A Z h a ty n g) (K : Keep h h' ws) (q : a ∉ ws) : own_A Z h' a ty n g := by obtain ⟨cl, A, r⟩ := A; exact ⟨cl, ⟨K.2.1 a cl A.1 q, A.2⟩, r⟩
theorem own_Aof {a : Addr} {ty : FieldType} {n : Nat} {g g' : Nat → Value} (A : own_A Z h a ty n g) (q : ∀ j, j < n → g j = g' j) : own_A Z h a ty n g' := by obtain ⟨cl, A, r, t⟩ := A; exact ⟨cl, A, r, fun j hj => by rw [← q j hj]; exact t j hj⟩
theorem own_ix {x : Int32} {k : Nat} (hi : x.toInt = k) : x.toNatClampNeg = k ∧ ¬ x < 0 := by
  refine ⟨by rw [Int32.toNatClampNeg, hi]; rfl, ?_⟩
  rw [Int32.lt_iff_toInt_lt, hi, show (0 : Int32).toInt = 0 from rfl]; omega
theorem own_in {x : Int32} {k n : Nat} {cl : Cell} (hi : x.toInt = k) (hk : k < n) (hs : cl.slots.size = n) : ¬ (x < 0 ∨ cl.slots.size ≤ x.toNatClampNeg) := by
  obtain ⟨q1, q2⟩ := own_ix hi
  rw [hs, q1]
  exact fun q => q.elim q2 (fun q => by omega)
theorem own_iaload {a : Addr} {x w : Int32} {k n : Nat} {g : Nat → Value} (S : own_S p l e s m args below meth c Z a0 n0 y code mx ret R T h cells slots) (A : own_A Z h a .int n g) (hi : x.toInt = k) (hk : k < n) (hv : g k = .int w) (hp : pc + 1 = pc') (hd : decode code pc = .ok (.iaload, 1))
    (H : own_G p e s below R n0 Q T (mkF m pc' ls (.int w :: st))) : own_G p e s below R n0 Q T (mkF m pc ls (.int x :: .ref a :: st)) := by
  obtain ⟨_, X, eT, _, _, hx, hZ, _, hby, _⟩ := S; subst hp
  obtain ⟨cl, Ar, hs, ht⟩ := A
  exact own_by (fun t k => X.iaload hx (g := mkF m pc ls (.int x :: .ref a :: st)) (by rw [eT]; exact Ar.1) (State.isArrayOf_alike hZ.alike Ar.2.1) Ar.2.2 (own_in hi hk hs) (by rw [(own_ix hi).1, ht _ hk, hv]) rfl rfl (hb hby hd) t k) H
theorem own_baloadB {a : Addr} {x w : Int32} {k n : Nat} {g : Nat → Value} (S : own_S p l e s m args below meth c Z a0 n0 y code mx ret R T h cells slots) (A : own_A Z h a .byte n g) (hi : x.toInt = k) (hk : k < n) (hv : g k = .int w) (hp : pc + 1 = pc') (hd : decode code pc = .ok (.baload, 1))
    (H : own_G p e s below R n0 Q T (mkF m pc' ls (.int w :: st))) : own_G p e s below R n0 Q T (mkF m pc ls (.int x :: .ref a :: st)) := by
  obtain ⟨_, X, eT, _, _, hx, hZ, _, hby, _⟩ := S; subst hp
  obtain ⟨cl, Ar, hs, ht⟩ := A
  exact own_by (fun t k => X.baloadBytes hx (g := mkF m pc ls (.int x :: .ref a :: st)) (by rw [eT]; exact Ar.1) (State.isArrayOf_alike hZ.alike Ar.2.1) Ar.2.2 (own_in hi hk hs) (by rw [(own_ix hi).1, ht _ hk, hv]) rfl rfl (hb hby hd) t k) H
theorem own_baloadZ {a : Addr} {x w : Int32} {k n : Nat} {g : Nat → Value} (S : own_S p l e s m args below meth c Z a0 n0 y code mx ret R T h cells slots) (A : own_A Z h a .boolean n g) (hi : x.toInt = k) (hk : k < n) (hv : g k = .int w) (hp : pc + 1 = pc') (hd : decode code pc = .ok (.baload, 1))
    (H : own_G p e s below R n0 Q T (mkF m pc' ls (.int w :: st))) : own_G p e s below R n0 Q T (mkF m pc ls (.int x :: .ref a :: st)) := by
  obtain ⟨_, X, eT, _, _, hx, hZ, _, hby, _⟩ := S; subst hp
  obtain ⟨cl, Ar, hs, ht⟩ := A
  exact own_by (fun t k => X.baloadBooleans hx (g := mkF m pc ls (.int x :: .ref a :: st)) (by rw [eT]; exact Ar.1) (State.isArrayOf_alike hZ.alike Ar.2.1) Ar.2.2 (own_in hi hk hs) (by rw [(own_ix hi).1, ht _ hk, hv]) rfl rfl (hb hby hd) t k) H
theorem own_caload {a : Addr} {x w : Int32} {k n : Nat} {g : Nat → Value} (S : own_S p l e s m args below meth c Z a0 n0 y code mx ret R T h cells slots) (A : own_A Z h a .char n g) (hi : x.toInt = k) (hk : k < n) (hv : g k = .int w) (hp : pc + 1 = pc') (hd : decode code pc = .ok (.caload, 1))
    (H : own_G p e s below R n0 Q T (mkF m pc' ls (.int w :: st))) : own_G p e s below R n0 Q T (mkF m pc ls (.int x :: .ref a :: st)) := by
  obtain ⟨_, X, eT, _, _, hx, hZ, _, hby, _⟩ := S; subst hp
  obtain ⟨cl, Ar, hs, ht⟩ := A
  exact own_by (fun t k => X.caload hx (g := mkF m pc ls (.int x :: .ref a :: st)) (by rw [eT]; exact Ar.1) (State.isArrayOf_alike hZ.alike Ar.2.1) Ar.2.2 (own_in hi hk hs) (by rw [(own_ix hi).1, ht _ hk, hv]) rfl rfl (hb hby hd) t k) H
theorem own_alen {a : Addr} {ty : FieldType} {w : Int32} {n : Nat} {g : Nat → Value} (S : own_S p l e s m args below meth c Z a0 n0 y code mx ret R T h cells slots) (A : own_A Z h a ty n g) (hv : w.toInt = n) (hp : pc + 1 = pc') (hd : decode code pc = .ok (.arraylength, 1))
    (H : own_G p e s below R n0 Q T (mkF m pc' ls (.int w :: st))) : own_G p e s below R n0 Q T (mkF m pc ls (.ref a :: st)) := by
  obtain ⟨_, X, eT, _, _, hx, hZ, _, hby, _⟩ := S; subst hp
  obtain ⟨cl, Ar, hs, ht⟩ := A
  have hq : cl.slots.size.toInt32 = w := by
    have := w.toInt_lt
    apply Int32.toInt_inj.mp
    rw [hs, len_toInt (by omega), hv]
  exact own_by (fun t k => X.arraylength hx (g := mkF m pc ls (.ref a :: st)) (by rw [eT]; exact Ar.1) (State.isArrayOf_alike hZ.alike Ar.2.1) rfl rfl (hb hby hd) t (by rw [hq]; exact k)) H
theorem own_Aset {h' : Heap} {a : Addr} {ty : FieldType} {n k : Nat} {v : Value} {g : Nat → Value} (A : own_A Z h a ty n g) (W : Wr h h' a k v) : own_A Z h' a ty n (own_upd g k v) := by
  obtain ⟨cl, Ar, hs, ht⟩ := A
  refine ⟨_, Ar.same W, by rw [sz_set]; exact hs, fun j hj => ?_⟩
  unfold own_upd
  by_cases q : j = k
  · subst q
    rw [if_pos rfl]
    have : j < cl.slots.size := by rw [hs]; exact hj
    simp [Cell.setSlot, this]
  · rw [if_neg q]
    simp only [Cell.setSlot]
    rw [Array.getElem?_setIfInBounds_ne (Ne.symm q)]
    exact ht j hj
theorem own_iastore {a : Addr} {x w : Int32} {k n : Nat} {g : Nat → Value} (S : own_S p l e s m args below meth c Z a0 n0 y code mx ret R T h cells slots) (A : own_A Z h a .int n g) (hi : x.toInt = k) (hk : k < n) (ha : n0 ≤ a) (hp : pc + 1 = pc') (hd : decode code pc = .ok (.iastore, 1))
    (H : ∀ T' h', own_S p l e s m args below meth c Z a0 n0 y code mx ret R T' h' cells slots → Wr h h' a k (.int w) → own_A Z h' a .int n (own_upd g k (.int w)) → own_G p e s below R n0 Q T' (mkF m pc' ls st)) : own_G p e s below R n0 Q T (mkF m pc ls (.int w :: .int x :: .ref a :: st)) := by
  obtain ⟨locs, X, eT, N, hn, hx, hZ, hw, hby, r⟩ := S; subst hp
  have A' := A
  obtain ⟨cl, Ar, hs, ht⟩ := A
  obtain ⟨T', h', X', e', W, stp⟩ := stI X hx hZ eT Ar (j := x) (own_in hi hk hs) (g := mkF m pc ls (.int w :: .int x :: .ref a :: st)) rfl rfl (hb hby hd)
  have N' := Fr.snoc X' N ha
  rw [(own_ix hi).1] at W
  exact own_by stp (H T' h' ⟨_, X', e', N', hn, hx, hZ, hw, hby, r⟩ W (own_Aset A' W))
theorem own_bastoreB {a : Addr} {x w : Int32} {k n : Nat} {g : Nat → Value} (S : own_S p l e s m args below meth c Z a0 n0 y code mx ret R T h cells slots) (A : own_A Z h a .byte n g) (hi : x.toInt = k) (hk : k < n) (ha : n0 ≤ a) (hp : pc + 1 = pc') (hd : decode code pc = .ok (.bastore, 1))
    (H : ∀ T' h', own_S p l e s m args below meth c Z a0 n0 y code mx ret R T' h' cells slots → Wr h h' a k (.int (nar .byte w)) → own_A Z h' a .byte n (own_upd g k (.int (nar .byte w))) → own_G p e s below R n0 Q T' (mkF m pc' ls st)) : own_G p e s below R n0 Q T (mkF m pc ls (.int w :: .int x :: .ref a :: st)) := by
  obtain ⟨locs, X, eT, N, hn, hx, hZ, hw, hby, r⟩ := S; subst hp
  have A' := A
  obtain ⟨cl, Ar, hs, ht⟩ := A
  obtain ⟨T', h', X', e', W, stp⟩ := stB X hx hZ eT Ar (j := x) (own_in hi hk hs) (g := mkF m pc ls (.int w :: .int x :: .ref a :: st)) rfl rfl (hb hby hd)
  have N' := Fr.snoc X' N ha
  rw [(own_ix hi).1] at W
  exact own_by stp (H T' h' ⟨_, X', e', N', hn, hx, hZ, hw, hby, r⟩ W (own_Aset A' W))
theorem own_bastoreZ {a : Addr} {x w : Int32} {k n : Nat} {g : Nat → Value} (S : own_S p l e s m args below meth c Z a0 n0 y code mx ret R T h cells slots) (A : own_A Z h a .boolean n g) (hi : x.toInt = k) (hk : k < n) (ha : n0 ≤ a) (hp : pc + 1 = pc') (hd : decode code pc = .ok (.bastore, 1))
    (H : ∀ T' h', own_S p l e s m args below meth c Z a0 n0 y code mx ret R T' h' cells slots → Wr h h' a k (.int (nar .boolean w)) → own_A Z h' a .boolean n (own_upd g k (.int (nar .boolean w))) → own_G p e s below R n0 Q T' (mkF m pc' ls st)) : own_G p e s below R n0 Q T (mkF m pc ls (.int w :: .int x :: .ref a :: st)) := by
  obtain ⟨locs, X, eT, N, hn, hx, hZ, hw, hby, r⟩ := S; subst hp
  have A' := A
  obtain ⟨cl, Ar, hs, ht⟩ := A
  obtain ⟨T', h', X', e', W, stp⟩ := stZ X hx hZ eT Ar (j := x) (own_in hi hk hs) (g := mkF m pc ls (.int w :: .int x :: .ref a :: st)) rfl rfl (hb hby hd)
  have N' := Fr.snoc X' N ha
  rw [(own_ix hi).1] at W
  exact own_by stp (H T' h' ⟨_, X', e', N', hn, hx, hZ, hw, hby, r⟩ W (own_Aset A' W))
theorem own_castore {a : Addr} {x w : Int32} {k n : Nat} {g : Nat → Value} (S : own_S p l e s m args below meth c Z a0 n0 y code mx ret R T h cells slots) (A : own_A Z h a .char n g) (hi : x.toInt = k) (hk : k < n) (ha : n0 ≤ a) (hp : pc + 1 = pc') (hd : decode code pc = .ok (.castore, 1))
    (H : ∀ T' h', own_S p l e s m args below meth c Z a0 n0 y code mx ret R T' h' cells slots → Wr h h' a k (.int (nar .char w)) → own_A Z h' a .char n (own_upd g k (.int (nar .char w))) → own_G p e s below R n0 Q T' (mkF m pc' ls st)) : own_G p e s below R n0 Q T (mkF m pc ls (.int w :: .int x :: .ref a :: st)) := by
  obtain ⟨locs, X, eT, N, hn, hx, hZ, hw, hby, r⟩ := S; subst hp
  have A' := A
  obtain ⟨cl, Ar, hs, ht⟩ := A
  obtain ⟨T', h', X', e', W, stp⟩ := stC X hx hZ eT Ar (j := x) (own_in hi hk hs) (g := mkF m pc ls (.int w :: .int x :: .ref a :: st)) rfl rfl (hb hby hd)
  have N' := Fr.snoc X' N ha
  rw [(own_ix hi).1] at W
  exact own_by stp (H T' h' ⟨_, X', e', N', hn, hx, hZ, hw, hby, r⟩ W (own_Aset A' W))
theorem own_newarray {aty : ArrayType} {x : Int32} {n : Nat} (cap : Nat) (S : own_S p l e s m args below meth c Z a0 n0 y code mx ret R T h cells slots) (w : Jvm.Cond.arrayClass (newarray.typeOf aty) ∈ tables_1) (hi : x.toInt = n) (hcap : n ≤ cap) (hb8 : cap * 8 ≤ 536870912) (hc : cells + 1 ≤ R.cells) (hl : slots + cap ≤ R.slots) (hp : pc + 2 = pc') (hd : decode code pc = .ok (.newarray aty, 2))
    (H : ∀ T' h' a, a = h.size → n0 ≤ a → own_S p l e s m args below meth c Z a0 n0 y code mx ret R T' h' (cells + 1) (slots + cap) → Ext h h' → own_A Z h' a (newarray.typeOf aty) n (fun _ => defaultValue (newarray.typeOf aty)) → own_G p e s below R n0 Q T' (mkF m pc' ls (.ref a :: st))) : own_G p e s below R n0 Q T (mkF m pc ls (.int x :: st)) := by
  obtain ⟨locs, X, eT, N, hn, hx, hZ, hw, hby, r⟩ := S; subst hp
  obtain ⟨q1, q2⟩ := own_ix hi
  obtain ⟨T', h', k, X', e', E, Ar, stp⟩ := newP X hx hZ (hw _ w) eT (g := mkF m pc ls (.int x :: st)) rfl (hb hby hd) rfl q2 (cap := cap) (by rw [q1]; exact hcap) hb8 hc hl
  refine own_by stp (H T' h' h.size rfl (by rw [← eT]; exact Nat.le_trans hn X.same.2.1) ⟨_, X', e', N, hn, hx, hZ, hw, hby, r⟩ E ⟨_, Ar, by rw [sz_new, q1], fun j hj => ?_⟩)
  simp [newA, q1, hj]
-- objects
theorem own_new {idx n : Nat} {C : String} (S : own_S p l e s m args below meth c Z a0 n0 y code mx ret R T h cells slots) (w1 : Jvm.Cond.classLink y.cls idx C ∈ tables_1) (w2 : Jvm.Cond.instantiable C n ∈ tables_1) (w3 : Jvm.Cond.initialized C ∈ tables_1) (hc : cells + 1 ≤ R.cells) (hl : slots + n ≤ R.slots) (hp : pc + 3 = pc') (hd : decode code pc = .ok (.new idx, 3))
    (H : ∀ T' h' a, a = h.size → n0 ≤ a → own_S p l e s m args below meth c Z a0 n0 y code mx ret R T' h' (cells + 1) (slots + n) → Ext h h' → Exa Z h' a C → (∀ {O nm d : String} {ty : FieldType}, (Jvm.Cond.lays C O nm d ∈ tables_1 ∨ Jvm.Cond.laysFinal C O nm d ∈ tables_1) → parseFieldDescriptor d = some ty → Fld Z h' a O nm d (defaultValue ty)) → own_G p e s below R n0 Q T' (mkF m pc' ls (.ref a :: st))) : own_G p e s below R n0 Q T (mkF m pc ls st) := by
  obtain ⟨locs, X, eT, N, hn, hx, hZ, hw, hby, hmx, hown, r⟩ := S; subst hp
  obtain ⟨T', h', X', e', E, A, D, -, stp⟩ := newO X hx hZ hown (hw _ w1) (hw _ w2) (hw _ w3) eT (g := mkF m pc ls st) rfl (hb hby hd) hc hl
  exact own_by stp (H T' h' h.size rfl (by rw [← eT]; exact Nat.le_trans hn X.same.2.1) ⟨_, X', e', N, hn, hx, hZ, hw, hby, hmx, hown, r⟩ E A (fun q ht => D (q.imp (hw _) (hw _)) ht))
theorem own_getfield {idx : Nat} {O n d : String} {a : Addr} {v : Value} (S : own_S p l e s m args below meth c Z a0 n0 y code mx ret R T h cells slots) (w : Jvm.Cond.fieldLink y.cls idx O n d ∈ tables_1) (F : Fld Z h a O n d v) (hp : pc + 3 = pc') (hd : decode code pc = .ok (.getfield idx, 3))
    (H : ∀ T', own_S p l e s m args below meth c Z a0 n0 y code mx ret R T' h cells slots → own_G p e s below R n0 Q T' (mkF m pc' ls (v :: st))) : own_G p e s below R n0 Q T (mkF m pc ls (.ref a :: st)) := by
  obtain ⟨locs, X, eT, N, hn, hx, hZ, hw, hby, hmx, hown, r⟩ := S; subst hp
  obtain ⟨T', X', e', stp⟩ := getF X hx hZ hown (host := "") (Or.inl (hw _ w)) Via.refl eT F (g := mkF m pc ls (.ref a :: st)) rfl rfl (hb hby hd)
  exact own_by stp (H T' ⟨_, X', e', N, hn, hx, hZ, hw, hby, hmx, hown, r⟩)
theorem own_putfield {idx kk : Nat} {O n d C : String} {a : Addr} {v old : Value} {ty : FieldType} (S : own_S p l e s m args below meth c Z a0 n0 y code mx ret R T h cells slots) (w : Jvm.Cond.fieldLink y.cls idx O n d ∈ tables_1) (F : Fld Z h a O n d old) (E : Exa Z h a C) (L : Jvm.Cond.lays C O n d ∈ tables_1 ∨ (Jvm.Cond.laysFinal C O n d ∈ tables_1 ∧ y.cls = O ∧ y.name = "<init>")) (wi : Jvm.Cond.instantiable C kk ∈ tables_1)
    (hty : parseFieldDescriptor d = some ty) (hnr : narrow ty v = v) (hf : fits ty v = true) (ha : n0 ≤ a) (hp : pc + 3 = pc') (hd : decode code pc = .ok (.putfield idx, 3))
    (H : ∀ T' h', own_S p l e s m args below meth c Z a0 n0 y code mx ret R T' h' cells slots → Wr h h' a (RoadKit.slotOf Z O n d) v → Fld Z h' a O n d v → own_G p e s below R n0 Q T' (mkF m pc' ls st)) : own_G p e s below R n0 Q T (mkF m pc ls (v :: .ref a :: st)) := by
  obtain ⟨locs, X, eT, N, hn, hx, hZ, hw, hby, hmx, hown, hnm, r⟩ := S; subst hp
  obtain ⟨T', h', X', e', W, stp⟩ := putF X hx hZ hown (host := "") (Or.inl (hw _ w)) Via.refl eT F E (L.imp (hw _) (fun q => ⟨hw _ q.1, q.2.1, hnm.trans q.2.2⟩)) (hw _ wi) hty hnr hf (g := mkF m pc ls (v :: .ref a :: st)) rfl rfl (hb hby hd)
  exact own_by stp (H T' h' ⟨_, X', e', Fr.snoc X' N ha, hn, hx, hZ, hw, hby, hmx, hown, hnm, r⟩ W (F.same W))
theorem own_initO {idx : Nat} {a : Addr} (S : own_S p l e s m args below meth c Z a0 n0 y code mx ret R T h cells slots) (w1 : Jvm.Cond.methodLink y.cls idx Lib.objectInit ∈ tables_1) (w2 : Jvm.Cond.instanceMethod Lib.objectInit ∈ tables_1) (w3 : Jvm.Cond.code Lib.objectInit ⟨#[0xb1]⟩ 1 none ∈ tables_1) (hsz : ls.size = mx) (hf : 1 ≤ R.frames) {W : Nat} (hW : (st.map fun v => v.category).sum ≤ W) (hl : W + 12 ≤ R.locals) (hp : pc + 3 = pc') (hd : decode code pc = .ok (.invokespecial idx, 3))
    (H : ∀ T', own_S p l e s m args below meth c Z a0 n0 y code mx ret R T' h cells slots → own_G p e s below R n0 Q T' (mkF m pc' ls st)) : own_G p e s below R n0 Q T (mkF m pc ls (.ref a :: st)) := by
  obtain ⟨locs, X, eT, N, hn, hx, hZ, hw, hby, hmx, hown, r⟩ := S; subst hp
  obtain ⟨T', X', e', stp⟩ := initO X hx hZ hown (hw _ w1) (hw _ w2) (hw _ w3) eT (g := mkF m pc ls (.ref a :: st)) rfl (by rw [hmx]; exact hsz) rfl (hb hby hd) hf (W := W) (by show 2 * 0 + _ ≤ _; omega) hl
  exact own_by stp (H T' ⟨_, X', e', N, hn, hx, hZ, hw, hby, hmx, hown, r⟩)
-- contracts
/-- yy, called at the heap h0 with the arguments as', returns as Q says -/
def own_Met (l : Launch) (Z : State) (h0 : Heap) (n0 : Nat) (yy : MethodName) (bytes : ByteArray) (mx : Nat) (ret : Option FieldType) (ws : List Jvm.Cond) (rm : Room) (as' : Array Value) (Q : Option Value → Heap → Prop) : Prop :=
  MetFree l yy (head1 (Jvm.Cond.code yy bytes mx ret :: ws) rm) (fun a U => a = as' ∧ Z.Warmed39 U.vm ∧ U.heap = h0) (fun _ _ _ _ _ => True) (fun _ U o U' => ∃ v L, o = .returned v ∧ (Q v U'.heap ∧ Fr n0 L) ∧ FrameEnd U o U' L rm.cells rm.slots)
theorem own_met {yy : MethodName} {bytes : ByteArray} {ws : List Jvm.Cond} {rm : Room} {as' : Array Value} {h0 : Heap} (hpn : plainName yy.cls = true) (hef : ∀ m, entryFrame m as' mx = mkF m 0 ls []) (hn : n0 ≤ h0.size) (hw : ∀ d ∈ tables_1, d.before a0 Z = true)
    (H : ∀ p e s m below meth c T, own_S p l e s m as' below meth c Z a0 n0 yy bytes mx ret rm T h0 0 0 → own_G p e s below rm n0 Q T (mkF m 0 ls [])) : own_Met l Z h0 n0 yy bytes mx ret ws rm as' Q := by
  refine MetFree.of_bodySF (plainFor_of_name hpn) hisR ?_
  intro p e s m args below meth c s₁ Bd hml0 hP hK
  obtain ⟨rfl, hZ, hh⟩ := hP
  have e0 : s₁.heap = h0 := by rw [← hh, Bd.state]; rfl
  rw [hef m]
  exact H p e s m below meth c s₁ ⟨[], Stand.of_body Bd, e0, Fr.nil n0, by rw [hh]; exact hn, Bd.exec, hZ, hw, Bd.bytes, hml0, findClass_of_methodNamed Bd.named, (name_of_methodNamed Bd.named Bd.method).1, Bd.notSynchronized, Bd.returns⟩
/-- what a method that hands back a value, or none, says -/
def own_V (q : Value → Heap → Prop) : Option Value → Heap → Prop := fun v h => ∃ w, v = some w ∧ q w h
def own_N (q : Heap → Prop) : Option Value → Heap → Prop := fun v h => v = none ∧ q h
theorem own_callS {idx : Nat} {yy : MethodName} {bytes : ByteArray} {maxL : Nat} {rt : Option FieldType} {rm : Room} {Q' : Option Value → Heap → Prop} {ps : List FieldType} {r' : Option FieldType} (argsL rest : List Value) (S : own_S p l e s m args below meth c Z a0 n0 y code mx ret R T h cells slots)
    (w1 : Jvm.Cond.methodLink y.cls idx yy ∈ tables_1) (w2 : Jvm.Cond.static yy ∈ tables_1) (w3 : Jvm.Cond.initialized yy.cls ∈ tables_1) (w4 : Jvm.Cond.code yy bytes maxL rt ∈ tables_1) (hy : yy.cls ≠ "java/lang/invoke/MethodHandle" ∧ yy.cls ≠ "java/lang/invoke/VarHandle")
    (M : own_Met l Z h n0 yy bytes maxL rt [] rm argsL.toArray Q') (hds : parseMethodDescriptor yy.desc = some ⟨ps, r'⟩) (hal : argsL.length = ps.length) (hst : st = argsL.reverse ++ rest) (hsz : ls.size = mx) {W : Nat} (hW : (rest.map fun v => v.category).sum ≤ W)
    (hfr : rm.frames + 1 ≤ R.frames) (hlo : W + (maxL + 11) + rm.locals ≤ R.locals) (hc : cells + rm.cells ≤ R.cells) (hs : slots + rm.slots ≤ R.slots) (hp : pc + 3 = pc') (hd : decode code pc = .ok (.invokestatic idx, 3))
    (H : ∀ T' h' v, own_S p l e s m args below meth c Z a0 n0 y code mx ret R T' h' (cells + rm.cells) (slots + rm.slots) → Q' v h' → own_G p e s below R n0 Q T' (mkF m pc' ls (v.toList ++ rest))) : own_G p e s below R n0 Q T (mkF m pc ls st) := by
  obtain ⟨locs, X, eT, N, hn, hx, hZ, hw, hby, hmx, hown, r⟩ := S; subst hp hst
  obtain ⟨v, _, ⟨T', L', k', n'⟩, -, X', ⟨Lc, hQ, l', y', z'⟩, stp⟩ := Jvm.LawKit.callS X hx (y := yy) hown (mvT hZ (hw _ w1)) (mvT hZ (hw _ w2)) (mvT hZ (hw _ w3)) (mvT hZ (hw _ w4)) hy (backOf (Q := fun v h L => Q' v h ∧ Fr n0 L) (W := W) M hZ (hw _ w4) (hw _ w3) hfr hlo) (g := mkF m pc ls (argsL.reverse ++ rest)) rfl (by rw [hmx]; exact hsz) (argsL := argsL) (rest := rest) (lenOf hds hal) rfl (by show 2 * 0 + _ ≤ _; omega) (hb hby hd) (fun _ _ => ⟨rfl, eT, hc, hs⟩)
  dsimp only [Pt.U, Pt.locs, Pt.cells, Pt.slots] at X' l' y' z' stp hQ
  subst l' y' z'
  exact own_by stp (H T' T'.heap v ⟨_, X', rfl, Fr.app N hQ.2, hn, hx, hZ, hw, hby, hmx, hown, r⟩ hQ.1)
theorem own_callI {idx : Nat} {yy : MethodName} {bytes : ByteArray} {maxL : Nat} {rm : Room} {Q' : Option Value → Heap → Prop} {ps : List FieldType} {r' : Option FieldType} (argsL rest : List Value) (S : own_S p l e s m args below meth c Z a0 n0 y code mx ret R T h cells slots) {b : Addr}
    (w1 : Jvm.Cond.methodLink y.cls idx yy ∈ tables_1) (w2 : Jvm.Cond.instanceMethod yy ∈ tables_1) (w3 : Jvm.Cond.initialized yy.cls ∈ tables_1) (w4 : Jvm.Cond.code yy bytes maxL none ∈ tables_1) (hnm : yy.name = "<init>") (hy : yy.cls ≠ "java/lang/invoke/MethodHandle" ∧ yy.cls ≠ "java/lang/invoke/VarHandle")
    (M : own_Met l Z h n0 yy bytes maxL none [] rm (.ref b :: argsL).toArray Q') (hds : parseMethodDescriptor yy.desc = some ⟨ps, r'⟩) (hal : argsL.length = ps.length) (hst : st = argsL.reverse ++ .ref b :: rest) (hsz : ls.size = mx) {W : Nat} (hW : (rest.map fun v => v.category).sum ≤ W)
    (hfr : rm.frames + 1 ≤ R.frames) (hlo : W + (maxL + 11) + rm.locals ≤ R.locals) (hc : cells + rm.cells ≤ R.cells) (hs : slots + rm.slots ≤ R.slots) (hp : pc + 3 = pc') (hd : decode code pc = .ok (.invokespecial idx, 3))
    (H : ∀ T' h' v, own_S p l e s m args below meth c Z a0 n0 y code mx ret R T' h' (cells + rm.cells) (slots + rm.slots) → Q' v h' → own_G p e s below R n0 Q T' (mkF m pc' ls (v.toList ++ rest))) : own_G p e s below R n0 Q T (mkF m pc ls st) := by
  obtain ⟨locs, X, eT, N, hn, hx, hZ, hw, hby, hmx, hown, r⟩ := S; subst hp hst
  obtain ⟨v, _, ⟨T', L', k', n'⟩, -, X', ⟨Lc, hQ, l', y', z'⟩, stp⟩ := X.specialBack hx (y := yy) hnm hown (mvT hZ (hw _ w1)) (mvT hZ (hw _ w2)) (mvT hZ (hw _ w4)) hy (backOf (Q := fun v h L => Q' v h ∧ Fr n0 L) (W := W) M hZ (hw _ w4) (hw _ w3) hfr hlo) (g := mkF m pc ls (argsL.reverse ++ .ref b :: rest)) rfl (by rw [hmx]; exact hsz) (Steps.refl _) (a := b) (argsL := argsL) (rest := rest) (lenOf hds hal) rfl (by show 2 * 0 + _ ≤ _; omega) (hb hby hd) (fun _ _ => ⟨rfl, eT, hc, hs⟩)
  dsimp only [Pt.U, Pt.locs, Pt.cells, Pt.slots] at X' l' y' z' stp hQ
  subst l' y' z'
  exact own_by (fun _ k => stp.trans k) (H T' T'.heap v ⟨_, X', rfl, Fr.app N hQ.2, hn, hx, hZ, hw, hby, hmx, hown, r⟩ hQ.1)
theorem own_callV {idx : Nat} {yy : MethodName} {bytes : ByteArray} {maxL : Nat} {rt : Option FieldType} {rm : Room} {Q' : Option Value → Heap → Prop} {ps : List FieldType} {r' : Option FieldType} (argsL rest : List Value) (S : own_S p l e s m args below meth c Z a0 n0 y code mx ret R T h cells slots) {b : Addr} {C : String}
    (w1 : Jvm.Cond.methodLink y.cls idx yy ∈ tables_1) (w2 : Jvm.Cond.declares yy ∈ tables_1) (w5 : Jvm.Cond.selects C yy yy ∈ tables_1) (w6 : Jvm.Cond.instanceMethod yy ∈ tables_1) (w3 : Jvm.Cond.initialized yy.cls ∈ tables_1) (w4 : Jvm.Cond.code yy bytes maxL rt ∈ tables_1) (hy : yy.cls ≠ "java/lang/invoke/MethodHandle" ∧ yy.cls ≠ "java/lang/invoke/VarHandle")
    (E : Exa Z h b C) (M : own_Met l Z h n0 yy bytes maxL rt [] rm (.ref b :: argsL).toArray Q') (hds : parseMethodDescriptor yy.desc = some ⟨ps, r'⟩) (hal : argsL.length = ps.length) (hst : st = argsL.reverse ++ .ref b :: rest) (hsz : ls.size = mx) {W : Nat} (hW : (rest.map fun v => v.category).sum ≤ W)
    (hfr : rm.frames + 1 ≤ R.frames) (hlo : W + (maxL + 11) + rm.locals ≤ R.locals) (hc : cells + rm.cells ≤ R.cells) (hs : slots + rm.slots ≤ R.slots) (hp : pc + 3 = pc') (hd : decode code pc = .ok (.invokevirtual idx, 3))
    (H : ∀ T' h' v, own_S p l e s m args below meth c Z a0 n0 y code mx ret R T' h' (cells + rm.cells) (slots + rm.slots) → Q' v h' → own_G p e s below R n0 Q T' (mkF m pc' ls (v.toList ++ rest))) : own_G p e s below R n0 Q T (mkF m pc ls st) := by
  obtain ⟨locs, X, eT, N, hn, hx, hZ, hw, hby, hmx, hown, r⟩ := S; subst hp hst
  obtain ⟨cq, kq, qa, qb, qc⟩ := isOf hZ eT E
  obtain ⟨v, _, ⟨T', L', k', n'⟩, -, X', ⟨Lc, hQ, l', y', z'⟩, stp⟩ := X.virtualBack hx (y := yy) (z := yy) hown (mvT hZ (hw _ w1)) (mvT hZ (hw _ w2)) (notFace_of_selects (args := #[]) (mvT hZ (hw _ w5))) (mvT hZ (hw _ w5)) (mvT hZ (hw _ w6)) hy (backOf (Q := fun v h L => Q' v h ∧ Fr n0 L) (W := W) M hZ (hw _ w4) (hw _ w3) hfr hlo) qa qc (g := mkF m pc ls (argsL.reverse ++ .ref b :: rest)) rfl (by rw [hmx]; exact hsz) (Steps.refl _) (argsL := argsL) (rest := rest) (lenOf hds hal) rfl (by show 2 * 0 + _ ≤ _; omega) (hb hby hd) (fun _ _ => ⟨rfl, eT, hc, hs⟩)
  dsimp only [Pt.U, Pt.locs, Pt.cells, Pt.slots] at X' l' y' z' stp hQ
  subst l' y' z'
  exact own_by (fun _ k => stp.trans k) (H T' T'.heap v ⟨_, X', rfl, Fr.app N hQ.2, hn, hx, hZ, hw, hby, hmx, hown, r⟩ hQ.1)
theorem own_callP {idx : Nat} {yy : MethodName} {bytes : ByteArray} {maxL : Nat} {rt : Option FieldType} {rm : Room} {Q' : Option Value → Heap → Prop} {ps : List FieldType} {r' : Option FieldType} (argsL rest : List Value) (S : own_S p l e s m args below meth c Z a0 n0 y code mx ret R T h cells slots) {b : Addr} {C : String} {kk : Nat}
    (w1 : Jvm.Cond.methodLink y.cls idx yy ∈ tables_1) (w6 : Jvm.Cond.instanceMethod yy ∈ tables_1) (w7 : Jvm.Cond.privateMethod yy ∈ tables_1) (w8 : Jvm.Cond.instantiable yy.cls kk ∈ tables_1) (w3 : Jvm.Cond.initialized yy.cls ∈ tables_1) (w4 : Jvm.Cond.code yy bytes maxL rt ∈ tables_1) (hy : yy.cls ≠ "java/lang/invoke/MethodHandle" ∧ yy.cls ≠ "java/lang/invoke/VarHandle")
    (E : Exa Z h b C) (M : own_Met l Z h n0 yy bytes maxL rt [] rm (.ref b :: argsL).toArray Q') (hds : parseMethodDescriptor yy.desc = some ⟨ps, r'⟩) (hal : argsL.length = ps.length) (hst : st = argsL.reverse ++ .ref b :: rest) (hsz : ls.size = mx) {W : Nat} (hW : (rest.map fun v => v.category).sum ≤ W)
    (hfr : rm.frames + 1 ≤ R.frames) (hlo : W + (maxL + 11) + rm.locals ≤ R.locals) (hc : cells + rm.cells ≤ R.cells) (hs : slots + rm.slots ≤ R.slots) (hp : pc + 3 = pc') (hd : decode code pc = .ok (.invokevirtual idx, 3))
    (H : ∀ T' h' v, own_S p l e s m args below meth c Z a0 n0 y code mx ret R T' h' (cells + rm.cells) (slots + rm.slots) → Q' v h' → own_G p e s below R n0 Q T' (mkF m pc' ls (v.toList ++ rest))) : own_G p e s below R n0 Q T (mkF m pc ls st) := by
  obtain ⟨locs, X, eT, N, hn, hx, hZ, hw, hby, hmx, hown, r⟩ := S; subst hp hst
  obtain ⟨cell, kx, c1, c2, c3, c4, -⟩ := E
  have hpriv : s.PrivateAt yy := Cond.privateMethod_at (mvP hZ (hw _ w7) (args := #[]))
  have hinst : (Jvm.Cond.instanceMethod yy).before args s = true := mvT hZ (hw _ w6)
  have hini : (Jvm.Cond.instantiable yy.cls kk).before args s = true := mvT hZ (hw _ w8)
  have hsel : (Jvm.Cond.selects yy.cls yy yy).before args s = true := by
    obtain ⟨cc, k, i1, i2, i3, i4, -⟩ := Cond.instantiable_spec hini
    exact Stand.selects_self_of_private i1 i2 (by simp only [Bool.or_eq_false_iff] at i4; exact i4.1) hpriv hinst hy
  obtain ⟨v, _, ⟨T', L', k', n'⟩, -, X', ⟨Lc, hQ, l', y', z'⟩, stp⟩ := X.privateBack hx (y := yy) hown (mvT hZ (hw _ w1)) hinst hsel hpriv (mvT hZ (hw _ w4)) hy (backOf (Q := fun v h L => Q' v h ∧ Fr n0 L) (W := W) M hZ (hw _ w4) (hw _ w3) hfr hlo) (g := mkF m pc ls (argsL.reverse ++ .ref b :: rest)) rfl (by rw [hmx]; exact hsz) (Steps.refl _) (a := b) (cell := cell) (by rw [eT]; exact c1) (fun q e => by rw [e] at c4; cases c4) (argsL := argsL) (rest := rest) (lenOf hds hal) rfl (by show 2 * 0 + _ ≤ _; omega) (hb hby hd) (fun _ _ => ⟨rfl, eT, hc, hs⟩)
  dsimp only [Pt.U, Pt.locs, Pt.cells, Pt.slots] at X' l' y' z' stp hQ
  subst l' y' z'
  exact own_by (fun _ k => stp.trans k) (H T' T'.heap v ⟨_, X', rfl, Fr.app N hQ.2, hn, hx, hZ, hw, hby, hmx, hown, r⟩ hQ.1)
theorem own_dupx1 {a b : Value} (S : own_S p l e s m args below meth c Z a0 n0 y code mx ret R T h cells slots) (hp : pc + 1 = pc') (hd : decode code pc = .ok (.dup_x1, 1)) (hc : a.category = 1) (hc' : b.category = 1)
    (H : own_G p e s below R n0 Q T (mkF m pc' ls (a :: b :: a :: st))) : own_G p e s below R n0 Q T (mkF m pc ls (a :: b :: st)) := by
  obtain ⟨_, X, _, _, _, hx, _, _, hby, _⟩ := S; subst hp
  exact own_by (fun _ k => XT.dupX1 X.here hx rfl (hb hby hd) rfl hc hc' k) H
theorem own_anewarray {idx : Nat} {C : String} {x : Int32} {n : Nat} (cap : Nat) (S : own_S p l e s m args below meth c Z a0 n0 y code mx ret R T h cells slots) (w1 : Jvm.Cond.classLink y.cls idx C ∈ tables_1) (w2 : Jvm.Cond.arrayOver (.object C) ∈ tables_1) (hi : x.toInt = n) (hcap : n ≤ cap) (hb8 : cap * 8 ≤ 536870912) (hc : cells + 1 ≤ R.cells) (hl : slots + cap ≤ R.slots) (hp : pc + 3 = pc') (hd : decode code pc = .ok (.anewarray idx, 3))
    (H : ∀ T' h' a, a = h.size → n0 ≤ a → own_S p l e s m args below meth c Z a0 n0 y code mx ret R T' h' (cells + 1) (slots + cap) → Ext h h' → own_G p e s below R n0 Q T' (mkF m pc' ls (.ref a :: st))) : own_G p e s below R n0 Q T (mkF m pc ls (.int x :: st)) := by
  obtain ⟨locs, X, eT, N, hn, hx, hZ, hw, hby, hmx, hown, r⟩ := S; subst hp
  obtain ⟨q1, q2⟩ := own_ix hi
  obtain ⟨T', h', k, X', e', E, Ar, -, stp⟩ := newR X hx hZ hown (hw _ w1) (hw _ w2) eT (g := mkF m pc ls (.int x :: st)) rfl (hb hby hd) rfl q2 (cap := cap) (by rw [q1]; exact hcap) hb8 hc hl
  exact own_by stp (H T' h' h.size rfl (by rw [← eT]; exact Nat.le_trans hn X.same.2.1) ⟨_, X', e', N, hn, hx, hZ, hw, hby, hmx, hown, r⟩ E)
/-- a cell is there, of a known kind -/
def own_U (h : Heap) (a : Addr) : Prop := ∃ cell : Cell, h[a]? = some cell ∧ cell.vm ≠ .unknown
theorem own_Uext {h h' : Heap} {a : Addr} (U : own_U h a) (E : Ext h h') : own_U h' a := by obtain ⟨cl, h1, h2⟩ := U; exact ⟨cl, E.2 _ _ h1, h2⟩
theorem own_Ukeep {h h' : Heap} {a : Addr} {ws : List Addr} (U : own_U h a) (K : Keep h h' ws) : own_U h' a := by obtain ⟨cl, h1, h2⟩ := U; obtain ⟨c', q1, _, q2, _⟩ := K.2.2 _ _ h1; exact ⟨c', q1, by rw [q2]; exact h2⟩
theorem own_Uwr {h h' : Heap} {a b : Addr} {sl : Nat} {v : Value} (U : own_U h a) (W : Wr h h' b sl v) : own_U h' a := own_Ukeep U (Keep.of_wr W)
theorem own_Uof {Z : State} {h : Heap} {a : Addr} {C n d : String} {v : Value} (F : Fld Z h a C n d v) : own_U h a := by obtain ⟨cl, _, _, _, _, h1, _, _, h4, _⟩ := F; exact ⟨cl, h1, h4⟩
end Own
theorem d1_0 : decode prog_161_method_6_code 0 = .ok (.bipush 65, 2) := by decide +kernel
theorem d1_2 : decode prog_161_method_6_code 2 = .ok (.newarray .int, 2) := by decide +kernel
theorem d1_4 : decode prog_161_method_6_code 4 = .ok (.astore_n 1, 1) := by decide +kernel
theorem d1_5 : decode prog_161_method_6_code 5 = .ok (.iconst 0, 1) := by decide +kernel
theorem d1_6 : decode prog_161_method_6_code 6 = .ok (.istore_n 2, 1) := by decide +kernel
theorem d1_7 : decode prog_161_method_6_code 7 = .ok (.iconst 0, 1) := by decide +kernel
theorem d1_8 : decode prog_161_method_6_code 8 = .ok (.istore_n 3, 1) := by decide +kernel
theorem d1_9 : decode prog_161_method_6_code 9 = .ok (.iload_n 3, 1) := by decide +kernel
theorem d1_10 : decode prog_161_method_6_code 10 = .ok (.bipush 64, 2) := by decide +kernel
theorem d1_12 : decode prog_161_method_6_code 12 = .ok (.if_icmp .gt 28, 3) := by decide +kernel
theorem d1_15 : decode prog_161_method_6_code 15 = .ok (.aload_n 0, 1) := by decide +kernel
theorem d1_16 : decode prog_161_method_6_code 16 = .ok (.iload_n 2, 1) := by decide +kernel
theorem d1_17 : decode prog_161_method_6_code 17 = .ok (.iaload, 1) := by decide +kernel
theorem d1_18 : decode prog_161_method_6_code 18 = .ok (.iload_n 3, 1) := by decide +kernel
theorem d1_19 : decode prog_161_method_6_code 19 = .ok (.if_icmp .ge 9, 3) := by decide +kernel
theorem d1_22 : decode prog_161_method_6_code 22 = .ok (.iinc 2 1, 3) := by decide +kernel
theorem d1_25 : decode prog_161_method_6_code 25 = .ok (.goto (-10), 3) := by decide +kernel
theorem d1_28 : decode prog_161_method_6_code 28 = .ok (.aload_n 1, 1) := by decide +kernel
theorem d1_29 : decode prog_161_method_6_code 29 = .ok (.iload_n 3, 1) := by decide +kernel
theorem d1_30 : decode prog_161_method_6_code 30 = .ok (.aload_n 0, 1) := by decide +kernel
theorem d1_31 : decode prog_161_method_6_code 31 = .ok (.iload_n 2, 1) := by decide +kernel
theorem d1_32 : decode prog_161_method_6_code 32 = .ok (.iaload, 1) := by decide +kernel
theorem d1_33 : decode prog_161_method_6_code 33 = .ok (.iastore, 1) := by decide +kernel
theorem d1_34 : decode prog_161_method_6_code 34 = .ok (.iinc 3 1, 3) := by decide +kernel
theorem d1_37 : decode prog_161_method_6_code 37 = .ok (.goto (-28), 3) := by decide +kernel
theorem d1_40 : decode prog_161_method_6_code 40 = .ok (.aload_n 1, 1) := by decide +kernel
theorem d1_41 : decode prog_161_method_6_code 41 = .ok (.areturn, 1) := by decide +kernel
theorem d2_0 : decode method_2_code 0 = .ok (.iload_n 0, 1) := by decide +kernel
theorem d2_1 : decode method_2_code 1 = .ok (.iconst 1, 1) := by decide +kernel
theorem d2_2 : decode method_2_code 2 = .ok (.if_icmp .lt 11, 3) := by decide +kernel
theorem d2_5 : decode method_2_code 5 = .ok (.iload 4, 2) := by decide +kernel
theorem d2_7 : decode method_2_code 7 = .ok (.iload_n 1, 1) := by decide +kernel
theorem d2_8 : decode method_2_code 8 = .ok (.if_icmp .gt 5, 3) := by decide +kernel
theorem d2_11 : decode method_2_code 11 = .ok (.iload_n 1, 1) := by decide +kernel
theorem d2_12 : decode method_2_code 12 = .ok (.ireturn, 1) := by decide +kernel
theorem d2_13 : decode method_2_code 13 = .ok (.iload_n 0, 1) := by decide +kernel
theorem d2_14 : decode method_2_code 14 = .ok (.iconst 2, 1) := by decide +kernel
theorem d2_15 : decode method_2_code 15 = .ok (.if_icmp .lt 11, 3) := by decide +kernel
theorem d2_18 : decode method_2_code 18 = .ok (.iload 4, 2) := by decide +kernel
theorem d2_20 : decode method_2_code 20 = .ok (.iload_n 2, 1) := by decide +kernel
theorem d2_21 : decode method_2_code 21 = .ok (.if_icmp .gt 5, 3) := by decide +kernel
theorem d2_24 : decode method_2_code 24 = .ok (.iload_n 2, 1) := by decide +kernel
theorem d2_25 : decode method_2_code 25 = .ok (.ireturn, 1) := by decide +kernel
theorem d2_26 : decode method_2_code 26 = .ok (.iload_n 0, 1) := by decide +kernel
theorem d2_27 : decode method_2_code 27 = .ok (.iconst 3, 1) := by decide +kernel
theorem d2_28 : decode method_2_code 28 = .ok (.if_icmp .lt 11, 3) := by decide +kernel
theorem d2_31 : decode method_2_code 31 = .ok (.iload 4, 2) := by decide +kernel
theorem d2_33 : decode method_2_code 33 = .ok (.iload_n 3, 1) := by decide +kernel
theorem d2_34 : decode method_2_code 34 = .ok (.if_icmp .gt 5, 3) := by decide +kernel
theorem d2_37 : decode method_2_code 37 = .ok (.iload_n 3, 1) := by decide +kernel
theorem d2_38 : decode method_2_code 38 = .ok (.ireturn, 1) := by decide +kernel
theorem d2_39 : decode method_2_code 39 = .ok (.bipush 64, 2) := by decide +kernel
theorem d2_41 : decode method_2_code 41 = .ok (.ireturn, 1) := by decide +kernel
theorem own_tn {i : Nat} (h : i < 2147483648) : (Int32.ofNat i).toInt = i := Int32.toInt_ofNat_of_lt (by omega)
theorem own_one (i : Nat) : Int32.ofNat i + (1 : Int32) = Int32.ofNat (i + 1) := (Int32.ofNat_add i 1).symm
theorem own_addN (a b : Nat) : Int32.ofNat a + Int32.ofNat b = Int32.ofNat (a + b) := (Int32.ofNat_add a b).symm
theorem own_mulN (a b : Nat) : Int32.ofNat a * Int32.ofNat b = Int32.ofNat (a * b) := (Int32.ofNat_mul a b).symm
theorem own_two (a : Nat) : (2 : Int32) * Int32.ofNat a = Int32.ofNat (2 * a) := own_mulN 2 a
theorem own_subN {a b : Nat} (ha : a < 2147483648) (hab : b ≤ a) : Int32.ofNat a - Int32.ofNat b = Int32.ofNat (a - b) := by
  apply Int32.toInt_inj.mp
  have h1 := c_isub (Int32.ofNat a) (Int32.ofNat b)
  have h2 := rng32 (Int32.ofNat a - Int32.ofNat b)
  rw [own_tn ha, own_tn (i := b) (by omega)] at h1
  rw [own_tn (i := a - b) (by omega)]
  omega
theorem own_sub1 {a : Nat} (ha : a < 2147483648) (hab : 1 ≤ a) : Int32.ofNat a - (1 : Int32) = Int32.ofNat (a - 1) := own_subN ha hab
theorem own_modN {a b : Nat} (ha : a < 2147483648) (hb : b < 2147483648) : Int32.ofNat a % Int32.ofNat b = Int32.ofNat (a % b) := by
  apply Int32.toInt_inj.mp
  rw [Int32.toInt_mod, own_tn ha, own_tn hb, own_tn (i := a % b) (Nat.lt_of_le_of_lt (Nat.mod_le a b) ha)]
  rfl
theorem own_divN {a b : Nat} (ha : a < 2147483648) (hb : b < 2147483648) : Int32.ofNat a / Int32.ofNat b = Int32.ofNat (a / b) := by
  apply Int32.toInt_inj.mp
  rw [Int32.toInt_div_of_ne_right _ _ (fun q => by have := congrArg Int32.toInt q; rw [own_tn hb] at this; have e : (-1 : Int32).toInt = -1 := rfl; omega), own_tn ha, own_tn hb, own_tn (i := a / b) (Nat.lt_of_le_of_lt (Nat.div_le_self a b) ha)]
  rfl
theorem own_nz {a : Nat} (ha : a < 2147483648) (h : a ≠ 0) : Int32.ofNat a ≠ 0 := fun q => by
  have := congrArg Int32.toInt q
  rw [own_tn ha] at this
  have e : (0 : Int32).toInt = 0 := rfl
  omega
theorem own_nat {y : Int32} (h : 0 ≤ y.toInt) : y = Int32.ofNat y.toInt.toNat := by
  apply Int32.toInt_inj.mp
  have := y.toInt_lt
  rw [own_tn (by omega)]
  omega
theorem own_mask (x m : Int32) (h : 0 ≤ m.toInt) : ∃ k : Nat, (k : Int) ≤ m.toInt ∧ x &&& m = Int32.ofNat k := by
  have r := c_and x m h
  exact ⟨(x &&& m).toInt.toNat, by omega, own_nat r.1⟩
/-- place t holds the first of f 0 .. f N that isn't below t -/
def own_Rel (f : Nat → Int32) (N t : Nat) (v : Value) : Prop := ∃ j, j ≤ N ∧ v = .int (f j) ∧ (t : Int) ≤ (f j).toInt ∧ ∀ j', j' < j → (f j').toInt < t
def own_ref (n w0 w1 w2 q : Int32) : Int32 := if 1 ≤ n.toInt ∧ q.toInt ≤ w0.toInt then w0 else if 2 ≤ n.toInt ∧ q.toInt ≤ w1.toInt then w1 else if 3 ≤ n.toInt ∧ q.toInt ≤ w2.toInt then w2 else 64
theorem own_ref1 {n w0 w1 w2 q : Int32} (h : 1 ≤ n.toInt ∧ q.toInt ≤ w0.toInt) : own_ref n w0 w1 w2 q = w0 := by unfold own_ref; rw [if_pos h]
theorem own_ref2 {n w0 w1 w2 q : Int32} (h0 : ¬ (1 ≤ n.toInt ∧ q.toInt ≤ w0.toInt)) (h : 2 ≤ n.toInt ∧ q.toInt ≤ w1.toInt) : own_ref n w0 w1 w2 q = w1 := by unfold own_ref; rw [if_neg h0, if_pos h]
theorem own_ref3 {n w0 w1 w2 q : Int32} (h0 : ¬ (1 ≤ n.toInt ∧ q.toInt ≤ w0.toInt)) (h1 : ¬ (2 ≤ n.toInt ∧ q.toInt ≤ w1.toInt)) (h : 3 ≤ n.toInt ∧ q.toInt ≤ w2.toInt) : own_ref n w0 w1 w2 q = w2 := by unfold own_ref; rw [if_neg h0, if_neg h1, if_pos h]
theorem own_ref4 {n w0 w1 w2 q : Int32} (h0 : ¬ (1 ≤ n.toInt ∧ q.toInt ≤ w0.toInt)) (h1 : ¬ (2 ≤ n.toInt ∧ q.toInt ≤ w1.toInt)) (h2 : ¬ (3 ≤ n.toInt ∧ q.toInt ≤ w2.toInt)) : own_ref n w0 w1 w2 q = 64 := by unfold own_ref; rw [if_neg h0, if_neg h1, if_neg h2]
def own_y1 : MethodName := ⟨"com/example/colonnade/colonnade/orc/RunLengthV2Widths", "closestWidths", "([I)[I"⟩
set_option maxRecDepth 65536 in
set_option maxHeartbeats 40000000 in
theorem own_in15 {p : Program} {l : Launch} {e : Env} {s : State} {m : MethodId} {args : Array Value} {below : List Frame} {meth : Method} {c : Code} {Z : State} {a0 : Array Value} {n0 : Nat} {T : State} {h : Heap} {Q : Option Value → Heap → Prop} {a b : Addr} {N i : Nat} {f : Nat → Int32} (S : own_S p l e s m args below meth c Z a0 n0 own_y1 prog_161_method_6_code 4 (some (.array .int)) ({ frames := 0, cells := 1, slots := 65, locals := 0 } : Room) T h (0 + 1) (0 + 65)) (A : own_A Z h a .int (N + 1) (fun j => .int (f j))) (hN : N ≤ 3) (hf : (f N).toInt = 64) (hi : i ≤ 64) :
    ∀ (q j : Nat), j + q = N → (∀ j' : Nat, j' < j → (f j').toInt < i) → (∀ j2 : Nat, j2 ≤ N → (i : Int) ≤ (f j2).toInt → (∀ j' : Nat, j' < j2 → (f j').toInt < i) → own_G p e s below ({ frames := 0, cells := 1, slots := 65, locals := 0 } : Room) n0 Q T (mkF m 28 #[.val (.ref a), .val (.ref b), .val (.int (Int32.ofNat j2)), .val (.int (Int32.ofNat i))] [])) → own_G p e s below ({ frames := 0, cells := 1, slots := 65, locals := 0 } : Room) n0 Q T (mkF m 15 #[.val (.ref a), .val (.ref b), .val (.int (Int32.ofNat j)), .val (.int (Int32.ofNat i))] []) := by
  intro q
  induction q with
  | zero =>
    intro j hj hb K
    have ti := own_tn (i := i) (by omega)
    have tj := own_tn (i := j) (by omega)
    refine own_aloadN (pc' := 16) S rfl d1_15 rfl rfl ?_
    refine own_iloadN (pc' := 17) S rfl d1_16 rfl ?_
    refine own_iaload (pc' := 18) (w := (f j)) S A (k := j) tj (by omega) rfl rfl d1_17 ?_
    refine own_iloadN (pc' := 19) S rfl d1_18 rfl ?_
    refine own_icY (pc' := 28) S (by decide) rfl d1_19 (own_t_ge (by have e : j = N := (by omega); rw [e, hf, ti]; omega)) ?_
    exact K j (by omega) (by have e : j = N := (by omega); rw [e, hf]; omega) hb
  | succ q ih =>
    intro j hj hb K
    have ti := own_tn (i := i) (by omega)
    have tj := own_tn (i := j) (by omega)
    refine own_aloadN (pc' := 16) S rfl d1_15 rfl rfl ?_
    refine own_iloadN (pc' := 17) S rfl d1_16 rfl ?_
    refine own_iaload (pc' := 18) (w := (f j)) S A (k := j) tj (by omega) rfl rfl d1_17 ?_
    refine own_iloadN (pc' := 19) S rfl d1_18 rfl ?_
    refine own_ic (pt := 28) (pc' := 22) S (by decide) rfl rfl d1_19 ?_ ?_
    · intro c19
      replace c19 := own_ge_t c19
      exact K j (by omega) (by omega) hb
    · intro c19
      replace c19 := own_ge_f c19
      refine own_iinc (1 : Int32) (ls' := #[.val (.ref a), .val (.ref b), .val (.int ((Int32.ofNat j) + (1 : Int32))), .val (.int (Int32.ofNat i))]) (pc' := 25) S rfl d1_22 rfl rfl rfl ?_
      refine own_goto (pc' := 15) S (by decide) rfl d1_25 ?_
      rw [own_one]
      refine ih (j + 1) (by omega) (fun j' h' => ?_) K
      rcases Nat.lt_succ_iff_lt_or_eq.mp h' with r | r
      · exact hb j' r
      · rw [r]; omega
set_option maxRecDepth 65536 in
set_option maxHeartbeats 40000000 in
theorem own_lp1 {p : Program} {l : Launch} {e : Env} {s : State} {m : MethodId} {args : Array Value} {below : List Frame} {meth : Method} {c : Code} {Z : State} {a0 : Array Value} {n0 : Nat} {a b : Addr} {N : Nat} {f : Nat → Int32} (hN : N ≤ 3) (hf : (f N).toInt = 64) (hab : a ≠ b) (hb0 : n0 ≤ b) :
    ∀ (k i j : Nat) (T : State) (h : Heap) (g : Nat → Value), i + k = 65 → j ≤ N → own_S p l e s m args below meth c Z a0 n0 own_y1 prog_161_method_6_code 4 (some (.array .int)) ({ frames := 0, cells := 1, slots := 65, locals := 0 } : Room) T h (0 + 1) (0 + 65) → own_A Z h a .int (N + 1) (fun j => .int (f j)) → own_A Z h b .int 65 g → (∀ j' : Nat, j' < j → (f j').toInt < i) → (∀ t : Nat, t < i → own_Rel f N t (g t)) → own_G p e s below ({ frames := 0, cells := 1, slots := 65, locals := 0 } : Room) n0 (own_V fun w h' => ∃ b g, w = .ref b ∧ own_A Z h' b .int 65 g ∧ ∀ t : Nat, t < 65 → own_Rel f N t (g t)) T (mkF m 9 #[.val (.ref a), .val (.ref b), .val (.int (Int32.ofNat j)), .val (.int (Int32.ofNat i))] []) := by
  intro k
  induction k with
  | zero =>
    intro i j T h g hi hj S A Ab hlt hrel
    have ti := own_tn (i := i) (by omega)
    refine own_iloadN (pc' := 10) S rfl d1_9 rfl ?_
    refine own_bipush (64 : Int32) (pc' := 12) S rfl d1_10 rfl ?_
    refine own_icY (pc' := 40) S (by decide) rfl d1_12 (own_t_gt (by rw [ti]; show (64 : Int) < _; omega)) ?_
    refine own_aloadN (pc' := 41) S rfl d1_40 rfl rfl ?_
    exact own_retA (t := .array .int) rfl rfl S d1_41 (by decide) (by decide) ⟨_, rfl, b, g, rfl, Ab, fun t ht => hrel t (by omega)⟩
  | succ k ih =>
    intro i j T h g hi hj S A Ab hlt hrel
    have ti := own_tn (i := i) (by omega)
    refine own_iloadN (pc' := 10) S rfl d1_9 rfl ?_
    refine own_bipush (64 : Int32) (pc' := 12) S rfl d1_10 rfl ?_
    refine own_icN (pc' := 15) S rfl d1_12 (own_f_gt (by rw [ti]; show _ ≤ (64 : Int); omega)) ?_
    refine own_in15 S A hN hf (by omega) (N - j) j (by omega) hlt (fun j2 hj2 hge hl2 => ?_)
    have tj := own_tn (i := j2) (by omega)
    refine own_aloadN (pc' := 29) S rfl d1_28 rfl rfl ?_
    refine own_iloadN (pc' := 30) S rfl d1_29 rfl ?_
    refine own_aloadN (pc' := 31) S rfl d1_30 rfl rfl ?_
    refine own_iloadN (pc' := 32) S rfl d1_31 rfl ?_
    refine own_iaload (pc' := 33) (w := (f j2)) S A (k := j2) tj (by omega) rfl rfl d1_32 ?_
    refine own_iastore (pc' := 34) S Ab (k := i) ti (by omega) hb0 rfl d1_33 ?_
    intro T' h' S W Ab
    replace A := own_Awr A W hab
    refine own_iinc (1 : Int32) (ls' := #[.val (.ref a), .val (.ref b), .val (.int (Int32.ofNat j2)), .val (.int ((Int32.ofNat i) + (1 : Int32)))]) (pc' := 37) S rfl d1_34 rfl rfl rfl ?_
    refine own_goto (pc' := 9) S (by decide) rfl d1_37 ?_
    rw [own_one]
    refine ih (i + 1) j2 T' h' _ (by omega) hj2 S A Ab (fun j' hj' => by have := hl2 j' hj'; omega) (fun t ht => ?_)
    unfold own_upd
    by_cases q : t = i
    · rw [if_pos q]; exact ⟨j2, hj2, rfl, by omega, fun j' hj' => by have := hl2 j' hj'; omega⟩
    · rw [if_neg q]; exact hrel t (by omega)
theorem own_pn1 : plainName "com/example/colonnade/colonnade/orc/RunLengthV2Widths" = true := by first | (simp [plainName, overriddenIn]; done) | decide +kernel
theorem own_ef1 (m : MethodId) (a : Addr) : entryFrame m #[(.ref a)] 4 = mkF m 0 #[.val (.ref a), .unset, .unset, .unset] [] := by first | (simp [entryFrame, mkF, argsToLocals, Value.category]; done) | rfl
set_option maxRecDepth 65536 in
set_option maxHeartbeats 40000000 in
theorem own_m1 (l : Launch) (Z : State) (a0 : Array Value) (hw : ∀ d ∈ tables_1, d.before a0 Z = true) (a : Addr) (h0 : Heap) (n0 : Nat) (hn : n0 ≤ h0.size) (f : Nat → Int32) (N : Nat) (hN : N ≤ 3) (hf : (f N).toInt = 64) (A : own_A Z h0 a .int (N + 1) (fun j => .int (f j))) :
    own_Met l Z h0 n0 own_y1 prog_161_method_6_code 4 (some (.array .int)) [] ({ frames := 0, cells := 1, slots := 65, locals := 0 } : Room) #[(.ref a)] (own_V fun w h' => ∃ b g, w = .ref b ∧ own_A Z h' b .int 65 g ∧ ∀ t : Nat, t < 65 → own_Rel f N t (g t)) := by
  refine own_met (ls := #[.val (.ref a), .unset, .unset, .unset]) own_pn1 (fun m => own_ef1 m a) hn hw fun p e s m below meth c T S => ?_
  refine own_bipush (65 : Int32) (pc' := 2) S rfl d1_0 rfl ?_
  refine own_newarray (pc' := 4) 65 S (List.mem_of_getElem? (i := 0) rfl) (n := 65) rfl (by decide) (by decide) (by decide) (by decide) rfl d1_2 ?_
  intro T h b hb hb0 S E Ab
  have alt := own_Alt A
  replace A := own_Aext A E
  refine own_astoreN (ls' := #[.val (.ref a), .val (.ref b), .unset, .unset]) (pc' := 5) S rfl d1_4 rfl rfl ?_
  refine own_iconst (0 : Int32) (pc' := 6) S rfl d1_5 rfl ?_
  refine own_istoreN (ls' := #[.val (.ref a), .val (.ref b), .val (.int (0 : Int32)), .unset]) (pc' := 7) S rfl d1_6 rfl ?_
  refine own_iconst (0 : Int32) (pc' := 8) S rfl d1_7 rfl ?_
  refine own_istoreN (ls' := #[.val (.ref a), .val (.ref b), .val (.int (0 : Int32)), .val (.int (0 : Int32))]) (pc' := 9) S rfl d1_8 rfl ?_
  exact own_lp1 hN hf (Nat.ne_of_lt (by rw [hb]; exact alt)) hb0 65 0 0 T h _ (by omega) (by omega) S A Ab (fun j' q => by omega) (fun t q => by omega)
def own_y2 : MethodName := ⟨"com/example/colonnade/colonnade/orc/RunLengthV2WidthsClosestWidthsPinLaw", "ref", "(IIIII)I"⟩
theorem own_pn2 : plainName "com/example/colonnade/colonnade/orc/RunLengthV2WidthsClosestWidthsPinLaw" = true := by first | (simp [plainName, overriddenIn]; done) | decide +kernel
theorem own_ef2 (m : MethodId) (n : Int32) (w0 : Int32) (w1 : Int32) (w2 : Int32) (q : Int32) : entryFrame m #[(.int n), (.int w0), (.int w1), (.int w2), (.int q)] 5 = mkF m 0 #[.val (.int n), .val (.int w0), .val (.int w1), .val (.int w2), .val (.int q)] [] := by first | (simp [entryFrame, mkF, argsToLocals, Value.category]; done) | rfl
set_option maxRecDepth 65536 in
set_option maxHeartbeats 40000000 in
theorem own_m2 (l : Launch) (Z : State) (a0 : Array Value) (hw : ∀ d ∈ tables_1, d.before a0 Z = true) (n : Int32) (w0 : Int32) (w1 : Int32) (w2 : Int32) (q : Int32) (h0 : Heap) (n0 : Nat) (hn : n0 ≤ h0.size) :
    own_Met l Z h0 n0 own_y2 method_2_code 5 (some .int) [] ({ frames := 0, cells := 0, slots := 0, locals := 0 } : Room) #[(.int n), (.int w0), (.int w1), (.int w2), (.int q)] (own_V fun w h => w = .int (own_ref n w0 w1 w2 q) ∧ h0 = h) := by
  refine own_met (ls := #[.val (.int n), .val (.int w0), .val (.int w1), .val (.int w2), .val (.int q)]) own_pn2 (fun m => own_ef2 m n w0 w1 w2 q) hn hw fun p e s m below meth c T S => ?_
  refine own_iloadN (pc' := 1) S rfl d2_0 rfl ?_
  refine own_iconst (1 : Int32) (pc' := 2) S rfl d2_1 rfl ?_
  refine own_ic (pt := 13) (pc' := 5) S (by decide) rfl rfl d2_2 ?_ ?_
  · intro c2
    replace c2 := own_lt_t c2
    have k2 : (1 : Int32).toInt = 1 := rfl
    refine own_iloadN (pc' := 14) S rfl d2_13 rfl ?_
    refine own_iconst (2 : Int32) (pc' := 15) S rfl d2_14 rfl ?_
    refine own_ic (pt := 26) (pc' := 18) S (by decide) rfl rfl d2_15 ?_ ?_
    · intro c15
      replace c15 := own_lt_t c15
      have k15 : (2 : Int32).toInt = 2 := rfl
      refine own_iloadN (pc' := 27) S rfl d2_26 rfl ?_
      refine own_iconst (3 : Int32) (pc' := 28) S rfl d2_27 rfl ?_
      refine own_ic (pt := 39) (pc' := 31) S (by decide) rfl rfl d2_28 ?_ ?_
      · intro c28
        replace c28 := own_lt_t c28
        have k28 : (3 : Int32).toInt = 3 := rfl
        refine own_bipush (64 : Int32) (pc' := 41) S rfl d2_39 rfl ?_
        exact own_retI  S d2_41 (by decide) (by decide) ⟨_, rfl, by rw [own_ref4 (by omega) (by omega) (by omega)], rfl⟩
      · intro c28
        replace c28 := own_lt_f c28
        have k28 : (3 : Int32).toInt = 3 := rfl
        refine own_iload (pc' := 33) S rfl d2_31 rfl ?_
        refine own_iloadN (pc' := 34) S rfl d2_33 rfl ?_
        refine own_ic (pt := 39) (pc' := 37) S (by decide) rfl rfl d2_34 ?_ ?_
        · intro c34
          replace c34 := own_gt_t c34
          refine own_bipush (64 : Int32) (pc' := 41) S rfl d2_39 rfl ?_
          exact own_retI  S d2_41 (by decide) (by decide) ⟨_, rfl, by rw [own_ref4 (by omega) (by omega) (by omega)], rfl⟩
        · intro c34
          replace c34 := own_gt_f c34
          refine own_iloadN (pc' := 38) S rfl d2_37 rfl ?_
          exact own_retI  S d2_38 (by decide) (by decide) ⟨_, rfl, by rw [own_ref3 (by omega) (by omega) (by omega)], rfl⟩
    · intro c15
      replace c15 := own_lt_f c15
      have k15 : (2 : Int32).toInt = 2 := rfl
      refine own_iload (pc' := 20) S rfl d2_18 rfl ?_
      refine own_iloadN (pc' := 21) S rfl d2_20 rfl ?_
      refine own_ic (pt := 26) (pc' := 24) S (by decide) rfl rfl d2_21 ?_ ?_
      · intro c21
        replace c21 := own_gt_t c21
        refine own_iloadN (pc' := 27) S rfl d2_26 rfl ?_
        refine own_iconst (3 : Int32) (pc' := 28) S rfl d2_27 rfl ?_
        refine own_ic (pt := 39) (pc' := 31) S (by decide) rfl rfl d2_28 ?_ ?_
        · intro c28
          replace c28 := own_lt_t c28
          have k28 : (3 : Int32).toInt = 3 := rfl
          refine own_bipush (64 : Int32) (pc' := 41) S rfl d2_39 rfl ?_
          exact own_retI  S d2_41 (by decide) (by decide) ⟨_, rfl, by rw [own_ref4 (by omega) (by omega) (by omega)], rfl⟩
        · intro c28
          replace c28 := own_lt_f c28
          have k28 : (3 : Int32).toInt = 3 := rfl
          refine own_iload (pc' := 33) S rfl d2_31 rfl ?_
          refine own_iloadN (pc' := 34) S rfl d2_33 rfl ?_
          refine own_ic (pt := 39) (pc' := 37) S (by decide) rfl rfl d2_34 ?_ ?_
          · intro c34
            replace c34 := own_gt_t c34
            refine own_bipush (64 : Int32) (pc' := 41) S rfl d2_39 rfl ?_
            exact own_retI  S d2_41 (by decide) (by decide) ⟨_, rfl, by rw [own_ref4 (by omega) (by omega) (by omega)], rfl⟩
          · intro c34
            replace c34 := own_gt_f c34
            refine own_iloadN (pc' := 38) S rfl d2_37 rfl ?_
            exact own_retI  S d2_38 (by decide) (by decide) ⟨_, rfl, by rw [own_ref3 (by omega) (by omega) (by omega)], rfl⟩
      · intro c21
        replace c21 := own_gt_f c21
        refine own_iloadN (pc' := 25) S rfl d2_24 rfl ?_
        exact own_retI  S d2_25 (by decide) (by decide) ⟨_, rfl, by rw [own_ref2 (by omega) (by omega)], rfl⟩
  · intro c2
    replace c2 := own_lt_f c2
    have k2 : (1 : Int32).toInt = 1 := rfl
    refine own_iload (pc' := 7) S rfl d2_5 rfl ?_
    refine own_iloadN (pc' := 8) S rfl d2_7 rfl ?_
    refine own_ic (pt := 13) (pc' := 11) S (by decide) rfl rfl d2_8 ?_ ?_
    · intro c8
      replace c8 := own_gt_t c8
      refine own_iloadN (pc' := 14) S rfl d2_13 rfl ?_
      refine own_iconst (2 : Int32) (pc' := 15) S rfl d2_14 rfl ?_
      refine own_ic (pt := 26) (pc' := 18) S (by decide) rfl rfl d2_15 ?_ ?_
      · intro c15
        replace c15 := own_lt_t c15
        have k15 : (2 : Int32).toInt = 2 := rfl
        refine own_iloadN (pc' := 27) S rfl d2_26 rfl ?_
        refine own_iconst (3 : Int32) (pc' := 28) S rfl d2_27 rfl ?_
        refine own_ic (pt := 39) (pc' := 31) S (by decide) rfl rfl d2_28 ?_ ?_
        · intro c28
          replace c28 := own_lt_t c28
          have k28 : (3 : Int32).toInt = 3 := rfl
          refine own_bipush (64 : Int32) (pc' := 41) S rfl d2_39 rfl ?_
          exact own_retI  S d2_41 (by decide) (by decide) ⟨_, rfl, by rw [own_ref4 (by omega) (by omega) (by omega)], rfl⟩
        · intro c28
          replace c28 := own_lt_f c28
          have k28 : (3 : Int32).toInt = 3 := rfl
          refine own_iload (pc' := 33) S rfl d2_31 rfl ?_
          refine own_iloadN (pc' := 34) S rfl d2_33 rfl ?_
          refine own_ic (pt := 39) (pc' := 37) S (by decide) rfl rfl d2_34 ?_ ?_
          · intro c34
            replace c34 := own_gt_t c34
            refine own_bipush (64 : Int32) (pc' := 41) S rfl d2_39 rfl ?_
            exact own_retI  S d2_41 (by decide) (by decide) ⟨_, rfl, by rw [own_ref4 (by omega) (by omega) (by omega)], rfl⟩
          · intro c34
            replace c34 := own_gt_f c34
            refine own_iloadN (pc' := 38) S rfl d2_37 rfl ?_
            exact own_retI  S d2_38 (by decide) (by decide) ⟨_, rfl, by rw [own_ref3 (by omega) (by omega) (by omega)], rfl⟩
      · intro c15
        replace c15 := own_lt_f c15
        have k15 : (2 : Int32).toInt = 2 := rfl
        refine own_iload (pc' := 20) S rfl d2_18 rfl ?_
        refine own_iloadN (pc' := 21) S rfl d2_20 rfl ?_
        refine own_ic (pt := 26) (pc' := 24) S (by decide) rfl rfl d2_21 ?_ ?_
        · intro c21
          replace c21 := own_gt_t c21
          refine own_iloadN (pc' := 27) S rfl d2_26 rfl ?_
          refine own_iconst (3 : Int32) (pc' := 28) S rfl d2_27 rfl ?_
          refine own_ic (pt := 39) (pc' := 31) S (by decide) rfl rfl d2_28 ?_ ?_
          · intro c28
            replace c28 := own_lt_t c28
            have k28 : (3 : Int32).toInt = 3 := rfl
            refine own_bipush (64 : Int32) (pc' := 41) S rfl d2_39 rfl ?_
            exact own_retI  S d2_41 (by decide) (by decide) ⟨_, rfl, by rw [own_ref4 (by omega) (by omega) (by omega)], rfl⟩
          · intro c28
            replace c28 := own_lt_f c28
            have k28 : (3 : Int32).toInt = 3 := rfl
            refine own_iload (pc' := 33) S rfl d2_31 rfl ?_
            refine own_iloadN (pc' := 34) S rfl d2_33 rfl ?_
            refine own_ic (pt := 39) (pc' := 37) S (by decide) rfl rfl d2_34 ?_ ?_
            · intro c34
              replace c34 := own_gt_t c34
              refine own_bipush (64 : Int32) (pc' := 41) S rfl d2_39 rfl ?_
              exact own_retI  S d2_41 (by decide) (by decide) ⟨_, rfl, by rw [own_ref4 (by omega) (by omega) (by omega)], rfl⟩
            · intro c34
              replace c34 := own_gt_f c34
              refine own_iloadN (pc' := 38) S rfl d2_37 rfl ?_
              exact own_retI  S d2_38 (by decide) (by decide) ⟨_, rfl, by rw [own_ref3 (by omega) (by omega) (by omega)], rfl⟩
        · intro c21
          replace c21 := own_gt_f c21
          refine own_iloadN (pc' := 25) S rfl d2_24 rfl ?_
          exact own_retI  S d2_25 (by decide) (by decide) ⟨_, rfl, by rw [own_ref2 (by omega) (by omega)], rfl⟩
    · intro c8
      replace c8 := own_gt_f c8
      refine own_iloadN (pc' := 12) S rfl d2_11 rfl ?_
      exact own_retI  S d2_12 (by decide) (by decide) ⟨_, rfl, by rw [own_ref1 (by omega)], rfl⟩
set_option maxRecDepth 65536 in
set_option maxHeartbeats 40000000 in
theorem own_k131 {p : Program} {l : Launch} {e : Env} {s : State} {m : MethodId} {args : Array Value} {below : List Frame} {meth : Method} {c : Code} {Z : State} {a0 : Array Value} {n0 : Nat} {T : State} {h : Heap} {a : Addr} (x0 x1 x2 x3 x4 x5 w0 w1 w2 n : Int32) (N : Nat) (f : Nat → Int32) (S : own_S p l e s m args below meth c Z a0 n0 x code maxLocals ret room_1 T h (0 + 1) (0 + 4)) (hN : N ≤ 3) (hf : (f N).toInt = 64) (A : own_A Z h a .int (N + 1) (fun j => .int (f j)))
    (HF : ∀ (q : Int32) (t : Nat) v, q.toInt = t → own_Rel f N t v → v = .int (own_ref n w0 w1 w2 q)) (H64 : ∀ v, own_Rel f N 64 v → v = .int 64) : own_G p e s below room_1 n0 (own_V fun w h => w = .int 1) T (mkF m 131 #[.val (.int x0), .val (.int x1), .val (.int x2), .val (.int x3), .val (.int x4), .val (.int x5), .val (.int w0), .val (.int w1), .val (.int w2), .val (.int n), .val (.ref a), .unset, .unset, .unset] []) := by
  have hw := own_word S
  have hn := own_size S
  have q1 : ∀ z : Int32, 0 ≤ ((z &&& 2147483647) % 65).toInt ∧ ((z &&& 2147483647) % 65).toInt ≤ 64 := fun z => by
    have r1 := c_and z 2147483647 (by decide)
    have r2 := (c_irem (z &&& 2147483647) 65 65 rfl).1 r1.1
    omega
  have e4 := q1 x4
  have e5 := q1 x5
  refine own_aload (pc' := 133) S rfl at_131 rfl rfl ?_
  refine own_callS (pc' := 136) (yy := own_y1) (rm := ({ frames := 0, cells := 1, slots := 65, locals := 0 } : Room)) (W := 2) [(.ref a)] [] S (List.mem_of_getElem? (i := 1) rfl) (List.mem_of_getElem? (i := 2) rfl) (List.mem_of_getElem? (i := 3) rfl) (List.mem_of_getElem? (i := 4) rfl) (by decide) (own_m1 l Z a0 hw a h n0 hn f N hN hf A) (ps := [.array .int]) (r' := some (.array .int)) (by decide +kernel) rfl rfl rfl (Nat.le_of_ble_eq_true rfl) (by decide) (by decide) (by decide) (by decide) rfl at_133 ?_
  rintro T h' _ S ⟨_, rfl, b, g, rfl, Ab, hrel⟩
  replace hn := own_size S
  obtain ⟨t4, ht4⟩ : ∃ t : Nat, ((x4 &&& 2147483647) % 65).toInt = t := ⟨_, (Int.toNat_of_nonneg e4.1).symm⟩
  obtain ⟨t5, ht5⟩ : ∃ t : Nat, ((x5 &&& 2147483647) % 65).toInt = t := ⟨_, (Int.toNat_of_nonneg e5.1).symm⟩
  refine own_astore (ls' := #[.val (.int x0), .val (.int x1), .val (.int x2), .val (.int x3), .val (.int x4), .val (.int x5), .val (.int w0), .val (.int w1), .val (.int w2), .val (.int n), .val (.ref a), .val (.ref b), .unset, .unset]) (pc' := 138) S rfl at_136 rfl rfl ?_
  refine own_aload (pc' := 140) S rfl at_138 rfl rfl ?_
  refine own_nullN (pc' := 143) S rfl at_140 ?_
  refine own_aload (pc' := 145) S rfl at_143 rfl rfl ?_
  refine own_alen (pc' := 146) (w := (65 : Int32)) S Ab rfl rfl at_145 ?_
  refine own_bipush (65 : Int32) (pc' := 148) S rfl at_146 rfl ?_
  refine own_icY (pc' := 153) S (by decide) rfl at_148 (own_t_eq rfl) ?_
  refine own_iload (pc' := 155) S rfl at_153 rfl ?_
  refine own_ldc (v := (2147483647 : Int32)) (pc' := 157) S rfl at_155 (List.mem_of_getElem? (i := 5) rfl) ?_
  refine own_iand (pc' := 158) S rfl at_157 ?_
  refine own_bipush (65 : Int32) (pc' := 160) S rfl at_158 rfl ?_
  refine own_irem (pc' := 161) S rfl at_160 (by decide) ?_
  refine own_istore (ls' := #[.val (.int x0), .val (.int x1), .val (.int x2), .val (.int x3), .val (.int x4), .val (.int x5), .val (.int w0), .val (.int w1), .val (.int w2), .val (.int n), .val (.ref a), .val (.ref b), .val (.int ((x4 &&& (2147483647 : Int32)) % (65 : Int32))), .unset]) (pc' := 163) S rfl at_161 rfl ?_
  refine own_iload (pc' := 165) S rfl at_163 rfl ?_
  refine own_ldc (v := (2147483647 : Int32)) (pc' := 167) S rfl at_165 (List.mem_of_getElem? (i := 5) rfl) ?_
  refine own_iand (pc' := 168) S rfl at_167 ?_
  refine own_bipush (65 : Int32) (pc' := 170) S rfl at_168 rfl ?_
  refine own_irem (pc' := 171) S rfl at_170 (by decide) ?_
  refine own_istore (ls' := #[.val (.int x0), .val (.int x1), .val (.int x2), .val (.int x3), .val (.int x4), .val (.int x5), .val (.int w0), .val (.int w1), .val (.int w2), .val (.int n), .val (.ref a), .val (.ref b), .val (.int ((x4 &&& (2147483647 : Int32)) % (65 : Int32))), .val (.int ((x5 &&& (2147483647 : Int32)) % (65 : Int32)))]) (pc' := 173) S rfl at_171 rfl ?_
  refine own_aload (pc' := 175) S rfl at_173 rfl rfl ?_
  refine own_iload (pc' := 177) S rfl at_175 rfl ?_
  refine own_iaload (pc' := 178) (w := (own_ref n w0 w1 w2 ((x4 &&& (2147483647 : Int32)) % (65 : Int32)))) S Ab (k := t4) ht4 (by omega) (HF _ _ _ ht4 (hrel t4 (by omega))) rfl at_177 ?_
  refine own_iload (pc' := 180) S rfl at_178 rfl ?_
  refine own_iload (pc' := 182) S rfl at_180 rfl ?_
  refine own_iload (pc' := 184) S rfl at_182 rfl ?_
  refine own_iload (pc' := 186) S rfl at_184 rfl ?_
  refine own_iload (pc' := 188) S rfl at_186 rfl ?_
  refine own_callS (pc' := 191) (yy := own_y2) (rm := ({ frames := 0, cells := 0, slots := 0, locals := 0 } : Room)) (W := 2) [(.int n), (.int w0), (.int w1), (.int w2), (.int ((x4 &&& (2147483647 : Int32)) % (65 : Int32)))] [(.int (own_ref n w0 w1 w2 ((x4 &&& (2147483647 : Int32)) % (65 : Int32))))] S (List.mem_of_getElem? (i := 6) rfl) (List.mem_of_getElem? (i := 7) rfl) (List.mem_of_getElem? (i := 8) rfl) (List.mem_of_getElem? (i := 9) rfl) (by decide) (own_m2 l Z a0 hw n w0 w1 w2 ((x4 &&& (2147483647 : Int32)) % (65 : Int32)) _ n0 hn) (ps := [.int, .int, .int, .int, .int]) (r' := some .int) (by decide +kernel) rfl rfl rfl (Nat.le_of_ble_eq_true rfl) (by decide) (by decide) (by decide) (by decide) rfl at_188 ?_
  rintro T h' _ S ⟨_, rfl, rfl, rfl⟩
  refine own_icN (pc' := 194) S rfl at_191 (own_f_ne rfl) ?_
  refine own_aload (pc' := 196) S rfl at_194 rfl rfl ?_
  refine own_iload (pc' := 198) S rfl at_196 rfl ?_
  refine own_iaload (pc' := 199) (w := (own_ref n w0 w1 w2 ((x5 &&& (2147483647 : Int32)) % (65 : Int32)))) S Ab (k := t5) ht5 (by omega) (HF _ _ _ ht5 (hrel t5 (by omega))) rfl at_198 ?_
  refine own_iload (pc' := 201) S rfl at_199 rfl ?_
  refine own_iload (pc' := 203) S rfl at_201 rfl ?_
  refine own_iload (pc' := 205) S rfl at_203 rfl ?_
  refine own_iload (pc' := 207) S rfl at_205 rfl ?_
  refine own_iload (pc' := 209) S rfl at_207 rfl ?_
  refine own_callS (pc' := 212) (yy := own_y2) (rm := ({ frames := 0, cells := 0, slots := 0, locals := 0 } : Room)) (W := 2) [(.int n), (.int w0), (.int w1), (.int w2), (.int ((x5 &&& (2147483647 : Int32)) % (65 : Int32)))] [(.int (own_ref n w0 w1 w2 ((x5 &&& (2147483647 : Int32)) % (65 : Int32))))] S (List.mem_of_getElem? (i := 6) rfl) (List.mem_of_getElem? (i := 7) rfl) (List.mem_of_getElem? (i := 8) rfl) (List.mem_of_getElem? (i := 9) rfl) (by decide) (own_m2 l Z a0 hw n w0 w1 w2 ((x5 &&& (2147483647 : Int32)) % (65 : Int32)) _ n0 hn) (ps := [.int, .int, .int, .int, .int]) (r' := some .int) (by decide +kernel) rfl rfl rfl (Nat.le_of_ble_eq_true rfl) (by decide) (by decide) (by decide) (by decide) rfl at_209 ?_
  rintro T h' _ S ⟨_, rfl, rfl, rfl⟩
  refine own_icN (pc' := 215) S rfl at_212 (own_f_ne rfl) ?_
  refine own_aload (pc' := 217) S rfl at_215 rfl rfl ?_
  refine own_iconst (0 : Int32) (pc' := 218) S rfl at_217 rfl ?_
  refine own_iaload (pc' := 219) (w := (own_ref n w0 w1 w2 (0 : Int32))) S Ab (k := 0) rfl (by omega) (HF 0 0 _ rfl (hrel 0 (by omega))) rfl at_218 ?_
  refine own_iload (pc' := 221) S rfl at_219 rfl ?_
  refine own_iload (pc' := 223) S rfl at_221 rfl ?_
  refine own_iload (pc' := 225) S rfl at_223 rfl ?_
  refine own_iload (pc' := 227) S rfl at_225 rfl ?_
  refine own_iconst (0 : Int32) (pc' := 228) S rfl at_227 rfl ?_
  refine own_callS (pc' := 231) (yy := own_y2) (rm := ({ frames := 0, cells := 0, slots := 0, locals := 0 } : Room)) (W := 2) [(.int n), (.int w0), (.int w1), (.int w2), (.int (0 : Int32))] [(.int (own_ref n w0 w1 w2 (0 : Int32)))] S (List.mem_of_getElem? (i := 6) rfl) (List.mem_of_getElem? (i := 7) rfl) (List.mem_of_getElem? (i := 8) rfl) (List.mem_of_getElem? (i := 9) rfl) (by decide) (own_m2 l Z a0 hw n w0 w1 w2 (0 : Int32) _ n0 hn) (ps := [.int, .int, .int, .int, .int]) (r' := some .int) (by decide +kernel) rfl rfl rfl (Nat.le_of_ble_eq_true rfl) (by decide) (by decide) (by decide) (by decide) rfl at_228 ?_
  rintro T h' _ S ⟨_, rfl, rfl, rfl⟩
  refine own_icN (pc' := 234) S rfl at_231 (own_f_ne rfl) ?_
  refine own_aload (pc' := 236) S rfl at_234 rfl rfl ?_
  refine own_bipush (64 : Int32) (pc' := 238) S rfl at_236 rfl ?_
  refine own_iaload (pc' := 239) (w := (64 : Int32)) S Ab (k := 64) rfl (by omega) (H64 _ (hrel 64 (by omega))) rfl at_238 ?_
  refine own_bipush (64 : Int32) (pc' := 241) S rfl at_239 rfl ?_
  refine own_icN (pc' := 244) S rfl at_241 (own_f_ne rfl) ?_
  refine own_iconst (1 : Int32) (pc' := 245) S rfl at_244 rfl ?_
  refine own_goto (pc' := 249) S (by decide) rfl at_245 ?_
  exact own_retZ (Or.inr rfl) S at_249 (by decide) (by decide) ⟨_, rfl, rfl⟩
theorem own_pn0 : plainName "com/example/colonnade/colonnade/orc/RunLengthV2WidthsClosestWidthsPinLaw" = true := by first | (simp [plainName, overriddenIn]; done) | decide +kernel
theorem own_ef0 (m : MethodId) (x0 : Int32) (x1 : Int32) (x2 : Int32) (x3 : Int32) (x4 : Int32) (x5 : Int32) : entryFrame m #[(.int x0), (.int x1), (.int x2), (.int x3), (.int x4), (.int x5)] maxLocals = mkF m 0 #[.val (.int x0), .val (.int x1), .val (.int x2), .val (.int x3), .val (.int x4), .val (.int x5), .unset, .unset, .unset, .unset, .unset, .unset, .unset, .unset] [] := by first | (simp [entryFrame, mkF, argsToLocals, Value.category, maxLocals]; done) | rfl
set_option maxRecDepth 65536 in
set_option maxHeartbeats 40000000 in
theorem own_m0 (l : Launch) (Z : State) (a0 : Array Value) (hw : ∀ d ∈ tables_1, d.before a0 Z = true) (x0 : Int32) (x1 : Int32) (x2 : Int32) (x3 : Int32) (x4 : Int32) (x5 : Int32) (h0 : Heap) (n0 : Nat) (hn : n0 ≤ h0.size) :
    own_Met l Z h0 n0 x code maxLocals ret tables_1 room_1 #[(.int x0), (.int x1), (.int x2), (.int x3), (.int x4), (.int x5)] (own_V fun w h => w = .int 1) := by
  refine own_met (ls := #[.val (.int x0), .val (.int x1), .val (.int x2), .val (.int x3), .val (.int x4), .val (.int x5), .unset, .unset, .unset, .unset, .unset, .unset, .unset, .unset]) own_pn0 (fun m => own_ef0 m x0 x1 x2 x3 x4 x5) hn hw fun p e s m below meth c T S => ?_
  have r0 := c_and x0 15 (by decide)
  have r1 := c_and x1 15 (by decide)
  have r2 := c_and x2 15 (by decide)
  have r3 := c_and x3 3 (by decide)
  have k15 : (15 : Int32).toInt = 15 := rfl
  have k03 : (3 : Int32).toInt = 3 := rfl
  have k01 : (1 : Int32).toInt = 1 := rfl
  have u0 : (1 + (x0 &&& 15)).toInt ≤ 16 ∧ 1 ≤ (1 + (x0 &&& 15)).toInt := by have := c_iadd 1 (x0 &&& 15); have := rng32 (1 + (x0 &&& 15)); omega
  have u1 : (1 + (x0 &&& 15) + 1 + (x1 &&& 15)).toInt ≤ 32 ∧ 2 ≤ (1 + (x0 &&& 15) + 1 + (x1 &&& 15)).toInt := by have := c_iadd (1 + (x0 &&& 15)) 1; have := c_iadd ((1 + (x0 &&& 15)) + 1) (x1 &&& 15); have := rng32 ((1 + (x0 &&& 15)) + 1); have := rng32 (1 + (x0 &&& 15) + 1 + (x1 &&& 15)); omega
  have u2 : (1 + (x0 &&& 15) + 1 + (x1 &&& 15) + 1 + (x2 &&& 15)).toInt ≤ 48 ∧ 3 ≤ (1 + (x0 &&& 15) + 1 + (x1 &&& 15) + 1 + (x2 &&& 15)).toInt := by have := c_iadd (1 + (x0 &&& 15) + 1 + (x1 &&& 15)) 1; have := c_iadd ((1 + (x0 &&& 15) + 1 + (x1 &&& 15)) + 1) (x2 &&& 15); have := rng32 ((1 + (x0 &&& 15) + 1 + (x1 &&& 15)) + 1); have := rng32 (1 + (x0 &&& 15) + 1 + (x1 &&& 15) + 1 + (x2 &&& 15)); omega
  refine own_iconst (1 : Int32) (pc' := 1) S rfl at_0 rfl ?_
  refine own_iloadN (pc' := 2) S rfl at_1 rfl ?_
  refine own_bipush (15 : Int32) (pc' := 4) S rfl at_2 rfl ?_
  refine own_iand (pc' := 5) S rfl at_4 ?_
  refine own_iadd (pc' := 6) S rfl at_5 ?_
  refine own_istore (ls' := #[.val (.int x0), .val (.int x1), .val (.int x2), .val (.int x3), .val (.int x4), .val (.int x5), .val (.int ((1 : Int32) + (x0 &&& (15 : Int32)))), .unset, .unset, .unset, .unset, .unset, .unset, .unset]) (pc' := 8) S rfl at_6 rfl ?_
  refine own_iload (pc' := 10) S rfl at_8 rfl ?_
  refine own_iconst (1 : Int32) (pc' := 11) S rfl at_10 rfl ?_
  refine own_iadd (pc' := 12) S rfl at_11 ?_
  refine own_iloadN (pc' := 13) S rfl at_12 rfl ?_
  refine own_bipush (15 : Int32) (pc' := 15) S rfl at_13 rfl ?_
  refine own_iand (pc' := 16) S rfl at_15 ?_
  refine own_iadd (pc' := 17) S rfl at_16 ?_
  refine own_istore (ls' := #[.val (.int x0), .val (.int x1), .val (.int x2), .val (.int x3), .val (.int x4), .val (.int x5), .val (.int ((1 : Int32) + (x0 &&& (15 : Int32)))), .val (.int ((((1 : Int32) + (x0 &&& (15 : Int32))) + (1 : Int32)) + (x1 &&& (15 : Int32)))), .unset, .unset, .unset, .unset, .unset, .unset]) (pc' := 19) S rfl at_17 rfl ?_
  refine own_iload (pc' := 21) S rfl at_19 rfl ?_
  refine own_iconst (1 : Int32) (pc' := 22) S rfl at_21 rfl ?_
  refine own_iadd (pc' := 23) S rfl at_22 ?_
  refine own_iloadN (pc' := 24) S rfl at_23 rfl ?_
  refine own_bipush (15 : Int32) (pc' := 26) S rfl at_24 rfl ?_
  refine own_iand (pc' := 27) S rfl at_26 ?_
  refine own_iadd (pc' := 28) S rfl at_27 ?_
  refine own_istore (ls' := #[.val (.int x0), .val (.int x1), .val (.int x2), .val (.int x3), .val (.int x4), .val (.int x5), .val (.int ((1 : Int32) + (x0 &&& (15 : Int32)))), .val (.int ((((1 : Int32) + (x0 &&& (15 : Int32))) + (1 : Int32)) + (x1 &&& (15 : Int32)))), .val (.int ((((((1 : Int32) + (x0 &&& (15 : Int32))) + (1 : Int32)) + (x1 &&& (15 : Int32))) + (1 : Int32)) + (x2 &&& (15 : Int32)))), .unset, .unset, .unset, .unset, .unset]) (pc' := 30) S rfl at_28 rfl ?_
  refine own_iloadN (pc' := 31) S rfl at_30 rfl ?_
  refine own_iconst (3 : Int32) (pc' := 32) S rfl at_31 rfl ?_
  refine own_iand (pc' := 33) S rfl at_32 ?_
  refine own_istore (ls' := #[.val (.int x0), .val (.int x1), .val (.int x2), .val (.int x3), .val (.int x4), .val (.int x5), .val (.int ((1 : Int32) + (x0 &&& (15 : Int32)))), .val (.int ((((1 : Int32) + (x0 &&& (15 : Int32))) + (1 : Int32)) + (x1 &&& (15 : Int32)))), .val (.int ((((((1 : Int32) + (x0 &&& (15 : Int32))) + (1 : Int32)) + (x1 &&& (15 : Int32))) + (1 : Int32)) + (x2 &&& (15 : Int32)))), .val (.int (x3 &&& (3 : Int32))), .unset, .unset, .unset, .unset]) (pc' := 35) S rfl at_33 rfl ?_
  refine own_iload (pc' := 37) S rfl at_35 rfl ?_
  refine own_if (pt := 53) (pc' := 40) S (by decide) rfl rfl at_37 ?_ ?_
  · intro c37
    replace c37 := own_ne_t ((if0 _ _).symm.trans c37)
    have e37 := own_ten c37
    have k37 : (0 : Int32).toInt = 0 := rfl
    refine own_iload (pc' := 55) S rfl at_53 rfl ?_
    refine own_iconst (1 : Int32) (pc' := 56) S rfl at_55 rfl ?_
    refine own_ic (pt := 77) (pc' := 59) S (by decide) rfl rfl at_56 ?_ ?_
    · intro c56
      replace c56 := own_ne_t c56
      have e56 := own_ten c56
      have k56 : (1 : Int32).toInt = 1 := rfl
      refine own_iload (pc' := 79) S rfl at_77 rfl ?_
      refine own_iconst (2 : Int32) (pc' := 80) S rfl at_79 rfl ?_
      refine own_ic (pt := 106) (pc' := 83) S (by decide) rfl rfl at_80 ?_ ?_
      · intro c80
        replace c80 := own_ne_t c80
        have e80 := own_ten c80
        have k80 : (2 : Int32).toInt = 2 := rfl
        refine own_iconst (4 : Int32) (pc' := 107) S rfl at_106 rfl ?_
        refine own_newarray (pc' := 109) 4 S (List.mem_of_getElem? (i := 0) rfl) (n := 4) rfl (by decide) (by decide) (by decide) (by decide) rfl at_107 ?_
        intro T h a ha ha0 S E A
        refine own_dup (pc' := 110) S rfl at_109 rfl ?_
        refine own_iconst (0 : Int32) (pc' := 111) S rfl at_110 rfl ?_
        refine own_iload (pc' := 113) S rfl at_111 rfl ?_
        refine own_iastore (pc' := 114) S A (k := 0) rfl (by decide) ha0 rfl at_113 ?_
        intro T h S W A
        refine own_dup (pc' := 115) S rfl at_114 rfl ?_
        refine own_iconst (1 : Int32) (pc' := 116) S rfl at_115 rfl ?_
        refine own_iload (pc' := 118) S rfl at_116 rfl ?_
        refine own_iastore (pc' := 119) S A (k := 1) rfl (by decide) ha0 rfl at_118 ?_
        intro T h S W A
        refine own_dup (pc' := 120) S rfl at_119 rfl ?_
        refine own_iconst (2 : Int32) (pc' := 121) S rfl at_120 rfl ?_
        refine own_iload (pc' := 123) S rfl at_121 rfl ?_
        refine own_iastore (pc' := 124) S A (k := 2) rfl (by decide) ha0 rfl at_123 ?_
        intro T h S W A
        refine own_dup (pc' := 125) S rfl at_124 rfl ?_
        refine own_iconst (3 : Int32) (pc' := 126) S rfl at_125 rfl ?_
        refine own_bipush (64 : Int32) (pc' := 128) S rfl at_126 rfl ?_
        refine own_iastore (pc' := 129) S A (k := 3) rfl (by decide) ha0 rfl at_128 ?_
        intro T h S W A
        refine own_astore (ls' := #[.val (.int x0), .val (.int x1), .val (.int x2), .val (.int x3), .val (.int x4), .val (.int x5), .val (.int ((1 : Int32) + (x0 &&& (15 : Int32)))), .val (.int ((((1 : Int32) + (x0 &&& (15 : Int32))) + (1 : Int32)) + (x1 &&& (15 : Int32)))), .val (.int ((((((1 : Int32) + (x0 &&& (15 : Int32))) + (1 : Int32)) + (x1 &&& (15 : Int32))) + (1 : Int32)) + (x2 &&& (15 : Int32)))), .val (.int (x3 &&& (3 : Int32))), .val (.ref a), .unset, .unset, .unset]) (pc' := 131) S rfl at_129 rfl rfl ?_
        refine own_k131 x0 x1 x2 x3 x4 x5 (1 + (x0 &&& 15)) (1 + (x0 &&& 15) + 1 + (x1 &&& 15)) (1 + (x0 &&& 15) + 1 + (x1 &&& 15) + 1 + (x2 &&& 15)) (x3 &&& 3) 3 (fun j => if j = 0 then (1 + (x0 &&& 15)) else if j = 1 then (1 + (x0 &&& 15) + 1 + (x1 &&& 15)) else if j = 2 then (1 + (x0 &&& 15) + 1 + (x1 &&& 15) + 1 + (x2 &&& 15)) else 64) S (by decide) rfl (own_Aof A fun j hj => ?_) (fun q t v hq hv => ?_) (fun v hv => ?_)
        · have : j = 0 ∨ j = 1 ∨ j = 2 ∨ j = 3 := by omega
          rcases this with rfl | rfl | rfl | rfl <;> rfl
        · obtain ⟨j, hj, rfl, h1, h2⟩ := hv
          have : j = 0 ∨ j = 1 ∨ j = 2 ∨ j = 3 := by omega
          rcases this with rfl | rfl | rfl | rfl
          · skip
            have h1' : (t : Int) ≤ (1 + (x0 &&& 15)).toInt := h1
            show Value.int (1 + (x0 &&& 15)) = _
            rw [own_ref1 (by omega)]
          · skip
            have z0 : (1 + (x0 &&& 15)).toInt < (t : Int) := h2 0 (by decide)
            have h1' : (t : Int) ≤ (1 + (x0 &&& 15) + 1 + (x1 &&& 15)).toInt := h1
            show Value.int (1 + (x0 &&& 15) + 1 + (x1 &&& 15)) = _
            rw [own_ref2 (by omega) (by omega)]
          · skip
            have z0 : (1 + (x0 &&& 15)).toInt < (t : Int) := h2 0 (by decide)
            have z1 : (1 + (x0 &&& 15) + 1 + (x1 &&& 15)).toInt < (t : Int) := h2 1 (by decide)
            have h1' : (t : Int) ≤ (1 + (x0 &&& 15) + 1 + (x1 &&& 15) + 1 + (x2 &&& 15)).toInt := h1
            show Value.int (1 + (x0 &&& 15) + 1 + (x1 &&& 15) + 1 + (x2 &&& 15)) = _
            rw [own_ref3 (by omega) (by omega) (by omega)]
          · skip
            have z0 : (1 + (x0 &&& 15)).toInt < (t : Int) := h2 0 (by decide)
            have z1 : (1 + (x0 &&& 15) + 1 + (x1 &&& 15)).toInt < (t : Int) := h2 1 (by decide)
            have z2 : (1 + (x0 &&& 15) + 1 + (x1 &&& 15) + 1 + (x2 &&& 15)).toInt < (t : Int) := h2 2 (by decide)
            show Value.int 64 = _
            rw [own_ref4 (by omega) (by omega) (by omega)]
        · obtain ⟨j, hj, rfl, h1, h2⟩ := hv
          have : j = 0 ∨ j = 1 ∨ j = 2 ∨ j = 3 := by omega
          rcases this with rfl | rfl | rfl | rfl
          · exact absurd (show (64 : Int) ≤ (1 + (x0 &&& 15)).toInt from h1) (by omega)
          · exact absurd (show (64 : Int) ≤ (1 + (x0 &&& 15) + 1 + (x1 &&& 15)).toInt from h1) (by omega)
          · exact absurd (show (64 : Int) ≤ (1 + (x0 &&& 15) + 1 + (x1 &&& 15) + 1 + (x2 &&& 15)).toInt from h1) (by omega)
          · rfl
      · intro c80
        replace c80 := own_ne_f c80
        have e80 := congrArg Int32.toInt c80
        have k80 : (2 : Int32).toInt = 2 := rfl
        refine own_iconst (3 : Int32) (pc' := 84) S rfl at_83 rfl ?_
        refine own_newarray (pc' := 86) 4 S (List.mem_of_getElem? (i := 0) rfl) (n := 3) rfl (by decide) (by decide) (by decide) (by decide) rfl at_84 ?_
        intro T h a ha ha0 S E A
        refine own_dup (pc' := 87) S rfl at_86 rfl ?_
        refine own_iconst (0 : Int32) (pc' := 88) S rfl at_87 rfl ?_
        refine own_iload (pc' := 90) S rfl at_88 rfl ?_
        refine own_iastore (pc' := 91) S A (k := 0) rfl (by decide) ha0 rfl at_90 ?_
        intro T h S W A
        refine own_dup (pc' := 92) S rfl at_91 rfl ?_
        refine own_iconst (1 : Int32) (pc' := 93) S rfl at_92 rfl ?_
        refine own_iload (pc' := 95) S rfl at_93 rfl ?_
        refine own_iastore (pc' := 96) S A (k := 1) rfl (by decide) ha0 rfl at_95 ?_
        intro T h S W A
        refine own_dup (pc' := 97) S rfl at_96 rfl ?_
        refine own_iconst (2 : Int32) (pc' := 98) S rfl at_97 rfl ?_
        refine own_bipush (64 : Int32) (pc' := 100) S rfl at_98 rfl ?_
        refine own_iastore (pc' := 101) S A (k := 2) rfl (by decide) ha0 rfl at_100 ?_
        intro T h S W A
        refine own_astore (ls' := #[.val (.int x0), .val (.int x1), .val (.int x2), .val (.int x3), .val (.int x4), .val (.int x5), .val (.int ((1 : Int32) + (x0 &&& (15 : Int32)))), .val (.int ((((1 : Int32) + (x0 &&& (15 : Int32))) + (1 : Int32)) + (x1 &&& (15 : Int32)))), .val (.int ((((((1 : Int32) + (x0 &&& (15 : Int32))) + (1 : Int32)) + (x1 &&& (15 : Int32))) + (1 : Int32)) + (x2 &&& (15 : Int32)))), .val (.int (x3 &&& (3 : Int32))), .val (.ref a), .unset, .unset, .unset]) (pc' := 103) S rfl at_101 rfl rfl ?_
        refine own_goto (pc' := 131) S (by decide) rfl at_103 ?_
        refine own_k131 x0 x1 x2 x3 x4 x5 (1 + (x0 &&& 15)) (1 + (x0 &&& 15) + 1 + (x1 &&& 15)) (1 + (x0 &&& 15) + 1 + (x1 &&& 15) + 1 + (x2 &&& 15)) (x3 &&& 3) 2 (fun j => if j = 0 then (1 + (x0 &&& 15)) else if j = 1 then (1 + (x0 &&& 15) + 1 + (x1 &&& 15)) else 64) S (by decide) rfl (own_Aof A fun j hj => ?_) (fun q t v hq hv => ?_) (fun v hv => ?_)
        · have : j = 0 ∨ j = 1 ∨ j = 2 := by omega
          rcases this with rfl | rfl | rfl <;> rfl
        · obtain ⟨j, hj, rfl, h1, h2⟩ := hv
          have : j = 0 ∨ j = 1 ∨ j = 2 := by omega
          rcases this with rfl | rfl | rfl
          · skip
            have h1' : (t : Int) ≤ (1 + (x0 &&& 15)).toInt := h1
            show Value.int (1 + (x0 &&& 15)) = _
            rw [own_ref1 (by omega)]
          · skip
            have z0 : (1 + (x0 &&& 15)).toInt < (t : Int) := h2 0 (by decide)
            have h1' : (t : Int) ≤ (1 + (x0 &&& 15) + 1 + (x1 &&& 15)).toInt := h1
            show Value.int (1 + (x0 &&& 15) + 1 + (x1 &&& 15)) = _
            rw [own_ref2 (by omega) (by omega)]
          · skip
            have z0 : (1 + (x0 &&& 15)).toInt < (t : Int) := h2 0 (by decide)
            have z1 : (1 + (x0 &&& 15) + 1 + (x1 &&& 15)).toInt < (t : Int) := h2 1 (by decide)
            show Value.int 64 = _
            rw [own_ref4 (by omega) (by omega) (by omega)]
        · obtain ⟨j, hj, rfl, h1, h2⟩ := hv
          have : j = 0 ∨ j = 1 ∨ j = 2 := by omega
          rcases this with rfl | rfl | rfl
          · exact absurd (show (64 : Int) ≤ (1 + (x0 &&& 15)).toInt from h1) (by omega)
          · exact absurd (show (64 : Int) ≤ (1 + (x0 &&& 15) + 1 + (x1 &&& 15)).toInt from h1) (by omega)
          · rfl
    · intro c56
      replace c56 := own_ne_f c56
      have e56 := congrArg Int32.toInt c56
      have k56 : (1 : Int32).toInt = 1 := rfl
      refine own_iconst (2 : Int32) (pc' := 60) S rfl at_59 rfl ?_
      refine own_newarray (pc' := 62) 4 S (List.mem_of_getElem? (i := 0) rfl) (n := 2) rfl (by decide) (by decide) (by decide) (by decide) rfl at_60 ?_
      intro T h a ha ha0 S E A
      refine own_dup (pc' := 63) S rfl at_62 rfl ?_
      refine own_iconst (0 : Int32) (pc' := 64) S rfl at_63 rfl ?_
      refine own_iload (pc' := 66) S rfl at_64 rfl ?_
      refine own_iastore (pc' := 67) S A (k := 0) rfl (by decide) ha0 rfl at_66 ?_
      intro T h S W A
      refine own_dup (pc' := 68) S rfl at_67 rfl ?_
      refine own_iconst (1 : Int32) (pc' := 69) S rfl at_68 rfl ?_
      refine own_bipush (64 : Int32) (pc' := 71) S rfl at_69 rfl ?_
      refine own_iastore (pc' := 72) S A (k := 1) rfl (by decide) ha0 rfl at_71 ?_
      intro T h S W A
      refine own_astore (ls' := #[.val (.int x0), .val (.int x1), .val (.int x2), .val (.int x3), .val (.int x4), .val (.int x5), .val (.int ((1 : Int32) + (x0 &&& (15 : Int32)))), .val (.int ((((1 : Int32) + (x0 &&& (15 : Int32))) + (1 : Int32)) + (x1 &&& (15 : Int32)))), .val (.int ((((((1 : Int32) + (x0 &&& (15 : Int32))) + (1 : Int32)) + (x1 &&& (15 : Int32))) + (1 : Int32)) + (x2 &&& (15 : Int32)))), .val (.int (x3 &&& (3 : Int32))), .val (.ref a), .unset, .unset, .unset]) (pc' := 74) S rfl at_72 rfl rfl ?_
      refine own_goto (pc' := 131) S (by decide) rfl at_74 ?_
      refine own_k131 x0 x1 x2 x3 x4 x5 (1 + (x0 &&& 15)) (1 + (x0 &&& 15) + 1 + (x1 &&& 15)) (1 + (x0 &&& 15) + 1 + (x1 &&& 15) + 1 + (x2 &&& 15)) (x3 &&& 3) 1 (fun j => if j = 0 then (1 + (x0 &&& 15)) else 64) S (by decide) rfl (own_Aof A fun j hj => ?_) (fun q t v hq hv => ?_) (fun v hv => ?_)
      · have : j = 0 ∨ j = 1 := by omega
        rcases this with rfl | rfl <;> rfl
      · obtain ⟨j, hj, rfl, h1, h2⟩ := hv
        have : j = 0 ∨ j = 1 := by omega
        rcases this with rfl | rfl
        · skip
          have h1' : (t : Int) ≤ (1 + (x0 &&& 15)).toInt := h1
          show Value.int (1 + (x0 &&& 15)) = _
          rw [own_ref1 (by omega)]
        · skip
          have z0 : (1 + (x0 &&& 15)).toInt < (t : Int) := h2 0 (by decide)
          show Value.int 64 = _
          rw [own_ref4 (by omega) (by omega) (by omega)]
      · obtain ⟨j, hj, rfl, h1, h2⟩ := hv
        have : j = 0 ∨ j = 1 := by omega
        rcases this with rfl | rfl
        · exact absurd (show (64 : Int) ≤ (1 + (x0 &&& 15)).toInt from h1) (by omega)
        · rfl
  · intro c37
    replace c37 := own_ne_f ((if0 _ _).symm.trans c37)
    have e37 := congrArg Int32.toInt c37
    have k37 : (0 : Int32).toInt = 0 := rfl
    refine own_iconst (1 : Int32) (pc' := 41) S rfl at_40 rfl ?_
    refine own_newarray (pc' := 43) 4 S (List.mem_of_getElem? (i := 0) rfl) (n := 1) rfl (by decide) (by decide) (by decide) (by decide) rfl at_41 ?_
    intro T h a ha ha0 S E A
    refine own_dup (pc' := 44) S rfl at_43 rfl ?_
    refine own_iconst (0 : Int32) (pc' := 45) S rfl at_44 rfl ?_
    refine own_bipush (64 : Int32) (pc' := 47) S rfl at_45 rfl ?_
    refine own_iastore (pc' := 48) S A (k := 0) rfl (by decide) ha0 rfl at_47 ?_
    intro T h S W A
    refine own_astore (ls' := #[.val (.int x0), .val (.int x1), .val (.int x2), .val (.int x3), .val (.int x4), .val (.int x5), .val (.int ((1 : Int32) + (x0 &&& (15 : Int32)))), .val (.int ((((1 : Int32) + (x0 &&& (15 : Int32))) + (1 : Int32)) + (x1 &&& (15 : Int32)))), .val (.int ((((((1 : Int32) + (x0 &&& (15 : Int32))) + (1 : Int32)) + (x1 &&& (15 : Int32))) + (1 : Int32)) + (x2 &&& (15 : Int32)))), .val (.int (x3 &&& (3 : Int32))), .val (.ref a), .unset, .unset, .unset]) (pc' := 50) S rfl at_48 rfl rfl ?_
    refine own_goto (pc' := 131) S (by decide) rfl at_50 ?_
    refine own_k131 x0 x1 x2 x3 x4 x5 (1 + (x0 &&& 15)) (1 + (x0 &&& 15) + 1 + (x1 &&& 15)) (1 + (x0 &&& 15) + 1 + (x1 &&& 15) + 1 + (x2 &&& 15)) (x3 &&& 3) 0 (fun _ => 64) S (by decide) rfl (own_Aof A fun j hj => ?_) (fun q t v hq hv => ?_) (fun v hv => ?_)
    · have : j = 0 := by omega
      rcases this with rfl <;> rfl
    · obtain ⟨j, hj, rfl, h1, h2⟩ := hv
      have : j = 0 := by omega
      rcases this with rfl
      · skip
        show Value.int 64 = _
        rw [own_ref4 (by omega) (by omega) (by omega)]
    · obtain ⟨j, hj, rfl, h1, h2⟩ := hv
      have : j = 0 := by omega
      rcases this with rfl
      · rfl
set_option maxRecDepth 65536 in
set_option maxHeartbeats 40000000 in
theorem own_comes {Post : Tables → Env → Array Value → State → Outcome → State → Prop} (hpost : ∀ tb e args s v u, (limb_1_1.after args s (.returned v) u = true ∧ limb_1_2.after args s (.returned v) u = true ∧ True) → FrameEnd s (.returned v) u (Jvm.fieldLocs frame_1_writes args s ++ Jvm.arrayLocs frame_1_arrays args s ++ Jvm.staticLocs frame_1_statics s) 16 256 → Post tb e args s (.returned v) u) :
    ArmFor flags0 classFile x code maxLocals ret World_1 tables_1 room_1 Calls_1 rest_1 Pre_1 Post := by
  intro l hfl _ _ p e ha hc hk s m args below hf hA hF happ hP
  obtain ⟨hcalls, hrest, hpre⟩ := hP
  obtain ⟨-, -, -, hnamed, -, -, -, hat⟩ := (Spec.applies_iff hf).mp happ
  obtain ⟨hg, hn⟩ := and_e (Cond.before_iff.mp (show (Jvm.Cond.and given_1 narrow_1).before args s = true from hpre))
  obtain ⟨g0, r0⟩ := and_e hg
  obtain ⟨b0, r1⟩ := and_e r0
  obtain ⟨b1, r2⟩ := and_e r1
  obtain ⟨b2, r3⟩ := and_e r2
  obtain ⟨b3, r4⟩ := and_e r3
  obtain ⟨b4, r5⟩ := and_e r4
  have b5 := r5
  obtain ⟨w0, w1, w2, w3, w4, w5, rfl⟩ : ∃ w0 w1 w2 w3 w4 w5 : Value, args = #[w0, w1, w2, w3, w4, w5] := by
    have hs : args.size = 6 := by simpa [Cond.value, given_1] using g0
    obtain ⟨L⟩ := args
    match L, hs with
    | [w0, w1, w2, w3, w4, w5], _ => exact ⟨w0, w1, w2, w3, w4, w5, rfl⟩
  have hw := fun d (hd : d ∈ tables_1) => atoms_spec (ws := Jvm.Cond.code x code maxLocals ret :: tables_1) hat d (List.mem_cons_of_mem _ hd)
  obtain ⟨i0, ei0⟩ := is_v b0
  obtain rfl : w0 = (.int i0) := Option.some.inj ei0
  obtain ⟨i1, ei1⟩ := is_v b1
  obtain rfl : w1 = (.int i1) := Option.some.inj ei1
  obtain ⟨i2, ei2⟩ := is_v b2
  obtain rfl : w2 = (.int i2) := Option.some.inj ei2
  obtain ⟨i3, ei3⟩ := is_v b3
  obtain rfl : w3 = (.int i3) := Option.some.inj ei3
  obtain ⟨i4, ei4⟩ := is_v b4
  obtain rfl : w4 = (.int i4) := Option.some.inj ei4
  obtain ⟨i5, ei5⟩ := is_v b5
  obtain rfl : w5 = (.int i5) := Option.some.inj ei5
  obtain ⟨n, o, h1, h2, h3, _, L, rfl, ⟨⟨_, rfl, rfl⟩, N⟩, hq⟩ := own_m0 l s _ hw i0 i1 i2 i3 i4 i5 s.heap s.heap.size (Nat.le_refl _) p e ha hc hk s m _ below hf ((Spec.applies_iff_loose hf).mp happ).1 ⟨rfl, State.Warmed39.refl s, rfl⟩ trivial
  exact ⟨n, _, h1, h2, h3, hpost _ _ _ _ _ _ ⟨Cond.after_iff.mpr rfl, Cond.after_iff.mpr (eq_i res_at (Term.int_eval (1)) rfl), trivial⟩ ⟨hq.1, hq.2.1, (hq.2.2.sift fun y hy => Or.inr (N y hy)).mono (by decide) (by decide)⟩⟩
theorem main_1_1 : Claimed_1_1 := own_comes fun _ _ _ _ _ _ h hF => ⟨h.1, hF⟩
theorem main_1_2 : Claimed_1_2 := own_comes fun _ _ _ _ _ _ h hF => ⟨h.2.1, hF⟩
end Jvm.Pilot.@@N@@
namespace Jvm.Pilot.@@N@@
open Jvm Jvm.ClassFile Sem Op Lib Jvm.Free Jvm.Stand Jvm.Pilot.@@N@@.Jvm.D
/-! MADE BY PROGRAM (witnessworld.py) out of the Statement's table words and the real class files: 9 classes; the members and pool entries that the words name. The judged class is class 1, her method 2. -/
namespace start1
open Jvm.ClassFile
def u (s : String) : CpInfo := .utf8 (stringToUtf16 s)
/-- a pool by its gaps: so many unusable entries, then the entry; so many at the end -/
def gap : Nat → List CpInfo → List CpInfo
  | 0, r => r
  | n + 1, r => .unusable :: gap n r
def poolList (es : List (Nat × CpInfo)) (last : Nat) : List CpInfo := es.foldr (fun e r => gap e.1 (e.2 :: r)) (gap last [])
def pool (es : List (Nat × CpInfo)) (last : Nat) : Array CpInfo := ⟨poolList es last⟩
def fileOf (pool : Array CpInfo) (this : Nat) (attrs : Array Attribute := #[]) (ms : Array MethodInfo := #[]) (fl : Nat := 33) (sup : Nat := 0) (ifs : Array Nat := #[]) (fds : Array FieldInfo := #[]) : ClassFile where
  minorVersion := 0
  majorVersion := 65
  constantPool := pool
  accessFlags := fl
  thisClass := this
  superClass := sup
  interfaces := ifs
  fields := fds
  methods := ms
  attributes := attrs
def plain (name : String) (sup : Option ClassId) : Class where
  name := name
  kind := .ordinary
  loader := none
  accessFlags := 33
  super := sup
  interfaces := #[]
  cf := none
  fields := #[]
  methods := #[]
  instanceTypes := #[]
  staticTypes := #[]
  resolved := #[]
  callSites := []
  init := .initialized
  statics := none
  mirror := none

def pool0 : Array CpInfo := pool [(5, u "<init>"), (0, u "()V"), (1, .class_ 10), (1, u "java/lang/Object")] 113

def k0m0 : Method := { name := "<init>", desc := "()V", sig := { parameters := [], returnType := none }, accessFlags := 1, code := none }
/-- java/lang/Object -/
def k0 : Class := { plain "java/lang/Object" none with
  accessFlags := 33
  interfaces := #[]
  cf := some (fileOf pool0 8 #[] #[{ accessFlags := 1, nameIndex := 5, descriptorIndex := 6, attributes := #[] }] 33 0 #[] #[])
  fields := #[]
  methods := #[k0m0]
  instanceTypes := #[]
  staticTypes := #[]
  resolved := Array.replicate 124 none
  statics := none }

def pool1 : Array CpInfo := pool [(2, .class_ 4), (1, u "java/lang/Object"), (0, u "<init>"), (0, u "()V"), (0, .methodref 8 9), (0, .class_ 10), (0, .nameAndType 11 12), (0, u "com/example/colonnade/colonnade/orc/RunLengthV2Widths"), (0, u "closestWidths"), (0, u "([I)[I"), (0, .integer 2147483647), (0, .methodref 15 16), (0, .class_ 17), (0, .nameAndType 18 19), (0, u "com/example/colonnade/colonnade/orc/RunLengthV2WidthsClosestWidthsPinLaw"), (0, u "ref"), (0, u "(IIIII)I"), (3, u "law"), (0, u "(IIIIII)Z")] 4

def k1m0 : Method := { name := "<init>", desc := "()V", sig := { parameters := [], returnType := none }, accessFlags := 1, code := none }
def k1c1 : Code := { maxStack := 2, maxLocals := 5, code := method_2_code, exceptionTable := #[], attributes := #[] }
def k1m1 : Method := { name := "ref", desc := "(IIIII)I", sig := { parameters := [.int, .int, .int, .int, .int], returnType := some .int }, accessFlags := 10, code := some k1c1 }
def k1c2 : Code := { maxStack := 6, maxLocals := 14, code := code, exceptionTable := #[], attributes := #[] }
def k1m2 : Method := { name := "law", desc := "(IIIIII)Z", sig := { parameters := [.int, .int, .int, .int, .int, .int], returnType := some .boolean }, accessFlags := 9, code := some k1c2 }
/-- com/example/colonnade/colonnade/orc/RunLengthV2WidthsClosestWidthsPinLaw -/
def k1 : Class := { plain "com/example/colonnade/colonnade/orc/RunLengthV2WidthsClosestWidthsPinLaw" (some 0) with
  accessFlags := 49
  interfaces := #[]
  cf := some (fileOf pool1 15 #[] #[{ accessFlags := 1, nameIndex := 5, descriptorIndex := 6, attributes := #[] }, { accessFlags := 10, nameIndex := 18, descriptorIndex := 19, attributes := #[] }, { accessFlags := 9, nameIndex := 23, descriptorIndex := 24, attributes := #[] }] 49 2 #[] #[])
  fields := #[]
  methods := #[k1m0, k1m1, k1m2]
  instanceTypes := #[]
  staticTypes := #[]
  resolved := Array.replicate 29 none
  statics := none }

def pool2 : Array CpInfo := pool [(2, .class_ 4), (1, u "java/lang/Object"), (0, u "<init>"), (0, u "()V"), (1, .class_ 10), (1, u "com/example/colonnade/colonnade/orc/RunLengthV2Widths"), (0, u "WIDTHS"), (0, u "[I"), (8, u "CLOSEST"), (9, u "closestWidths"), (0, u "([I)[I")] 11

def k2m0 : Method := { name := "<init>", desc := "()V", sig := { parameters := [], returnType := none }, accessFlags := 2, code := none }
def k2c1 : Code := { maxStack := 4, maxLocals := 4, code := prog_161_method_6_code, exceptionTable := #[], attributes := #[] }
def k2m1 : Method := { name := "closestWidths", desc := "([I)[I", sig := { parameters := [(.array .int)], returnType := some (.array .int) }, accessFlags := 8, code := some k2c1 }
/-- com/example/colonnade/colonnade/orc/RunLengthV2Widths -/
def k2 : Class := { plain "com/example/colonnade/colonnade/orc/RunLengthV2Widths" (some 0) with
  accessFlags := 48
  interfaces := #[]
  cf := some (fileOf pool2 8 #[] #[{ accessFlags := 2, nameIndex := 5, descriptorIndex := 6, attributes := #[] }, { accessFlags := 8, nameIndex := 31, descriptorIndex := 32, attributes := #[] }] 48 2 #[] #[{ accessFlags := 26, nameIndex := 11, descriptorIndex := 12, attributes := #[] }, { accessFlags := 26, nameIndex := 21, descriptorIndex := 12, attributes := #[] }])
  fields := #[{ name := "WIDTHS", type := (.array .int), accessFlags := 26, slot := 0, constantValue := 0 }, { name := "CLOSEST", type := (.array .int), accessFlags := 26, slot := 1, constantValue := 0 }]
  methods := #[k2m0, k2m1]
  instanceTypes := #[]
  staticTypes := #[(.array .int), (.array .int)]
  resolved := Array.replicate 44 none
  statics := none }

def pool3 : Array CpInfo := pool [(1, u "java/lang/Cloneable"), (0, .class_ 1), (0, u "java/lang/Object"), (0, .class_ 3)] 3

/-- java/lang/Cloneable -/
def k3 : Class := { plain "java/lang/Cloneable" (some 0) with
  accessFlags := 1537
  interfaces := #[]
  cf := some (fileOf pool3 2 #[] #[] 1537 4 #[] #[])
  fields := #[]
  methods := #[]
  instanceTypes := #[]
  staticTypes := #[]
  resolved := Array.replicate 8 none
  statics := none }

def pool4 : Array CpInfo := pool [(1, u "java/io/Serializable"), (0, .class_ 1), (0, u "java/lang/Object"), (0, .class_ 3)] 3

/-- java/io/Serializable -/
def k4 : Class := { plain "java/io/Serializable" (some 0) with
  accessFlags := 1537
  interfaces := #[]
  cf := some (fileOf pool4 2 #[] #[] 1537 4 #[] #[])
  fields := #[]
  methods := #[]
  instanceTypes := #[]
  staticTypes := #[]
  resolved := Array.replicate 8 none
  statics := none }

/-- the primitive byte -/
def k5 : Class := { plain "byte" none with kind := .primitive 'B', accessFlags := 0x411 }
/-- [B -/
def k6 : Class := { plain "[B" (some 0) with kind := .array 5 .byte, interfaces := #[3, 4], accessFlags := 1041 }

/-- the primitive int -/
def k7 : Class := { plain "int" none with kind := .primitive 'I', accessFlags := 0x411 }
/-- [I -/
def k8 : Class := { plain "[I" (some 0) with kind := .array 7 .int, interfaces := #[3, 4], accessFlags := 1041 }

def heap : Heap := #[]
def classes : Array Class := #[k0, k1, k2, k3, k4, k5, k6, k7, k8]
def interned : List (Array UInt16 × Addr) := []
def slotsUsed : Nat := 0
def theMethod : MethodId := ⟨1, 2⟩
def args0 : Array Value := #[.int 3, .int 4, .int 5, .int 6, .int 7, .int 8]
def aboutOver (below : List Frame) : State where
  vm := { classes := classes, interned := interned.toArray }
  heap := heap
  slotsUsed := slotsUsed
  threads := #[{ frames := .invoking theMethod args0 :: below }]
def below0 : List Frame := [.native { method := ⟨0, 0⟩, args := #[] }]
def about1 : State := aboutOver below0
def p0 : Program := .bare "" "" ""
def e0 : Env := launch0.env 0 0 0
theorem w_frames : about1.frames = Frame.invoking theMethod args0 :: below0 := rfl
set_option maxRecDepth 65536 in
theorem w_args : argsFit about1.vm theMethod args0 = true := by decide +kernel
set_option maxRecDepth 65536 in
theorem w_heap : heapFits about1 = true := by decide +kernel
set_option maxRecDepth 65536 in
theorem w_runnable : about1.curStatus? = some .runnable := by decide +kernel
set_option maxRecDepth 65536 in
theorem w_alone : about1.alone = true := by decide +kernel
set_option maxRecDepth 65536 in
theorem w_named : about1.methodNamed? x = some theMethod := by decide +kernel
set_option maxRecDepth 65536 in
theorem w_hears : about1.hears theMethod below0 = true := by decide +kernel
set_option maxRecDepth 65536 in
theorem w_ripe : about1.ripe theMethod args0 below0 = true := by decide +kernel
theorem w_running : about1.status = .running := rfl
set_option maxRecDepth 65536 in
theorem w_room : about1.hasRoom e0.platform room_1 = true :=
  launch0.hasRoom_least _ room_1 (by decide +kernel) (by decide +kernel) (by decide +kernel) (by decide +kernel) (by decide +kernel) (by decide +kernel)
theorem allAtoms_all (ts : List Jvm.Cond) (a : Array Jvm.Value) (st : Jvm.State) : (allAtoms ts).before a st = ts.all (fun c => c.before a st) := by
  induction ts with
  | nil => rfl
  | cons c t ih =>
    show (Jvm.Cond.and c (allAtoms t)).before a st = _
    rw [Jvm.Cond.before_and, ih, List.all_cons]
def words1 : List Jvm.Cond := Jvm.Cond.code x code maxLocals ret :: tables_1
/-- a 'code' word, met by the world's own term for the bytes: nothing is compared byte by byte -/
theorem code_word {y : MethodName} {bytes : ByteArray} {mx : Nat} {rt : Option FieldType} {a : Array Value} {s : State} {m : MethodId} {meth : Method} {c : Code} (h1 : s.methodNamed? y = some m) (h2 : s.vm.method? m = some meth) (h3 : meth.code = some c) (h4 : c.code = bytes)
    (h5 : (c.maxLocals == mx && c.exceptionTable.isEmpty && decide (c.maxStack ≤ mostOperands) && decide (meth.sig.returnType = rt) && !meth.locks && decide (parseMethodDescriptor y.desc = some meth.sig)) = true) : (Jvm.Cond.code y bytes mx rt).before a s = true := by
  simp only [Bool.and_eq_true, beq_iff_eq, Bool.not_eq_true', decide_eq_true_eq] at h5
  obtain ⟨⟨⟨⟨⟨g1, g2⟩, g3⟩, g4⟩, g5⟩, g6⟩ := h5
  simp [Cond.before, Cond.holds, Cond.value, h1, h2, h3, h4, g1, g2, g3, g4, g5, g6]
def isCode : Jvm.Cond → Bool
  | .code _ _ _ _ => true
  | _ => false
theorem all_split {L : List Jvm.Cond} {P : Jvm.Cond → Bool} (h1 : L.all (fun c => isCode c || P c) = true) (h2 : ∀ c ∈ L.filter isCode, P c = true) : L.all P = true := by
  refine List.all_eq_true.mpr fun c hc => ?_
  have h := List.all_eq_true.mp h1 c hc
  rcases Bool.eq_false_or_eq_true (isCode c) with hi | hi
  · exact h2 c (List.mem_filter.mpr ⟨hc, hi⟩)
  · simpa [hi] using h
set_option maxRecDepth 65536 in
theorem w_c0 : (Jvm.Cond.code x code maxLocals ret).before args0 about1 = true := code_word (m := ⟨1, 2⟩) (meth := k1m2) (c := k1c2) (by decide +kernel) rfl rfl rfl (by decide +kernel)
set_option maxRecDepth 65536 in
theorem w_c1 : (Jvm.Cond.code ({ cls := "com/example/colonnade/colonnade/orc/RunLengthV2Widths", name := "closestWidths", desc := "([I)[I" } : Jvm.MethodName) prog_161_method_6_code (4 : Nat) (Option.some (Jvm.ClassFile.FieldType.array Jvm.ClassFile.FieldType.int))).before args0 about1 = true := code_word (m := ⟨2, 1⟩) (meth := k2m1) (c := k2c1) (by decide +kernel) rfl rfl rfl (by decide +kernel)
set_option maxRecDepth 65536 in
theorem w_c2 : (Jvm.Cond.code ({ cls := "com/example/colonnade/colonnade/orc/RunLengthV2WidthsClosestWidthsPinLaw", name := "ref", desc := "(IIIII)I" } : Jvm.MethodName) method_2_code (5 : Nat) (Option.some Jvm.ClassFile.FieldType.int)).before args0 about1 = true := code_word (m := ⟨1, 1⟩) (meth := k1m1) (c := k1c1) (by decide +kernel) rfl rfl rfl (by decide +kernel)
def codes1 : List Jvm.Cond := [Jvm.Cond.code x code maxLocals ret, Jvm.Cond.code ({ cls := "com/example/colonnade/colonnade/orc/RunLengthV2Widths", name := "closestWidths", desc := "([I)[I" } : Jvm.MethodName) prog_161_method_6_code (4 : Nat) (Option.some (Jvm.ClassFile.FieldType.array Jvm.ClassFile.FieldType.int)), Jvm.Cond.code ({ cls := "com/example/colonnade/colonnade/orc/RunLengthV2WidthsClosestWidthsPinLaw", name := "ref", desc := "(IIIII)I" } : Jvm.MethodName) method_2_code (5 : Nat) (Option.some Jvm.ClassFile.FieldType.int)]
set_option maxRecDepth 65536 in
theorem codes_eq : words1.filter isCode = codes1 := rfl
theorem w_codes : ∀ c ∈ words1.filter isCode, c.before args0 about1 = true := by
  rw [codes_eq]
  intro c hc
  simp only [codes1, List.mem_cons, List.not_mem_nil, or_false] at hc
  rcases hc with rfl | rfl | rfl
  · exact w_c0
  · exact w_c1
  · exact w_c2
set_option maxRecDepth 65536 in
theorem w_t1 : words1.all (fun c => isCode c || c.before args0 about1) = true := by decide +kernel
theorem w_tables : (allAtoms (Jvm.Cond.code x code maxLocals ret :: tables_1)).before args0 about1 = true := by
  rw [allAtoms_all]
  show words1.all (fun c => c.before args0 about1) = true
  refine all_split ?_ w_codes
  rw [w_t1]
set_option maxRecDepth 65536 in
theorem w_case : (Jvm.Cond.and given_1 narrow_1).before args0 about1 = true := by decide +kernel
theorem w_applies : (headSpec (Jvm.Cond.code x code maxLocals ret :: tables_1) room_1).applies x e0.platform about1 = true :=
  (Spec.applies_iff w_frames).mpr ⟨w_running, w_runnable, w_alone, w_named, w_hears, w_ripe, w_room, w_tables⟩
theorem atStart : AtStart classFile x code maxLocals ret World_1 tables_1 room_1 Calls_1 rest_1 Pre_1 launch0 p0 e0 about1 theMethod args0 below0 :=
  ⟨lists_1, trivial, launch0.admits_env _ _ _, launch0.least_env, fairChoices_fair.cas, fairChoices_fair.clock, w_frames, w_args, w_heap, w_applies, trivial, trivial, w_case⟩
end start1
theorem witness_1 : WitnessClaimed_1 := ⟨start1.p0, start1.e0, start1.about1, start1.theMethod, start1.args0, start1.below0, start1.atStart⟩
end Jvm.Pilot.@@N@@
