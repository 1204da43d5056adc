import JvmDerived
import JvmDerived.Pilot.@@N@@Statement
import JvmDerived.Pilot.@@N@@Code
set_option linter.unusedVariables false
set_option linter.unusedSimpArgs false
namespace Jvm.Pilot.@@N@@
open Jvm Jvm.ClassFile Sem Op Lib Jvm.Free Jvm.Stand Jvm.LawKit Jvm.RoadKit Bundle Jvm.Pilot.@@N@@.Jvm.D
section Own
variable {p : Program} {l : Launch} {e : Env} {s : State} {m : MethodId} {args : Array Value} {below : List Frame} {meth : Method} {c : Code} {Z : State} {a0 : Array Value} {n0 : Nat}
  {y : MethodName} {code : ByteArray} {mx : Nat} {ret : Option FieldType} {R : Room} {T : State} {h : Heap} {cells slots : Nat} {Q : Option Value → Heap → Prop} {pc pc' : Nat} {ls ls' : Array Slot} {st : List Value}
/-- where a walk stands: all that stays from step to step, in one word -/
def own_S (p : Program) (l : Launch) (e : Env) (s : State) (m : MethodId) (args : Array Value) (below : List Frame) (meth : Method) (c : Code) (Z : State) (a0 : Array Value) (n0 : Nat) (y : MethodName) (code : ByteArray) (mx : Nat) (ret : Option FieldType) (R : Room) (T : State) (h : Heap) (cells slots : Nat) : Prop :=
  ∃ locs : List Loc, Stand p l e R s m args below meth c T locs cells slots ∧ T.heap = h ∧ Fr n0 locs ∧ n0 ≤ s.heap.size ∧ p.tables.exec = Jvm.exec ∧ Z.Warmed39 s.vm ∧ (∀ d ∈ tables_1, d.before a0 Z = true) ∧ c.code = code ∧ c.maxLocals = mx ∧ s.vm.findClass y.cls = some m.cls ∧ meth.name = y.name ∧ meth.locks = false ∧ meth.sig.returnType = ret
/-- from T with the frame f on top the invocation comes to an end of which Q speaks -/
def own_G (p : Program) (e : Env) (s : State) (below : List Frame) (R : Room) (n0 : Nat) (Q : Option Value → Heap → Prop) (T : State) (f : JFrame) : Prop :=
  ∃ (U : State) (o : Outcome), Steps p.tables e below (T.setTop f) U ∧ U.status = .running ∧ Ended U below o ∧ ∃ v L, o = .returned v ∧ (Q v U.heap ∧ Fr n0 L) ∧ FrameEnd s o U L R.cells R.slots
theorem own_by {T' : State} {f f' : JFrame} (st : ∀ target, Steps p.tables e below (T'.setTop f') target → Steps p.tables e below (T.setTop f) target) (H : own_G p e s below R n0 Q T' f') : own_G p e s below R n0 Q T f := by
  obtain ⟨U, o, h1, h2⟩ := H
  exact ⟨U, o, st U h1, h2⟩
theorem own_word (S : own_S p l e s m args below meth c Z a0 n0 y code mx ret R T h cells slots) : ∀ d ∈ tables_1, d.before a0 Z = true := by
  obtain ⟨_, _, _, _, _, _, _, hw, _⟩ := S; exact hw
theorem own_size (S : own_S p l e s m args below meth c Z a0 n0 y code mx ret R T h cells slots) : n0 ≤ h.size := by
  obtain ⟨_, X, eT, _, hs, _⟩ := S; rw [← eT]; exact Nat.le_trans hs X.same.2.1
-- plain steps
theorem own_iload {k : Nat} {v : Int32} (S : own_S p l e s m args below meth c Z a0 n0 y code mx ret R T h cells slots) (hp : pc + 2 = pc') (hd : decode code pc = .ok (.iload k, 2)) (hl : ls[k]? = some (.val (.int v)))
    (H : own_G p e s below R n0 Q T (mkF m pc' ls (.int v :: st))) : own_G p e s below R n0 Q T (mkF m pc ls st) := by
  obtain ⟨_, X, _, _, _, hx, _, _, hby, _⟩ := S; subst hp
  exact own_by (fun _ k => XS.iload X.here hx rfl (hb hby hd) hl k) H
theorem own_iloadN {k : Fin 4} {v : Int32} (S : own_S p l e s m args below meth c Z a0 n0 y code mx ret R T h cells slots) (hp : pc + 1 = pc') (hd : decode code pc = .ok (.iload_n k, 1)) (hl : ls[k.val]? = some (.val (.int v)))
    (H : own_G p e s below R n0 Q T (mkF m pc' ls (.int v :: st))) : own_G p e s below R n0 Q T (mkF m pc ls st) := by
  obtain ⟨_, X, _, _, _, hx, _, _, hby, _⟩ := S; subst hp
  exact own_by (fun _ k => XS.iloadN X.here hx rfl (hb hby hd) hl k) H
theorem own_lload {k : Nat} {v : Int64} (S : own_S p l e s m args below meth c Z a0 n0 y code mx ret R T h cells slots) (hp : pc + 2 = pc') (hd : decode code pc = .ok (.lload k, 2)) (hl : ls[k]? = some (.val (.long v)))
    (H : own_G p e s below R n0 Q T (mkF m pc' ls (.long v :: st))) : own_G p e s below R n0 Q T (mkF m pc ls st) := by
  obtain ⟨_, X, _, _, _, hx, _, _, hby, _⟩ := S; subst hp
  exact own_by (fun _ k => XT.lload X.here hx rfl (hb hby hd) hl k) H
theorem own_lloadN {k : Fin 4} {v : Int64} (S : own_S p l e s m args below meth c Z a0 n0 y code mx ret R T h cells slots) (hp : pc + 1 = pc') (hd : decode code pc = .ok (.lload_n k, 1)) (hl : ls[k.val]? = some (.val (.long v)))
    (H : own_G p e s below R n0 Q T (mkF m pc' ls (.long v :: st))) : own_G p e s below R n0 Q T (mkF m pc ls st) := by
  obtain ⟨_, X, _, _, _, hx, _, _, hby, _⟩ := S; subst hp
  exact own_by (fun _ k => XT.lloadN X.here hx rfl (hb hby hd) hl k) H
theorem own_aload {k : Nat} {v : Value} (S : own_S p l e s m args below meth c Z a0 n0 y code mx ret R T h cells slots) (hp : pc + 2 = pc') (hd : decode code pc = .ok (.aload k, 2)) (hl : ls[k]? = some (.val v)) (hv : v.isRef = true)
    (H : own_G p e s below R n0 Q T (mkF m pc' ls (v :: st))) : own_G p e s below R n0 Q T (mkF m pc ls st) := by
  obtain ⟨_, X, _, _, _, hx, _, _, hby, _⟩ := S; subst hp
  exact own_by (fun _ k => XS.aload X.here hx rfl (hb hby hd) hl hv k) H
theorem own_aloadN {k : Fin 4} {v : Value} (S : own_S p l e s m args below meth c Z a0 n0 y code mx ret R T h cells slots) (hp : pc + 1 = pc') (hd : decode code pc = .ok (.aload_n k, 1)) (hl : ls[k.val]? = some (.val v)) (hv : v.isRef = true)
    (H : own_G p e s below R n0 Q T (mkF m pc' ls (v :: st))) : own_G p e s below R n0 Q T (mkF m pc ls st) := by
  obtain ⟨_, X, _, _, _, hx, _, _, hby, _⟩ := S; subst hp
  exact own_by (fun _ k => XS.aloadN X.here hx rfl (hb hby hd) hl hv k) H
theorem own_iconst {i : Int} (v : Int32) (S : own_S p l e s m args below meth c Z a0 n0 y code mx ret R T h cells slots) (hp : pc + 1 = pc') (hd : decode code pc = .ok (.iconst i, 1)) (hv : Int32.ofInt i = v)
    (H : own_G p e s below R n0 Q T (mkF m pc' ls (.int v :: st))) : own_G p e s below R n0 Q T (mkF m pc ls st) := by
  obtain ⟨_, X, _, _, _, hx, _, _, hby, _⟩ := S; subst hp
  exact own_by (fun _ k => XT.iconstV X.here hx rfl v (hb hby hd) hv k) H
theorem own_bipush {i : Int} (v : Int32) (S : own_S p l e s m args below meth c Z a0 n0 y code mx ret R T h cells slots) (hp : pc + 2 = pc') (hd : decode code pc = .ok (.bipush i, 2)) (hv : (Int8.ofInt i).toInt32 = v)
    (H : own_G p e s below R n0 Q T (mkF m pc' ls (.int v :: st))) : own_G p e s below R n0 Q T (mkF m pc ls st) := by
  obtain ⟨_, X, _, _, _, hx, _, _, hby, _⟩ := S; subst hp
  exact own_by (fun _ k => XT.bipushV X.here hx rfl v (hb hby hd) hv k) H
theorem own_sipush {i : Int} (v : Int32) (S : own_S p l e s m args below meth c Z a0 n0 y code mx ret R T h cells slots) (hp : pc + 3 = pc') (hd : decode code pc = .ok (.sipush i, 3)) (hv : (Int16.ofInt i).toInt32 = v)
    (H : own_G p e s below R n0 Q T (mkF m pc' ls (.int v :: st))) : own_G p e s below R n0 Q T (mkF m pc ls st) := by
  obtain ⟨_, X, _, _, _, hx, _, _, hby, _⟩ := S; subst hp
  exact own_by (fun _ k => XT.sipushV X.here hx rfl v (hb hby hd) hv k) H
theorem own_null (S : own_S p l e s m args below meth c Z a0 n0 y code mx ret R T h cells slots) (hp : pc + 1 = pc') (hd : decode code pc = .ok (.aconst_null, 1))
    (H : own_G p e s below R n0 Q T (mkF m pc' ls (.null :: st))) : own_G p e s below R n0 Q T (mkF m pc ls st) := by
  obtain ⟨_, X, _, _, _, hx, _, _, hby, _⟩ := S; subst hp
  exact own_by (fun _ k => XS.aconstNull X.here hx rfl (hb hby hd) k) H
theorem own_ldc {idx : Nat} {v : Int32} (S : own_S p l e s m args below meth c Z a0 n0 y code mx ret R T h cells slots) (hp : pc + 2 = pc') (hd : decode code pc = .ok (.ldc idx, 2)) (w : Jvm.Cond.constant y.cls idx v ∈ tables_1)
    (H : own_G p e s below R n0 Q T (mkF m pc' ls (.int v :: st))) : own_G p e s below R n0 Q T (mkF m pc ls st) := by
  obtain ⟨_, X, _, _, _, hx, hZ, hw, hby, _, hown, _⟩ := S; subst hp
  exact own_by (fun _ k => X.ldcI hx hown (mvT hZ (hw _ w)) rfl (hb hby hd) k) H
theorem own_iadd {a b : Int32} (S : own_S p l e s m args below meth c Z a0 n0 y code mx ret R T h cells slots) (hp : pc + 1 = pc') (hd : decode code pc = .ok (.iadd, 1))
    (H : own_G p e s below R n0 Q T (mkF m pc' ls (.int (a + b) :: st))) : own_G p e s below R n0 Q T (mkF m pc ls (.int b :: .int a :: st)) := by
  obtain ⟨_, X, _, _, _, hx, _, _, hby, _⟩ := S; subst hp
  exact own_by (fun _ k => XS.iadd X.here hx rfl (hb hby hd) rfl k) H
theorem own_isub {a b : Int32} (S : own_S p l e s m args below meth c Z a0 n0 y code mx ret R T h cells slots) (hp : pc + 1 = pc') (hd : decode code pc = .ok (.isub, 1))
    (H : own_G p e s below R n0 Q T (mkF m pc' ls (.int (a - b) :: st))) : own_G p e s below R n0 Q T (mkF m pc ls (.int b :: .int a :: st)) := by
  obtain ⟨_, X, _, _, _, hx, _, _, hby, _⟩ := S; subst hp
  exact own_by (fun _ k => XS.isub X.here hx rfl (hb hby hd) rfl k) H
theorem own_imul {a b : Int32} (S : own_S p l e s m args below meth c Z a0 n0 y code mx ret R T h cells slots) (hp : pc + 1 = pc') (hd : decode code pc = .ok (.imul, 1))
    (H : own_G p e s below R n0 Q T (mkF m pc' ls (.int (a * b) :: st))) : own_G p e s below R n0 Q T (mkF m pc ls (.int b :: .int a :: st)) := by
  obtain ⟨_, X, _, _, _, hx, _, _, hby, _⟩ := S; subst hp
  exact own_by (fun _ k => XS.imul X.here hx rfl (hb hby hd) rfl k) H
theorem own_idiv {a b : Int32} (S : own_S p l e s m args below meth c Z a0 n0 y code mx ret R T h cells slots) (hp : pc + 1 = pc') (hd : decode code pc = .ok (.idiv, 1)) (hz : b ≠ 0)
    (H : own_G p e s below R n0 Q T (mkF m pc' ls (.int (a / b) :: st))) : own_G p e s below R n0 Q T (mkF m pc ls (.int b :: .int a :: st)) := by
  obtain ⟨_, X, _, _, _, hx, _, _, hby, _⟩ := S; subst hp
  exact own_by (fun _ k => XS.idiv X.here hx rfl (hb hby hd) rfl hz k) H
theorem own_irem {a b : Int32} (S : own_S p l e s m args below meth c Z a0 n0 y code mx ret R T h cells slots) (hp : pc + 1 = pc') (hd : decode code pc = .ok (.irem, 1)) (hz : b ≠ 0)
    (H : own_G p e s below R n0 Q T (mkF m pc' ls (.int (a % b) :: st))) : own_G p e s below R n0 Q T (mkF m pc ls (.int b :: .int a :: st)) := by
  obtain ⟨_, X, _, _, _, hx, _, _, hby, _⟩ := S; subst hp
  exact own_by (fun _ k => iremM X hx rfl (hb hby hd) rfl hz k) H
theorem own_iand {a b : Int32} (S : own_S p l e s m args below meth c Z a0 n0 y code mx ret R T h cells slots) (hp : pc + 1 = pc') (hd : decode code pc = .ok (.iand, 1))
    (H : own_G p e s below R n0 Q T (mkF m pc' ls (.int (a &&& b) :: st))) : own_G p e s below R n0 Q T (mkF m pc ls (.int b :: .int a :: st)) := by
  obtain ⟨_, X, _, _, _, hx, _, _, hby, _⟩ := S; subst hp
  exact own_by (fun _ k => XS.iand X.here hx rfl (hb hby hd) rfl k) H
theorem own_ior {a b : Int32} (S : own_S p l e s m args below meth c Z a0 n0 y code mx ret R T h cells slots) (hp : pc + 1 = pc') (hd : decode code pc = .ok (.ior, 1))
    (H : own_G p e s below R n0 Q T (mkF m pc' ls (.int (a ||| b) :: st))) : own_G p e s below R n0 Q T (mkF m pc ls (.int b :: .int a :: st)) := by
  obtain ⟨_, X, _, _, _, hx, _, _, hby, _⟩ := S; subst hp
  exact own_by (fun _ k => XT.ior X.here hx rfl (hb hby hd) rfl k) H
theorem own_ixor {a b : Int32} (S : own_S p l e s m args below meth c Z a0 n0 y code mx ret R T h cells slots) (hp : pc + 1 = pc') (hd : decode code pc = .ok (.ixor, 1))
    (H : own_G p e s below R n0 Q T (mkF m pc' ls (.int (a ^^^ b) :: st))) : own_G p e s below R n0 Q T (mkF m pc ls (.int b :: .int a :: st)) := by
  obtain ⟨_, X, _, _, _, hx, _, _, hby, _⟩ := S; subst hp
  exact own_by (fun _ k => XT.ixor X.here hx rfl (hb hby hd) rfl k) H
theorem own_ishr {a b : Int32} (S : own_S p l e s m args below meth c Z a0 n0 y code mx ret R T h cells slots) (hp : pc + 1 = pc') (hd : decode code pc = .ok (.ishr, 1))
    (H : own_G p e s below R n0 Q T (mkF m pc' ls (.int (a >>> (b &&& 31)) :: st))) : own_G p e s below R n0 Q T (mkF m pc ls (.int b :: .int a :: st)) := by
  obtain ⟨_, X, _, _, _, hx, _, _, hby, _⟩ := S; subst hp
  exact own_by (fun _ k => XT.ishr X.here hx rfl (hb hby hd) rfl k) H
theorem own_iushr {a b : Int32} (S : own_S p l e s m args below meth c Z a0 n0 y code mx ret R T h cells slots) (hp : pc + 1 = pc') (hd : decode code pc = .ok (.iushr, 1))
    (H : own_G p e s below R n0 Q T (mkF m pc' ls (.int (XT.ushr a b) :: st))) : own_G p e s below R n0 Q T (mkF m pc ls (.int b :: .int a :: st)) := by
  obtain ⟨_, X, _, _, _, hx, _, _, hby, _⟩ := S; subst hp
  exact own_by (fun _ k => XT.iushr X.here hx rfl (hb hby hd) rfl k) H
theorem own_lushr {a : Int64} {b : Int32} (S : own_S p l e s m args below meth c Z a0 n0 y code mx ret R T h cells slots) (hp : pc + 1 = pc') (hd : decode code pc = .ok (.lushr, 1))
    (H : own_G p e s below R n0 Q T (mkF m pc' ls (.long (XT.ushrL a b) :: st))) : own_G p e s below R n0 Q T (mkF m pc ls (.int b :: .long a :: st)) := by
  obtain ⟨_, X, _, _, _, hx, _, _, hby, _⟩ := S; subst hp
  exact own_by (fun _ k => XT.lushr X.here hx rfl (hb hby hd) rfl k) H
theorem own_l2i {a : Int64} (S : own_S p l e s m args below meth c Z a0 n0 y code mx ret R T h cells slots) (hp : pc + 1 = pc') (hd : decode code pc = .ok (.l2i, 1))
    (H : own_G p e s below R n0 Q T (mkF m pc' ls (.int a.toInt32 :: st))) : own_G p e s below R n0 Q T (mkF m pc ls (.long a :: st)) := by
  obtain ⟨_, X, _, _, _, hx, _, _, hby, _⟩ := S; subst hp
  exact own_by (fun _ k => XT.l2i X.here hx rfl (hb hby hd) rfl k) H
theorem own_i2b {a : Int32} (S : own_S p l e s m args below meth c Z a0 n0 y code mx ret R T h cells slots) (hp : pc + 1 = pc') (hd : decode code pc = .ok (.i2b, 1))
    (H : own_G p e s below R n0 Q T (mkF m pc' ls (.int a.toInt8.toInt32 :: st))) : own_G p e s below R n0 Q T (mkF m pc ls (.int a :: st)) := by
  obtain ⟨_, X, _, _, _, hx, _, _, hby, _⟩ := S; subst hp
  exact own_by (fun _ k => XT.i2b X.here hx rfl (hb hby hd) rfl k) H
theorem own_i2c {a : Int32} (S : own_S p l e s m args below meth c Z a0 n0 y code mx ret R T h cells slots) (hp : pc + 1 = pc') (hd : decode code pc = .ok (.i2c, 1))
    (H : own_G p e s below R n0 Q T (mkF m pc' ls (.int a.toUInt32.toUInt16.toUInt32.toInt32 :: st))) : own_G p e s below R n0 Q T (mkF m pc ls (.int a :: st)) := by
  obtain ⟨_, X, _, _, _, hx, _, _, hby, _⟩ := S; subst hp
  exact own_by (fun _ k => XT.i2c X.here hx rfl (hb hby hd) rfl k) H
theorem own_dup {a : Value} (S : own_S p l e s m args below meth c Z a0 n0 y code mx ret R T h cells slots) (hp : pc + 1 = pc') (hd : decode code pc = .ok (.dup, 1)) (hc : a.category = 1)
    (H : own_G p e s below R n0 Q T (mkF m pc' ls (a :: a :: st))) : own_G p e s below R n0 Q T (mkF m pc ls (a :: st)) := by
  obtain ⟨_, X, _, _, _, hx, _, _, hby, _⟩ := S; subst hp
  exact own_by (fun _ k => XS.dup X.here hx rfl (hb hby hd) rfl hc k) H
theorem own_dup2 {a b : Value} (S : own_S p l e s m args below meth c Z a0 n0 y code mx ret R T h cells slots) (hp : pc + 1 = pc') (hd : decode code pc = .ok (.dup2, 1)) (hc : a.category = 1) (hc' : b.category = 1)
    (H : own_G p e s below R n0 Q T (mkF m pc' ls (a :: b :: a :: b :: st))) : own_G p e s below R n0 Q T (mkF m pc ls (a :: b :: st)) := by
  obtain ⟨_, X, _, _, _, hx, _, _, hby, _⟩ := S; subst hp
  exact own_by (fun _ k => XT.dup2 X.here hx rfl (hb hby hd) rfl hc hc' k) H
theorem own_istore {k : Nat} {v : Int32} (S : own_S p l e s m args below meth c Z a0 n0 y code mx ret R T h cells slots) (hp : pc + 2 = pc') (hd : decode code pc = .ok (.istore k, 2)) (hl : storeLocals ls k (.int v) = some ls')
    (H : own_G p e s below R n0 Q T (mkF m pc' ls' st)) : own_G p e s below R n0 Q T (mkF m pc ls (.int v :: st)) := by
  obtain ⟨_, X, _, _, _, hx, _, _, hby, _⟩ := S; subst hp
  exact own_by (fun _ k => XS.istore X.here hx rfl (hb hby hd) rfl hl k) H
theorem own_istoreN {k : Fin 4} {v : Int32} (S : own_S p l e s m args below meth c Z a0 n0 y code mx ret R T h cells slots) (hp : pc + 1 = pc') (hd : decode code pc = .ok (.istore_n k, 1)) (hl : storeLocals ls k.val (.int v) = some ls')
    (H : own_G p e s below R n0 Q T (mkF m pc' ls' st)) : own_G p e s below R n0 Q T (mkF m pc ls (.int v :: st)) := by
  obtain ⟨_, X, _, _, _, hx, _, _, hby, _⟩ := S; subst hp
  exact own_by (fun _ k => XS.istoreN X.here hx rfl (hb hby hd) rfl hl k) H
theorem own_astore {k : Nat} {v : Value} (S : own_S p l e s m args below meth c Z a0 n0 y code mx ret R T h cells slots) (hp : pc + 2 = pc') (hd : decode code pc = .ok (.astore k, 2)) (hv : v.isRef = true) (hl : storeLocals ls k v = some ls')
    (H : own_G p e s below R n0 Q T (mkF m pc' ls' st)) : own_G p e s below R n0 Q T (mkF m pc ls (v :: st)) := by
  obtain ⟨_, X, _, _, _, hx, _, _, hby, _⟩ := S; subst hp
  exact own_by (fun _ k => XS.astore X.here hx rfl (hb hby hd) rfl hv hl k) H
theorem own_astoreN {k : Fin 4} {v : Value} (S : own_S p l e s m args below meth c Z a0 n0 y code mx ret R T h cells slots) (hp : pc + 1 = pc') (hd : decode code pc = .ok (.astore_n k, 1)) (hv : v.isRef = true) (hl : storeLocals ls k.val v = some ls')
    (H : own_G p e s below R n0 Q T (mkF m pc' ls' st)) : own_G p e s below R n0 Q T (mkF m pc ls (v :: st)) := by
  obtain ⟨_, X, _, _, _, hx, _, _, hby, _⟩ := S; subst hp
  exact own_by (fun _ k => XS.astoreN X.here hx rfl (hb hby hd) rfl hv hl k) H
theorem own_iinc {k : Nat} {cst : Int} {x : Int32} (v : Int32) (S : own_S p l e s m args below meth c Z a0 n0 y code mx ret R T h cells slots) (hp : pc + 3 = pc') (hd : decode code pc = .ok (.iinc k cst, 3)) (hv : Int32.ofInt cst = v) (hl : ls[k]? = some (.val (.int x))) (hl' : storeLocals ls k (.int (x + v)) = some ls')
    (H : own_G p e s below R n0 Q T (mkF m pc' ls' st)) : own_G p e s below R n0 Q T (mkF m pc ls st) := by
  obtain ⟨_, X, _, _, _, hx, _, _, hby, _⟩ := S; subst hp
  exact own_by (fun _ k => XT.iincV X.here hx rfl v (hb hby hd) hv hl hl' k) H
theorem own_goto {o : Int} (S : own_S p l e s m args below meth c Z a0 n0 y code mx ret R T h cells slots) (ho : 0 ≤ (pc : Int) + o) (hp : ((pc : Int) + o).toNat = pc') (hd : decode code pc = .ok (.goto o, 3))
    (H : own_G p e s below R n0 Q T (mkF m pc' ls st)) : own_G p e s below R n0 Q T (mkF m pc ls st) := by
  obtain ⟨_, X, _, _, _, hx, _, _, hby, _⟩ := S
  exact own_by (fun _ k => XS.goto X.here hx rfl rfl (hb hby hd) ho hp k) H
-- branches
theorem own_icY {cd : ClassFile.Cond} {a b : Int32} {o : Int} (S : own_S p l e s m args below meth c Z a0 n0 y code mx ret R T h cells slots) (ho : 0 ≤ (pc : Int) + o) (hp : ((pc : Int) + o).toNat = pc') (hd : decode code pc = .ok (.if_icmp cd o, 3)) (hc : if_icmp.holds cd a b = true)
    (H : own_G p e s below R n0 Q T (mkF m pc' ls st)) : own_G p e s below R n0 Q T (mkF m pc ls (.int b :: .int a :: st)) := by
  obtain ⟨_, X, _, _, _, hx, _, _, hby, _⟩ := S
  exact own_by (fun _ k => XS.icmpYes X.here hx rfl rfl (hb hby hd) rfl hc ho hp k) H
theorem own_icN {cd : ClassFile.Cond} {a b : Int32} {o : Int} (S : own_S p l e s m args below meth c Z a0 n0 y code mx ret R T h cells slots) (hp : pc + 3 = pc') (hd : decode code pc = .ok (.if_icmp cd o, 3)) (hc : if_icmp.holds cd a b = false)
    (H : own_G p e s below R n0 Q T (mkF m pc' ls st)) : own_G p e s below R n0 Q T (mkF m pc ls (.int b :: .int a :: st)) := by
  obtain ⟨_, X, _, _, _, hx, _, _, hby, _⟩ := S; subst hp
  exact own_by (fun _ k => XS.icmpNo X.here hx rfl (hb hby hd) rfl hc k) H
theorem own_ifY {cd : ClassFile.Cond} {a : Int32} {o : Int} (S : own_S p l e s m args below meth c Z a0 n0 y code mx ret R T h cells slots) (ho : 0 ≤ (pc : Int) + o) (hp : ((pc : Int) + o).toNat = pc') (hd : decode code pc = .ok (.ifCond cd o, 3)) (hc : ifCond.holds cd a = true)
    (H : own_G p e s below R n0 Q T (mkF m pc' ls st)) : own_G p e s below R n0 Q T (mkF m pc ls (.int a :: st)) := by
  obtain ⟨_, X, _, _, _, hx, _, _, hby, _⟩ := S
  exact own_by (fun _ k => XS.ifYes X.here hx rfl rfl (hb hby hd) rfl hc ho hp k) H
theorem own_ifN {cd : ClassFile.Cond} {a : Int32} {o : Int} (S : own_S p l e s m args below meth c Z a0 n0 y code mx ret R T h cells slots) (hp : pc + 3 = pc') (hd : decode code pc = .ok (.ifCond cd o, 3)) (hc : ifCond.holds cd a = false)
    (H : own_G p e s below R n0 Q T (mkF m pc' ls st)) : own_G p e s below R n0 Q T (mkF m pc ls (.int a :: st)) := by
  obtain ⟨_, X, _, _, _, hx, _, _, hby, _⟩ := S; subst hp
  exact own_by (fun _ k => XS.ifNo X.here hx rfl (hb hby hd) rfl hc k) H
theorem own_nullN {b : Addr} {o : Int} (S : own_S p l e s m args below meth c Z a0 n0 y code mx ret R T h cells slots) (hp : pc + 3 = pc') (hd : decode code pc = .ok (.ifnull o, 3))
    (H : own_G p e s below R n0 Q T (mkF m pc' ls st)) : own_G p e s below R n0 Q T (mkF m pc ls (.ref b :: st)) := by
  obtain ⟨_, X, _, _, _, hx, _, _, hby, _⟩ := S; subst hp
  exact own_by (fun _ k => XS.ifnullNo X.here hx rfl (hb hby hd) rfl k) H
theorem own_nonnullY {b : Addr} {o : Int} (S : own_S p l e s m args below meth c Z a0 n0 y code mx ret R T h cells slots) (ho : 0 ≤ (pc : Int) + o) (hp : ((pc : Int) + o).toNat = pc') (hd : decode code pc = .ok (.ifnonnull o, 3))
    (H : own_G p e s below R n0 Q T (mkF m pc' ls st)) : own_G p e s below R n0 Q T (mkF m pc ls (.ref b :: st)) := by
  obtain ⟨_, X, _, _, _, hx, _, _, hby, _⟩ := S
  exact own_by (fun _ k => XT.ifnonnullYes X.here hx rfl rfl (hb hby hd) rfl ho hp k) H
theorem own_nonnullN {o : Int} (S : own_S p l e s m args below meth c Z a0 n0 y code mx ret R T h cells slots) (hp : pc + 3 = pc') (hd : decode code pc = .ok (.ifnonnull o, 3))
    (H : own_G p e s below R n0 Q T (mkF m pc' ls st)) : own_G p e s below R n0 Q T (mkF m pc ls (.null :: st)) := by
  obtain ⟨_, X, _, _, _, hx, _, _, hby, _⟩ := S; subst hp
  exact own_by (fun _ k => XT.ifnonnullNo X.here hx rfl (hb hby hd) rfl k) H
-- both roads at once
theorem own_ic {cd : ClassFile.Cond} {a b : Int32} {o : Int} {pt : Nat} (S : own_S p l e s m args below meth c Z a0 n0 y code mx ret R T h cells slots) (ho : 0 ≤ (pc : Int) + o) (hp : ((pc : Int) + o).toNat = pt) (hp' : pc + 3 = pc') (hd : decode code pc = .ok (.if_icmp cd o, 3))
    (H : if_icmp.holds cd a b = true → own_G p e s below R n0 Q T (mkF m pt ls st)) (H' : if_icmp.holds cd a b = false → own_G p e s below R n0 Q T (mkF m pc' ls st)) : own_G p e s below R n0 Q T (mkF m pc ls (.int b :: .int a :: st)) := by
  cases hc : if_icmp.holds cd a b with
  | true => exact own_icY S ho hp hd hc (H hc)
  | false => exact own_icN S hp' hd hc (H' hc)
theorem own_if {cd : ClassFile.Cond} {a : Int32} {o : Int} {pt : Nat} (S : own_S p l e s m args below meth c Z a0 n0 y code mx ret R T h cells slots) (ho : 0 ≤ (pc : Int) + o) (hp : ((pc : Int) + o).toNat = pt) (hp' : pc + 3 = pc') (hd : decode code pc = .ok (.ifCond cd o, 3))
    (H : ifCond.holds cd a = true → own_G p e s below R n0 Q T (mkF m pt ls st)) (H' : ifCond.holds cd a = false → own_G p e s below R n0 Q T (mkF m pc' ls st)) : own_G p e s below R n0 Q T (mkF m pc ls (.int a :: st)) := by
  cases hc : ifCond.holds cd a with
  | true => exact own_ifY S ho hp hd hc (H hc)
  | false => exact own_ifN S hp' hd hc (H' hc)
-- what a comparison's outcome says of the numbers
theorem own_lt_t {a b : Int32} (h : if_icmp.holds .lt a b = true) : a.toInt < b.toInt := Int32.lt_iff_toInt_lt.mp (by simpa [if_icmp.holds] using h)
theorem own_lt_f {a b : Int32} (h : if_icmp.holds .lt a b = false) : b.toInt ≤ a.toInt := by
  have q : ¬ a < b := by simpa [if_icmp.holds] using h
  rw [Int32.lt_iff_toInt_lt] at q; omega
theorem own_cmp (a b : Int32) : (if_icmp.holds .ge a b = !if_icmp.holds .lt a b) ∧ (if_icmp.holds .gt a b = if_icmp.holds .lt b a) ∧ (if_icmp.holds .le a b = !if_icmp.holds .lt b a) ∧ (if_icmp.holds .ne a b = !if_icmp.holds .eq a b) := by
  refine ⟨?_, ?_, ?_, ?_⟩
  · by_cases q : a < b
    · rw [(tlt q).1, (tlt q).2.1]; rfl
    · rw [(flt q).1, (flt q).2.1]; rfl
  · by_cases q : b < a
    · rw [(tlt q).1, (tlt q).2.2.1]
    · rw [(flt q).1, (flt q).2.2.1]
  · by_cases q : b < a
    · rw [(tlt q).1, (tlt q).2.2.2]; rfl
    · rw [(flt q).1, (flt q).2.2.2]; rfl
  · by_cases q : a = b
    · rw [(teq q).1, (teq q).2]; rfl
    · rw [(feq q).1, (feq q).2]; rfl
theorem own_ge_t {a b : Int32} (h : if_icmp.holds .ge a b = true) : b.toInt ≤ a.toInt := own_lt_f (by rw [(own_cmp a b).1] at h; simpa using h)
theorem own_ge_f {a b : Int32} (h : if_icmp.holds .ge a b = false) : a.toInt < b.toInt := own_lt_t (by rw [(own_cmp a b).1] at h; simpa using h)
theorem own_gt_t {a b : Int32} (h : if_icmp.holds .gt a b = true) : b.toInt < a.toInt := own_lt_t (by rw [(own_cmp a b).2.1] at h; exact h)
theorem own_gt_f {a b : Int32} (h : if_icmp.holds .gt a b = false) : a.toInt ≤ b.toInt := own_lt_f (by rw [(own_cmp a b).2.1] at h; exact h)
theorem own_le_t {a b : Int32} (h : if_icmp.holds .le a b = true) : a.toInt ≤ b.toInt := own_lt_f (by rw [(own_cmp a b).2.2.1] at h; simpa using h)
theorem own_le_f {a b : Int32} (h : if_icmp.holds .le a b = false) : b.toInt < a.toInt := own_lt_t (by rw [(own_cmp a b).2.2.1] at h; simpa using h)
theorem own_eq_t {a b : Int32} (h : if_icmp.holds .eq a b = true) : a = b := by
  by_cases q : a = b
  · exact q
  · rw [(feq q).1] at h; cases h
theorem own_eq_f {a b : Int32} (h : if_icmp.holds .eq a b = false) : ¬ a = b := fun q => by rw [(teq q).1] at h; cases h
theorem own_ne_t {a b : Int32} (h : if_icmp.holds .ne a b = true) : ¬ a = b := fun q => by rw [(teq q).2] at h; cases h
theorem own_ne_f {a b : Int32} (h : if_icmp.holds .ne a b = false) : a = b := by
  by_cases q : a = b
  · exact q
  · rw [(feq q).2] at h; cases h
theorem own_ten {a b : Int32} (h : ¬ a = b) : ¬ a.toInt = b.toInt := fun q => h (Int32.toInt_inj.mp q)
-- and back
theorem own_t_lt {a b : Int32} (h : a.toInt < b.toInt) : if_icmp.holds .lt a b = true := (tlt (Int32.lt_iff_toInt_lt.mpr h)).1
theorem own_f_lt {a b : Int32} (h : b.toInt ≤ a.toInt) : if_icmp.holds .lt a b = false := (flt (fun q => by rw [Int32.lt_iff_toInt_lt] at q; omega)).1
theorem own_t_ge {a b : Int32} (h : b.toInt ≤ a.toInt) : if_icmp.holds .ge a b = true := by rw [(own_cmp a b).1, own_f_lt h]; rfl
theorem own_f_ge {a b : Int32} (h : a.toInt < b.toInt) : if_icmp.holds .ge a b = false := by rw [(own_cmp a b).1, own_t_lt h]; rfl
theorem own_t_gt {a b : Int32} (h : b.toInt < a.toInt) : if_icmp.holds .gt a b = true := by rw [(own_cmp a b).2.1, own_t_lt h]
theorem own_f_gt {a b : Int32} (h : a.toInt ≤ b.toInt) : if_icmp.holds .gt a b = false := by rw [(own_cmp a b).2.1, own_f_lt h]
theorem own_t_le {a b : Int32} (h : a.toInt ≤ b.toInt) : if_icmp.holds .le a b = true := by rw [(own_cmp a b).2.2.1, own_f_lt h]; rfl
theorem own_f_le {a b : Int32} (h : b.toInt < a.toInt) : if_icmp.holds .le a b = false := by rw [(own_cmp a b).2.2.1, own_t_lt h]; rfl
theorem own_t_eq {a b : Int32} (h : a = b) : if_icmp.holds .eq a b = true := (teq h).1
theorem own_f_eq {a b : Int32} (h : ¬ a = b) : if_icmp.holds .eq a b = false := (feq h).1
theorem own_t_ne {a b : Int32} (h : ¬ a = b) : if_icmp.holds .ne a b = true := (feq h).2
theorem own_f_ne {a b : Int32} (h : a = b) : if_icmp.holds .ne a b = false := (teq h).2
-- returns
theorem own_retI {z : Int32} (S : own_S p l e s m args below meth c Z a0 n0 y code mx (some .int) R T h cells slots) (hd : decode code pc = .ok (.ireturn, 1)) (hk : cells ≤ R.cells) (hn : slots ≤ R.slots) (HQ : Q (some (.int z)) h) : own_G p e s below R n0 Q T (mkF m pc ls (.int z :: st)) := by
  obtain ⟨locs, X, eT, N, _, hx, _, _, hby, _, _, _, hlk, hret⟩ := S
  obtain ⟨fs, hr, hrun, hended, hW, hsame⟩ := X.leave (v := some (.int z)) (fun q => by rw [hret] at q; cases q) hlk
  exact ⟨_, _, retOut X hx hret rfl (Or.inl ⟨rfl, Or.inl rfl, z, rfl⟩) (hb hby hd) hr, hrun, hended, _, locs, rfl, ⟨by show Q _ T.heap; rw [eT]; exact HQ, N⟩, ⟨_, rfl⟩, hW, hsame.mono hk hn⟩
theorem own_retZ {z : Int32} (hz : z = 0 ∨ z = 1) (S : own_S p l e s m args below meth c Z a0 n0 y code mx (some .boolean) R T h cells slots) (hd : decode code pc = .ok (.ireturn, 1)) (hk : cells ≤ R.cells) (hn : slots ≤ R.slots) (HQ : Q (some (.int z)) h) : own_G p e s below R n0 Q T (mkF m pc ls (.int z :: st)) := by
  obtain ⟨locs, X, eT, N, _, hx, _, _, hby, _, _, _, hlk, hret⟩ := S
  obtain ⟨fs, hr, hrun, hended, hW, hsame⟩ := X.leave (v := some (.int z)) (fun q => by rw [hret] at q; cases q) hlk
  have hnz : narrow .boolean (.int z) = .int z := by rcases hz with rfl | rfl <;> rfl
  exact ⟨_, _, retOut X hx hret hnz (Or.inl ⟨rfl, Or.inr (Or.inl rfl), z, rfl⟩) (hb hby hd) hr, hrun, hended, _, locs, rfl, ⟨by show Q _ T.heap; rw [eT]; exact HQ, N⟩, ⟨_, rfl⟩, hW, hsame.mono hk hn⟩
theorem own_retB {z : Int32} (hz : z.toInt8.toInt32 = z) (S : own_S p l e s m args below meth c Z a0 n0 y code mx (some .byte) R T h cells slots) (hd : decode code pc = .ok (.ireturn, 1)) (hk : cells ≤ R.cells) (hn : slots ≤ R.slots) (HQ : Q (some (.int z)) h) : own_G p e s below R n0 Q T (mkF m pc ls (.int z :: st)) := by
  obtain ⟨locs, X, eT, N, _, hx, _, _, hby, _, _, _, hlk, hret⟩ := S
  obtain ⟨fs, hr, hrun, hended, hW, hsame⟩ := X.leave (v := some (.int z)) (fun q => by rw [hret] at q; cases q) hlk
  have hnz : narrow .byte (.int z) = .int z := by show Value.int z.toInt8.toInt32 = _; rw [hz]
  exact ⟨_, _, retOut X hx hret hnz (Or.inl ⟨rfl, Or.inr (Or.inr (Or.inl rfl)), z, rfl⟩) (hb hby hd) hr, hrun, hended, _, locs, rfl, ⟨by show Q _ T.heap; rw [eT]; exact HQ, N⟩, ⟨_, rfl⟩, hW, hsame.mono hk hn⟩
theorem own_retA {w : Value} {t : FieldType} (hw : w.isRef = true) (ht : t.isReference = true) (S : own_S p l e s m args below meth c Z a0 n0 y code mx (some t) R T h cells slots) (hd : decode code pc = .ok (.areturn, 1)) (hk : cells ≤ R.cells) (hn : slots ≤ R.slots) (HQ : Q (some w) h) : own_G p e s below R n0 Q T (mkF m pc ls (w :: st)) := by
  obtain ⟨locs, X, eT, N, _, hx, _, _, hby, _, _, _, hlk, hret⟩ := S
  obtain ⟨fs, hr, hrun, hended, hW, hsame⟩ := X.leave (v := some w) (fun q => by rw [hret] at q; cases q) hlk
  have hnz : narrow t w = w := by rcases ref_cases hw with rfl | ⟨b, rfl⟩ <;> cases t <;> rfl
  exact ⟨_, _, retOut X hx hret hnz (Or.inr (Or.inr (Or.inr (Or.inr ⟨rfl, ht, hw⟩)))) (hb hby hd) hr, hrun, hended, _, locs, rfl, ⟨by show Q _ T.heap; rw [eT]; exact HQ, N⟩, ⟨_, rfl⟩, hW, hsame.mono hk hn⟩
theorem own_ret (S : own_S p l e s m args below meth c Z a0 n0 y code mx none R T h cells slots) (hd : decode code pc = .ok (.return_, 1)) (hk : cells ≤ R.cells) (hn : slots ≤ R.slots) (HQ : Q none h) : own_G p e s below R n0 Q T (mkF m pc ls []) := by
  obtain ⟨locs, X, eT, N, _, hx, _, _, hby, _, _, _, hlk, hret⟩ := S
  obtain ⟨fs, hr, hrun, hended, hW, hsame⟩ := X.leave (v := none) (fun _ => rfl) hlk
  exact ⟨_, _, X.returnOut hx hret (hb hby hd) hr, hrun, hended, _, locs, rfl, ⟨by show Q _ T.heap; rw [eT]; exact HQ, N⟩, ⟨_, rfl⟩, hW, hsame.mono hk hn⟩
-- arrays
/-- at a stands an array of n places of the kind ty; place j holds g j -/
def own_A (Z : State) (h : Heap) (a : Addr) (ty : FieldType) (n : Nat) (g : Nat → Value) : Prop := ∃ cl : Cell, Arr Z h a cl ty ∧ cl.slots.size = n ∧ ∀ j, j < n → cl.slots[j]? = some (g j)
def own_upd (g : Nat → Value) (k : Nat) (v : Value) : Nat → Value := fun j => if j = k then v else g j
theorem own_Alt {a : Addr} {ty : FieldType} {n : Nat} {g : Nat → Value} (A : own_A Z h a ty n g) : a < h.size := by obtain ⟨_, A, _⟩ := A; exact A.lt
theorem own_Aext {h' : Heap} {a : Addr} {ty : FieldType} {n : Nat} {g : Nat → Value} (A : own_A Z h a ty n g) (E : Ext h h') : own_A Z h' a ty n g := by obtain ⟨cl, A, r⟩ := A; exact ⟨cl, A.ext E, r⟩
theorem own_Awr {h' : Heap} {a b : Addr} {ty : FieldType} {n sl : Nat} {v : Value} {g : Nat → Value} (A : own_A Z h a ty n g) (W : Wr h h' b sl v) (ne : a ≠ b) : own_A Z h' a ty n g := by obtain ⟨cl, A, r⟩ := A; exact ⟨cl, A.other W ne, r⟩
theorem own_Akeep {h' : Heap} {a : Addr} {ty : FieldType} {n : Nat} {ws : List Addr} {g : Nat → Value} (A : own_A Z h a ty n g) (K : Keep h h' ws) (q : a ∉ ws) : own_A Z h' a ty n g := by obtain ⟨cl, A, r⟩ := A; exact ⟨cl, ⟨K.2.1 a cl A.1 q, A.2⟩, r⟩
theorem own_Aof {a : Addr} {ty : FieldType} {n : Nat} {g g' : Nat → Value} (A : own_A Z h a ty n g) (q : ∀ j, j < n → g j = g' j) : own_A Z h a ty n g' := by obtain ⟨cl, A, r, t⟩ := A; exact ⟨cl, A, r, fun j hj => by rw [← q j hj]; exact t j hj⟩
theorem own_ix {x : Int32} {k : Nat} (hi : x.toInt = k) : x.toNatClampNeg = k ∧ ¬ x < 0 := by
  refine ⟨by rw [Int32.toNatClampNeg, hi]; rfl, ?_⟩
  rw [Int32.lt_iff_toInt_lt, hi, show (0 : Int32).toInt = 0 from rfl]; omega
theorem own_in {x : Int32} {k n : Nat} {cl : Cell} (hi : x.toInt = k) (hk : k < n) (hs : cl.slots.size = n) : ¬ (x < 0 ∨ cl.slots.size ≤ x.toNatClampNeg) := by
  obtain ⟨q1, q2⟩ := own_ix hi
  rw [hs, q1]
  exact fun q => q.elim q2 (fun q => by omega)
theorem own_iaload {a : Addr} {x w : Int32} {k n : Nat} {g : Nat → Value} (S : own_S p l e s m args below meth c Z a0 n0 y code mx ret R T h cells slots) (A : own_A Z h a .int n g) (hi : x.toInt = k) (hk : k < n) (hv : g k = .int w) (hp : pc + 1 = pc') (hd : decode code pc = .ok (.iaload, 1))
    (H : own_G p e s below R n0 Q T (mkF m pc' ls (.int w :: st))) : own_G p e s below R n0 Q T (mkF m pc ls (.int x :: .ref a :: st)) := by
  obtain ⟨_, X, eT, _, _, hx, hZ, _, hby, _⟩ := S; subst hp
  obtain ⟨cl, Ar, hs, ht⟩ := A
  exact own_by (fun t k => X.iaload hx (g := mkF m pc ls (.int x :: .ref a :: st)) (by rw [eT]; exact Ar.1) (State.isArrayOf_alike hZ.alike Ar.2.1) Ar.2.2 (own_in hi hk hs) (by rw [(own_ix hi).1, ht _ hk, hv]) rfl rfl (hb hby hd) t k) H
theorem own_baloadB {a : Addr} {x w : Int32} {k n : Nat} {g : Nat → Value} (S : own_S p l e s m args below meth c Z a0 n0 y code mx ret R T h cells slots) (A : own_A Z h a .byte n g) (hi : x.toInt = k) (hk : k < n) (hv : g k = .int w) (hp : pc + 1 = pc') (hd : decode code pc = .ok (.baload, 1))
    (H : own_G p e s below R n0 Q T (mkF m pc' ls (.int w :: st))) : own_G p e s below R n0 Q T (mkF m pc ls (.int x :: .ref a :: st)) := by
  obtain ⟨_, X, eT, _, _, hx, hZ, _, hby, _⟩ := S; subst hp
  obtain ⟨cl, Ar, hs, ht⟩ := A
  exact own_by (fun t k => X.baloadBytes hx (g := mkF m pc ls (.int x :: .ref a :: st)) (by rw [eT]; exact Ar.1) (State.isArrayOf_alike hZ.alike Ar.2.1) Ar.2.2 (own_in hi hk hs) (by rw [(own_ix hi).1, ht _ hk, hv]) rfl rfl (hb hby hd) t k) H
theorem own_baloadZ {a : Addr} {x w : Int32} {k n : Nat} {g : Nat → Value} (S : own_S p l e s m args below meth c Z a0 n0 y code mx ret R T h cells slots) (A : own_A Z h a .boolean n g) (hi : x.toInt = k) (hk : k < n) (hv : g k = .int w) (hp : pc + 1 = pc') (hd : decode code pc = .ok (.baload, 1))
    (H : own_G p e s below R n0 Q T (mkF m pc' ls (.int w :: st))) : own_G p e s below R n0 Q T (mkF m pc ls (.int x :: .ref a :: st)) := by
  obtain ⟨_, X, eT, _, _, hx, hZ, _, hby, _⟩ := S; subst hp
  obtain ⟨cl, Ar, hs, ht⟩ := A
  exact own_by (fun t k => X.baloadBooleans hx (g := mkF m pc ls (.int x :: .ref a :: st)) (by rw [eT]; exact Ar.1) (State.isArrayOf_alike hZ.alike Ar.2.1) Ar.2.2 (own_in hi hk hs) (by rw [(own_ix hi).1, ht _ hk, hv]) rfl rfl (hb hby hd) t k) H
theorem own_caload {a : Addr} {x w : Int32} {k n : Nat} {g : Nat → Value} (S : own_S p l e s m args below meth c Z a0 n0 y code mx ret R T h cells slots) (A : own_A Z h a .char n g) (hi : x.toInt = k) (hk : k < n) (hv : g k = .int w) (hp : pc + 1 = pc') (hd : decode code pc = .ok (.caload, 1))
    (H : own_G p e s below R n0 Q T (mkF m pc' ls (.int w :: st))) : own_G p e s below R n0 Q T (mkF m pc ls (.int x :: .ref a :: st)) := by
  obtain ⟨_, X, eT, _, _, hx, hZ, _, hby, _⟩ := S; subst hp
  obtain ⟨cl, Ar, hs, ht⟩ := A
  exact own_by (fun t k => X.caload hx (g := mkF m pc ls (.int x :: .ref a :: st)) (by rw [eT]; exact Ar.1) (State.isArrayOf_alike hZ.alike Ar.2.1) Ar.2.2 (own_in hi hk hs) (by rw [(own_ix hi).1, ht _ hk, hv]) rfl rfl (hb hby hd) t k) H
theorem own_alen {a : Addr} {ty : FieldType} {w : Int32} {n : Nat} {g : Nat → Value} (S : own_S p l e s m args below meth c Z a0 n0 y code mx ret R T h cells slots) (A : own_A Z h a ty n g) (hv : w.toInt = n) (hp : pc + 1 = pc') (hd : decode code pc = .ok (.arraylength, 1))
    (H : own_G p e s below R n0 Q T (mkF m pc' ls (.int w :: st))) : own_G p e s below R n0 Q T (mkF m pc ls (.ref a :: st)) := by
  obtain ⟨_, X, eT, _, _, hx, hZ, _, hby, _⟩ := S; subst hp
  obtain ⟨cl, Ar, hs, ht⟩ := A
  have hq : cl.slots.size.toInt32 = w := by
    have := w.toInt_lt
    apply Int32.toInt_inj.mp
    rw [hs, len_toInt (by omega), hv]
  exact own_by (fun t k => X.arraylength hx (g := mkF m pc ls (.ref a :: st)) (by rw [eT]; exact Ar.1) (State.isArrayOf_alike hZ.alike Ar.2.1) rfl rfl (hb hby hd) t (by rw [hq]; exact k)) H
theorem own_Aset {h' : Heap} {a : Addr} {ty : FieldType} {n k : Nat} {v : Value} {g : Nat → Value} (A : own_A Z h a ty n g) (W : Wr h h' a k v) : own_A Z h' a ty n (own_upd g k v) := by
  obtain ⟨cl, Ar, hs, ht⟩ := A
  refine ⟨_, Ar.same W, by rw [sz_set]; exact hs, fun j hj => ?_⟩
  unfold own_upd
  by_cases q : j = k
  · subst q
    rw [if_pos rfl]
    have : j < cl.slots.size := by rw [hs]; exact hj
    simp [Cell.setSlot, this]
  · rw [if_neg q]
    simp only [Cell.setSlot]
    rw [Array.getElem?_setIfInBounds_ne (Ne.symm q)]
    exact ht j hj
theorem own_iastore {a : Addr} {x w : Int32} {k n : Nat} {g : Nat → Value} (S : own_S p l e s m args below meth c Z a0 n0 y code mx ret R T h cells slots) (A : own_A Z h a .int n g) (hi : x.toInt = k) (hk : k < n) (ha : n0 ≤ a) (hp : pc + 1 = pc') (hd : decode code pc = .ok (.iastore, 1))
    (H : ∀ T' h', own_S p l e s m args below meth c Z a0 n0 y code mx ret R T' h' cells slots → Wr h h' a k (.int w) → own_A Z h' a .int n (own_upd g k (.int w)) → own_G p e s below R n0 Q T' (mkF m pc' ls st)) : own_G p e s below R n0 Q T (mkF m pc ls (.int w :: .int x :: .ref a :: st)) := by
  obtain ⟨locs, X, eT, N, hn, hx, hZ, hw, hby, r⟩ := S; subst hp
  have A' := A
  obtain ⟨cl, Ar, hs, ht⟩ := A
  obtain ⟨T', h', X', e', W, stp⟩ := stI X hx hZ eT Ar (j := x) (own_in hi hk hs) (g := mkF m pc ls (.int w :: .int x :: .ref a :: st)) rfl rfl (hb hby hd)
  have N' := Fr.snoc X' N ha
  rw [(own_ix hi).1] at W
  exact own_by stp (H T' h' ⟨_, X', e', N', hn, hx, hZ, hw, hby, r⟩ W (own_Aset A' W))
theorem own_bastoreB {a : Addr} {x w : Int32} {k n : Nat} {g : Nat → Value} (S : own_S p l e s m args below meth c Z a0 n0 y code mx ret R T h cells slots) (A : own_A Z h a .byte n g) (hi : x.toInt = k) (hk : k < n) (ha : n0 ≤ a) (hp : pc + 1 = pc') (hd : decode code pc = .ok (.bastore, 1))
    (H : ∀ T' h', own_S p l e s m args below meth c Z a0 n0 y code mx ret R T' h' cells slots → Wr h h' a k (.int (nar .byte w)) → own_A Z h' a .byte n (own_upd g k (.int (nar .byte w))) → own_G p e s below R n0 Q T' (mkF m pc' ls st)) : own_G p e s below R n0 Q T (mkF m pc ls (.int w :: .int x :: .ref a :: st)) := by
  obtain ⟨locs, X, eT, N, hn, hx, hZ, hw, hby, r⟩ := S; subst hp
  have A' := A
  obtain ⟨cl, Ar, hs, ht⟩ := A
  obtain ⟨T', h', X', e', W, stp⟩ := stB X hx hZ eT Ar (j := x) (own_in hi hk hs) (g := mkF m pc ls (.int w :: .int x :: .ref a :: st)) rfl rfl (hb hby hd)
  have N' := Fr.snoc X' N ha
  rw [(own_ix hi).1] at W
  exact own_by stp (H T' h' ⟨_, X', e', N', hn, hx, hZ, hw, hby, r⟩ W (own_Aset A' W))
theorem own_bastoreZ {a : Addr} {x w : Int32} {k n : Nat} {g : Nat → Value} (S : own_S p l e s m args below meth c Z a0 n0 y code mx ret R T h cells slots) (A : own_A Z h a .boolean n g) (hi : x.toInt = k) (hk : k < n) (ha : n0 ≤ a) (hp : pc + 1 = pc') (hd : decode code pc = .ok (.bastore, 1))
    (H : ∀ T' h', own_S p l e s m args below meth c Z a0 n0 y code mx ret R T' h' cells slots → Wr h h' a k (.int (nar .boolean w)) → own_A Z h' a .boolean n (own_upd g k (.int (nar .boolean w))) → own_G p e s below R n0 Q T' (mkF m pc' ls st)) : own_G p e s below R n0 Q T (mkF m pc ls (.int w :: .int x :: .ref a :: st)) := by
  obtain ⟨locs, X, eT, N, hn, hx, hZ, hw, hby, r⟩ := S; subst hp
  have A' := A
  obtain ⟨cl, Ar, hs, ht⟩ := A
  obtain ⟨T', h', X', e', W, stp⟩ := stZ X hx hZ eT Ar (j := x) (own_in hi hk hs) (g := mkF m pc ls (.int w :: .int x :: .ref a :: st)) rfl rfl (hb hby hd)
  have N' := Fr.snoc X' N ha
  rw [(own_ix hi).1] at W
  exact own_by stp (H T' h' ⟨_, X', e', N', hn, hx, hZ, hw, hby, r⟩ W (own_Aset A' W))
theorem own_castore {a : Addr} {x w : Int32} {k n : Nat} {g : Nat → Value} (S : own_S p l e s m args below meth c Z a0 n0 y code mx ret R T h cells slots) (A : own_A Z h a .char n g) (hi : x.toInt = k) (hk : k < n) (ha : n0 ≤ a) (hp : pc + 1 = pc') (hd : decode code pc = .ok (.castore, 1))
    (H : ∀ T' h', own_S p l e s m args below meth c Z a0 n0 y code mx ret R T' h' cells slots → Wr h h' a k (.int (nar .char w)) → own_A Z h' a .char n (own_upd g k (.int (nar .char w))) → own_G p e s below R n0 Q T' (mkF m pc' ls st)) : own_G p e s below R n0 Q T (mkF m pc ls (.int w :: .int x :: .ref a :: st)) := by
  obtain ⟨locs, X, eT, N, hn, hx, hZ, hw, hby, r⟩ := S; subst hp
  have A' := A
  obtain ⟨cl, Ar, hs, ht⟩ := A
  obtain ⟨T', h', X', e', W, stp⟩ := stC X hx hZ eT Ar (j := x) (own_in hi hk hs) (g := mkF m pc ls (.int w :: .int x :: .ref a :: st)) rfl rfl (hb hby hd)
  have N' := Fr.snoc X' N ha
  rw [(own_ix hi).1] at W
  exact own_by stp (H T' h' ⟨_, X', e', N', hn, hx, hZ, hw, hby, r⟩ W (own_Aset A' W))
theorem own_newarray {aty : ArrayType} {x : Int32} {n : Nat} (cap : Nat) (S : own_S p l e s m args below meth c Z a0 n0 y code mx ret R T h cells slots) (w : Jvm.Cond.arrayClass (newarray.typeOf aty) ∈ tables_1) (hi : x.toInt = n) (hcap : n ≤ cap) (hb8 : cap * 8 ≤ 536870912) (hc : cells + 1 ≤ R.cells) (hl : slots + cap ≤ R.slots) (hp : pc + 2 = pc') (hd : decode code pc = .ok (.newarray aty, 2))
    (H : ∀ T' h' a, a = h.size → n0 ≤ a → own_S p l e s m args below meth c Z a0 n0 y code mx ret R T' h' (cells + 1) (slots + cap) → Ext h h' → own_A Z h' a (newarray.typeOf aty) n (fun _ => defaultValue (newarray.typeOf aty)) → own_G p e s below R n0 Q T' (mkF m pc' ls (.ref a :: st))) : own_G p e s below R n0 Q T (mkF m pc ls (.int x :: st)) := by
  obtain ⟨locs, X, eT, N, hn, hx, hZ, hw, hby, r⟩ := S; subst hp
  obtain ⟨q1, q2⟩ := own_ix hi
  obtain ⟨T', h', k, X', e', E, Ar, stp⟩ := newP X hx hZ (hw _ w) eT (g := mkF m pc ls (.int x :: st)) rfl (hb hby hd) rfl q2 (cap := cap) (by rw [q1]; exact hcap) hb8 hc hl
  refine own_by stp (H T' h' h.size rfl (by rw [← eT]; exact Nat.le_trans hn X.same.2.1) ⟨_, X', e', N, hn, hx, hZ, hw, hby, r⟩ E ⟨_, Ar, by rw [sz_new, q1], fun j hj => ?_⟩)
  simp [newA, q1, hj]
-- objects
theorem own_new {idx n : Nat} {C : String} (S : own_S p l e s m args below meth c Z a0 n0 y code mx ret R T h cells slots) (w1 : Jvm.Cond.classLink y.cls idx C ∈ tables_1) (w2 : Jvm.Cond.instantiable C n ∈ tables_1) (w3 : Jvm.Cond.initialized C ∈ tables_1) (hc : cells + 1 ≤ R.cells) (hl : slots + n ≤ R.slots) (hp : pc + 3 = pc') (hd : decode code pc = .ok (.new idx, 3))
    (H : ∀ T' h' a, a = h.size → n0 ≤ a → own_S p l e s m args below meth c Z a0 n0 y code mx ret R T' h' (cells + 1) (slots + n) → Ext h h' → Exa Z h' a C → (∀ {O nm d : String} {ty : FieldType}, (Jvm.Cond.lays C O nm d ∈ tables_1 ∨ Jvm.Cond.laysFinal C O nm d ∈ tables_1) → parseFieldDescriptor d = some ty → Fld Z h' a O nm d (defaultValue ty)) → own_G p e s below R n0 Q T' (mkF m pc' ls (.ref a :: st))) : own_G p e s below R n0 Q T (mkF m pc ls st) := by
  obtain ⟨locs, X, eT, N, hn, hx, hZ, hw, hby, hmx, hown, r⟩ := S; subst hp
  obtain ⟨T', h', X', e', E, A, D, -, stp⟩ := newO X hx hZ hown (hw _ w1) (hw _ w2) (hw _ w3) eT (g := mkF m pc ls st) rfl (hb hby hd) hc hl
  exact own_by stp (H T' h' h.size rfl (by rw [← eT]; exact Nat.le_trans hn X.same.2.1) ⟨_, X', e', N, hn, hx, hZ, hw, hby, hmx, hown, r⟩ E A (fun q ht => D (q.imp (hw _) (hw _)) ht))
theorem own_getfield {idx : Nat} {O n d : String} {a : Addr} {v : Value} (S : own_S p l e s m args below meth c Z a0 n0 y code mx ret R T h cells slots) (w : Jvm.Cond.fieldLink y.cls idx O n d ∈ tables_1) (F : Fld Z h a O n d v) (hp : pc + 3 = pc') (hd : decode code pc = .ok (.getfield idx, 3))
    (H : ∀ T', own_S p l e s m args below meth c Z a0 n0 y code mx ret R T' h cells slots → own_G p e s below R n0 Q T' (mkF m pc' ls (v :: st))) : own_G p e s below R n0 Q T (mkF m pc ls (.ref a :: st)) := by
  obtain ⟨locs, X, eT, N, hn, hx, hZ, hw, hby, hmx, hown, r⟩ := S; subst hp
  obtain ⟨T', X', e', stp⟩ := getF X hx hZ hown (host := "") (Or.inl (hw _ w)) Via.refl eT F (g := mkF m pc ls (.ref a :: st)) rfl rfl (hb hby hd)
  exact own_by stp (H T' ⟨_, X', e', N, hn, hx, hZ, hw, hby, hmx, hown, r⟩)
theorem own_putfield {idx kk : Nat} {O n d C : String} {a : Addr} {v old : Value} {ty : FieldType} (S : own_S p l e s m args below meth c Z a0 n0 y code mx ret R T h cells slots) (w : Jvm.Cond.fieldLink y.cls idx O n d ∈ tables_1) (F : Fld Z h a O n d old) (E : Exa Z h a C) (L : Jvm.Cond.lays C O n d ∈ tables_1 ∨ (Jvm.Cond.laysFinal C O n d ∈ tables_1 ∧ y.cls = O ∧ y.name = "<init>")) (wi : Jvm.Cond.instantiable C kk ∈ tables_1)
    (hty : parseFieldDescriptor d = some ty) (hnr : narrow ty v = v) (hf : fits ty v = true) (ha : n0 ≤ a) (hp : pc + 3 = pc') (hd : decode code pc = .ok (.putfield idx, 3))
    (H : ∀ T' h', own_S p l e s m args below meth c Z a0 n0 y code mx ret R T' h' cells slots → Wr h h' a (RoadKit.slotOf Z O n d) v → Fld Z h' a O n d v → own_G p e s below R n0 Q T' (mkF m pc' ls st)) : own_G p e s below R n0 Q T (mkF m pc ls (v :: .ref a :: st)) := by
  obtain ⟨locs, X, eT, N, hn, hx, hZ, hw, hby, hmx, hown, hnm, r⟩ := S; subst hp
  obtain ⟨T', h', X', e', W, stp⟩ := putF X hx hZ hown (host := "") (Or.inl (hw _ w)) Via.refl eT F E (L.imp (hw _) (fun q => ⟨hw _ q.1, q.2.1, hnm.trans q.2.2⟩)) (hw _ wi) hty hnr hf (g := mkF m pc ls (v :: .ref a :: st)) rfl rfl (hb hby hd)
  exact own_by stp (H T' h' ⟨_, X', e', Fr.snoc X' N ha, hn, hx, hZ, hw, hby, hmx, hown, hnm, r⟩ W (F.same W))
theorem own_initO {idx : Nat} {a : Addr} (S : own_S p l e s m args below meth c Z a0 n0 y code mx ret R T h cells slots) (w1 : Jvm.Cond.methodLink y.cls idx Lib.objectInit ∈ tables_1) (w2 : Jvm.Cond.instanceMethod Lib.objectInit ∈ tables_1) (w3 : Jvm.Cond.code Lib.objectInit ⟨#[0xb1]⟩ 1 none ∈ tables_1) (hsz : ls.size = mx) (hf : 1 ≤ R.frames) {W : Nat} (hW : (st.map fun v => v.category).sum ≤ W) (hl : W + 12 ≤ R.locals) (hp : pc + 3 = pc') (hd : decode code pc = .ok (.invokespecial idx, 3))
    (H : ∀ T', own_S p l e s m args below meth c Z a0 n0 y code mx ret R T' h cells slots → own_G p e s below R n0 Q T' (mkF m pc' ls st)) : own_G p e s below R n0 Q T (mkF m pc ls (.ref a :: st)) := by
  obtain ⟨locs, X, eT, N, hn, hx, hZ, hw, hby, hmx, hown, r⟩ := S; subst hp
  obtain ⟨T', X', e', stp⟩ := initO X hx hZ hown (hw _ w1) (hw _ w2) (hw _ w3) eT (g := mkF m pc ls (.ref a :: st)) rfl (by rw [hmx]; exact hsz) rfl (hb hby hd) hf (W := W) (by show 2 * 0 + _ ≤ _; omega) hl
  exact own_by stp (H T' ⟨_, X', e', N, hn, hx, hZ, hw, hby, hmx, hown, r⟩)
-- contracts
/-- yy, called at the heap h0 with the arguments as', returns as Q says -/
def own_Met (l : Launch) (Z : State) (h0 : Heap) (n0 : Nat) (yy : MethodName) (bytes : ByteArray) (mx : Nat) (ret : Option FieldType) (ws : List Jvm.Cond) (rm : Room) (as' : Array Value) (Q : Option Value → Heap → Prop) : Prop :=
  MetFree l yy (head1 (Jvm.Cond.code yy bytes mx ret :: ws) rm) (fun a U => a = as' ∧ Z.Warmed39 U.vm ∧ U.heap = h0) (fun _ _ _ _ _ => True) (fun _ U o U' => ∃ v L, o = .returned v ∧ (Q v U'.heap ∧ Fr n0 L) ∧ FrameEnd U o U' L rm.cells rm.slots)
theorem own_met {yy : MethodName} {bytes : ByteArray} {ws : List Jvm.Cond} {rm : Room} {as' : Array Value} {h0 : Heap} (hpn : plainName yy.cls = true) (hef : ∀ m, entryFrame m as' mx = mkF m 0 ls []) (hn : n0 ≤ h0.size) (hw : ∀ d ∈ tables_1, d.before a0 Z = true)
    (H : ∀ p e s m below meth c T, own_S p l e s m as' below meth c Z a0 n0 yy bytes mx ret rm T h0 0 0 → own_G p e s below rm n0 Q T (mkF m 0 ls [])) : own_Met l Z h0 n0 yy bytes mx ret ws rm as' Q := by
  refine MetFree.of_bodySF (plainFor_of_name hpn) hisR ?_
  intro p e s m args below meth c s₁ Bd hml0 hP hK
  obtain ⟨rfl, hZ, hh⟩ := hP
  have e0 : s₁.heap = h0 := by rw [← hh, Bd.state]; rfl
  rw [hef m]
  exact H p e s m below meth c s₁ ⟨[], Stand.of_body Bd, e0, Fr.nil n0, by rw [hh]; exact hn, Bd.exec, hZ, hw, Bd.bytes, hml0, findClass_of_methodNamed Bd.named, (name_of_methodNamed Bd.named Bd.method).1, Bd.notSynchronized, Bd.returns⟩
/-- what a method that hands back a value, or none, says -/
def own_V (q : Value → Heap → Prop) : Option Value → Heap → Prop := fun v h => ∃ w, v = some w ∧ q w h
def own_N (q : Heap → Prop) : Option Value → Heap → Prop := fun v h => v = none ∧ q h
theorem own_callS {idx : Nat} {yy : MethodName} {bytes : ByteArray} {maxL : Nat} {rt : Option FieldType} {rm : Room} {Q' : Option Value → Heap → Prop} {ps : List FieldType} {r' : Option FieldType} (argsL rest : List Value) (S : own_S p l e s m args below meth c Z a0 n0 y code mx ret R T h cells slots)
    (w1 : Jvm.Cond.methodLink y.cls idx yy ∈ tables_1) (w2 : Jvm.Cond.static yy ∈ tables_1) (w3 : Jvm.Cond.initialized yy.cls ∈ tables_1) (w4 : Jvm.Cond.code yy bytes maxL rt ∈ tables_1) (hy : yy.cls ≠ "java/lang/invoke/MethodHandle" ∧ yy.cls ≠ "java/lang/invoke/VarHandle")
    (M : own_Met l Z h n0 yy bytes maxL rt [] rm argsL.toArray Q') (hds : parseMethodDescriptor yy.desc = some ⟨ps, r'⟩) (hal : argsL.length = ps.length) (hst : st = argsL.reverse ++ rest) (hsz : ls.size = mx) {W : Nat} (hW : (rest.map fun v => v.category).sum ≤ W)
    (hfr : rm.frames + 1 ≤ R.frames) (hlo : W + (maxL + 11) + rm.locals ≤ R.locals) (hc : cells + rm.cells ≤ R.cells) (hs : slots + rm.slots ≤ R.slots) (hp : pc + 3 = pc') (hd : decode code pc = .ok (.invokestatic idx, 3))
    (H : ∀ T' h' v, own_S p l e s m args below meth c Z a0 n0 y code mx ret R T' h' (cells + rm.cells) (slots + rm.slots) → Q' v h' → own_G p e s below R n0 Q T' (mkF m pc' ls (v.toList ++ rest))) : own_G p e s below R n0 Q T (mkF m pc ls st) := by
  obtain ⟨locs, X, eT, N, hn, hx, hZ, hw, hby, hmx, hown, r⟩ := S; subst hp hst
  obtain ⟨v, _, ⟨T', L', k', n'⟩, -, X', ⟨Lc, hQ, l', y', z'⟩, stp⟩ := Jvm.LawKit.callS X hx (y := yy) hown (mvT hZ (hw _ w1)) (mvT hZ (hw _ w2)) (mvT hZ (hw _ w3)) (mvT hZ (hw _ w4)) hy (backOf (Q := fun v h L => Q' v h ∧ Fr n0 L) (W := W) M hZ (hw _ w4) (hw _ w3) hfr hlo) (g := mkF m pc ls (argsL.reverse ++ rest)) rfl (by rw [hmx]; exact hsz) (argsL := argsL) (rest := rest) (lenOf hds hal) rfl (by show 2 * 0 + _ ≤ _; omega) (hb hby hd) (fun _ _ => ⟨rfl, eT, hc, hs⟩)
  dsimp only [Pt.U, Pt.locs, Pt.cells, Pt.slots] at X' l' y' z' stp hQ
  subst l' y' z'
  exact own_by stp (H T' T'.heap v ⟨_, X', rfl, Fr.app N hQ.2, hn, hx, hZ, hw, hby, hmx, hown, r⟩ hQ.1)
theorem own_callI {idx : Nat} {yy : MethodName} {bytes : ByteArray} {maxL : Nat} {rm : Room} {Q' : Option Value → Heap → Prop} {ps : List FieldType} {r' : Option FieldType} (argsL rest : List Value) (S : own_S p l e s m args below meth c Z a0 n0 y code mx ret R T h cells slots) {b : Addr}
    (w1 : Jvm.Cond.methodLink y.cls idx yy ∈ tables_1) (w2 : Jvm.Cond.instanceMethod yy ∈ tables_1) (w3 : Jvm.Cond.initialized yy.cls ∈ tables_1) (w4 : Jvm.Cond.code yy bytes maxL none ∈ tables_1) (hnm : yy.name = "<init>") (hy : yy.cls ≠ "java/lang/invoke/MethodHandle" ∧ yy.cls ≠ "java/lang/invoke/VarHandle")
    (M : own_Met l Z h n0 yy bytes maxL none [] rm (.ref b :: argsL).toArray Q') (hds : parseMethodDescriptor yy.desc = some ⟨ps, r'⟩) (hal : argsL.length = ps.length) (hst : st = argsL.reverse ++ .ref b :: rest) (hsz : ls.size = mx) {W : Nat} (hW : (rest.map fun v => v.category).sum ≤ W)
    (hfr : rm.frames + 1 ≤ R.frames) (hlo : W + (maxL + 11) + rm.locals ≤ R.locals) (hc : cells + rm.cells ≤ R.cells) (hs : slots + rm.slots ≤ R.slots) (hp : pc + 3 = pc') (hd : decode code pc = .ok (.invokespecial idx, 3))
    (H : ∀ T' h' v, own_S p l e s m args below meth c Z a0 n0 y code mx ret R T' h' (cells + rm.cells) (slots + rm.slots) → Q' v h' → own_G p e s below R n0 Q T' (mkF m pc' ls (v.toList ++ rest))) : own_G p e s below R n0 Q T (mkF m pc ls st) := by
  obtain ⟨locs, X, eT, N, hn, hx, hZ, hw, hby, hmx, hown, r⟩ := S; subst hp hst
  obtain ⟨v, _, ⟨T', L', k', n'⟩, -, X', ⟨Lc, hQ, l', y', z'⟩, stp⟩ := X.specialBack hx (y := yy) hnm hown (mvT hZ (hw _ w1)) (mvT hZ (hw _ w2)) (mvT hZ (hw _ w4)) hy (backOf (Q := fun v h L => Q' v h ∧ Fr n0 L) (W := W) M hZ (hw _ w4) (hw _ w3) hfr hlo) (g := mkF m pc ls (argsL.reverse ++ .ref b :: rest)) rfl (by rw [hmx]; exact hsz) (Steps.refl _) (a := b) (argsL := argsL) (rest := rest) (lenOf hds hal) rfl (by show 2 * 0 + _ ≤ _; omega) (hb hby hd) (fun _ _ => ⟨rfl, eT, hc, hs⟩)
  dsimp only [Pt.U, Pt.locs, Pt.cells, Pt.slots] at X' l' y' z' stp hQ
  subst l' y' z'
  exact own_by (fun _ k => stp.trans k) (H T' T'.heap v ⟨_, X', rfl, Fr.app N hQ.2, hn, hx, hZ, hw, hby, hmx, hown, r⟩ hQ.1)
theorem own_callV {idx : Nat} {yy : MethodName} {bytes : ByteArray} {maxL : Nat} {rt : Option FieldType} {rm : Room} {Q' : Option Value → Heap → Prop} {ps : List FieldType} {r' : Option FieldType} (argsL rest : List Value) (S : own_S p l e s m args below meth c Z a0 n0 y code mx ret R T h cells slots) {b : Addr} {C : String}
    (w1 : Jvm.Cond.methodLink y.cls idx yy ∈ tables_1) (w2 : Jvm.Cond.declares yy ∈ tables_1) (w5 : Jvm.Cond.selects C yy yy ∈ tables_1) (w6 : Jvm.Cond.instanceMethod yy ∈ tables_1) (w3 : Jvm.Cond.initialized yy.cls ∈ tables_1) (w4 : Jvm.Cond.code yy bytes maxL rt ∈ tables_1) (hy : yy.cls ≠ "java/lang/invoke/MethodHandle" ∧ yy.cls ≠ "java/lang/invoke/VarHandle")
    (E : Exa Z h b C) (M : own_Met l Z h n0 yy bytes maxL rt [] rm (.ref b :: argsL).toArray Q') (hds : parseMethodDescriptor yy.desc = some ⟨ps, r'⟩) (hal : argsL.length = ps.length) (hst : st = argsL.reverse ++ .ref b :: rest) (hsz : ls.size = mx) {W : Nat} (hW : (rest.map fun v => v.category).sum ≤ W)
    (hfr : rm.frames + 1 ≤ R.frames) (hlo : W + (maxL + 11) + rm.locals ≤ R.locals) (hc : cells + rm.cells ≤ R.cells) (hs : slots + rm.slots ≤ R.slots) (hp : pc + 3 = pc') (hd : decode code pc = .ok (.invokevirtual idx, 3))
    (H : ∀ T' h' v, own_S p l e s m args below meth c Z a0 n0 y code mx ret R T' h' (cells + rm.cells) (slots + rm.slots) → Q' v h' → own_G p e s below R n0 Q T' (mkF m pc' ls (v.toList ++ rest))) : own_G p e s below R n0 Q T (mkF m pc ls st) := by
  obtain ⟨locs, X, eT, N, hn, hx, hZ, hw, hby, hmx, hown, r⟩ := S; subst hp hst
  obtain ⟨cq, kq, qa, qb, qc⟩ := isOf hZ eT E
  obtain ⟨v, _, ⟨T', L', k', n'⟩, -, X', ⟨Lc, hQ, l', y', z'⟩, stp⟩ := X.virtualBack hx (y := yy) (z := yy) hown (mvT hZ (hw _ w1)) (mvT hZ (hw _ w2)) (notFace_of_selects (args := #[]) (mvT hZ (hw _ w5))) (mvT hZ (hw _ w5)) (mvT hZ (hw _ w6)) hy (backOf (Q := fun v h L => Q' v h ∧ Fr n0 L) (W := W) M hZ (hw _ w4) (hw _ w3) hfr hlo) qa qc (g := mkF m pc ls (argsL.reverse ++ .ref b :: rest)) rfl (by rw [hmx]; exact hsz) (Steps.refl _) (argsL := argsL) (rest := rest) (lenOf hds hal) rfl (by show 2 * 0 + _ ≤ _; omega) (hb hby hd) (fun _ _ => ⟨rfl, eT, hc, hs⟩)
  dsimp only [Pt.U, Pt.locs, Pt.cells, Pt.slots] at X' l' y' z' stp hQ
  subst l' y' z'
  exact own_by (fun _ k => stp.trans k) (H T' T'.heap v ⟨_, X', rfl, Fr.app N hQ.2, hn, hx, hZ, hw, hby, hmx, hown, r⟩ hQ.1)
theorem own_callP {idx : Nat} {yy : MethodName} {bytes : ByteArray} {maxL : Nat} {rt : Option FieldType} {rm : Room} {Q' : Option Value → Heap → Prop} {ps : List FieldType} {r' : Option FieldType} (argsL rest : List Value) (S : own_S p l e s m args below meth c Z a0 n0 y code mx ret R T h cells slots) {b : Addr} {C : String} {kk : Nat}
    (w1 : Jvm.Cond.methodLink y.cls idx yy ∈ tables_1) (w6 : Jvm.Cond.instanceMethod yy ∈ tables_1) (w7 : Jvm.Cond.privateMethod yy ∈ tables_1) (w8 : Jvm.Cond.instantiable yy.cls kk ∈ tables_1) (w3 : Jvm.Cond.initialized yy.cls ∈ tables_1) (w4 : Jvm.Cond.code yy bytes maxL rt ∈ tables_1) (hy : yy.cls ≠ "java/lang/invoke/MethodHandle" ∧ yy.cls ≠ "java/lang/invoke/VarHandle")
    (E : Exa Z h b C) (M : own_Met l Z h n0 yy bytes maxL rt [] rm (.ref b :: argsL).toArray Q') (hds : parseMethodDescriptor yy.desc = some ⟨ps, r'⟩) (hal : argsL.length = ps.length) (hst : st = argsL.reverse ++ .ref b :: rest) (hsz : ls.size = mx) {W : Nat} (hW : (rest.map fun v => v.category).sum ≤ W)
    (hfr : rm.frames + 1 ≤ R.frames) (hlo : W + (maxL + 11) + rm.locals ≤ R.locals) (hc : cells + rm.cells ≤ R.cells) (hs : slots + rm.slots ≤ R.slots) (hp : pc + 3 = pc') (hd : decode code pc = .ok (.invokevirtual idx, 3))
    (H : ∀ T' h' v, own_S p l e s m args below meth c Z a0 n0 y code mx ret R T' h' (cells + rm.cells) (slots + rm.slots) → Q' v h' → own_G p e s below R n0 Q T' (mkF m pc' ls (v.toList ++ rest))) : own_G p e s below R n0 Q T (mkF m pc ls st) := by
  obtain ⟨locs, X, eT, N, hn, hx, hZ, hw, hby, hmx, hown, r⟩ := S; subst hp hst
  obtain ⟨cell, kx, c1, c2, c3, c4, -⟩ := E
  have hpriv : s.PrivateAt yy := Cond.privateMethod_at (mvP hZ (hw _ w7) (args := #[]))
  have hinst : (Jvm.Cond.instanceMethod yy).before args s = true := mvT hZ (hw _ w6)
  have hini : (Jvm.Cond.instantiable yy.cls kk).before args s = true := mvT hZ (hw _ w8)
  have hsel : (Jvm.Cond.selects yy.cls yy yy).before args s = true := by
    obtain ⟨cc, k, i1, i2, i3, i4, -⟩ := Cond.instantiable_spec hini
    exact Stand.selects_self_of_private i1 i2 (by simp only [Bool.or_eq_false_iff] at i4; exact i4.1) hpriv hinst hy
  obtain ⟨v, _, ⟨T', L', k', n'⟩, -, X', ⟨Lc, hQ, l', y', z'⟩, stp⟩ := X.privateBack hx (y := yy) hown (mvT hZ (hw _ w1)) hinst hsel hpriv (mvT hZ (hw _ w4)) hy (backOf (Q := fun v h L => Q' v h ∧ Fr n0 L) (W := W) M hZ (hw _ w4) (hw _ w3) hfr hlo) (g := mkF m pc ls (argsL.reverse ++ .ref b :: rest)) rfl (by rw [hmx]; exact hsz) (Steps.refl _) (a := b) (cell := cell) (by rw [eT]; exact c1) (fun q e => by rw [e] at c4; cases c4) (argsL := argsL) (rest := rest) (lenOf hds hal) rfl (by show 2 * 0 + _ ≤ _; omega) (hb hby hd) (fun _ _ => ⟨rfl, eT, hc, hs⟩)
  dsimp only [Pt.U, Pt.locs, Pt.cells, Pt.slots] at X' l' y' z' stp hQ
  subst l' y' z'
  exact own_by (fun _ k => stp.trans k) (H T' T'.heap v ⟨_, X', rfl, Fr.app N hQ.2, hn, hx, hZ, hw, hby, hmx, hown, r⟩ hQ.1)
theorem own_dupx1 {a b : Value} (S : own_S p l e s m args below meth c Z a0 n0 y code mx ret R T h cells slots) (hp : pc + 1 = pc') (hd : decode code pc = .ok (.dup_x1, 1)) (hc : a.category = 1) (hc' : b.category = 1)
    (H : own_G p e s below R n0 Q T (mkF m pc' ls (a :: b :: a :: st))) : own_G p e s below R n0 Q T (mkF m pc ls (a :: b :: st)) := by
  obtain ⟨_, X, _, _, _, hx, _, _, hby, _⟩ := S; subst hp
  exact own_by (fun _ k => XT.dupX1 X.here hx rfl (hb hby hd) rfl hc hc' k) H
theorem own_anewarray {idx : Nat} {C : String} {x : Int32} {n : Nat} (cap : Nat) (S : own_S p l e s m args below meth c Z a0 n0 y code mx ret R T h cells slots) (w1 : Jvm.Cond.classLink y.cls idx C ∈ tables_1) (w2 : Jvm.Cond.arrayOver (.object C) ∈ tables_1) (hi : x.toInt = n) (hcap : n ≤ cap) (hb8 : cap * 8 ≤ 536870912) (hc : cells + 1 ≤ R.cells) (hl : slots + cap ≤ R.slots) (hp : pc + 3 = pc') (hd : decode code pc = .ok (.anewarray idx, 3))
    (H : ∀ T' h' a, a = h.size → n0 ≤ a → own_S p l e s m args below meth c Z a0 n0 y code mx ret R T' h' (cells + 1) (slots + cap) → Ext h h' → own_G p e s below R n0 Q T' (mkF m pc' ls (.ref a :: st))) : own_G p e s below R n0 Q T (mkF m pc ls (.int x :: st)) := by
  obtain ⟨locs, X, eT, N, hn, hx, hZ, hw, hby, hmx, hown, r⟩ := S; subst hp
  obtain ⟨q1, q2⟩ := own_ix hi
  obtain ⟨T', h', k, X', e', E, Ar, -, stp⟩ := newR X hx hZ hown (hw _ w1) (hw _ w2) eT (g := mkF m pc ls (.int x :: st)) rfl (hb hby hd) rfl q2 (cap := cap) (by rw [q1]; exact hcap) hb8 hc hl
  exact own_by stp (H T' h' h.size rfl (by rw [← eT]; exact Nat.le_trans hn X.same.2.1) ⟨_, X', e', N, hn, hx, hZ, hw, hby, hmx, hown, r⟩ E)
/-- a cell is there, of a known kind -/
def own_U (h : Heap) (a : Addr) : Prop := ∃ cell : Cell, h[a]? = some cell ∧ cell.vm ≠ .unknown
theorem own_Uext {h h' : Heap} {a : Addr} (U : own_U h a) (E : Ext h h') : own_U h' a := by obtain ⟨cl, h1, h2⟩ := U; exact ⟨cl, E.2 _ _ h1, h2⟩
theorem own_Ukeep {h h' : Heap} {a : Addr} {ws : List Addr} (U : own_U h a) (K : Keep h h' ws) : own_U h' a := by obtain ⟨cl, h1, h2⟩ := U; obtain ⟨c', q1, _, q2, _⟩ := K.2.2 _ _ h1; exact ⟨c', q1, by rw [q2]; exact h2⟩
theorem own_Uwr {h h' : Heap} {a b : Addr} {sl : Nat} {v : Value} (U : own_U h a) (W : Wr h h' b sl v) : own_U h' a := own_Ukeep U (Keep.of_wr W)
theorem own_Uof {Z : State} {h : Heap} {a : Addr} {C n d : String} {v : Value} (F : Fld Z h a C n d v) : own_U h a := by obtain ⟨cl, _, _, _, _, h1, _, _, h4, _⟩ := F; exact ⟨cl, h1, h4⟩
end Own
theorem d1_0 : decode method_2_code 0 = .ok (.iload_n 2, 1) := by decide +kernel
theorem d1_1 : decode method_2_code 1 = .ok (.iload_n 1, 1) := by decide +kernel
theorem d1_2 : decode method_2_code 2 = .ok (.if_icmp .ge 21, 3) := by decide +kernel
theorem d1_5 : decode method_2_code 5 = .ok (.iload_n 0, 1) := by decide +kernel
theorem d1_6 : decode method_2_code 6 = .ok (.iconst 2, 1) := by decide +kernel
theorem d1_7 : decode method_2_code 7 = .ok (.iload_n 2, 1) := by decide +kernel
theorem d1_8 : decode method_2_code 8 = .ok (.imul, 1) := by decide +kernel
theorem d1_9 : decode method_2_code 9 = .ok (.iload_n 3, 1) := by decide +kernel
theorem d1_10 : decode method_2_code 10 = .ok (.iadd, 1) := by decide +kernel
theorem d1_11 : decode method_2_code 11 = .ok (.ishr, 1) := by decide +kernel
theorem d1_12 : decode method_2_code 12 = .ok (.iconst 1, 1) := by decide +kernel
theorem d1_13 : decode method_2_code 13 = .ok (.iand, 1) := by decide +kernel
theorem d1_14 : decode method_2_code 14 = .ok (.ifCond .eq 9, 3) := by decide +kernel
theorem d1_17 : decode method_2_code 17 = .ok (.iconst 2, 1) := by decide +kernel
theorem d1_18 : decode method_2_code 18 = .ok (.iload_n 2, 1) := by decide +kernel
theorem d1_19 : decode method_2_code 19 = .ok (.iadd, 1) := by decide +kernel
theorem d1_20 : decode method_2_code 20 = .ok (.goto 4, 3) := by decide +kernel
theorem d1_23 : decode method_2_code 23 = .ok (.iconst (-1), 1) := by decide +kernel
theorem d1_24 : decode method_2_code 24 = .ok (.ireturn, 1) := by decide +kernel
def own_y1 : MethodName := ⟨"com/example/ringloom/ringloom/BetweenCirclesFreeNodePinLaw", "circle", "(IIII)I"⟩
theorem own_pn1 : plainName "com/example/ringloom/ringloom/BetweenCirclesFreeNodePinLaw" = true := by first | (simp [plainName, overriddenIn]; done) | decide +kernel
theorem d2_0 : decode prog_1_method_1_code 0 = .ok (.aload_n 0, 1) := by decide +kernel
theorem d2_1 : decode prog_1_method_1_code 1 = .ok (.invokespecial 1, 3) := by decide +kernel
theorem d2_4 : decode prog_1_method_1_code 4 = .ok (.aload_n 0, 1) := by decide +kernel
theorem d2_5 : decode prog_1_method_1_code 5 = .ok (.iload_n 1, 1) := by decide +kernel
theorem d2_6 : decode prog_1_method_1_code 6 = .ok (.putfield 7, 3) := by decide +kernel
theorem d2_9 : decode prog_1_method_1_code 9 = .ok (.aload_n 0, 1) := by decide +kernel
theorem d2_10 : decode prog_1_method_1_code 10 = .ok (.iload_n 2, 1) := by decide +kernel
theorem d2_11 : decode prog_1_method_1_code 11 = .ok (.putfield 13, 3) := by decide +kernel
theorem d2_14 : decode prog_1_method_1_code 14 = .ok (.aload_n 0, 1) := by decide +kernel
theorem d2_15 : decode prog_1_method_1_code 15 = .ok (.iload_n 2, 1) := by decide +kernel
theorem d2_16 : decode prog_1_method_1_code 16 = .ok (.iload_n 1, 1) := by decide +kernel
theorem d2_17 : decode prog_1_method_1_code 17 = .ok (.imul, 1) := by decide +kernel
theorem d2_18 : decode prog_1_method_1_code 18 = .ok (.newarray .boolean, 2) := by decide +kernel
theorem d2_20 : decode prog_1_method_1_code 20 = .ok (.putfield 16, 3) := by decide +kernel
theorem d2_23 : decode prog_1_method_1_code 23 = .ok (.return_, 1) := by decide +kernel
def own_y2 : MethodName := ⟨"com/example/ringloom/ringloom/BetweenCircles", "<init>", "(II)V"⟩
theorem own_pn2 : plainName "com/example/ringloom/ringloom/BetweenCircles" = true := by first | (simp [plainName, overriddenIn]; done) | decide +kernel
theorem d3_0 : decode prog_1_method_12_code 0 = .ok (.iconst 0, 1) := by decide +kernel
theorem d3_1 : decode prog_1_method_12_code 1 = .ok (.istore_n 3, 1) := by decide +kernel
theorem d3_2 : decode prog_1_method_12_code 2 = .ok (.iload_n 3, 1) := by decide +kernel
theorem d3_3 : decode prog_1_method_12_code 3 = .ok (.aload_n 1, 1) := by decide +kernel
theorem d3_4 : decode prog_1_method_12_code 4 = .ok (.arraylength, 1) := by decide +kernel
theorem d3_5 : decode prog_1_method_12_code 5 = .ok (.if_icmp .ge 40, 3) := by decide +kernel
theorem d3_8 : decode prog_1_method_12_code 8 = .ok (.aload_n 1, 1) := by decide +kernel
theorem d3_9 : decode prog_1_method_12_code 9 = .ok (.iload_n 3, 1) := by decide +kernel
theorem d3_10 : decode prog_1_method_12_code 10 = .ok (.iaload, 1) := by decide +kernel
theorem d3_11 : decode prog_1_method_12_code 11 = .ok (.ifCond .lt 28, 3) := by decide +kernel
theorem d3_14 : decode prog_1_method_12_code 14 = .ok (.aload_n 0, 1) := by decide +kernel
theorem d3_15 : decode prog_1_method_12_code 15 = .ok (.getfield 16, 3) := by decide +kernel
theorem d3_18 : decode prog_1_method_12_code 18 = .ok (.aload_n 1, 1) := by decide +kernel
theorem d3_19 : decode prog_1_method_12_code 19 = .ok (.iload_n 3, 1) := by decide +kernel
theorem d3_20 : decode prog_1_method_12_code 20 = .ok (.iaload, 1) := by decide +kernel
theorem d3_21 : decode prog_1_method_12_code 21 = .ok (.aload_n 0, 1) := by decide +kernel
theorem d3_22 : decode prog_1_method_12_code 22 = .ok (.getfield 7, 3) := by decide +kernel
theorem d3_25 : decode prog_1_method_12_code 25 = .ok (.isub, 1) := by decide +kernel
theorem d3_26 : decode prog_1_method_12_code 26 = .ok (.aload_n 0, 1) := by decide +kernel
theorem d3_27 : decode prog_1_method_12_code 27 = .ok (.getfield 7, 3) := by decide +kernel
theorem d3_30 : decode prog_1_method_12_code 30 = .ok (.imul, 1) := by decide +kernel
theorem d3_31 : decode prog_1_method_12_code 31 = .ok (.aload_n 1, 1) := by decide +kernel
theorem d3_32 : decode prog_1_method_12_code 32 = .ok (.iload_n 3, 1) := by decide +kernel
theorem d3_33 : decode prog_1_method_12_code 33 = .ok (.iconst 1, 1) := by decide +kernel
theorem d3_34 : decode prog_1_method_12_code 34 = .ok (.iadd, 1) := by decide +kernel
theorem d3_35 : decode prog_1_method_12_code 35 = .ok (.iaload, 1) := by decide +kernel
theorem d3_36 : decode prog_1_method_12_code 36 = .ok (.iadd, 1) := by decide +kernel
theorem d3_37 : decode prog_1_method_12_code 37 = .ok (.iload_n 2, 1) := by decide +kernel
theorem d3_38 : decode prog_1_method_12_code 38 = .ok (.bastore, 1) := by decide +kernel
theorem d3_39 : decode prog_1_method_12_code 39 = .ok (.iinc 3 2, 3) := by decide +kernel
theorem d3_42 : decode prog_1_method_12_code 42 = .ok (.goto (-40), 3) := by decide +kernel
theorem d3_45 : decode prog_1_method_12_code 45 = .ok (.return_, 1) := by decide +kernel
def own_y3 : MethodName := ⟨"com/example/ringloom/ringloom/BetweenCircles", "mark", "([IZ)V"⟩
theorem own_pn3 : plainName "com/example/ringloom/ringloom/BetweenCircles" = true := by first | (simp [plainName, overriddenIn]; done) | decide +kernel
theorem d4_0 : decode prog_1_method_2_code 0 = .ok (.aload_n 0, 1) := by decide +kernel
theorem d4_1 : decode prog_1_method_2_code 1 = .ok (.aload_n 1, 1) := by decide +kernel
theorem d4_2 : decode prog_1_method_2_code 2 = .ok (.iconst 1, 1) := by decide +kernel
theorem d4_3 : decode prog_1_method_2_code 3 = .ok (.invokevirtual 20, 3) := by decide +kernel
theorem d4_6 : decode prog_1_method_2_code 6 = .ok (.return_, 1) := by decide +kernel
def own_y4 : MethodName := ⟨"com/example/ringloom/ringloom/BetweenCircles", "take", "([I)V"⟩
theorem own_pn4 : plainName "com/example/ringloom/ringloom/BetweenCircles" = true := by first | (simp [plainName, overriddenIn]; done) | decide +kernel
theorem d5_0 : decode prog_1_method_7_code 0 = .ok (.aload_n 0, 1) := by decide +kernel
theorem d5_1 : decode prog_1_method_7_code 1 = .ok (.iload_n 1, 1) := by decide +kernel
theorem d5_2 : decode prog_1_method_7_code 2 = .ok (.putfield 24, 3) := by decide +kernel
theorem d5_5 : decode prog_1_method_7_code 5 = .ok (.return_, 1) := by decide +kernel
def own_y5 : MethodName := ⟨"com/example/ringloom/ringloom/BetweenCircles", "resume", "(I)V"⟩
theorem own_pn5 : plainName "com/example/ringloom/ringloom/BetweenCircles" = true := by first | (simp [plainName, overriddenIn]; done) | decide +kernel
theorem d6_0 : decode prog_1_method_4_code 0 = .ok (.iconst 0, 1) := by decide +kernel
theorem d6_1 : decode prog_1_method_4_code 1 = .ok (.istore_n 2, 1) := by decide +kernel
theorem d6_2 : decode prog_1_method_4_code 2 = .ok (.iload_n 2, 1) := by decide +kernel
theorem d6_3 : decode prog_1_method_4_code 3 = .ok (.aload_n 0, 1) := by decide +kernel
theorem d6_4 : decode prog_1_method_4_code 4 = .ok (.getfield 13, 3) := by decide +kernel
theorem d6_7 : decode prog_1_method_4_code 7 = .ok (.if_icmp .ge 102, 3) := by decide +kernel
theorem d6_10 : decode prog_1_method_4_code 10 = .ok (.aload_n 0, 1) := by decide +kernel
theorem d6_11 : decode prog_1_method_4_code 11 = .ok (.getfield 24, 3) := by decide +kernel
theorem d6_14 : decode prog_1_method_4_code 14 = .ok (.istore_n 3, 1) := by decide +kernel
theorem d6_15 : decode prog_1_method_4_code 15 = .ok (.aload_n 0, 1) := by decide +kernel
theorem d6_16 : decode prog_1_method_4_code 16 = .ok (.aload_n 0, 1) := by decide +kernel
theorem d6_17 : decode prog_1_method_4_code 17 = .ok (.getfield 24, 3) := by decide +kernel
theorem d6_20 : decode prog_1_method_4_code 20 = .ok (.iconst 1, 1) := by decide +kernel
theorem d6_21 : decode prog_1_method_4_code 21 = .ok (.iadd, 1) := by decide +kernel
theorem d6_22 : decode prog_1_method_4_code 22 = .ok (.aload_n 0, 1) := by decide +kernel
theorem d6_23 : decode prog_1_method_4_code 23 = .ok (.getfield 13, 3) := by decide +kernel
theorem d6_26 : decode prog_1_method_4_code 26 = .ok (.irem, 1) := by decide +kernel
theorem d6_27 : decode prog_1_method_4_code 27 = .ok (.putfield 24, 3) := by decide +kernel
theorem d6_30 : decode prog_1_method_4_code 30 = .ok (.iconst 1, 1) := by decide +kernel
theorem d6_31 : decode prog_1_method_4_code 31 = .ok (.istore 4, 2) := by decide +kernel
theorem d6_33 : decode prog_1_method_4_code 33 = .ok (.aload_n 1, 1) := by decide +kernel
theorem d6_34 : decode prog_1_method_4_code 34 = .ok (.astore 5, 2) := by decide +kernel
theorem d6_36 : decode prog_1_method_4_code 36 = .ok (.aload 5, 2) := by decide +kernel
theorem d6_38 : decode prog_1_method_4_code 38 = .ok (.arraylength, 1) := by decide +kernel
theorem d6_39 : decode prog_1_method_4_code 39 = .ok (.istore 6, 2) := by decide +kernel
theorem d6_41 : decode prog_1_method_4_code 41 = .ok (.iconst 0, 1) := by decide +kernel
theorem d6_42 : decode prog_1_method_4_code 42 = .ok (.istore 7, 2) := by decide +kernel
theorem d6_44 : decode prog_1_method_4_code 44 = .ok (.iload 7, 2) := by decide +kernel
theorem d6_46 : decode prog_1_method_4_code 46 = .ok (.iload 6, 2) := by decide +kernel
theorem d6_48 : decode prog_1_method_4_code 48 = .ok (.if_icmp .ge 43, 3) := by decide +kernel
theorem d6_51 : decode prog_1_method_4_code 51 = .ok (.aload 5, 2) := by decide +kernel
theorem d6_53 : decode prog_1_method_4_code 53 = .ok (.iload 7, 2) := by decide +kernel
theorem d6_55 : decode prog_1_method_4_code 55 = .ok (.iaload, 1) := by decide +kernel
theorem d6_56 : decode prog_1_method_4_code 56 = .ok (.istore 8, 2) := by decide +kernel
theorem d6_58 : decode prog_1_method_4_code 58 = .ok (.iload 4, 2) := by decide +kernel
theorem d6_60 : decode prog_1_method_4_code 60 = .ok (.aload_n 0, 1) := by decide +kernel
theorem d6_61 : decode prog_1_method_4_code 61 = .ok (.getfield 16, 3) := by decide +kernel
theorem d6_64 : decode prog_1_method_4_code 64 = .ok (.iload_n 3, 1) := by decide +kernel
theorem d6_65 : decode prog_1_method_4_code 65 = .ok (.aload_n 0, 1) := by decide +kernel
theorem d6_66 : decode prog_1_method_4_code 66 = .ok (.getfield 7, 3) := by decide +kernel
theorem d6_69 : decode prog_1_method_4_code 69 = .ok (.imul, 1) := by decide +kernel
theorem d6_70 : decode prog_1_method_4_code 70 = .ok (.iload 8, 2) := by decide +kernel
theorem d6_72 : decode prog_1_method_4_code 72 = .ok (.iadd, 1) := by decide +kernel
theorem d6_73 : decode prog_1_method_4_code 73 = .ok (.baload, 1) := by decide +kernel
theorem d6_74 : decode prog_1_method_4_code 74 = .ok (.ifCond .ne 7, 3) := by decide +kernel
theorem d6_77 : decode prog_1_method_4_code 77 = .ok (.iconst 1, 1) := by decide +kernel
theorem d6_78 : decode prog_1_method_4_code 78 = .ok (.goto 4, 3) := by decide +kernel
theorem d6_81 : decode prog_1_method_4_code 81 = .ok (.iconst 0, 1) := by decide +kernel
theorem d6_82 : decode prog_1_method_4_code 82 = .ok (.iand, 1) := by decide +kernel
theorem d6_83 : decode prog_1_method_4_code 83 = .ok (.istore 4, 2) := by decide +kernel
theorem d6_85 : decode prog_1_method_4_code 85 = .ok (.iinc 7 1, 3) := by decide +kernel
theorem d6_88 : decode prog_1_method_4_code 88 = .ok (.goto (-44), 3) := by decide +kernel
theorem d6_91 : decode prog_1_method_4_code 91 = .ok (.iload 4, 2) := by decide +kernel
theorem d6_93 : decode prog_1_method_4_code 93 = .ok (.ifCond .eq 10, 3) := by decide +kernel
theorem d6_96 : decode prog_1_method_4_code 96 = .ok (.aload_n 0, 1) := by decide +kernel
theorem d6_97 : decode prog_1_method_4_code 97 = .ok (.getfield 7, 3) := by decide +kernel
theorem d6_100 : decode prog_1_method_4_code 100 = .ok (.iload_n 3, 1) := by decide +kernel
theorem d6_101 : decode prog_1_method_4_code 101 = .ok (.iadd, 1) := by decide +kernel
theorem d6_102 : decode prog_1_method_4_code 102 = .ok (.ireturn, 1) := by decide +kernel
theorem d6_103 : decode prog_1_method_4_code 103 = .ok (.iinc 2 1, 3) := by decide +kernel
theorem d6_106 : decode prog_1_method_4_code 106 = .ok (.goto (-104), 3) := by decide +kernel
theorem d6_109 : decode prog_1_method_4_code 109 = .ok (.iconst (-1), 1) := by decide +kernel
theorem d6_110 : decode prog_1_method_4_code 110 = .ok (.ireturn, 1) := by decide +kernel
def own_y6 : MethodName := ⟨"com/example/ringloom/ringloom/BetweenCircles", "freeNode", "([I)I"⟩
theorem own_pn6 : plainName "com/example/ringloom/ringloom/BetweenCircles" = true := by first | (simp [plainName, overriddenIn]; done) | decide +kernel
theorem d7_0 : decode prog_1_method_6_code 0 = .ok (.aload_n 0, 1) := by decide +kernel
theorem d7_1 : decode prog_1_method_6_code 1 = .ok (.getfield 24, 3) := by decide +kernel
theorem d7_4 : decode prog_1_method_6_code 4 = .ok (.ireturn, 1) := by decide +kernel
def own_y7 : MethodName := ⟨"com/example/ringloom/ringloom/BetweenCircles", "position", "()I"⟩
theorem own_pn7 : plainName "com/example/ringloom/ringloom/BetweenCircles" = true := by first | (simp [plainName, overriddenIn]; done) | decide +kernel
theorem d8_0 : decode method_3_code 0 = .ok (.iload_n 0, 1) := by decide +kernel
theorem d8_1 : decode method_3_code 1 = .ok (.iconst 2, 1) := by decide +kernel
theorem d8_2 : decode method_3_code 2 = .ok (.iload_n 1, 1) := by decide +kernel
theorem d8_3 : decode method_3_code 3 = .ok (.imul, 1) := by decide +kernel
theorem d8_4 : decode method_3_code 4 = .ok (.iload_n 2, 1) := by decide +kernel
theorem d8_5 : decode method_3_code 5 = .ok (.iadd, 1) := by decide +kernel
theorem d8_6 : decode method_3_code 6 = .ok (.ishr, 1) := by decide +kernel
theorem d8_7 : decode method_3_code 7 = .ok (.iconst 1, 1) := by decide +kernel
theorem d8_8 : decode method_3_code 8 = .ok (.iand, 1) := by decide +kernel
theorem d8_9 : decode method_3_code 9 = .ok (.ifCond .eq 7, 3) := by decide +kernel
theorem d8_12 : decode method_3_code 12 = .ok (.iconst 1, 1) := by decide +kernel
theorem d8_13 : decode method_3_code 13 = .ok (.goto 4, 3) := by decide +kernel
theorem d8_16 : decode method_3_code 16 = .ok (.iconst 0, 1) := by decide +kernel
theorem d8_17 : decode method_3_code 17 = .ok (.ireturn, 1) := by decide +kernel
def own_y8 : MethodName := ⟨"com/example/ringloom/ringloom/BetweenCirclesFreeNodePinLaw", "takenBit", "(III)Z"⟩
theorem own_pn8 : plainName "com/example/ringloom/ringloom/BetweenCirclesFreeNodePinLaw" = true := by first | (simp [plainName, overriddenIn]; done) | decide +kernel
theorem d9_0 : decode method_4_code 0 = .ok (.iload_n 2, 1) := by decide +kernel
theorem d9_1 : decode method_4_code 1 = .ok (.iconst 1, 1) := by decide +kernel
theorem d9_2 : decode method_4_code 2 = .ok (.if_icmp .lt 12, 3) := by decide +kernel
theorem d9_5 : decode method_4_code 5 = .ok (.iload_n 0, 1) := by decide +kernel
theorem d9_6 : decode method_4_code 6 = .ok (.iload_n 1, 1) := by decide +kernel
theorem d9_7 : decode method_4_code 7 = .ok (.iload_n 3, 1) := by decide +kernel
theorem d9_8 : decode method_4_code 8 = .ok (.invokestatic 7, 3) := by decide +kernel
theorem d9_11 : decode method_4_code 11 = .ok (.ifCond .ne 37, 3) := by decide +kernel
theorem d9_14 : decode method_4_code 14 = .ok (.iload_n 2, 1) := by decide +kernel
theorem d9_15 : decode method_4_code 15 = .ok (.iconst 2, 1) := by decide +kernel
theorem d9_16 : decode method_4_code 16 = .ok (.if_icmp .lt 13, 3) := by decide +kernel
theorem d9_19 : decode method_4_code 19 = .ok (.iload_n 0, 1) := by decide +kernel
theorem d9_20 : decode method_4_code 20 = .ok (.iload_n 1, 1) := by decide +kernel
theorem d9_21 : decode method_4_code 21 = .ok (.iload 4, 2) := by decide +kernel
theorem d9_23 : decode method_4_code 23 = .ok (.invokestatic 7, 3) := by decide +kernel
theorem d9_26 : decode method_4_code 26 = .ok (.ifCond .ne 22, 3) := by decide +kernel
theorem d9_29 : decode method_4_code 29 = .ok (.iload_n 2, 1) := by decide +kernel
theorem d9_30 : decode method_4_code 30 = .ok (.iconst 3, 1) := by decide +kernel
theorem d9_31 : decode method_4_code 31 = .ok (.if_icmp .lt 13, 3) := by decide +kernel
theorem d9_34 : decode method_4_code 34 = .ok (.iload_n 0, 1) := by decide +kernel
theorem d9_35 : decode method_4_code 35 = .ok (.iload_n 1, 1) := by decide +kernel
theorem d9_36 : decode method_4_code 36 = .ok (.iload 5, 2) := by decide +kernel
theorem d9_38 : decode method_4_code 38 = .ok (.invokestatic 7, 3) := by decide +kernel
theorem d9_41 : decode method_4_code 41 = .ok (.ifCond .ne 7, 3) := by decide +kernel
theorem d9_44 : decode method_4_code 44 = .ok (.iconst 1, 1) := by decide +kernel
theorem d9_45 : decode method_4_code 45 = .ok (.goto 4, 3) := by decide +kernel
theorem d9_48 : decode method_4_code 48 = .ok (.iconst 0, 1) := by decide +kernel
theorem d9_49 : decode method_4_code 49 = .ok (.ireturn, 1) := by decide +kernel
def own_y9 : MethodName := ⟨"com/example/ringloom/ringloom/BetweenCirclesFreeNodePinLaw", "free", "(IIIIII)Z"⟩
theorem own_pn9 : plainName "com/example/ringloom/ringloom/BetweenCirclesFreeNodePinLaw" = true := by first | (simp [plainName, overriddenIn]; done) | decide +kernel
theorem own_tn {i : Nat} (h : i < 2147483648) : (Int32.ofNat i).toInt = i := Int32.toInt_ofNat_of_lt (by omega)
theorem own_one (i : Nat) : Int32.ofNat i + (1 : Int32) = Int32.ofNat (i + 1) := (Int32.ofNat_add i 1).symm
theorem own_addN (a b : Nat) : Int32.ofNat a + Int32.ofNat b = Int32.ofNat (a + b) := (Int32.ofNat_add a b).symm
theorem own_mulN (a b : Nat) : Int32.ofNat a * Int32.ofNat b = Int32.ofNat (a * b) := (Int32.ofNat_mul a b).symm
theorem own_two (a : Nat) : (2 : Int32) * Int32.ofNat a = Int32.ofNat (2 * a) := own_mulN 2 a
theorem own_subN {a b : Nat} (ha : a < 2147483648) (hab : b ≤ a) : Int32.ofNat a - Int32.ofNat b = Int32.ofNat (a - b) := by
  apply Int32.toInt_inj.mp
  have h1 := c_isub (Int32.ofNat a) (Int32.ofNat b)
  have h2 := rng32 (Int32.ofNat a - Int32.ofNat b)
  rw [own_tn ha, own_tn (i := b) (by omega)] at h1
  rw [own_tn (i := a - b) (by omega)]
  omega
theorem own_sub1 {a : Nat} (ha : a < 2147483648) (hab : 1 ≤ a) : Int32.ofNat a - (1 : Int32) = Int32.ofNat (a - 1) := own_subN ha hab
theorem own_modN {a b : Nat} (ha : a < 2147483648) (hb : b < 2147483648) : Int32.ofNat a % Int32.ofNat b = Int32.ofNat (a % b) := by
  apply Int32.toInt_inj.mp
  rw [Int32.toInt_mod, own_tn ha, own_tn hb, own_tn (i := a % b) (Nat.lt_of_le_of_lt (Nat.mod_le a b) ha)]
  rfl
theorem own_divN {a b : Nat} (ha : a < 2147483648) (hb : b < 2147483648) : Int32.ofNat a / Int32.ofNat b = Int32.ofNat (a / b) := by
  apply Int32.toInt_inj.mp
  rw [Int32.toInt_div_of_ne_right _ _ (fun q => by have := congrArg Int32.toInt q; rw [own_tn hb] at this; have e : (-1 : Int32).toInt = -1 := rfl; omega), own_tn ha, own_tn hb, own_tn (i := a / b) (Nat.lt_of_le_of_lt (Nat.div_le_self a b) ha)]
  rfl
theorem own_nz {a : Nat} (ha : a < 2147483648) (h : a ≠ 0) : Int32.ofNat a ≠ 0 := fun q => by
  have := congrArg Int32.toInt q
  rw [own_tn ha] at this
  have e : (0 : Int32).toInt = 0 := rfl
  omega
theorem own_nat {y : Int32} (h : 0 ≤ y.toInt) : y = Int32.ofNat y.toInt.toNat := by
  apply Int32.toInt_inj.mp
  have := y.toInt_lt
  rw [own_tn (by omega)]
  omega
theorem own_mask (x m : Int32) (h : 0 ≤ m.toInt) : ∃ k : Nat, (k : Int) ≤ m.toInt ∧ x &&& m = Int32.ofNat k := by
  have r := c_and x m h
  exact ⟨(x &&& m).toInt.toNat, by omega, own_nat r.1⟩
/-- bit i of m -/
def own_t (m : Int32) (i : Nat) : Bool := !decide (((m >>> (Int32.ofNat i &&& 31)) &&& 1) = 0)
theorem own_t1 {m : Int32} {i : Nat} (h : ¬ ((m >>> (Int32.ofNat i &&& 31)) &&& 1) = 0) : own_t m i = true := by unfold own_t; simp [h]
theorem own_t0 {m : Int32} {i : Nat} (h : ((m >>> (Int32.ofNat i &&& 31)) &&& 1) = 0) : own_t m i = false := by unfold own_t; simp [h]
/-- what circles holds at place 2j -/
def own_c (t : Nat → Bool) (n j : Nat) : Int32 := if j / 2 < n ∧ t j = true then Int32.ofNat (2 + j / 2) else -1
def own_cf (t : Nat → Bool) (n k : Nat) : Int32 := if k % 2 = 0 then own_c t n (k / 2) else Int32.ofNat (k / 2 % 2)
theorem own_cf0 (t : Nat → Bool) (n j : Nat) : own_cf t n (2 * j) = own_c t n j := by
  unfold own_cf; rw [if_pos (by omega), show 2 * j / 2 = j by omega]
theorem own_cf1 (t : Nat → Bool) (n j : Nat) : own_cf t n (2 * j + 1) = Int32.ofNat (j % 2) := by
  unfold own_cf; rw [if_neg (by omega), show (2 * j + 1) / 2 = j by omega]
def own_bv (b : Bool) : Int32 := if b = true then 1 else 0
/-- no end of e 0 .. e (len - 1) of node x is taken -/
def own_fr (t : Nat → Bool) (e : Nat → Nat) (len x : Nat) : Prop := ∀ j, j < len → t (2 * x + e j) = false
def own_e (e0 e1 e2 : Nat) (j : Nat) : Nat := if j = 0 then e0 else if j = 1 then e1 else e2
/-- the object b: two ends, n others, its array at ta, next -/
def own_O (Z : State) (h : Heap) (b : Addr) (n : Nat) (ta : Addr) (nx : Int32) : Prop := Exa Z h b "com/example/ringloom/ringloom/BetweenCircles" ∧ Fld Z h b "com/example/ringloom/ringloom/BetweenCircles" "secondNodes" "I" (.int 2) ∧ Fld Z h b "com/example/ringloom/ringloom/BetweenCircles" "others" "I" (.int (Int32.ofNat n)) ∧ Fld Z h b "com/example/ringloom/ringloom/BetweenCircles" "taken" "[Z" (.ref ta) ∧ Fld Z h b "com/example/ringloom/ringloom/BetweenCircles" "next" "I" (.int nx)
theorem own_Owr {Z : State} {h h' : Heap} {b ta a : Addr} {n sl : Nat} {nx : Int32} {v : Value} (O : own_O Z h b n ta nx) (W : Wr h h' a sl v) (ne : b ≠ a) : own_O Z h' b n ta nx :=
  ⟨Exa.wr W O.1, Fld.other W O.2.1 (Or.inl ne), Fld.other W O.2.2.1 (Or.inl ne), Fld.other W O.2.2.2.1 (Or.inl ne), Fld.other W O.2.2.2.2 (Or.inl ne)⟩
theorem own_Okeep {Z : State} {h h' : Heap} {b ta : Addr} {n : Nat} {ws : List Addr} {nx : Int32} (O : own_O Z h b n ta nx) (K : Keep h h' ws) (ne : b ∉ ws) : own_O Z h' b n ta nx :=
  ⟨O.1.keep K, O.2.1.keep K ne, O.2.2.1.keep K ne, O.2.2.2.1.keep K ne, O.2.2.2.2.keep K ne⟩
theorem own_Onext {Z : State} {a0 : Array Value} (hw : ∀ d ∈ tables_1, d.before a0 Z = true) {h h' : Heap} {b ta : Addr} {n : Nat} {nx v : Int32} (O : own_O Z h b n ta nx) (W : Wr h h' b (RoadKit.slotOf Z "com/example/ringloom/ringloom/BetweenCircles" "next" "I") (.int v)) : own_O Z h' b n ta v :=
  ⟨Exa.wr W O.1, Fld.other W O.2.1 (Or.inr (slot_ne (t := .int) (t' := .int) (Or.inr (hw _ (List.mem_of_getElem? (i := 16) rfl))) (Or.inl (hw _ (List.mem_of_getElem? (i := 37) rfl))) (by decide) (by decide +kernel) (by decide +kernel))), Fld.other W O.2.2.1 (Or.inr (slot_ne (t := .int) (t' := .int) (Or.inr (hw _ (List.mem_of_getElem? (i := 18) rfl))) (Or.inl (hw _ (List.mem_of_getElem? (i := 37) rfl))) (by decide) (by decide +kernel) (by decide +kernel))), Fld.other W O.2.2.2.1 (Or.inr (slot_ne (t := (.array .boolean)) (t' := .int) (Or.inr (hw _ (List.mem_of_getElem? (i := 21) rfl))) (Or.inl (hw _ (List.mem_of_getElem? (i := 37) rfl))) (by decide) (by decide +kernel) (by decide +kernel))), Fld.same W O.2.2.2.2⟩
theorem own_ef1 (m : MethodId) (z0 : Int32) (z1 : Int32) (z2 : Int32) (z3 : Int32) : entryFrame m #[(.int z0), (.int z1), (.int z2), (.int z3)] 4 = mkF m 0 #[.val (.int z0), .val (.int z1), .val (.int z2), .val (.int z3)] [] := by first | (simp [entryFrame, mkF, argsToLocals, Value.category]; done) | rfl
set_option maxRecDepth 65536 in
set_option maxHeartbeats 40000000 in
theorem own_m1 (l : Launch) (Z : State) (a0 : Array Value) (hw : ∀ d ∈ tables_1, d.before a0 Z = true) (h0 : Heap) (n0 : Nat) (hn : n0 ≤ h0.size) (mm : Int32) (n X A : Nat) (hn3 : n < 4) (hX : X < 3) (hA : A < 2) :
    own_Met l Z h0 n0 own_y1 method_2_code 4 (some .int) [] ({ frames := 0, cells := 0, slots := 0, locals := 0 } : Room) #[(.int mm), (.int (Int32.ofNat n)), (.int (Int32.ofNat X)), (.int (Int32.ofNat A))] (own_V fun w h => w = .int (own_c (own_t mm) n (2 * X + A)) ∧ h0 = h) := by
  refine own_met (ls := #[.val (.int mm), .val (.int (Int32.ofNat n)), .val (.int (Int32.ofNat X)), .val (.int (Int32.ofNat A))]) own_pn1 (fun m => own_ef1 m _ _ _ _) hn hw fun p e s m below meth c T S => ?_
  have tn := own_tn (i := n) (by omega)
  have tX := own_tn (i := X) (by omega)
  have hd : (2 * X + A) / 2 = X := by omega
  refine own_iloadN (pc' := 1) S rfl d1_0 rfl ?_
  refine own_iloadN (pc' := 2) S rfl d1_1 rfl ?_
  refine own_ic (pt := 23) (pc' := 5) S (by decide) rfl rfl d1_2 ?_ ?_
  · intro c2
    replace c2 := own_ge_t c2
    refine own_iconst (-1 : Int32) (pc' := 24) S rfl d1_23 rfl ?_
    exact own_retI S d1_24 (by decide) (by decide) ⟨_, rfl, by unfold own_c; rw [if_neg (by rw [hd]; omega)], rfl⟩
  · intro c2
    replace c2 := own_ge_f c2
    refine own_iloadN (pc' := 6) S rfl d1_5 rfl ?_
    refine own_iconst (2 : Int32) (pc' := 7) S rfl d1_6 rfl ?_
    refine own_iloadN (pc' := 8) S rfl d1_7 rfl ?_
    refine own_imul (pc' := 9) S rfl d1_8 ?_
    rw [own_two]
    refine own_iloadN (pc' := 10) S rfl d1_9 rfl ?_
    refine own_iadd (pc' := 11) S rfl d1_10 ?_
    rw [own_addN]
    refine own_ishr (pc' := 12) S rfl d1_11 ?_
    refine own_iconst (1 : Int32) (pc' := 13) S rfl d1_12 rfl ?_
    refine own_iand (pc' := 14) S rfl d1_13 ?_
    refine own_if (pt := 23) (pc' := 17) S (by decide) rfl rfl d1_14 ?_ ?_
    · intro c14
      replace c14 := own_eq_t ((if0 _ _).symm.trans c14)
      have e14 := congrArg Int32.toInt c14
      have k14 : (0 : Int32).toInt = 0 := rfl
      refine own_iconst (-1 : Int32) (pc' := 24) S rfl d1_23 rfl ?_
      exact own_retI S d1_24 (by decide) (by decide) ⟨_, rfl, by unfold own_c; rw [if_neg (by rw [hd]; intro q; rw [own_t0 c14] at q; exact Bool.false_ne_true q.2)], rfl⟩
    · intro c14
      replace c14 := own_eq_f ((if0 _ _).symm.trans c14)
      have e14 := own_ten c14
      have k14 : (0 : Int32).toInt = 0 := rfl
      refine own_iconst (2 : Int32) (pc' := 18) S rfl d1_17 rfl ?_
      refine own_iloadN (pc' := 19) S rfl d1_18 rfl ?_
      refine own_iadd (pc' := 20) S rfl d1_19 ?_
      rw [show (2 : Int32) + Int32.ofNat X = Int32.ofNat (2 + X) from own_addN 2 X]
      refine own_goto (pc' := 24) S (by decide) rfl d1_20 ?_
      exact own_retI S d1_24 (by decide) (by decide) ⟨_, rfl, by unfold own_c; rw [if_pos ⟨by rw [hd]; omega, own_t1 c14⟩, hd], rfl⟩
theorem own_ef2 (m : MethodId) (z0 : Addr) (z1 : Int32) (z2 : Int32) : entryFrame m #[(.ref z0), (.int z1), (.int z2)] 3 = mkF m 0 #[.val (.ref z0), .val (.int z1), .val (.int z2)] [] := by first | (simp [entryFrame, mkF, argsToLocals, Value.category]; done) | rfl
set_option maxRecDepth 65536 in
set_option maxHeartbeats 40000000 in
theorem own_m2 (l : Launch) (Z : State) (a0 : Array Value) (hw : ∀ d ∈ tables_1, d.before a0 Z = true) (h0 : Heap) (n0 : Nat) (hn : n0 ≤ h0.size) (b : Addr) (n : Nat) (hn3 : n < 4) (hb0 : n0 ≤ b) (E : Exa Z h0 b "com/example/ringloom/ringloom/BetweenCircles") (Fs : Fld Z h0 b "com/example/ringloom/ringloom/BetweenCircles" "secondNodes" "I" (.int 0)) (Fo : Fld Z h0 b "com/example/ringloom/ringloom/BetweenCircles" "others" "I" (.int 0)) (Ft : Fld Z h0 b "com/example/ringloom/ringloom/BetweenCircles" "taken" "[Z" .null) (Fn : Fld Z h0 b "com/example/ringloom/ringloom/BetweenCircles" "next" "I" (.int 0)) :
    own_Met l Z h0 n0 own_y2 prog_1_method_1_code 3 none [] ({ frames := 1, cells := 1, slots := 6, locals := 12 } : Room) #[(.ref b), (.int 2), (.int (Int32.ofNat n))] (own_N fun h => ∃ ta, own_O Z h b n ta 0 ∧ own_A Z h ta .boolean (n * 2) (fun _ => .int 0) ∧ n0 ≤ ta ∧ ta ≠ b ∧ h0.size ≤ ta ∧ Keep h0 h [b]) := by
  refine own_met (ls := #[.val (.ref b), .val (.int 2), .val (.int (Int32.ofNat n))]) own_pn2 (fun m => own_ef2 m _ _ _) hn hw fun p e s m below meth c T S => ?_
  have K : Keep h0 h0 [b] := Keep.refl h0 [b]
  refine own_aloadN (pc' := 1) S rfl d2_0 rfl rfl ?_
  refine own_initO (pc' := 4) (W := 0) S (List.mem_of_getElem? (i := 12) rfl) (List.mem_of_getElem? (i := 13) rfl) (List.mem_of_getElem? (i := 14) rfl) rfl (by decide) (Nat.le_of_ble_eq_true rfl) (by decide) rfl d2_1 fun T S => ?_
  refine own_aloadN (pc' := 5) S rfl d2_4 rfl rfl ?_
  refine own_iloadN (pc' := 6) S rfl d2_5 rfl ?_
  refine own_putfield (pc' := 9) (ty := .int) S (List.mem_of_getElem? (i := 15) rfl) Fs E (Or.inr ⟨(List.mem_of_getElem? (i := 16) rfl), rfl, rfl⟩) (List.mem_of_getElem? (i := 7) rfl) (by decide +kernel) rfl rfl hb0 rfl d2_6 ?_
  intro T h S W F_
  replace K := K.wr W (Or.inl (List.mem_of_getElem? (i := 0) rfl))
  replace Fo := Fld.other W Fo (Or.inr (slot_ne (t := .int) (t' := .int) (Or.inr (hw _ (List.mem_of_getElem? (i := 18) rfl))) (Or.inr (hw _ (List.mem_of_getElem? (i := 16) rfl))) (by decide) (by decide +kernel) (by decide +kernel)))
  replace Ft := Fld.other W Ft (Or.inr (slot_ne (t := (.array .boolean)) (t' := .int) (Or.inr (hw _ (List.mem_of_getElem? (i := 21) rfl))) (Or.inr (hw _ (List.mem_of_getElem? (i := 16) rfl))) (by decide) (by decide +kernel) (by decide +kernel)))
  replace Fn := Fld.other W Fn (Or.inr (slot_ne (t := .int) (t' := .int) (Or.inl (hw _ (List.mem_of_getElem? (i := 37) rfl))) (Or.inr (hw _ (List.mem_of_getElem? (i := 16) rfl))) (by decide) (by decide +kernel) (by decide +kernel)))
  replace Fs := F_
  clear F_
  replace E := Exa.wr W E
  refine own_aloadN (pc' := 10) S rfl d2_9 rfl rfl ?_
  refine own_iloadN (pc' := 11) S rfl d2_10 rfl ?_
  refine own_putfield (pc' := 14) (ty := .int) S (List.mem_of_getElem? (i := 17) rfl) Fo E (Or.inr ⟨(List.mem_of_getElem? (i := 18) rfl), rfl, rfl⟩) (List.mem_of_getElem? (i := 7) rfl) (by decide +kernel) rfl rfl hb0 rfl d2_11 ?_
  intro T h S W F_
  replace K := K.wr W (Or.inl (List.mem_of_getElem? (i := 0) rfl))
  replace Fs := Fld.other W Fs (Or.inr (slot_ne (t := .int) (t' := .int) (Or.inr (hw _ (List.mem_of_getElem? (i := 16) rfl))) (Or.inr (hw _ (List.mem_of_getElem? (i := 18) rfl))) (by decide) (by decide +kernel) (by decide +kernel)))
  replace Ft := Fld.other W Ft (Or.inr (slot_ne (t := (.array .boolean)) (t' := .int) (Or.inr (hw _ (List.mem_of_getElem? (i := 21) rfl))) (Or.inr (hw _ (List.mem_of_getElem? (i := 18) rfl))) (by decide) (by decide +kernel) (by decide +kernel)))
  replace Fn := Fld.other W Fn (Or.inr (slot_ne (t := .int) (t' := .int) (Or.inl (hw _ (List.mem_of_getElem? (i := 37) rfl))) (Or.inr (hw _ (List.mem_of_getElem? (i := 18) rfl))) (by decide) (by decide +kernel) (by decide +kernel)))
  replace Fo := F_
  clear F_
  replace E := Exa.wr W E
  refine own_aloadN (pc' := 15) S rfl d2_14 rfl rfl ?_
  refine own_iloadN (pc' := 16) S rfl d2_15 rfl ?_
  refine own_iloadN (pc' := 17) S rfl d2_16 rfl ?_
  refine own_imul (pc' := 18) S rfl d2_17 ?_
  rw [show Int32.ofNat n * (2 : Int32) = Int32.ofNat (n * 2) from own_mulN n 2]
  refine own_newarray (pc' := 20) 6 S (List.mem_of_getElem? (i := 19) rfl) (n := n * 2) (own_tn (by omega)) (by omega) (by decide) (by decide) (by decide) rfl d2_18 ?_
  have blt := Exa.lt E
  have sz := K.1
  intro T h ta hta ta0 S Ex A
  have ne : ta ≠ b := by rw [hta]; exact (Nat.ne_of_lt blt).symm
  have hs0 : h0.size ≤ ta := by rw [hta]; exact sz
  replace K := K.ext Ex
  replace E := E.ext Ex
  replace Fs := Fs.ext Ex
  replace Fo := Fo.ext Ex
  replace Ft := Ft.ext Ex
  replace Fn := Fn.ext Ex
  refine own_putfield (pc' := 23) (ty := (.array .boolean)) S (List.mem_of_getElem? (i := 20) rfl) Ft E (Or.inr ⟨(List.mem_of_getElem? (i := 21) rfl), rfl, rfl⟩) (List.mem_of_getElem? (i := 7) rfl) (by decide +kernel) rfl rfl hb0 rfl d2_20 ?_
  intro T h S W F_
  replace K := K.wr W (Or.inl (List.mem_of_getElem? (i := 0) rfl))
  replace Fs := Fld.other W Fs (Or.inr (slot_ne (t := .int) (t' := (.array .boolean)) (Or.inr (hw _ (List.mem_of_getElem? (i := 16) rfl))) (Or.inr (hw _ (List.mem_of_getElem? (i := 21) rfl))) (by decide) (by decide +kernel) (by decide +kernel)))
  replace Fo := Fld.other W Fo (Or.inr (slot_ne (t := .int) (t' := (.array .boolean)) (Or.inr (hw _ (List.mem_of_getElem? (i := 18) rfl))) (Or.inr (hw _ (List.mem_of_getElem? (i := 21) rfl))) (by decide) (by decide +kernel) (by decide +kernel)))
  replace Fn := Fld.other W Fn (Or.inr (slot_ne (t := .int) (t' := (.array .boolean)) (Or.inl (hw _ (List.mem_of_getElem? (i := 37) rfl))) (Or.inr (hw _ (List.mem_of_getElem? (i := 21) rfl))) (by decide) (by decide +kernel) (by decide +kernel)))
  replace Ft := F_
  clear F_
  replace E := Exa.wr W E
  replace A := own_Awr A W ne
  exact own_ret S d2_23 (by decide) (by decide) ⟨rfl, ta, ⟨E, Fs, Fo, Ft, Fn⟩, A, ta0, ne, hs0, K⟩
set_option maxRecDepth 65536 in
set_option maxHeartbeats 40000000 in
theorem own_lp3 {p : Program} {l : Launch} {e : Env} {s : State} {m : MethodId} {args : Array Value} {below : List Frame} {meth : Method} {c : Code} {Z : State} {a0 : Array Value} {n0 : Nat} {b ta ca : Addr} {n : Nat} {t : Nat → Bool} {nx : Int32} {h0 : Heap} (hn3 : n < 4) (hta : n0 ≤ ta) (hbt : b ≠ ta) (hct : ca ≠ ta) :
    ∀ q j T h, j + q = 6 → own_S p l e s m args below meth c Z a0 n0 own_y3 prog_1_method_12_code 4 none ({ frames := 0, cells := 0, slots := 0, locals := 0 } : Room) T h 0 0 → own_O Z h b n ta nx → own_A Z h ca .int 12 (fun k => .int (own_cf t n k)) → own_A Z h ta .boolean (n * 2) (fun i => .int (own_bv (decide (i < j) && t i))) → Keep h0 h [ta] → own_G p e s below ({ frames := 0, cells := 0, slots := 0, locals := 0 } : Room) n0 (own_N fun h => own_O Z h b n ta nx ∧ own_A Z h ta .boolean (n * 2) (fun i => .int (own_bv (t i))) ∧ Keep h0 h [ta]) T (mkF m 2 #[.val (.ref b), .val (.ref ca), .val (.int (1 : Int32)), .val (.int (Int32.ofNat (2 * j)))] []) := by
  intro q
  induction q with
  | zero =>
    intro j T h hj S O Ca A K
    have tj := own_tn (i := 2 * j) (by omega)
    have k12 : (12 : Int32).toInt = 12 := rfl
    refine own_iloadN (pc' := 3) S rfl d3_2 rfl ?_
    refine own_aloadN (pc' := 4) S rfl d3_3 rfl rfl ?_
    refine own_alen (pc' := 5) (w := (12 : Int32)) S Ca rfl rfl d3_4 ?_
    refine own_icY (pc' := 45) S (by decide) rfl d3_5 (own_t_ge (by omega)) ?_
    exact own_ret  S d3_45 (by decide) (by decide) ⟨rfl, O, own_Aof A (fun i hi => by have hd : decide (i < j) = true := (decide_eq_true (by omega)); simp only [hd, Bool.true_and]), K⟩
  | succ q ih =>
    intro j T h hj S O Ca A K
    have tj := own_tn (i := 2 * j) (by omega)
    have tj1 := own_tn (i := 2 * j + 1) (by omega)
    have k12 : (12 : Int32).toInt = 12 := rfl
    refine own_iloadN (pc' := 3) S rfl d3_2 rfl ?_
    refine own_aloadN (pc' := 4) S rfl d3_3 rfl rfl ?_
    refine own_alen (pc' := 5) (w := (12 : Int32)) S Ca rfl rfl d3_4 ?_
    refine own_icN (pc' := 8) S rfl d3_5 (own_f_ge (by omega)) ?_
    refine own_aloadN (pc' := 9) S rfl d3_8 rfl rfl ?_
    refine own_iloadN (pc' := 10) S rfl d3_9 rfl ?_
    refine own_iaload (pc' := 11) (w := (own_c t n j)) S Ca (k := 2 * j) tj (by omega) (by show Value.int (own_cf t n (2 * j)) = _; rw [own_cf0]) rfl d3_10 ?_
    refine own_if (pt := 39) (pc' := 14) S (by decide) rfl rfl d3_11 ?_ ?_
    · intro c11
      replace c11 := own_lt_t ((if0 _ _).symm.trans c11)
      have k11 : (0 : Int32).toInt = 0 := rfl
      refine own_iinc (2 : Int32) (ls' := #[.val (.ref b), .val (.ref ca), .val (.int (1 : Int32)), .val (.int ((Int32.ofNat (2 * j)) + (2 : Int32)))]) (pc' := 42) S rfl d3_39 rfl rfl rfl ?_
      refine own_goto (pc' := 2) S (by decide) rfl d3_42 ?_
      rw [show Int32.ofNat (2 * j) + (2 : Int32) = Int32.ofNat (2 * (j + 1)) from own_addN (2 * j) 2]
      refine ih (j + 1) T h (by omega) S O Ca (own_Aof A fun i hi => ?_) K
      by_cases e : i = j
      · have hc : ¬ (j / 2 < n ∧ t j = true) := fun q => by unfold own_c at c11; rw [if_pos q] at c11; have := own_tn (i := 2 + j / 2) (by omega); have k0 : (0 : Int32).toInt = 0 := rfl; omega
        have hf : t j = false := by cases e2 : t j with | false => rfl | true => exact absurd ⟨by omega, e2⟩ hc
        rw [e]; simp [hf, own_bv]
      · have : decide (i < j + 1) = decide (i < j) := by simp only [decide_eq_decide]; omega
        simp only [this]
    · intro c11
      replace c11 := own_lt_f ((if0 _ _).symm.trans c11)
      have k11 : (0 : Int32).toInt = 0 := rfl
      have hc : j / 2 < n ∧ t j = true := by
        by_cases q : j / 2 < n ∧ t j = true
        · exact q
        · unfold own_c at c11; rw [if_neg q] at c11; exact absurd c11 (by decide)
      have hc1 := hc.1
      have ec : own_c t n j = Int32.ofNat (2 + j / 2) := by unfold own_c; rw [if_pos hc]
      refine own_aloadN (pc' := 15) S rfl d3_14 rfl rfl ?_
      refine own_getfield (pc' := 18) S (List.mem_of_getElem? (i := 20) rfl) O.2.2.2.1 rfl d3_15 fun T S => ?_
      refine own_aloadN (pc' := 19) S rfl d3_18 rfl rfl ?_
      refine own_iloadN (pc' := 20) S rfl d3_19 rfl ?_
      refine own_iaload (pc' := 21) (w := (Int32.ofNat (2 + j / 2))) S Ca (k := 2 * j) tj (by omega) (by show Value.int (own_cf t n (2 * j)) = _; rw [own_cf0, ec]) rfl d3_20 ?_
      refine own_aloadN (pc' := 22) S rfl d3_21 rfl rfl ?_
      refine own_getfield (pc' := 25) S (List.mem_of_getElem? (i := 15) rfl) O.2.1 rfl d3_22 fun T S => ?_
      refine own_isub (pc' := 26) S rfl d3_25 ?_
      rw [show Int32.ofNat (2 + j / 2) - (2 : Int32) = Int32.ofNat (2 + j / 2 - 2) from own_subN (a := 2 + j / 2) (b := 2) (by omega) (by omega)]
      refine own_aloadN (pc' := 27) S rfl d3_26 rfl rfl ?_
      refine own_getfield (pc' := 30) S (List.mem_of_getElem? (i := 15) rfl) O.2.1 rfl d3_27 fun T S => ?_
      refine own_imul (pc' := 31) S rfl d3_30 ?_
      rw [show Int32.ofNat (2 + j / 2 - 2) * (2 : Int32) = Int32.ofNat ((2 + j / 2 - 2) * 2) from own_mulN _ 2]
      refine own_aloadN (pc' := 32) S rfl d3_31 rfl rfl ?_
      refine own_iloadN (pc' := 33) S rfl d3_32 rfl ?_
      refine own_iconst (1 : Int32) (pc' := 34) S rfl d3_33 rfl ?_
      refine own_iadd (pc' := 35) S rfl d3_34 ?_
      rw [own_one]
      refine own_iaload (pc' := 36) (w := (Int32.ofNat (j % 2))) S Ca (k := 2 * j + 1) tj1 (by omega) (by show Value.int (own_cf t n (2 * j + 1)) = _; rw [own_cf1]) rfl d3_35 ?_
      refine own_iadd (pc' := 37) S rfl d3_36 ?_
      rw [own_addN, show (2 + j / 2 - 2) * 2 + j % 2 = j by omega]
      refine own_iloadN (pc' := 38) S rfl d3_37 rfl ?_
      refine own_bastoreZ (pc' := 39) S A (k := j) (own_tn (by omega)) (by omega) hta rfl d3_38 ?_
      intro T h S W A
      replace O := own_Owr O W hbt
      replace Ca := own_Awr Ca W hct
      replace K := K.wr W (Or.inl (List.mem_of_getElem? (i := 0) rfl))
      refine own_iinc (2 : Int32) (ls' := #[.val (.ref b), .val (.ref ca), .val (.int (1 : Int32)), .val (.int ((Int32.ofNat (2 * j)) + (2 : Int32)))]) (pc' := 42) S rfl d3_39 rfl rfl rfl ?_
      refine own_goto (pc' := 2) S (by decide) rfl d3_42 ?_
      rw [show Int32.ofNat (2 * j) + (2 : Int32) = Int32.ofNat (2 * (j + 1)) from own_addN (2 * j) 2]
      refine ih (j + 1) T h (by omega) S O Ca (own_Aof A fun i hi => ?_) K
      unfold own_upd
      by_cases e : i = j
      · rw [if_pos e, e, hc.2]; simp [own_bv, nar]
      · rw [if_neg e]; have : decide (i < j + 1) = decide (i < j) := by simp only [decide_eq_decide]; omega
        simp only [this]
theorem own_ef3 (m : MethodId) (z0 : Addr) (z1 : Addr) (z2 : Int32) : entryFrame m #[(.ref z0), (.ref z1), (.int z2)] 4 = mkF m 0 #[.val (.ref z0), .val (.ref z1), .val (.int z2), .unset] [] := by first | (simp [entryFrame, mkF, argsToLocals, Value.category]; done) | rfl
set_option maxRecDepth 65536 in
set_option maxHeartbeats 40000000 in
theorem own_m3 (l : Launch) (Z : State) (a0 : Array Value) (hw : ∀ d ∈ tables_1, d.before a0 Z = true) (h0 : Heap) (n0 : Nat) (hn : n0 ≤ h0.size) (b ta ca : Addr) (n : Nat) (t : Nat → Bool) (nx : Int32) (hn3 : n < 4) (hta : n0 ≤ ta) (hbt : b ≠ ta) (hct : ca ≠ ta) (O : own_O Z h0 b n ta nx) (Ca : own_A Z h0 ca .int 12 (fun k => .int (own_cf t n k))) (A : own_A Z h0 ta .boolean (n * 2) (fun _ => .int 0)) :
    own_Met l Z h0 n0 own_y3 prog_1_method_12_code 4 none [] ({ frames := 0, cells := 0, slots := 0, locals := 0 } : Room) #[(.ref b), (.ref ca), (.int (1 : Int32))] (own_N fun h => own_O Z h b n ta nx ∧ own_A Z h ta .boolean (n * 2) (fun i => .int (own_bv (t i))) ∧ Keep h0 h [ta]) := by
  refine own_met (ls := #[.val (.ref b), .val (.ref ca), .val (.int (1 : Int32)), .unset]) own_pn3 (fun m => own_ef3 m _ _ _) hn hw fun p e s m below meth c T S => ?_
  refine own_iconst (0 : Int32) (pc' := 1) S rfl d3_0 rfl ?_
  refine own_istoreN (ls' := #[.val (.ref b), .val (.ref ca), .val (.int (1 : Int32)), .val (.int (0 : Int32))]) (pc' := 2) S rfl d3_1 rfl ?_
  refine own_lp3 hn3 hta hbt hct 6 0 T h0 (by omega) S O Ca (own_Aof A fun i hi => ?_) (Keep.refl _ _)
  simp [own_bv]
theorem own_ef4 (m : MethodId) (z0 : Addr) (z1 : Addr) : entryFrame m #[(.ref z0), (.ref z1)] 2 = mkF m 0 #[.val (.ref z0), .val (.ref z1)] [] := by first | (simp [entryFrame, mkF, argsToLocals, Value.category]; done) | rfl
set_option maxRecDepth 65536 in
set_option maxHeartbeats 40000000 in
theorem own_m4 (l : Launch) (Z : State) (a0 : Array Value) (hw : ∀ d ∈ tables_1, d.before a0 Z = true) (h0 : Heap) (n0 : Nat) (hn : n0 ≤ h0.size) (b ta ca : Addr) (n : Nat) (t : Nat → Bool) (nx : Int32) (hn3 : n < 4) (hta : n0 ≤ ta) (hbt : b ≠ ta) (hct : ca ≠ ta) (O : own_O Z h0 b n ta nx) (Ca : own_A Z h0 ca .int 12 (fun k => .int (own_cf t n k))) (A : own_A Z h0 ta .boolean (n * 2) (fun _ => .int 0)) :
    own_Met l Z h0 n0 own_y4 prog_1_method_2_code 2 none [] ({ frames := 1, cells := 0, slots := 0, locals := 24 } : Room) #[(.ref b), (.ref ca)] (own_N fun h => own_O Z h b n ta nx ∧ own_A Z h ta .boolean (n * 2) (fun i => .int (own_bv (t i))) ∧ Keep h0 h [ta]) := by
  refine own_met (ls := #[.val (.ref b), .val (.ref ca)]) own_pn4 (fun m => own_ef4 m _ _) hn hw fun p e s m below meth c T S => ?_
  refine own_aloadN (pc' := 1) S rfl d4_0 rfl rfl ?_
  refine own_aloadN (pc' := 2) S rfl d4_1 rfl rfl ?_
  refine own_iconst (1 : Int32) (pc' := 3) S rfl d4_2 rfl ?_
  refine own_callP (pc' := 6) (yy := own_y3) (rm := ({ frames := 0, cells := 0, slots := 0, locals := 0 } : Room)) (W := 0) [(.ref ca), (.int (1 : Int32))] [] (b := b) S (List.mem_of_getElem? (i := 27) rfl) (List.mem_of_getElem? (i := 28) rfl) (List.mem_of_getElem? (i := 29) rfl) (List.mem_of_getElem? (i := 7) rfl) (List.mem_of_getElem? (i := 8) rfl) (List.mem_of_getElem? (i := 30) rfl) (by decide) O.1 (own_m3 l Z a0 hw h0 n0 hn b ta ca n t nx hn3 hta hbt hct O Ca A) (ps := [(.array .int), .boolean]) (r' := none) (by decide +kernel) rfl rfl rfl (Nat.le_of_ble_eq_true rfl) (by decide) (by decide) (by decide) (by decide) rfl d4_3 ?_
  rintro T h _ S ⟨rfl, O, A, K⟩
  exact own_ret  S d4_6 (by decide) (by decide) ⟨rfl, O, A, K⟩
theorem own_ef5 (m : MethodId) (z0 : Addr) (z1 : Int32) : entryFrame m #[(.ref z0), (.int z1)] 2 = mkF m 0 #[.val (.ref z0), .val (.int z1)] [] := by first | (simp [entryFrame, mkF, argsToLocals, Value.category]; done) | rfl
set_option maxRecDepth 65536 in
set_option maxHeartbeats 40000000 in
theorem own_m5 (l : Launch) (Z : State) (a0 : Array Value) (hw : ∀ d ∈ tables_1, d.before a0 Z = true) (h0 : Heap) (n0 : Nat) (hn : n0 ≤ h0.size) (b ta : Addr) (n : Nat) (nx v : Int32) (hb0 : n0 ≤ b) (O : own_O Z h0 b n ta nx) :
    own_Met l Z h0 n0 own_y5 prog_1_method_7_code 2 none [] ({ frames := 0, cells := 0, slots := 0, locals := 0 } : Room) #[(.ref b), (.int v)] (own_N fun h => own_O Z h b n ta v ∧ Keep h0 h [b]) := by
  refine own_met (ls := #[.val (.ref b), .val (.int v)]) own_pn5 (fun m => own_ef5 m _ _) hn hw fun p e s m below meth c T S => ?_
  refine own_aloadN (pc' := 1) S rfl d5_0 rfl rfl ?_
  refine own_iloadN (pc' := 2) S rfl d5_1 rfl ?_
  refine own_putfield (pc' := 5) (ty := .int) S (List.mem_of_getElem? (i := 36) rfl) O.2.2.2.2 O.1 (Or.inl (List.mem_of_getElem? (i := 37) rfl)) (List.mem_of_getElem? (i := 7) rfl) (by decide +kernel) rfl rfl hb0 rfl d5_2 ?_
  intro T h S W F_
  replace O := own_Onext hw O W
  have K := Keep.of_wr W
  exact own_ret  S d5_5 (by decide) (by decide) ⟨rfl, O, K⟩
theorem own_ef7 (m : MethodId) (z0 : Addr) : entryFrame m #[(.ref z0)] 1 = mkF m 0 #[.val (.ref z0)] [] := by first | (simp [entryFrame, mkF, argsToLocals, Value.category]; done) | rfl
set_option maxRecDepth 65536 in
set_option maxHeartbeats 40000000 in
theorem own_m7 (l : Launch) (Z : State) (a0 : Array Value) (hw : ∀ d ∈ tables_1, d.before a0 Z = true) (h0 : Heap) (n0 : Nat) (hn : n0 ≤ h0.size) (b ta : Addr) (n : Nat) (nx : Int32) (O : own_O Z h0 b n ta nx) :
    own_Met l Z h0 n0 own_y7 prog_1_method_6_code 1 (some .int) [] ({ frames := 0, cells := 0, slots := 0, locals := 0 } : Room) #[(.ref b)] (own_V fun w h => w = .int nx ∧ h0 = h) := by
  refine own_met (ls := #[.val (.ref b)]) own_pn7 (fun m => own_ef7 m _) hn hw fun p e s m below meth c T S => ?_
  refine own_aloadN (pc' := 1) S rfl d7_0 rfl rfl ?_
  refine own_getfield (pc' := 4) S (List.mem_of_getElem? (i := 36) rfl) O.2.2.2.2 rfl d7_1 fun T S => ?_
  exact own_retI  S d7_4 (by decide) (by decide) ⟨_, rfl, rfl, rfl⟩
set_option maxRecDepth 65536 in
set_option maxHeartbeats 40000000 in
theorem own_lp6 {p : Program} {l : Launch} {e : Env} {s : State} {m : MethodId} {args : Array Value} {below : List Frame} {meth : Method} {c : Code} {Z : State} {a0 : Array Value} {n0 : Nat} {b ta en : Addr} {n len : Nat} {t : Nat → Bool} {e_ : Nat → Nat} (hn3 : n < 4) (hn1 : 1 ≤ n) (hlen : len < 4) (he : ∀ j, j < len → e_ j < 2) {h : Heap} {k nd : Nat} {nx : Int32} {Q : Option Value → Heap → Prop} (hnd : nd < n) (O : own_O Z h b n ta nx) (A : own_A Z h ta .boolean (n * 2) (fun i => .int (own_bv (t i)))) (Ae : own_A Z h en .int len (fun j => .int (Int32.ofNat (e_ j))))
    (K1 : own_fr t e_ len nd → ∀ T (s8 : Slot), One s8 → own_S p l e s m args below meth c Z a0 n0 own_y6 prog_1_method_4_code 9 (some .int) ({ frames := 0, cells := 0, slots := 0, locals := 0 } : Room) T h 0 0 → own_G p e s below ({ frames := 0, cells := 0, slots := 0, locals := 0 } : Room) n0 Q T (mkF m 91 #[.val (.ref b), .val (.ref en), .val (.int (Int32.ofNat k)), .val (.int (Int32.ofNat nd)), .val (.int 1), .val (.ref en), .val (.int (Int32.ofNat len)), .val (.int (Int32.ofNat len)), s8] [])) (K0 : ¬ own_fr t e_ len nd → ∀ T (s8 : Slot), One s8 → own_S p l e s m args below meth c Z a0 n0 own_y6 prog_1_method_4_code 9 (some .int) ({ frames := 0, cells := 0, slots := 0, locals := 0 } : Room) T h 0 0 → own_G p e s below ({ frames := 0, cells := 0, slots := 0, locals := 0 } : Room) n0 Q T (mkF m 91 #[.val (.ref b), .val (.ref en), .val (.int (Int32.ofNat k)), .val (.int (Int32.ofNat nd)), .val (.int 0), .val (.ref en), .val (.int (Int32.ofNat len)), .val (.int (Int32.ofNat len)), s8] [])) :
    ∀ q j T (s8 : Slot) (fv : Int32), j + q = len → One s8 → own_S p l e s m args below meth c Z a0 n0 own_y6 prog_1_method_4_code 9 (some .int) ({ frames := 0, cells := 0, slots := 0, locals := 0 } : Room) T h 0 0 → ((fv = 1 ∧ own_fr t e_ j nd) ∨ (fv = 0 ∧ ¬ own_fr t e_ j nd)) → own_G p e s below ({ frames := 0, cells := 0, slots := 0, locals := 0 } : Room) n0 Q T (mkF m 44 #[.val (.ref b), .val (.ref en), .val (.int (Int32.ofNat k)), .val (.int (Int32.ofNat nd)), .val (.int fv), .val (.ref en), .val (.int (Int32.ofNat len)), .val (.int (Int32.ofNat j)), s8] []) := by
  intro q
  induction q with
  | zero =>
    intro j T s8 fv hj h_s8 S hfv
    have tj := own_tn (i := j) (by omega)
    have tl := own_tn (i := len) (by omega)
    refine own_iload (pc' := 46) S rfl d6_44 rfl ?_
    refine own_iload (pc' := 48) S rfl d6_46 rfl ?_
    refine own_icY (pc' := 91) S (by decide) rfl d6_48 (own_t_ge (by omega)) ?_
    have ej : j = len := by omega
    subst ej
    rcases hfv with ⟨rfl, q⟩ | ⟨rfl, q⟩
    · exact K1 q T s8 h_s8 S
    · exact K0 q T s8 h_s8 S
  | succ q ih =>
    intro j T s8 fv hj h_s8 S hfv
    have tj := own_tn (i := j) (by omega)
    have tl := own_tn (i := len) (by omega)
    have hej := he j (by omega)
    refine own_iload (pc' := 46) S rfl d6_44 rfl ?_
    refine own_iload (pc' := 48) S rfl d6_46 rfl ?_
    refine own_icN (pc' := 51) S rfl d6_48 (own_f_ge (by omega)) ?_
    refine own_aload (pc' := 53) S rfl d6_51 rfl rfl ?_
    refine own_iload (pc' := 55) S rfl d6_53 rfl ?_
    refine own_iaload (pc' := 56) (w := (Int32.ofNat (e_ j))) S Ae (k := j) tj (by omega) rfl rfl d6_55 ?_
    refine own_istore (ls' := #[.val (.ref b), .val (.ref en), .val (.int (Int32.ofNat k)), .val (.int (Int32.ofNat nd)), .val (.int fv), .val (.ref en), .val (.int (Int32.ofNat len)), .val (.int (Int32.ofNat j)), .val (.int (Int32.ofNat (e_ j)))]) (pc' := 58) S rfl d6_56 ((XS.store1 (o := s8) rfl h_s8 rfl).trans rfl) ?_
    refine own_iload (pc' := 60) S rfl d6_58 rfl ?_
    refine own_aloadN (pc' := 61) S rfl d6_60 rfl rfl ?_
    refine own_getfield (pc' := 64) S (List.mem_of_getElem? (i := 20) rfl) O.2.2.2.1 rfl d6_61 fun T S => ?_
    refine own_iloadN (pc' := 65) S rfl d6_64 rfl ?_
    refine own_aloadN (pc' := 66) S rfl d6_65 rfl rfl ?_
    refine own_getfield (pc' := 69) S (List.mem_of_getElem? (i := 15) rfl) O.2.1 rfl d6_66 fun T S => ?_
    refine own_imul (pc' := 70) S rfl d6_69 ?_
    rw [show Int32.ofNat nd * (2 : Int32) = Int32.ofNat (nd * 2) from own_mulN nd 2]
    refine own_iload (pc' := 72) S rfl d6_70 rfl ?_
    refine own_iadd (pc' := 73) S rfl d6_72 ?_
    rw [own_addN, show nd * 2 + e_ j = 2 * nd + e_ j by omega]
    refine own_baloadZ (pc' := 74) (w := (own_bv (t (2 * nd + e_ j)))) S A (k := 2 * nd + e_ j) (own_tn (by omega)) (by omega) rfl rfl d6_73 ?_
    refine own_if (pt := 81) (pc' := 77) S (by decide) rfl rfl d6_74 ?_ ?_
    · intro c74
      replace c74 := own_ne_t ((if0 _ _).symm.trans c74)
      have e74 := own_ten c74
      have k74 : (0 : Int32).toInt = 0 := rfl
      refine own_iconst (0 : Int32) (pc' := 82) S rfl d6_81 rfl ?_
      refine own_iand (pc' := 83) S rfl d6_82 ?_
      refine own_istore (ls' := #[.val (.ref b), .val (.ref en), .val (.int (Int32.ofNat k)), .val (.int (Int32.ofNat nd)), .val (.int (fv &&& (0 : Int32))), .val (.ref en), .val (.int (Int32.ofNat len)), .val (.int (Int32.ofNat j)), .val (.int (Int32.ofNat (e_ j)))]) (pc' := 85) S rfl d6_83 rfl ?_
      refine own_iinc (1 : Int32) (ls' := #[.val (.ref b), .val (.ref en), .val (.int (Int32.ofNat k)), .val (.int (Int32.ofNat nd)), .val (.int (fv &&& (0 : Int32))), .val (.ref en), .val (.int (Int32.ofNat len)), .val (.int ((Int32.ofNat j) + (1 : Int32))), .val (.int (Int32.ofNat (e_ j)))]) (pc' := 88) S rfl d6_85 rfl rfl rfl ?_
      refine own_goto (pc' := 44) S (by decide) rfl d6_88 ?_
      rw [own_one]
      have et : t (2 * nd + e_ j) = true := by cases q : t (2 * nd + e_ j) <;> first | rfl | (rw [q] at c74; exact absurd c74 (by decide))
      have hs : own_fr t e_ (j + 1) nd ↔ (own_fr t e_ j nd ∧ t (2 * nd + e_ j) = false) := by
        refine ⟨fun f => ⟨fun i hi => f i (by omega), f j (by omega)⟩, fun f i hi => ?_⟩
        rcases Nat.lt_succ_iff_lt_or_eq.mp hi with r | r
        · exact f.1 i r
        · rw [r]; exact f.2
      refine ih (j + 1) T _ _ (by omega) (One.val rfl) S ?_
      rw [hs, et]
      exact Or.inr ⟨by rcases hfv with ⟨rfl, _⟩ | ⟨rfl, _⟩ <;> rfl, fun f => Bool.noConfusion f.2⟩
    · intro c74
      replace c74 := own_ne_f ((if0 _ _).symm.trans c74)
      have e74 := congrArg Int32.toInt c74
      have k74 : (0 : Int32).toInt = 0 := rfl
      refine own_iconst (1 : Int32) (pc' := 78) S rfl d6_77 rfl ?_
      refine own_goto (pc' := 82) S (by decide) rfl d6_78 ?_
      refine own_iand (pc' := 83) S rfl d6_82 ?_
      refine own_istore (ls' := #[.val (.ref b), .val (.ref en), .val (.int (Int32.ofNat k)), .val (.int (Int32.ofNat nd)), .val (.int (fv &&& (1 : Int32))), .val (.ref en), .val (.int (Int32.ofNat len)), .val (.int (Int32.ofNat j)), .val (.int (Int32.ofNat (e_ j)))]) (pc' := 85) S rfl d6_83 rfl ?_
      refine own_iinc (1 : Int32) (ls' := #[.val (.ref b), .val (.ref en), .val (.int (Int32.ofNat k)), .val (.int (Int32.ofNat nd)), .val (.int (fv &&& (1 : Int32))), .val (.ref en), .val (.int (Int32.ofNat len)), .val (.int ((Int32.ofNat j) + (1 : Int32))), .val (.int (Int32.ofNat (e_ j)))]) (pc' := 88) S rfl d6_85 rfl rfl rfl ?_
      refine own_goto (pc' := 44) S (by decide) rfl d6_88 ?_
      rw [own_one]
      have et : t (2 * nd + e_ j) = false := by cases q : t (2 * nd + e_ j) <;> first | rfl | (rw [q] at c74; exact absurd c74 (by decide))
      have hs : own_fr t e_ (j + 1) nd ↔ (own_fr t e_ j nd ∧ t (2 * nd + e_ j) = false) := by
        refine ⟨fun f => ⟨fun i hi => f i (by omega), f j (by omega)⟩, fun f i hi => ?_⟩
        rcases Nat.lt_succ_iff_lt_or_eq.mp hi with r | r
        · exact f.1 i r
        · rw [r]; exact f.2
      refine ih (j + 1) T _ _ (by omega) (One.val rfl) S ?_
      rw [hs, et]
      rcases hfv with ⟨rfl, f⟩ | ⟨rfl, f⟩
      · exact Or.inl ⟨rfl, f, rfl⟩
      · exact Or.inr ⟨rfl, fun g => f g.1⟩
set_option maxRecDepth 65536 in
set_option maxHeartbeats 40000000 in
theorem own_lo6 {p : Program} {l : Launch} {e : Env} {s : State} {m : MethodId} {args : Array Value} {below : List Frame} {meth : Method} {c : Code} {Z : State} {a0 : Array Value} {n0 : Nat} {b ta en : Addr} {n len : Nat} {t : Nat → Bool} {e_ : Nat → Nat} (hn3 : n < 4) (hn1 : 1 ≤ n) (hlen : len < 4) (he : ∀ j, j < len → e_ j < 2) {s0 : Nat} (hs0 : s0 < n) (hb0 : n0 ≤ b) (hbt : ta ≠ b) (hbe : en ≠ b) :
    ∀ q k T h (s3 s4 s5 s6 s7 s8 : Slot), k + q = n → One s3 → One s4 → One s5 → One s6 → One s7 → One s8 → own_S p l e s m args below meth c Z a0 n0 own_y6 prog_1_method_4_code 9 (some .int) ({ frames := 0, cells := 0, slots := 0, locals := 0 } : Room) T h 0 0 → own_O Z h b n ta (Int32.ofNat ((s0 + k) % n)) → own_A Z h ta .boolean (n * 2) (fun i => .int (own_bv (t i))) → own_A Z h en .int len (fun j => .int (Int32.ofNat (e_ j))) → (∀ k', k' < k → ¬ own_fr t e_ len ((s0 + k') % n)) → own_G p e s below ({ frames := 0, cells := 0, slots := 0, locals := 0 } : Room) n0 (own_V fun w h => (∃ k, k < n ∧ (∀ k', k' < k → ¬ own_fr t e_ len ((s0 + k') % n)) ∧ own_fr t e_ len ((s0 + k) % n) ∧ w = .int (Int32.ofNat (2 + (s0 + k) % n)) ∧ own_O Z h b n ta (Int32.ofNat ((s0 + k + 1) % n))) ∨ ((∀ k, k < n → ¬ own_fr t e_ len ((s0 + k) % n)) ∧ w = .int (-1) ∧ own_O Z h b n ta (Int32.ofNat ((s0 + n) % n)))) T (mkF m 2 #[.val (.ref b), .val (.ref en), .val (.int (Int32.ofNat k)), s3, s4, s5, s6, s7, s8] []) := by
  intro q
  induction q with
  | zero =>
    intro k T h s3 s4 s5 s6 s7 s8 hk h_s3 h_s4 h_s5 h_s6 h_s7 h_s8 S O A Ae hno
    have tk := own_tn (i := k) (by omega)
    have tn := own_tn (i := n) (by omega)
    refine own_iloadN (pc' := 3) S rfl d6_2 rfl ?_
    refine own_aloadN (pc' := 4) S rfl d6_3 rfl rfl ?_
    refine own_getfield (pc' := 7) S (List.mem_of_getElem? (i := 17) rfl) O.2.2.1 rfl d6_4 fun T S => ?_
    refine own_icY (pc' := 109) S (by decide) rfl d6_7 (own_t_ge (by omega)) ?_
    refine own_iconst (-1 : Int32) (pc' := 110) S rfl d6_109 rfl ?_
    exact own_retI  S d6_110 (by decide) (by decide) ⟨_, rfl, Or.inr ⟨fun k' hk' => hno k' (by omega), rfl, (by have e : k = n := (by omega); rw [e] at O; exact O)⟩⟩
  | succ q ih =>
    intro k T h s3 s4 s5 s6 s7 s8 hk h_s3 h_s4 h_s5 h_s6 h_s7 h_s8 S O A Ae hno
    have tk := own_tn (i := k) (by omega)
    have tn := own_tn (i := n) (by omega)
    have hm := Nat.mod_lt (s0 + k) hn1
    refine own_iloadN (pc' := 3) S rfl d6_2 rfl ?_
    refine own_aloadN (pc' := 4) S rfl d6_3 rfl rfl ?_
    refine own_getfield (pc' := 7) S (List.mem_of_getElem? (i := 17) rfl) O.2.2.1 rfl d6_4 fun T S => ?_
    refine own_icN (pc' := 10) S rfl d6_7 (own_f_ge (by omega)) ?_
    refine own_aloadN (pc' := 11) S rfl d6_10 rfl rfl ?_
    refine own_getfield (pc' := 14) S (List.mem_of_getElem? (i := 36) rfl) O.2.2.2.2 rfl d6_11 fun T S => ?_
    refine own_istoreN (ls' := #[.val (.ref b), .val (.ref en), .val (.int (Int32.ofNat k)), .val (.int (Int32.ofNat ((s0 + k) % n))), s4, s5, s6, s7, s8]) (pc' := 15) S rfl d6_14 ((XS.store1 (o := s3) rfl h_s3 rfl).trans rfl) ?_
    refine own_aloadN (pc' := 16) S rfl d6_15 rfl rfl ?_
    refine own_aloadN (pc' := 17) S rfl d6_16 rfl rfl ?_
    refine own_getfield (pc' := 20) S (List.mem_of_getElem? (i := 36) rfl) O.2.2.2.2 rfl d6_17 fun T S => ?_
    refine own_iconst (1 : Int32) (pc' := 21) S rfl d6_20 rfl ?_
    refine own_iadd (pc' := 22) S rfl d6_21 ?_
    rw [own_one]
    refine own_aloadN (pc' := 23) S rfl d6_22 rfl rfl ?_
    refine own_getfield (pc' := 26) S (List.mem_of_getElem? (i := 17) rfl) O.2.2.1 rfl d6_23 fun T S => ?_
    refine own_irem (pc' := 27) S rfl d6_26 (own_nz (by omega) (by omega)) ?_
    rw [own_modN (by omega) (by omega), Nat.mod_add_mod]
    refine own_putfield (pc' := 30) (ty := .int) S (List.mem_of_getElem? (i := 36) rfl) O.2.2.2.2 O.1 (Or.inl (List.mem_of_getElem? (i := 37) rfl)) (List.mem_of_getElem? (i := 7) rfl) (by decide +kernel) rfl rfl hb0 rfl d6_27 ?_
    intro T h S W F_
    replace O := own_Onext (own_word S) O W
    replace A := own_Awr A W hbt
    replace Ae := own_Awr Ae W hbe
    refine own_iconst (1 : Int32) (pc' := 31) S rfl d6_30 rfl ?_
    refine own_istore (ls' := #[.val (.ref b), .val (.ref en), .val (.int (Int32.ofNat k)), .val (.int (Int32.ofNat ((s0 + k) % n))), .val (.int (1 : Int32)), s5, s6, s7, s8]) (pc' := 33) S rfl d6_31 ((XS.store1 (o := s4) rfl h_s4 rfl).trans rfl) ?_
    refine own_aloadN (pc' := 34) S rfl d6_33 rfl rfl ?_
    refine own_astore (ls' := #[.val (.ref b), .val (.ref en), .val (.int (Int32.ofNat k)), .val (.int (Int32.ofNat ((s0 + k) % n))), .val (.int (1 : Int32)), .val (.ref en), s6, s7, s8]) (pc' := 36) S rfl d6_34 rfl ((XS.store1 (o := s5) rfl h_s5 rfl).trans rfl) ?_
    refine own_aload (pc' := 38) S rfl d6_36 rfl rfl ?_
    refine own_alen (pc' := 39) (w := (Int32.ofNat len)) S Ae (own_tn (by omega)) rfl d6_38 ?_
    refine own_istore (ls' := #[.val (.ref b), .val (.ref en), .val (.int (Int32.ofNat k)), .val (.int (Int32.ofNat ((s0 + k) % n))), .val (.int (1 : Int32)), .val (.ref en), .val (.int (Int32.ofNat len)), s7, s8]) (pc' := 41) S rfl d6_39 ((XS.store1 (o := s6) rfl h_s6 rfl).trans rfl) ?_
    refine own_iconst (0 : Int32) (pc' := 42) S rfl d6_41 rfl ?_
    refine own_istore (ls' := #[.val (.ref b), .val (.ref en), .val (.int (Int32.ofNat k)), .val (.int (Int32.ofNat ((s0 + k) % n))), .val (.int (1 : Int32)), .val (.ref en), .val (.int (Int32.ofNat len)), .val (.int (0 : Int32)), s8]) (pc' := 44) S rfl d6_42 ((XS.store1 (o := s7) rfl h_s7 rfl).trans rfl) ?_
    refine own_lp6 hn3 hn1 hlen he hm O A Ae ?_ ?_ len 0 T s8 1 (by omega) h_s8 S (Or.inl ⟨rfl, fun j hj => by omega⟩)
    · intro hfr T s8 h_s8 S
      refine own_iload (pc' := 93) S rfl d6_91 rfl ?_
      refine own_ifN (pc' := 96) S rfl d6_93 ((if0 _ _).trans (own_f_eq (by decide))) ?_
      refine own_aloadN (pc' := 97) S rfl d6_96 rfl rfl ?_
      refine own_getfield (pc' := 100) S (List.mem_of_getElem? (i := 15) rfl) O.2.1 rfl d6_97 fun T S => ?_
      refine own_iloadN (pc' := 101) S rfl d6_100 rfl ?_
      refine own_iadd (pc' := 102) S rfl d6_101 ?_
      rw [show (2 : Int32) + (Int32.ofNat ((s0 + k) % n)) = Int32.ofNat (2 + (s0 + k) % n) from own_addN 2 _]
      exact own_retI  S d6_102 (by decide) (by decide) ⟨_, rfl, Or.inl ⟨k, by omega, hno, hfr, rfl, O⟩⟩
    · intro hfr T s8 h_s8 S
      refine own_iload (pc' := 93) S rfl d6_91 rfl ?_
      refine own_ifY (pc' := 103) S (by decide) rfl d6_93 ((if0 _ _).trans (own_t_eq rfl)) ?_
      refine own_iinc (1 : Int32) (ls' := #[.val (.ref b), .val (.ref en), .val (.int ((Int32.ofNat k) + (1 : Int32))), .val (.int (Int32.ofNat ((s0 + k) % n))), .val (.int 0), .val (.ref en), .val (.int (Int32.ofNat len)), .val (.int (Int32.ofNat len)), s8]) (pc' := 106) S rfl d6_103 rfl rfl rfl ?_
      refine own_goto (pc' := 2) S (by decide) rfl d6_106 ?_
      rw [own_one]
      refine ih (k + 1) T h _ _ _ _ _ _ (by omega) (One.val rfl) (One.val rfl) (One.val rfl) (One.val rfl) (One.val rfl) h_s8 S O A Ae (fun k' hk' => ?_)
      rcases Nat.lt_succ_iff_lt_or_eq.mp hk' with r | r
      · exact hno k' r
      · rw [r]; exact hfr
theorem own_ef6 (m : MethodId) (z0 : Addr) (z1 : Addr) : entryFrame m #[(.ref z0), (.ref z1)] 9 = mkF m 0 #[.val (.ref z0), .val (.ref z1), .unset, .unset, .unset, .unset, .unset, .unset, .unset] [] := by first | (simp [entryFrame, mkF, argsToLocals, Value.category]; done) | rfl
set_option maxRecDepth 65536 in
set_option maxHeartbeats 40000000 in
theorem own_m6 (l : Launch) (Z : State) (a0 : Array Value) (hw : ∀ d ∈ tables_1, d.before a0 Z = true) (h0 : Heap) (n0 : Nat) (hn : n0 ≤ h0.size) (b ta en : Addr) (n len : Nat) (t : Nat → Bool) (e_ : Nat → Nat) (hn3 : n < 4) (hn1 : 1 ≤ n) (hlen : len < 4) (he : ∀ j, j < len → e_ j < 2) (s0 : Nat) (hs0 : s0 < n) (hb0 : n0 ≤ b) (hbt : ta ≠ b) (hbe : en ≠ b) (O : own_O Z h0 b n ta (Int32.ofNat s0)) (A : own_A Z h0 ta .boolean (n * 2) (fun i => .int (own_bv (t i)))) (Ae : own_A Z h0 en .int len (fun j => .int (Int32.ofNat (e_ j)))) :
    own_Met l Z h0 n0 own_y6 prog_1_method_4_code 9 (some .int) [] ({ frames := 0, cells := 0, slots := 0, locals := 0 } : Room) #[(.ref b), (.ref en)] (own_V fun w h => (∃ k, k < n ∧ (∀ k', k' < k → ¬ own_fr t e_ len ((s0 + k') % n)) ∧ own_fr t e_ len ((s0 + k) % n) ∧ w = .int (Int32.ofNat (2 + (s0 + k) % n)) ∧ own_O Z h b n ta (Int32.ofNat ((s0 + k + 1) % n))) ∨ ((∀ k, k < n → ¬ own_fr t e_ len ((s0 + k) % n)) ∧ w = .int (-1) ∧ own_O Z h b n ta (Int32.ofNat ((s0 + n) % n)))) := by
  refine own_met (ls := #[.val (.ref b), .val (.ref en), .unset, .unset, .unset, .unset, .unset, .unset, .unset]) own_pn6 (fun m => own_ef6 m _ _) hn hw fun p e s m below meth c T S => ?_
  refine own_iconst (0 : Int32) (pc' := 1) S rfl d6_0 rfl ?_
  refine own_istoreN (ls' := #[.val (.ref b), .val (.ref en), .val (.int (0 : Int32)), .unset, .unset, .unset, .unset, .unset, .unset]) (pc' := 2) S rfl d6_1 rfl ?_
  refine own_lo6 hn3 hn1 hlen he hs0 hb0 hbt hbe n 0 T h0 _ _ _ _ _ _ (by omega) One.u One.u One.u One.u One.u One.u S ?_ A Ae (fun k' hk' => by omega)
  rw [Nat.add_zero, Nat.mod_eq_of_lt hs0]; exact O
theorem own_ef8 (m : MethodId) (z0 : Int32) (z1 : Int32) (z2 : Int32) : entryFrame m #[(.int z0), (.int z1), (.int z2)] 3 = mkF m 0 #[.val (.int z0), .val (.int z1), .val (.int z2)] [] := by first | (simp [entryFrame, mkF, argsToLocals, Value.category]; done) | rfl
set_option maxRecDepth 65536 in
set_option maxHeartbeats 40000000 in
theorem own_m8 (l : Launch) (Z : State) (a0 : Array Value) (hw : ∀ d ∈ tables_1, d.before a0 Z = true) (h0 : Heap) (n0 : Nat) (hn : n0 ≤ h0.size) (mm : Int32) (X A : Nat) :
    own_Met l Z h0 n0 own_y8 method_3_code 3 (some .boolean) [] ({ frames := 0, cells := 0, slots := 0, locals := 0 } : Room) #[(.int mm), (.int (Int32.ofNat X)), (.int (Int32.ofNat A))] (own_V fun w h => w = .int (own_bv (own_t mm (2 * X + A))) ∧ h0 = h) := by
  refine own_met (ls := #[.val (.int mm), .val (.int (Int32.ofNat X)), .val (.int (Int32.ofNat A))]) own_pn8 (fun m => own_ef8 m _ _ _) hn hw fun p e s m below meth c T S => ?_
  refine own_iloadN (pc' := 1) S rfl d8_0 rfl ?_
  refine own_iconst (2 : Int32) (pc' := 2) S rfl d8_1 rfl ?_
  refine own_iloadN (pc' := 3) S rfl d8_2 rfl ?_
  refine own_imul (pc' := 4) S rfl d8_3 ?_
  rw [own_two]
  refine own_iloadN (pc' := 5) S rfl d8_4 rfl ?_
  refine own_iadd (pc' := 6) S rfl d8_5 ?_
  rw [own_addN]
  refine own_ishr (pc' := 7) S rfl d8_6 ?_
  refine own_iconst (1 : Int32) (pc' := 8) S rfl d8_7 rfl ?_
  refine own_iand (pc' := 9) S rfl d8_8 ?_
  refine own_if (pt := 16) (pc' := 12) S (by decide) rfl rfl d8_9 ?_ ?_
  · intro c9
    replace c9 := own_eq_t ((if0 _ _).symm.trans c9)
    have e9 := congrArg Int32.toInt c9
    have k9 : (0 : Int32).toInt = 0 := rfl
    refine own_iconst (0 : Int32) (pc' := 17) S rfl d8_16 rfl ?_
    exact own_retZ (Or.inl rfl) S d8_17 (by decide) (by decide) ⟨_, rfl, by rw [own_t0 c9]; rfl, rfl⟩
  · intro c9
    replace c9 := own_eq_f ((if0 _ _).symm.trans c9)
    have e9 := own_ten c9
    have k9 : (0 : Int32).toInt = 0 := rfl
    refine own_iconst (1 : Int32) (pc' := 13) S rfl d8_12 rfl ?_
    refine own_goto (pc' := 17) S (by decide) rfl d8_13 ?_
    exact own_retZ (Or.inr rfl) S d8_17 (by decide) (by decide) ⟨_, rfl, by rw [own_t1 c9]; rfl, rfl⟩
theorem own_decfr (t : Nat → Bool) (e0 e1 e2 len x : Nat) (hlen : len < 4) : own_fr t (own_e e0 e1 e2) len x ↔ ((len < 1 ∨ t (2 * x + e0) = false) ∧ (len < 2 ∨ t (2 * x + e1) = false) ∧ (len < 3 ∨ t (2 * x + e2) = false)) := by
  refine ⟨fun f => ⟨?_, ?_, ?_⟩, fun f j hj => ?_⟩
  · rcases Nat.lt_or_ge len 1 with q | q
    · exact Or.inl q
    · exact Or.inr (f 0 (by omega))
  · rcases Nat.lt_or_ge len 2 with q | q
    · exact Or.inl q
    · exact Or.inr (f 1 (by omega))
  · rcases Nat.lt_or_ge len 3 with q | q
    · exact Or.inl q
    · exact Or.inr (f 2 (by omega))
  · have : j = 0 ∨ j = 1 ∨ j = 2 := by omega
    rcases this with rfl | rfl | rfl
    · exact f.1.elim (fun q => by omega) id
    · exact f.2.1.elim (fun q => by omega) id
    · exact f.2.2.elim (fun q => by omega) id
theorem own_ef9 (m : MethodId) (z0 : Int32) (z1 : Int32) (z2 : Int32) (z3 : Int32) (z4 : Int32) (z5 : Int32) : entryFrame m #[(.int z0), (.int z1), (.int z2), (.int z3), (.int z4), (.int z5)] 6 = mkF m 0 #[.val (.int z0), .val (.int z1), .val (.int z2), .val (.int z3), .val (.int z4), .val (.int z5)] [] := by first | (simp [entryFrame, mkF, argsToLocals, Value.category]; done) | rfl
set_option maxRecDepth 65536 in
set_option maxHeartbeats 40000000 in
theorem own_m9 (l : Launch) (Z : State) (a0 : Array Value) (hw : ∀ d ∈ tables_1, d.before a0 Z = true) (h0 : Heap) (n0 : Nat) (hn : n0 ≤ h0.size) (mm : Int32) (X len e0 e1 e2 : Nat) (hlen : len < 4) :
    own_Met l Z h0 n0 own_y9 method_4_code 6 (some .boolean) [] ({ frames := 1, cells := 0, slots := 0, locals := 24 } : Room) #[(.int mm), (.int (Int32.ofNat X)), (.int (Int32.ofNat len)), (.int (Int32.ofNat e0)), (.int (Int32.ofNat e1)), (.int (Int32.ofNat e2))] (own_V fun w h => ((w = .int 1 ∧ own_fr (own_t mm) (own_e e0 e1 e2) len X) ∨ (w = .int 0 ∧ ¬ own_fr (own_t mm) (own_e e0 e1 e2) len X)) ∧ h0 = h) := by
  refine own_met (ls := #[.val (.int mm), .val (.int (Int32.ofNat X)), .val (.int (Int32.ofNat len)), .val (.int (Int32.ofNat e0)), .val (.int (Int32.ofNat e1)), .val (.int (Int32.ofNat e2))]) own_pn9 (fun m => own_ef9 m _ _ _ _ _ _) hn hw fun p e s m below meth c T S => ?_
  have tl := own_tn (i := len) (by omega)
  have hdf := own_decfr (own_t mm) e0 e1 e2 len X hlen
  refine own_iloadN (pc' := 1) S rfl d9_0 rfl ?_
  refine own_iconst (1 : Int32) (pc' := 2) S rfl d9_1 rfl ?_
  refine own_ic (pt := 14) (pc' := 5) S (by decide) rfl rfl d9_2 ?_ ?_
  · intro c2
    replace c2 := own_lt_t c2
    have k2 : (1 : Int32).toInt = 1 := rfl
    refine own_iloadN (pc' := 15) S rfl d9_14 rfl ?_
    refine own_iconst (2 : Int32) (pc' := 16) S rfl d9_15 rfl ?_
    refine own_ic (pt := 29) (pc' := 19) S (by decide) rfl rfl d9_16 ?_ ?_
    · intro c16
      replace c16 := own_lt_t c16
      have k16 : (2 : Int32).toInt = 2 := rfl
      refine own_iloadN (pc' := 30) S rfl d9_29 rfl ?_
      refine own_iconst (3 : Int32) (pc' := 31) S rfl d9_30 rfl ?_
      refine own_ic (pt := 44) (pc' := 34) S (by decide) rfl rfl d9_31 ?_ ?_
      · intro c31
        replace c31 := own_lt_t c31
        have k31 : (3 : Int32).toInt = 3 := rfl
        refine own_iconst (1 : Int32) (pc' := 45) S rfl d9_44 rfl ?_
        refine own_goto (pc' := 49) S (by decide) rfl d9_45 ?_
        have z0 : own_bv true = 1 := rfl
        have z1 : own_bv false = 0 := rfl
        refine own_retZ (Or.inr rfl) S d9_49 (by decide) (by decide) ⟨_, rfl, Or.inl ⟨rfl, hdf.mpr ⟨?_, ?_, ?_⟩⟩, rfl⟩
        · first | exact Or.inl (by omega) | (refine Or.inr ?_; cases q : own_t mm (2 * X + e0) with | false => rfl | true => (rw [q] at c11; exact absurd c11 (by decide)))
        · first | exact Or.inl (by omega) | (refine Or.inr ?_; cases q : own_t mm (2 * X + e1) with | false => rfl | true => (rw [q] at c26; exact absurd c26 (by decide)))
        · first | exact Or.inl (by omega) | (refine Or.inr ?_; cases q : own_t mm (2 * X + e2) with | false => rfl | true => (rw [q] at c41; exact absurd c41 (by decide)))
      · intro c31
        replace c31 := own_lt_f c31
        have k31 : (3 : Int32).toInt = 3 := rfl
        refine own_iloadN (pc' := 35) S rfl d9_34 rfl ?_
        refine own_iloadN (pc' := 36) S rfl d9_35 rfl ?_
        refine own_iload (pc' := 38) S rfl d9_36 rfl ?_
        refine own_callS (pc' := 41) (yy := own_y8) (rm := ({ frames := 0, cells := 0, slots := 0, locals := 0 } : Room)) (W := 0) [(.int mm), (.int (Int32.ofNat X)), (.int (Int32.ofNat e2))] [] S (List.mem_of_getElem? (i := 51) rfl) (List.mem_of_getElem? (i := 52) rfl) (List.mem_of_getElem? (i := 4) rfl) (List.mem_of_getElem? (i := 53) rfl) (by decide) (own_m8 l Z a0 hw h0 n0 hn mm X e2) (ps := [.int, .int, .int]) (r' := some .boolean) (by decide +kernel) rfl rfl rfl (Nat.le_of_ble_eq_true rfl) (by decide) (by decide) (by decide) (by decide) rfl d9_38 ?_
        rintro T h2 _ S ⟨_, rfl, rfl, rfl⟩
        refine own_if (pt := 48) (pc' := 44) S (by decide) rfl rfl d9_41 ?_ ?_
        · intro c41
          replace c41 := own_ne_t ((if0 _ _).symm.trans c41)
          have e41 := own_ten c41
          have k41 : (0 : Int32).toInt = 0 := rfl
          refine own_iconst (0 : Int32) (pc' := 49) S rfl d9_48 rfl ?_
          have z0 : own_bv true = 1 := rfl
          have z1 : own_bv false = 0 := rfl
          refine own_retZ (Or.inl rfl) S d9_49 (by decide) (by decide) ⟨_, rfl, Or.inr ⟨rfl, fun f => ?_⟩, rfl⟩
          rcases (hdf.mp f).2.2 with q | q
          · omega
          · rw [q] at c41; exact c41 rfl
        · intro c41
          replace c41 := own_ne_f ((if0 _ _).symm.trans c41)
          have e41 := congrArg Int32.toInt c41
          have k41 : (0 : Int32).toInt = 0 := rfl
          refine own_iconst (1 : Int32) (pc' := 45) S rfl d9_44 rfl ?_
          refine own_goto (pc' := 49) S (by decide) rfl d9_45 ?_
          have z0 : own_bv true = 1 := rfl
          have z1 : own_bv false = 0 := rfl
          refine own_retZ (Or.inr rfl) S d9_49 (by decide) (by decide) ⟨_, rfl, Or.inl ⟨rfl, hdf.mpr ⟨?_, ?_, ?_⟩⟩, rfl⟩
          · first | exact Or.inl (by omega) | (refine Or.inr ?_; cases q : own_t mm (2 * X + e0) with | false => rfl | true => (rw [q] at c11; exact absurd c11 (by decide)))
          · first | exact Or.inl (by omega) | (refine Or.inr ?_; cases q : own_t mm (2 * X + e1) with | false => rfl | true => (rw [q] at c26; exact absurd c26 (by decide)))
          · first | exact Or.inl (by omega) | (refine Or.inr ?_; cases q : own_t mm (2 * X + e2) with | false => rfl | true => (rw [q] at c41; exact absurd c41 (by decide)))
    · intro c16
      replace c16 := own_lt_f c16
      have k16 : (2 : Int32).toInt = 2 := rfl
      refine own_iloadN (pc' := 20) S rfl d9_19 rfl ?_
      refine own_iloadN (pc' := 21) S rfl d9_20 rfl ?_
      refine own_iload (pc' := 23) S rfl d9_21 rfl ?_
      refine own_callS (pc' := 26) (yy := own_y8) (rm := ({ frames := 0, cells := 0, slots := 0, locals := 0 } : Room)) (W := 0) [(.int mm), (.int (Int32.ofNat X)), (.int (Int32.ofNat e1))] [] S (List.mem_of_getElem? (i := 51) rfl) (List.mem_of_getElem? (i := 52) rfl) (List.mem_of_getElem? (i := 4) rfl) (List.mem_of_getElem? (i := 53) rfl) (by decide) (own_m8 l Z a0 hw h0 n0 hn mm X e1) (ps := [.int, .int, .int]) (r' := some .boolean) (by decide +kernel) rfl rfl rfl (Nat.le_of_ble_eq_true rfl) (by decide) (by decide) (by decide) (by decide) rfl d9_23 ?_
      rintro T h2 _ S ⟨_, rfl, rfl, rfl⟩
      refine own_if (pt := 48) (pc' := 29) S (by decide) rfl rfl d9_26 ?_ ?_
      · intro c26
        replace c26 := own_ne_t ((if0 _ _).symm.trans c26)
        have e26 := own_ten c26
        have k26 : (0 : Int32).toInt = 0 := rfl
        refine own_iconst (0 : Int32) (pc' := 49) S rfl d9_48 rfl ?_
        have z0 : own_bv true = 1 := rfl
        have z1 : own_bv false = 0 := rfl
        refine own_retZ (Or.inl rfl) S d9_49 (by decide) (by decide) ⟨_, rfl, Or.inr ⟨rfl, fun f => ?_⟩, rfl⟩
        rcases (hdf.mp f).2.1 with q | q
        · omega
        · rw [q] at c26; exact c26 rfl
      · intro c26
        replace c26 := own_ne_f ((if0 _ _).symm.trans c26)
        have e26 := congrArg Int32.toInt c26
        have k26 : (0 : Int32).toInt = 0 := rfl
        refine own_iloadN (pc' := 30) S rfl d9_29 rfl ?_
        refine own_iconst (3 : Int32) (pc' := 31) S rfl d9_30 rfl ?_
        refine own_ic (pt := 44) (pc' := 34) S (by decide) rfl rfl d9_31 ?_ ?_
        · intro c31
          replace c31 := own_lt_t c31
          have k31 : (3 : Int32).toInt = 3 := rfl
          refine own_iconst (1 : Int32) (pc' := 45) S rfl d9_44 rfl ?_
          refine own_goto (pc' := 49) S (by decide) rfl d9_45 ?_
          have z0 : own_bv true = 1 := rfl
          have z1 : own_bv false = 0 := rfl
          refine own_retZ (Or.inr rfl) S d9_49 (by decide) (by decide) ⟨_, rfl, Or.inl ⟨rfl, hdf.mpr ⟨?_, ?_, ?_⟩⟩, rfl⟩
          · first | exact Or.inl (by omega) | (refine Or.inr ?_; cases q : own_t mm (2 * X + e0) with | false => rfl | true => (rw [q] at c11; exact absurd c11 (by decide)))
          · first | exact Or.inl (by omega) | (refine Or.inr ?_; cases q : own_t mm (2 * X + e1) with | false => rfl | true => (rw [q] at c26; exact absurd c26 (by decide)))
          · first | exact Or.inl (by omega) | (refine Or.inr ?_; cases q : own_t mm (2 * X + e2) with | false => rfl | true => (rw [q] at c41; exact absurd c41 (by decide)))
        · intro c31
          replace c31 := own_lt_f c31
          have k31 : (3 : Int32).toInt = 3 := rfl
          refine own_iloadN (pc' := 35) S rfl d9_34 rfl ?_
          refine own_iloadN (pc' := 36) S rfl d9_35 rfl ?_
          refine own_iload (pc' := 38) S rfl d9_36 rfl ?_
          refine own_callS (pc' := 41) (yy := own_y8) (rm := ({ frames := 0, cells := 0, slots := 0, locals := 0 } : Room)) (W := 0) [(.int mm), (.int (Int32.ofNat X)), (.int (Int32.ofNat e2))] [] S (List.mem_of_getElem? (i := 51) rfl) (List.mem_of_getElem? (i := 52) rfl) (List.mem_of_getElem? (i := 4) rfl) (List.mem_of_getElem? (i := 53) rfl) (by decide) (own_m8 l Z a0 hw h0 n0 hn mm X e2) (ps := [.int, .int, .int]) (r' := some .boolean) (by decide +kernel) rfl rfl rfl (Nat.le_of_ble_eq_true rfl) (by decide) (by decide) (by decide) (by decide) rfl d9_38 ?_
          rintro T h2 _ S ⟨_, rfl, rfl, rfl⟩
          refine own_if (pt := 48) (pc' := 44) S (by decide) rfl rfl d9_41 ?_ ?_
          · intro c41
            replace c41 := own_ne_t ((if0 _ _).symm.trans c41)
            have e41 := own_ten c41
            have k41 : (0 : Int32).toInt = 0 := rfl
            refine own_iconst (0 : Int32) (pc' := 49) S rfl d9_48 rfl ?_
            have z0 : own_bv true = 1 := rfl
            have z1 : own_bv false = 0 := rfl
            refine own_retZ (Or.inl rfl) S d9_49 (by decide) (by decide) ⟨_, rfl, Or.inr ⟨rfl, fun f => ?_⟩, rfl⟩
            rcases (hdf.mp f).2.2 with q | q
            · omega
            · rw [q] at c41; exact c41 rfl
          · intro c41
            replace c41 := own_ne_f ((if0 _ _).symm.trans c41)
            have e41 := congrArg Int32.toInt c41
            have k41 : (0 : Int32).toInt = 0 := rfl
            refine own_iconst (1 : Int32) (pc' := 45) S rfl d9_44 rfl ?_
            refine own_goto (pc' := 49) S (by decide) rfl d9_45 ?_
            have z0 : own_bv true = 1 := rfl
            have z1 : own_bv false = 0 := rfl
            refine own_retZ (Or.inr rfl) S d9_49 (by decide) (by decide) ⟨_, rfl, Or.inl ⟨rfl, hdf.mpr ⟨?_, ?_, ?_⟩⟩, rfl⟩
            · first | exact Or.inl (by omega) | (refine Or.inr ?_; cases q : own_t mm (2 * X + e0) with | false => rfl | true => (rw [q] at c11; exact absurd c11 (by decide)))
            · first | exact Or.inl (by omega) | (refine Or.inr ?_; cases q : own_t mm (2 * X + e1) with | false => rfl | true => (rw [q] at c26; exact absurd c26 (by decide)))
            · first | exact Or.inl (by omega) | (refine Or.inr ?_; cases q : own_t mm (2 * X + e2) with | false => rfl | true => (rw [q] at c41; exact absurd c41 (by decide)))
  · intro c2
    replace c2 := own_lt_f c2
    have k2 : (1 : Int32).toInt = 1 := rfl
    refine own_iloadN (pc' := 6) S rfl d9_5 rfl ?_
    refine own_iloadN (pc' := 7) S rfl d9_6 rfl ?_
    refine own_iloadN (pc' := 8) S rfl d9_7 rfl ?_
    refine own_callS (pc' := 11) (yy := own_y8) (rm := ({ frames := 0, cells := 0, slots := 0, locals := 0 } : Room)) (W := 0) [(.int mm), (.int (Int32.ofNat X)), (.int (Int32.ofNat e0))] [] S (List.mem_of_getElem? (i := 51) rfl) (List.mem_of_getElem? (i := 52) rfl) (List.mem_of_getElem? (i := 4) rfl) (List.mem_of_getElem? (i := 53) rfl) (by decide) (own_m8 l Z a0 hw h0 n0 hn mm X e0) (ps := [.int, .int, .int]) (r' := some .boolean) (by decide +kernel) rfl rfl rfl (Nat.le_of_ble_eq_true rfl) (by decide) (by decide) (by decide) (by decide) rfl d9_8 ?_
    rintro T h2 _ S ⟨_, rfl, rfl, rfl⟩
    refine own_if (pt := 48) (pc' := 14) S (by decide) rfl rfl d9_11 ?_ ?_
    · intro c11
      replace c11 := own_ne_t ((if0 _ _).symm.trans c11)
      have e11 := own_ten c11
      have k11 : (0 : Int32).toInt = 0 := rfl
      refine own_iconst (0 : Int32) (pc' := 49) S rfl d9_48 rfl ?_
      have z0 : own_bv true = 1 := rfl
      have z1 : own_bv false = 0 := rfl
      refine own_retZ (Or.inl rfl) S d9_49 (by decide) (by decide) ⟨_, rfl, Or.inr ⟨rfl, fun f => ?_⟩, rfl⟩
      rcases (hdf.mp f).1 with q | q
      · omega
      · rw [q] at c11; exact c11 rfl
    · intro c11
      replace c11 := own_ne_f ((if0 _ _).symm.trans c11)
      have e11 := congrArg Int32.toInt c11
      have k11 : (0 : Int32).toInt = 0 := rfl
      refine own_iloadN (pc' := 15) S rfl d9_14 rfl ?_
      refine own_iconst (2 : Int32) (pc' := 16) S rfl d9_15 rfl ?_
      refine own_ic (pt := 29) (pc' := 19) S (by decide) rfl rfl d9_16 ?_ ?_
      · intro c16
        replace c16 := own_lt_t c16
        have k16 : (2 : Int32).toInt = 2 := rfl
        refine own_iloadN (pc' := 30) S rfl d9_29 rfl ?_
        refine own_iconst (3 : Int32) (pc' := 31) S rfl d9_30 rfl ?_
        refine own_ic (pt := 44) (pc' := 34) S (by decide) rfl rfl d9_31 ?_ ?_
        · intro c31
          replace c31 := own_lt_t c31
          have k31 : (3 : Int32).toInt = 3 := rfl
          refine own_iconst (1 : Int32) (pc' := 45) S rfl d9_44 rfl ?_
          refine own_goto (pc' := 49) S (by decide) rfl d9_45 ?_
          have z0 : own_bv true = 1 := rfl
          have z1 : own_bv false = 0 := rfl
          refine own_retZ (Or.inr rfl) S d9_49 (by decide) (by decide) ⟨_, rfl, Or.inl ⟨rfl, hdf.mpr ⟨?_, ?_, ?_⟩⟩, rfl⟩
          · first | exact Or.inl (by omega) | (refine Or.inr ?_; cases q : own_t mm (2 * X + e0) with | false => rfl | true => (rw [q] at c11; exact absurd c11 (by decide)))
          · first | exact Or.inl (by omega) | (refine Or.inr ?_; cases q : own_t mm (2 * X + e1) with | false => rfl | true => (rw [q] at c26; exact absurd c26 (by decide)))
          · first | exact Or.inl (by omega) | (refine Or.inr ?_; cases q : own_t mm (2 * X + e2) with | false => rfl | true => (rw [q] at c41; exact absurd c41 (by decide)))
        · intro c31
          replace c31 := own_lt_f c31
          have k31 : (3 : Int32).toInt = 3 := rfl
          refine own_iloadN (pc' := 35) S rfl d9_34 rfl ?_
          refine own_iloadN (pc' := 36) S rfl d9_35 rfl ?_
          refine own_iload (pc' := 38) S rfl d9_36 rfl ?_
          refine own_callS (pc' := 41) (yy := own_y8) (rm := ({ frames := 0, cells := 0, slots := 0, locals := 0 } : Room)) (W := 0) [(.int mm), (.int (Int32.ofNat X)), (.int (Int32.ofNat e2))] [] S (List.mem_of_getElem? (i := 51) rfl) (List.mem_of_getElem? (i := 52) rfl) (List.mem_of_getElem? (i := 4) rfl) (List.mem_of_getElem? (i := 53) rfl) (by decide) (own_m8 l Z a0 hw h0 n0 hn mm X e2) (ps := [.int, .int, .int]) (r' := some .boolean) (by decide +kernel) rfl rfl rfl (Nat.le_of_ble_eq_true rfl) (by decide) (by decide) (by decide) (by decide) rfl d9_38 ?_
          rintro T h2 _ S ⟨_, rfl, rfl, rfl⟩
          refine own_if (pt := 48) (pc' := 44) S (by decide) rfl rfl d9_41 ?_ ?_
          · intro c41
            replace c41 := own_ne_t ((if0 _ _).symm.trans c41)
            have e41 := own_ten c41
            have k41 : (0 : Int32).toInt = 0 := rfl
            refine own_iconst (0 : Int32) (pc' := 49) S rfl d9_48 rfl ?_
            have z0 : own_bv true = 1 := rfl
            have z1 : own_bv false = 0 := rfl
            refine own_retZ (Or.inl rfl) S d9_49 (by decide) (by decide) ⟨_, rfl, Or.inr ⟨rfl, fun f => ?_⟩, rfl⟩
            rcases (hdf.mp f).2.2 with q | q
            · omega
            · rw [q] at c41; exact c41 rfl
          · intro c41
            replace c41 := own_ne_f ((if0 _ _).symm.trans c41)
            have e41 := congrArg Int32.toInt c41
            have k41 : (0 : Int32).toInt = 0 := rfl
            refine own_iconst (1 : Int32) (pc' := 45) S rfl d9_44 rfl ?_
            refine own_goto (pc' := 49) S (by decide) rfl d9_45 ?_
            have z0 : own_bv true = 1 := rfl
            have z1 : own_bv false = 0 := rfl
            refine own_retZ (Or.inr rfl) S d9_49 (by decide) (by decide) ⟨_, rfl, Or.inl ⟨rfl, hdf.mpr ⟨?_, ?_, ?_⟩⟩, rfl⟩
            · first | exact Or.inl (by omega) | (refine Or.inr ?_; cases q : own_t mm (2 * X + e0) with | false => rfl | true => (rw [q] at c11; exact absurd c11 (by decide)))
            · first | exact Or.inl (by omega) | (refine Or.inr ?_; cases q : own_t mm (2 * X + e1) with | false => rfl | true => (rw [q] at c26; exact absurd c26 (by decide)))
            · first | exact Or.inl (by omega) | (refine Or.inr ?_; cases q : own_t mm (2 * X + e2) with | false => rfl | true => (rw [q] at c41; exact absurd c41 (by decide)))
      · intro c16
        replace c16 := own_lt_f c16
        have k16 : (2 : Int32).toInt = 2 := rfl
        refine own_iloadN (pc' := 20) S rfl d9_19 rfl ?_
        refine own_iloadN (pc' := 21) S rfl d9_20 rfl ?_
        refine own_iload (pc' := 23) S rfl d9_21 rfl ?_
        refine own_callS (pc' := 26) (yy := own_y8) (rm := ({ frames := 0, cells := 0, slots := 0, locals := 0 } : Room)) (W := 0) [(.int mm), (.int (Int32.ofNat X)), (.int (Int32.ofNat e1))] [] S (List.mem_of_getElem? (i := 51) rfl) (List.mem_of_getElem? (i := 52) rfl) (List.mem_of_getElem? (i := 4) rfl) (List.mem_of_getElem? (i := 53) rfl) (by decide) (own_m8 l Z a0 hw h0 n0 hn mm X e1) (ps := [.int, .int, .int]) (r' := some .boolean) (by decide +kernel) rfl rfl rfl (Nat.le_of_ble_eq_true rfl) (by decide) (by decide) (by decide) (by decide) rfl d9_23 ?_
        rintro T h2 _ S ⟨_, rfl, rfl, rfl⟩
        refine own_if (pt := 48) (pc' := 29) S (by decide) rfl rfl d9_26 ?_ ?_
        · intro c26
          replace c26 := own_ne_t ((if0 _ _).symm.trans c26)
          have e26 := own_ten c26
          have k26 : (0 : Int32).toInt = 0 := rfl
          refine own_iconst (0 : Int32) (pc' := 49) S rfl d9_48 rfl ?_
          have z0 : own_bv true = 1 := rfl
          have z1 : own_bv false = 0 := rfl
          refine own_retZ (Or.inl rfl) S d9_49 (by decide) (by decide) ⟨_, rfl, Or.inr ⟨rfl, fun f => ?_⟩, rfl⟩
          rcases (hdf.mp f).2.1 with q | q
          · omega
          · rw [q] at c26; exact c26 rfl
        · intro c26
          replace c26 := own_ne_f ((if0 _ _).symm.trans c26)
          have e26 := congrArg Int32.toInt c26
          have k26 : (0 : Int32).toInt = 0 := rfl
          refine own_iloadN (pc' := 30) S rfl d9_29 rfl ?_
          refine own_iconst (3 : Int32) (pc' := 31) S rfl d9_30 rfl ?_
          refine own_ic (pt := 44) (pc' := 34) S (by decide) rfl rfl d9_31 ?_ ?_
          · intro c31
            replace c31 := own_lt_t c31
            have k31 : (3 : Int32).toInt = 3 := rfl
            refine own_iconst (1 : Int32) (pc' := 45) S rfl d9_44 rfl ?_
            refine own_goto (pc' := 49) S (by decide) rfl d9_45 ?_
            have z0 : own_bv true = 1 := rfl
            have z1 : own_bv false = 0 := rfl
            refine own_retZ (Or.inr rfl) S d9_49 (by decide) (by decide) ⟨_, rfl, Or.inl ⟨rfl, hdf.mpr ⟨?_, ?_, ?_⟩⟩, rfl⟩
            · first | exact Or.inl (by omega) | (refine Or.inr ?_; cases q : own_t mm (2 * X + e0) with | false => rfl | true => (rw [q] at c11; exact absurd c11 (by decide)))
            · first | exact Or.inl (by omega) | (refine Or.inr ?_; cases q : own_t mm (2 * X + e1) with | false => rfl | true => (rw [q] at c26; exact absurd c26 (by decide)))
            · first | exact Or.inl (by omega) | (refine Or.inr ?_; cases q : own_t mm (2 * X + e2) with | false => rfl | true => (rw [q] at c41; exact absurd c41 (by decide)))
          · intro c31
            replace c31 := own_lt_f c31
            have k31 : (3 : Int32).toInt = 3 := rfl
            refine own_iloadN (pc' := 35) S rfl d9_34 rfl ?_
            refine own_iloadN (pc' := 36) S rfl d9_35 rfl ?_
            refine own_iload (pc' := 38) S rfl d9_36 rfl ?_
            refine own_callS (pc' := 41) (yy := own_y8) (rm := ({ frames := 0, cells := 0, slots := 0, locals := 0 } : Room)) (W := 0) [(.int mm), (.int (Int32.ofNat X)), (.int (Int32.ofNat e2))] [] S (List.mem_of_getElem? (i := 51) rfl) (List.mem_of_getElem? (i := 52) rfl) (List.mem_of_getElem? (i := 4) rfl) (List.mem_of_getElem? (i := 53) rfl) (by decide) (own_m8 l Z a0 hw h0 n0 hn mm X e2) (ps := [.int, .int, .int]) (r' := some .boolean) (by decide +kernel) rfl rfl rfl (Nat.le_of_ble_eq_true rfl) (by decide) (by decide) (by decide) (by decide) rfl d9_38 ?_
            rintro T h2 _ S ⟨_, rfl, rfl, rfl⟩
            refine own_if (pt := 48) (pc' := 44) S (by decide) rfl rfl d9_41 ?_ ?_
            · intro c41
              replace c41 := own_ne_t ((if0 _ _).symm.trans c41)
              have e41 := own_ten c41
              have k41 : (0 : Int32).toInt = 0 := rfl
              refine own_iconst (0 : Int32) (pc' := 49) S rfl d9_48 rfl ?_
              have z0 : own_bv true = 1 := rfl
              have z1 : own_bv false = 0 := rfl
              refine own_retZ (Or.inl rfl) S d9_49 (by decide) (by decide) ⟨_, rfl, Or.inr ⟨rfl, fun f => ?_⟩, rfl⟩
              rcases (hdf.mp f).2.2 with q | q
              · omega
              · rw [q] at c41; exact c41 rfl
            · intro c41
              replace c41 := own_ne_f ((if0 _ _).symm.trans c41)
              have e41 := congrArg Int32.toInt c41
              have k41 : (0 : Int32).toInt = 0 := rfl
              refine own_iconst (1 : Int32) (pc' := 45) S rfl d9_44 rfl ?_
              refine own_goto (pc' := 49) S (by decide) rfl d9_45 ?_
              have z0 : own_bv true = 1 := rfl
              have z1 : own_bv false = 0 := rfl
              refine own_retZ (Or.inr rfl) S d9_49 (by decide) (by decide) ⟨_, rfl, Or.inl ⟨rfl, hdf.mpr ⟨?_, ?_, ?_⟩⟩, rfl⟩
              · first | exact Or.inl (by omega) | (refine Or.inr ?_; cases q : own_t mm (2 * X + e0) with | false => rfl | true => (rw [q] at c11; exact absurd c11 (by decide)))
              · first | exact Or.inl (by omega) | (refine Or.inr ?_; cases q : own_t mm (2 * X + e1) with | false => rfl | true => (rw [q] at c26; exact absurd c26 (by decide)))
              · first | exact Or.inl (by omega) | (refine Or.inr ?_; cases q : own_t mm (2 * X + e2) with | false => rfl | true => (rw [q] at c41; exact absurd c41 (by decide)))
def own_res (t : Nat → Bool) (e_ : Nat → Nat) (len n s0 : Nat) (g nx : Int32) : Prop := (∃ k, k < n ∧ (∀ k', k' < k → ¬ own_fr t e_ len ((s0 + k') % n)) ∧ own_fr t e_ len ((s0 + k) % n) ∧ g = Int32.ofNat (2 + (s0 + k) % n) ∧ nx = Int32.ofNat ((s0 + k + 1) % n)) ∨ ((∀ k, k < n → ¬ own_fr t e_ len ((s0 + k) % n)) ∧ g = -1 ∧ nx = Int32.ofNat ((s0 + n) % n))
theorem own_pick {t : Nat → Bool} {e_ : Nat → Nat} {len n s0 : Nat} {g nx : Int32} (h : own_res t e_ len n s0 g nx) (k : Nat) (hk : k < n) (h1 : ∀ k', k' < k → ¬ own_fr t e_ len ((s0 + k') % n)) (h2 : own_fr t e_ len ((s0 + k) % n)) : g = Int32.ofNat (2 + (s0 + k) % n) ∧ nx = Int32.ofNat ((s0 + k + 1) % n) := by
  rcases h with ⟨k1, q1, q2, q3, q4⟩ | ⟨q1, -⟩
  · rcases Nat.lt_trichotomy k1 k with z | z | z
    · exact absurd q3 (h1 k1 z)
    · subst z; exact q4
    · exact absurd h2 (q2 k z)
  · exact absurd h2 (q1 k hk)
theorem own_none {t : Nat → Bool} {e_ : Nat → Nat} {len n s0 : Nat} {g nx : Int32} (h : own_res t e_ len n s0 g nx) (h1 : ∀ k, k < n → ¬ own_fr t e_ len ((s0 + k) % n)) (hs : s0 < n) : g = -1 ∧ nx = Int32.ofNat s0 := by
  rcases h with ⟨k1, q1, q2, q3, q4⟩ | ⟨-, q1, q2⟩
  · exact absurd q3 (h1 k1 q1)
  · rw [Nat.add_mod_right, Nat.mod_eq_of_lt hs] at q2
    exact ⟨q1, q2⟩
set_option maxRecDepth 65536 in
set_option maxHeartbeats 40000000 in
theorem own_k271 {p : Program} {l : Launch} {e : Env} {s : State} {m : MethodId} {args : Array Value} {below : List Frame} {meth : Method} {c : Code} {Z : State} {a0 : Array Value} {n0 : Nat} {T : State} {h : Heap} {en ca b : Addr} (x0 x1 x2 x3 mm : Int32) (n s0 len e0 e1 e2 : Nat) (hn3 : n < 4) (hn1 : 1 ≤ n) (hs0 : s0 < n) (hlen : len < 4) (he0 : e0 < 2) (he1 : e1 < 2) (he2 : e2 < 2) (g nx : Int32) (S : own_S p l e s m args below meth c Z a0 n0 x code maxLocals ret room_1 T h (0 + 1 + 1 + 1 + 1) (0 + 3 + 12 + 4 + 6)) (hres : own_res (own_t mm) (own_e e0 e1 e2) len n s0 g nx) : own_G p e s below room_1 n0 (own_V fun w h => w = .int 1) T (mkF m 271 #[.val (.int x0), .val (.int x1), .val (.int x2), .val (.int x3), .val (.int (Int32.ofNat n)), .val (.int mm), .val (.int (Int32.ofNat s0)), .val (.int (Int32.ofNat len)), .val (.int (Int32.ofNat e0)), .val (.int (Int32.ofNat e1)), .val (.int (Int32.ofNat e2)), .val (.ref en), .val (.ref ca), .val (.ref b), .val (.int g), .val (.int nx), .unset, .unset, .unset, .unset, .unset] []) := by
  have hw := own_word S
  have hn := own_size S
  have tn := own_tn (i := n) (by omega)
  have z0 : (s0 + 0) % n = s0 := Nat.mod_eq_of_lt hs0
  have b1 := Nat.mod_lt (s0 + 1) hn1
  have b2 := Nat.mod_lt (s0 + 2) hn1
  refine own_iconst (-1 : Int32) (pc' := 272) S rfl at_271 rfl ?_
  refine own_istore (ls' := #[.val (.int x0), .val (.int x1), .val (.int x2), .val (.int x3), .val (.int (Int32.ofNat n)), .val (.int mm), .val (.int (Int32.ofNat s0)), .val (.int (Int32.ofNat len)), .val (.int (Int32.ofNat e0)), .val (.int (Int32.ofNat e1)), .val (.int (Int32.ofNat e2)), .val (.ref en), .val (.ref ca), .val (.ref b), .val (.int g), .val (.int nx), .val (.int (-1 : Int32)), .unset, .unset, .unset, .unset]) (pc' := 274) S rfl at_272 rfl ?_
  refine own_iload (pc' := 276) S rfl at_274 rfl ?_
  refine own_istore (ls' := #[.val (.int x0), .val (.int x1), .val (.int x2), .val (.int x3), .val (.int (Int32.ofNat n)), .val (.int mm), .val (.int (Int32.ofNat s0)), .val (.int (Int32.ofNat len)), .val (.int (Int32.ofNat e0)), .val (.int (Int32.ofNat e1)), .val (.int (Int32.ofNat e2)), .val (.ref en), .val (.ref ca), .val (.ref b), .val (.int g), .val (.int nx), .val (.int (-1 : Int32)), .val (.int (Int32.ofNat s0)), .unset, .unset, .unset]) (pc' := 278) S rfl at_276 rfl ?_
  refine own_iload (pc' := 280) S rfl at_278 rfl ?_
  refine own_istore (ls' := #[.val (.int x0), .val (.int x1), .val (.int x2), .val (.int x3), .val (.int (Int32.ofNat n)), .val (.int mm), .val (.int (Int32.ofNat s0)), .val (.int (Int32.ofNat len)), .val (.int (Int32.ofNat e0)), .val (.int (Int32.ofNat e1)), .val (.int (Int32.ofNat e2)), .val (.ref en), .val (.ref ca), .val (.ref b), .val (.int g), .val (.int nx), .val (.int (-1 : Int32)), .val (.int (Int32.ofNat s0)), .val (.int (Int32.ofNat s0)), .unset, .unset]) (pc' := 282) S rfl at_280 rfl ?_
  refine own_iload (pc' := 284) S rfl at_282 rfl ?_
  refine own_iconst (1 : Int32) (pc' := 285) S rfl at_284 rfl ?_
  refine own_iadd (pc' := 286) S rfl at_285 ?_
  rw [own_one]
  refine own_iload (pc' := 288) S rfl at_286 rfl ?_
  refine own_irem (pc' := 289) S rfl at_288 (own_nz (by omega) (by omega)) ?_
  rw [own_modN (by omega) (by omega)]
  refine own_istore (ls' := #[.val (.int x0), .val (.int x1), .val (.int x2), .val (.int x3), .val (.int (Int32.ofNat n)), .val (.int mm), .val (.int (Int32.ofNat s0)), .val (.int (Int32.ofNat len)), .val (.int (Int32.ofNat e0)), .val (.int (Int32.ofNat e1)), .val (.int (Int32.ofNat e2)), .val (.ref en), .val (.ref ca), .val (.ref b), .val (.int g), .val (.int nx), .val (.int (-1 : Int32)), .val (.int (Int32.ofNat s0)), .val (.int (Int32.ofNat s0)), .val (.int (Int32.ofNat ((s0 + 1) % n))), .unset]) (pc' := 291) S rfl at_289 rfl ?_
  refine own_iload (pc' := 293) S rfl at_291 rfl ?_
  refine own_iconst (2 : Int32) (pc' := 294) S rfl at_293 rfl ?_
  refine own_iadd (pc' := 295) S rfl at_294 ?_
  rw [show Int32.ofNat s0 + (2 : Int32) = Int32.ofNat (s0 + 2) from own_addN s0 2]
  refine own_iload (pc' := 297) S rfl at_295 rfl ?_
  refine own_irem (pc' := 298) S rfl at_297 (own_nz (by omega) (by omega)) ?_
  rw [own_modN (by omega) (by omega)]
  refine own_istore (ls' := #[.val (.int x0), .val (.int x1), .val (.int x2), .val (.int x3), .val (.int (Int32.ofNat n)), .val (.int mm), .val (.int (Int32.ofNat s0)), .val (.int (Int32.ofNat len)), .val (.int (Int32.ofNat e0)), .val (.int (Int32.ofNat e1)), .val (.int (Int32.ofNat e2)), .val (.ref en), .val (.ref ca), .val (.ref b), .val (.int g), .val (.int nx), .val (.int (-1 : Int32)), .val (.int (Int32.ofNat s0)), .val (.int (Int32.ofNat s0)), .val (.int (Int32.ofNat ((s0 + 1) % n))), .val (.int (Int32.ofNat ((s0 + 2) % n)))]) (pc' := 300) S rfl at_298 rfl ?_
  refine own_iload (pc' := 302) S rfl at_300 rfl ?_
  refine own_iload (pc' := 304) S rfl at_302 rfl ?_
  refine own_iload (pc' := 306) S rfl at_304 rfl ?_
  refine own_iload (pc' := 308) S rfl at_306 rfl ?_
  refine own_iload (pc' := 310) S rfl at_308 rfl ?_
  refine own_iload (pc' := 312) S rfl at_310 rfl ?_
  refine own_callS (pc' := 315) (yy := own_y9) (rm := ({ frames := 1, cells := 0, slots := 0, locals := 24 } : Room)) (W := 2) [(.int mm), (.int (Int32.ofNat s0)), (.int (Int32.ofNat len)), (.int (Int32.ofNat e0)), (.int (Int32.ofNat e1)), (.int (Int32.ofNat e2))] [] S (List.mem_of_getElem? (i := 48) rfl) (List.mem_of_getElem? (i := 49) rfl) (List.mem_of_getElem? (i := 4) rfl) (List.mem_of_getElem? (i := 50) rfl) (by decide) (own_m9 l Z a0 hw h n0 hn mm s0 len e0 e1 e2 hlen) (ps := [.int, .int, .int, .int, .int, .int]) (r' := some .boolean) (by decide +kernel) rfl rfl rfl (Nat.le_of_ble_eq_true rfl) (by decide) (by decide) (by decide) (by decide) rfl at_312 ?_
  rintro T h2 _ S ⟨_, rfl, hf, rfl⟩
  rcases hf with ⟨rfl, f0⟩ | ⟨rfl, f0⟩
  · skip
    refine own_ifN (pc' := 318) S rfl at_315 ((if0 _ _).trans (own_f_eq (by decide))) ?_
    refine own_iconst (2 : Int32) (pc' := 319) S rfl at_318 rfl ?_
    refine own_iload (pc' := 321) S rfl at_319 rfl ?_
    refine own_iadd (pc' := 322) S rfl at_321 ?_
    rw [show (2 : Int32) + Int32.ofNat s0 = Int32.ofNat (2 + s0) from own_addN 2 _]
    refine own_istore (ls' := #[.val (.int x0), .val (.int x1), .val (.int x2), .val (.int x3), .val (.int (Int32.ofNat n)), .val (.int mm), .val (.int (Int32.ofNat s0)), .val (.int (Int32.ofNat len)), .val (.int (Int32.ofNat e0)), .val (.int (Int32.ofNat e1)), .val (.int (Int32.ofNat e2)), .val (.ref en), .val (.ref ca), .val (.ref b), .val (.int g), .val (.int nx), .val (.int (Int32.ofNat (2 + s0))), .val (.int (Int32.ofNat s0)), .val (.int (Int32.ofNat s0)), .val (.int (Int32.ofNat ((s0 + 1) % n))), .val (.int (Int32.ofNat ((s0 + 2) % n)))]) (pc' := 324) S rfl at_322 rfl ?_
    refine own_iload (pc' := 326) S rfl at_324 rfl ?_
    refine own_istore (ls' := #[.val (.int x0), .val (.int x1), .val (.int x2), .val (.int x3), .val (.int (Int32.ofNat n)), .val (.int mm), .val (.int (Int32.ofNat s0)), .val (.int (Int32.ofNat len)), .val (.int (Int32.ofNat e0)), .val (.int (Int32.ofNat e1)), .val (.int (Int32.ofNat e2)), .val (.ref en), .val (.ref ca), .val (.ref b), .val (.int g), .val (.int nx), .val (.int (Int32.ofNat (2 + s0))), .val (.int (Int32.ofNat ((s0 + 1) % n))), .val (.int (Int32.ofNat s0)), .val (.int (Int32.ofNat ((s0 + 1) % n))), .val (.int (Int32.ofNat ((s0 + 2) % n)))]) (pc' := 328) S rfl at_326 rfl ?_
    refine own_goto (pc' := 407) S (by decide) rfl at_328 ?_
    have hno : ∀ k', k' < 0 → ¬ own_fr (own_t mm) (own_e e0 e1 e2) len ((s0 + k') % n) := by
      intro k' hk'
      omega
    have hp := own_pick hres 0 (by omega) hno (by rw [z0]; exact f0)
    rw [z0] at hp
    obtain ⟨rfl, rfl⟩ := hp
    refine own_iload (pc' := 409) S rfl at_407 rfl ?_
    refine own_iload (pc' := 411) S rfl at_409 rfl ?_
    refine own_icN (pc' := 414) S rfl at_411 (own_f_ne rfl) ?_
    refine own_iload (pc' := 416) S rfl at_414 rfl ?_
    refine own_iload (pc' := 418) S rfl at_416 rfl ?_
    refine own_icN (pc' := 421) S rfl at_418 (own_f_ne rfl) ?_
    refine own_iconst (1 : Int32) (pc' := 422) S rfl at_421 rfl ?_
    refine own_goto (pc' := 426) S (by decide) rfl at_422 ?_
    exact own_retZ (Or.inr rfl) S at_426 (by decide) (by decide) ⟨_, rfl, rfl⟩
  · skip
    refine own_ifY (pc' := 331) S (by decide) rfl at_315 ((if0 _ _).trans (own_t_eq rfl)) ?_
    refine own_iload (pc' := 333) S rfl at_331 rfl ?_
    refine own_iconst (2 : Int32) (pc' := 334) S rfl at_333 rfl ?_
    refine own_ic (pt := 368) (pc' := 337) S (by decide) rfl rfl at_334 ?_ ?_
    · intro c334
      replace c334 := own_lt_t c334
      have k334 : (2 : Int32).toInt = 2 := rfl
      refine own_iload (pc' := 370) S rfl at_368 rfl ?_
      refine own_iconst (3 : Int32) (pc' := 371) S rfl at_370 rfl ?_
      refine own_icY (pc' := 407) S (by decide) rfl at_371 (own_t_lt (by have k3 : (3 : Int32).toInt = 3 := rfl; omega)) ?_
      have hno : ∀ k', k' < n → ¬ own_fr (own_t mm) (own_e e0 e1 e2) len ((s0 + k') % n) := by
        intro k' hk'
        have : k' = 0 := by omega
        rcases this with rfl
        · rw [z0]; exact f0
      have hp := own_none hres hno hs0
      obtain ⟨rfl, rfl⟩ := hp
      refine own_iload (pc' := 409) S rfl at_407 rfl ?_
      refine own_iload (pc' := 411) S rfl at_409 rfl ?_
      refine own_icN (pc' := 414) S rfl at_411 (own_f_ne rfl) ?_
      refine own_iload (pc' := 416) S rfl at_414 rfl ?_
      refine own_iload (pc' := 418) S rfl at_416 rfl ?_
      refine own_icN (pc' := 421) S rfl at_418 (own_f_ne rfl) ?_
      refine own_iconst (1 : Int32) (pc' := 422) S rfl at_421 rfl ?_
      refine own_goto (pc' := 426) S (by decide) rfl at_422 ?_
      exact own_retZ (Or.inr rfl) S at_426 (by decide) (by decide) ⟨_, rfl, rfl⟩
    · intro c334
      replace c334 := own_lt_f c334
      have k334 : (2 : Int32).toInt = 2 := rfl
      refine own_iload (pc' := 339) S rfl at_337 rfl ?_
      refine own_iload (pc' := 341) S rfl at_339 rfl ?_
      refine own_iload (pc' := 343) S rfl at_341 rfl ?_
      refine own_iload (pc' := 345) S rfl at_343 rfl ?_
      refine own_iload (pc' := 347) S rfl at_345 rfl ?_
      refine own_iload (pc' := 349) S rfl at_347 rfl ?_
      refine own_callS (pc' := 352) (yy := own_y9) (rm := ({ frames := 1, cells := 0, slots := 0, locals := 24 } : Room)) (W := 2) [(.int mm), (.int (Int32.ofNat ((s0 + 1) % n))), (.int (Int32.ofNat len)), (.int (Int32.ofNat e0)), (.int (Int32.ofNat e1)), (.int (Int32.ofNat e2))] [] S (List.mem_of_getElem? (i := 48) rfl) (List.mem_of_getElem? (i := 49) rfl) (List.mem_of_getElem? (i := 4) rfl) (List.mem_of_getElem? (i := 50) rfl) (by decide) (own_m9 l Z a0 hw h n0 hn mm ((s0 + 1) % n) len e0 e1 e2 hlen) (ps := [.int, .int, .int, .int, .int, .int]) (r' := some .boolean) (by decide +kernel) rfl rfl rfl (Nat.le_of_ble_eq_true rfl) (by decide) (by decide) (by decide) (by decide) rfl at_349 ?_
      rintro T h2 _ S ⟨_, rfl, hf, rfl⟩
      rcases hf with ⟨rfl, f1⟩ | ⟨rfl, f1⟩
      · skip
        refine own_ifN (pc' := 355) S rfl at_352 ((if0 _ _).trans (own_f_eq (by decide))) ?_
        refine own_iconst (2 : Int32) (pc' := 356) S rfl at_355 rfl ?_
        refine own_iload (pc' := 358) S rfl at_356 rfl ?_
        refine own_iadd (pc' := 359) S rfl at_358 ?_
        rw [show (2 : Int32) + Int32.ofNat ((s0 + 1) % n) = Int32.ofNat (2 + ((s0 + 1) % n)) from own_addN 2 _]
        refine own_istore (ls' := #[.val (.int x0), .val (.int x1), .val (.int x2), .val (.int x3), .val (.int (Int32.ofNat n)), .val (.int mm), .val (.int (Int32.ofNat s0)), .val (.int (Int32.ofNat len)), .val (.int (Int32.ofNat e0)), .val (.int (Int32.ofNat e1)), .val (.int (Int32.ofNat e2)), .val (.ref en), .val (.ref ca), .val (.ref b), .val (.int g), .val (.int nx), .val (.int (Int32.ofNat (2 + ((s0 + 1) % n)))), .val (.int (Int32.ofNat s0)), .val (.int (Int32.ofNat s0)), .val (.int (Int32.ofNat ((s0 + 1) % n))), .val (.int (Int32.ofNat ((s0 + 2) % n)))]) (pc' := 361) S rfl at_359 rfl ?_
        refine own_iload (pc' := 363) S rfl at_361 rfl ?_
        refine own_istore (ls' := #[.val (.int x0), .val (.int x1), .val (.int x2), .val (.int x3), .val (.int (Int32.ofNat n)), .val (.int mm), .val (.int (Int32.ofNat s0)), .val (.int (Int32.ofNat len)), .val (.int (Int32.ofNat e0)), .val (.int (Int32.ofNat e1)), .val (.int (Int32.ofNat e2)), .val (.ref en), .val (.ref ca), .val (.ref b), .val (.int g), .val (.int nx), .val (.int (Int32.ofNat (2 + ((s0 + 1) % n)))), .val (.int (Int32.ofNat ((s0 + 2) % n))), .val (.int (Int32.ofNat s0)), .val (.int (Int32.ofNat ((s0 + 1) % n))), .val (.int (Int32.ofNat ((s0 + 2) % n)))]) (pc' := 365) S rfl at_363 rfl ?_
        refine own_goto (pc' := 407) S (by decide) rfl at_365 ?_
        have hno : ∀ k', k' < 1 → ¬ own_fr (own_t mm) (own_e e0 e1 e2) len ((s0 + k') % n) := by
          intro k' hk'
          have : k' = 0 := by omega
          rcases this with rfl
          · rw [z0]; exact f0
        have hp := own_pick hres 1 (by omega) hno (f1)
        obtain ⟨rfl, rfl⟩ := hp
        refine own_iload (pc' := 409) S rfl at_407 rfl ?_
        refine own_iload (pc' := 411) S rfl at_409 rfl ?_
        refine own_icN (pc' := 414) S rfl at_411 (own_f_ne rfl) ?_
        refine own_iload (pc' := 416) S rfl at_414 rfl ?_
        refine own_iload (pc' := 418) S rfl at_416 rfl ?_
        refine own_icN (pc' := 421) S rfl at_418 (own_f_ne rfl) ?_
        refine own_iconst (1 : Int32) (pc' := 422) S rfl at_421 rfl ?_
        refine own_goto (pc' := 426) S (by decide) rfl at_422 ?_
        exact own_retZ (Or.inr rfl) S at_426 (by decide) (by decide) ⟨_, rfl, rfl⟩
      · skip
        refine own_ifY (pc' := 368) S (by decide) rfl at_352 ((if0 _ _).trans (own_t_eq rfl)) ?_
        refine own_iload (pc' := 370) S rfl at_368 rfl ?_
        refine own_iconst (3 : Int32) (pc' := 371) S rfl at_370 rfl ?_
        refine own_ic (pt := 407) (pc' := 374) S (by decide) rfl rfl at_371 ?_ ?_
        · intro c371
          replace c371 := own_lt_t c371
          have k371 : (3 : Int32).toInt = 3 := rfl
          have hno : ∀ k', k' < n → ¬ own_fr (own_t mm) (own_e e0 e1 e2) len ((s0 + k') % n) := by
            intro k' hk'
            have : k' = 0 ∨ k' = 1 := by omega
            rcases this with rfl | rfl
            · rw [z0]; exact f0
            · exact f1
          have hp := own_none hres hno hs0
          obtain ⟨rfl, rfl⟩ := hp
          refine own_iload (pc' := 409) S rfl at_407 rfl ?_
          refine own_iload (pc' := 411) S rfl at_409 rfl ?_
          refine own_icN (pc' := 414) S rfl at_411 (own_f_ne rfl) ?_
          refine own_iload (pc' := 416) S rfl at_414 rfl ?_
          refine own_iload (pc' := 418) S rfl at_416 rfl ?_
          refine own_icN (pc' := 421) S rfl at_418 (own_f_ne rfl) ?_
          refine own_iconst (1 : Int32) (pc' := 422) S rfl at_421 rfl ?_
          refine own_goto (pc' := 426) S (by decide) rfl at_422 ?_
          exact own_retZ (Or.inr rfl) S at_426 (by decide) (by decide) ⟨_, rfl, rfl⟩
        · intro c371
          replace c371 := own_lt_f c371
          have k371 : (3 : Int32).toInt = 3 := rfl
          refine own_iload (pc' := 376) S rfl at_374 rfl ?_
          refine own_iload (pc' := 378) S rfl at_376 rfl ?_
          refine own_iload (pc' := 380) S rfl at_378 rfl ?_
          refine own_iload (pc' := 382) S rfl at_380 rfl ?_
          refine own_iload (pc' := 384) S rfl at_382 rfl ?_
          refine own_iload (pc' := 386) S rfl at_384 rfl ?_
          refine own_callS (pc' := 389) (yy := own_y9) (rm := ({ frames := 1, cells := 0, slots := 0, locals := 24 } : Room)) (W := 2) [(.int mm), (.int (Int32.ofNat ((s0 + 2) % n))), (.int (Int32.ofNat len)), (.int (Int32.ofNat e0)), (.int (Int32.ofNat e1)), (.int (Int32.ofNat e2))] [] S (List.mem_of_getElem? (i := 48) rfl) (List.mem_of_getElem? (i := 49) rfl) (List.mem_of_getElem? (i := 4) rfl) (List.mem_of_getElem? (i := 50) rfl) (by decide) (own_m9 l Z a0 hw h n0 hn mm ((s0 + 2) % n) len e0 e1 e2 hlen) (ps := [.int, .int, .int, .int, .int, .int]) (r' := some .boolean) (by decide +kernel) rfl rfl rfl (Nat.le_of_ble_eq_true rfl) (by decide) (by decide) (by decide) (by decide) rfl at_386 ?_
          rintro T h2 _ S ⟨_, rfl, hf, rfl⟩
          rcases hf with ⟨rfl, f2⟩ | ⟨rfl, f2⟩
          · skip
            refine own_ifN (pc' := 392) S rfl at_389 ((if0 _ _).trans (own_f_eq (by decide))) ?_
            refine own_iconst (2 : Int32) (pc' := 393) S rfl at_392 rfl ?_
            refine own_iload (pc' := 395) S rfl at_393 rfl ?_
            refine own_iadd (pc' := 396) S rfl at_395 ?_
            rw [show (2 : Int32) + Int32.ofNat ((s0 + 2) % n) = Int32.ofNat (2 + ((s0 + 2) % n)) from own_addN 2 _]
            refine own_istore (ls' := #[.val (.int x0), .val (.int x1), .val (.int x2), .val (.int x3), .val (.int (Int32.ofNat n)), .val (.int mm), .val (.int (Int32.ofNat s0)), .val (.int (Int32.ofNat len)), .val (.int (Int32.ofNat e0)), .val (.int (Int32.ofNat e1)), .val (.int (Int32.ofNat e2)), .val (.ref en), .val (.ref ca), .val (.ref b), .val (.int g), .val (.int nx), .val (.int (Int32.ofNat (2 + ((s0 + 2) % n)))), .val (.int (Int32.ofNat s0)), .val (.int (Int32.ofNat s0)), .val (.int (Int32.ofNat ((s0 + 1) % n))), .val (.int (Int32.ofNat ((s0 + 2) % n)))]) (pc' := 398) S rfl at_396 rfl ?_
            refine own_iload (pc' := 400) S rfl at_398 rfl ?_
            refine own_iconst (1 : Int32) (pc' := 401) S rfl at_400 rfl ?_
            refine own_iadd (pc' := 402) S rfl at_401 ?_
            rw [own_one]
            refine own_iload (pc' := 404) S rfl at_402 rfl ?_
            refine own_irem (pc' := 405) S rfl at_404 (own_nz (by omega) (by omega)) ?_
            rw [own_modN (by omega) (by omega)]
            refine own_istore (ls' := #[.val (.int x0), .val (.int x1), .val (.int x2), .val (.int x3), .val (.int (Int32.ofNat n)), .val (.int mm), .val (.int (Int32.ofNat s0)), .val (.int (Int32.ofNat len)), .val (.int (Int32.ofNat e0)), .val (.int (Int32.ofNat e1)), .val (.int (Int32.ofNat e2)), .val (.ref en), .val (.ref ca), .val (.ref b), .val (.int g), .val (.int nx), .val (.int (Int32.ofNat (2 + ((s0 + 2) % n)))), .val (.int (Int32.ofNat ((((s0 + 2) % n) + 1) % n))), .val (.int (Int32.ofNat s0)), .val (.int (Int32.ofNat ((s0 + 1) % n))), .val (.int (Int32.ofNat ((s0 + 2) % n)))]) (pc' := 407) S rfl at_405 rfl ?_
            have hno : ∀ k', k' < 2 → ¬ own_fr (own_t mm) (own_e e0 e1 e2) len ((s0 + k') % n) := by
              intro k' hk'
              have : k' = 0 ∨ k' = 1 := by omega
              rcases this with rfl | rfl
              · rw [z0]; exact f0
              · exact f1
            have hp := own_pick hres 2 (by omega) hno (f2)
            rw [show (s0 + 2 + 1) % n = ((s0 + 2) % n + 1) % n by rw [Nat.mod_add_mod]] at hp
            obtain ⟨rfl, rfl⟩ := hp
            refine own_iload (pc' := 409) S rfl at_407 rfl ?_
            refine own_iload (pc' := 411) S rfl at_409 rfl ?_
            refine own_icN (pc' := 414) S rfl at_411 (own_f_ne rfl) ?_
            refine own_iload (pc' := 416) S rfl at_414 rfl ?_
            refine own_iload (pc' := 418) S rfl at_416 rfl ?_
            refine own_icN (pc' := 421) S rfl at_418 (own_f_ne rfl) ?_
            refine own_iconst (1 : Int32) (pc' := 422) S rfl at_421 rfl ?_
            refine own_goto (pc' := 426) S (by decide) rfl at_422 ?_
            exact own_retZ (Or.inr rfl) S at_426 (by decide) (by decide) ⟨_, rfl, rfl⟩
          · skip
            refine own_ifY (pc' := 407) S (by decide) rfl at_389 ((if0 _ _).trans (own_t_eq rfl)) ?_
            have hno : ∀ k', k' < n → ¬ own_fr (own_t mm) (own_e e0 e1 e2) len ((s0 + k') % n) := by
              intro k' hk'
              have : k' = 0 ∨ k' = 1 ∨ k' = 2 := by omega
              rcases this with rfl | rfl | rfl
              · rw [z0]; exact f0
              · exact f1
              · exact f2
            have hp := own_none hres hno hs0
            obtain ⟨rfl, rfl⟩ := hp
            refine own_iload (pc' := 409) S rfl at_407 rfl ?_
            refine own_iload (pc' := 411) S rfl at_409 rfl ?_
            refine own_icN (pc' := 414) S rfl at_411 (own_f_ne rfl) ?_
            refine own_iload (pc' := 416) S rfl at_414 rfl ?_
            refine own_iload (pc' := 418) S rfl at_416 rfl ?_
            refine own_icN (pc' := 421) S rfl at_418 (own_f_ne rfl) ?_
            refine own_iconst (1 : Int32) (pc' := 422) S rfl at_421 rfl ?_
            refine own_goto (pc' := 426) S (by decide) rfl at_422 ?_
            exact own_retZ (Or.inr rfl) S at_426 (by decide) (by decide) ⟨_, rfl, rfl⟩
set_option maxRecDepth 65536 in
set_option maxHeartbeats 40000000 in
theorem own_k119 {p : Program} {l : Launch} {e : Env} {s : State} {m : MethodId} {args : Array Value} {below : List Frame} {meth : Method} {c : Code} {Z : State} {a0 : Array Value} {n0 : Nat} {T : State} {h : Heap} {en : Addr} (x0 x1 x2 x3 mm : Int32) (n s0 len e0 e1 e2 : Nat) (hn3 : n < 4) (hn1 : 1 ≤ n) (hs0 : s0 < n) (hlen : len < 4) (he0 : e0 < 2) (he1 : e1 < 2) (he2 : e2 < 2) (S : own_S p l e s m args below meth c Z a0 n0 x code maxLocals ret room_1 T h (0 + 1) (0 + 3)) (Ae : own_A Z h en .int len (fun j => .int (Int32.ofNat (own_e e0 e1 e2 j)))) : own_G p e s below room_1 n0 (own_V fun w h => w = .int 1) T (mkF m 119 #[.val (.int x0), .val (.int x1), .val (.int x2), .val (.int x3), .val (.int (Int32.ofNat n)), .val (.int mm), .val (.int (Int32.ofNat s0)), .val (.int (Int32.ofNat len)), .val (.int (Int32.ofNat e0)), .val (.int (Int32.ofNat e1)), .val (.int (Int32.ofNat e2)), .unset, .unset, .unset, .unset, .unset, .unset, .unset, .unset, .unset, .unset] [(.ref en)]) := by
  have hw := own_word S
  refine own_astore (ls' := #[.val (.int x0), .val (.int x1), .val (.int x2), .val (.int x3), .val (.int (Int32.ofNat n)), .val (.int mm), .val (.int (Int32.ofNat s0)), .val (.int (Int32.ofNat len)), .val (.int (Int32.ofNat e0)), .val (.int (Int32.ofNat e1)), .val (.int (Int32.ofNat e2)), .val (.ref en), .unset, .unset, .unset, .unset, .unset, .unset, .unset, .unset, .unset]) (pc' := 121) S rfl at_119 rfl rfl ?_
  refine own_bipush (12 : Int32) (pc' := 123) S rfl at_121 rfl ?_
  refine own_newarray (pc' := 125) 12 S (List.mem_of_getElem? (i := 1) rfl) (n := 12) rfl (by decide) (by decide) (by decide) (by decide) rfl at_123 ?_
  have elt := own_Alt Ae
  intro T h ca hca ca0 S Ex Ca
  have nec : en ≠ ca := by rw [hca]; exact Nat.ne_of_lt elt
  replace Ae := own_Aext Ae Ex
  refine own_dup (pc' := 126) S rfl at_125 rfl ?_
  refine own_iconst (0 : Int32) (pc' := 127) S rfl at_126 rfl ?_
  refine own_iload (pc' := 129) S rfl at_127 rfl ?_
  refine own_iload (pc' := 131) S rfl at_129 rfl ?_
  refine own_iconst (0 : Int32) (pc' := 132) S rfl at_131 rfl ?_
  refine own_iconst (0 : Int32) (pc' := 133) S rfl at_132 rfl ?_
  refine own_callS (pc' := 136) (yy := own_y1) (rm := ({ frames := 0, cells := 0, slots := 0, locals := 0 } : Room)) (W := 4) [(.int mm), (.int (Int32.ofNat n)), (.int (0 : Int32)), (.int (0 : Int32))] [(.int (0 : Int32)), (.ref ca), (.ref ca)] S (List.mem_of_getElem? (i := 2) rfl) (List.mem_of_getElem? (i := 3) rfl) (List.mem_of_getElem? (i := 4) rfl) (List.mem_of_getElem? (i := 5) rfl) (by decide) (own_m1 l Z a0 hw _ n0 (own_size S) mm n 0 0 hn3 (by decide) (by decide)) (ps := [.int, .int, .int, .int]) (r' := some .int) (by decide +kernel) rfl rfl rfl (Nat.le_of_ble_eq_true rfl) (by decide) (by decide) (by decide) (by decide) rfl at_133 ?_
  rintro T h2 _ S ⟨_, rfl, rfl, rfl⟩
  refine own_iastore (pc' := 137) S Ca (k := 0) rfl (by decide) ca0 rfl at_136 ?_
  clear Ca
  intro T h S W Ca
  replace Ae := own_Awr Ae W nec
  refine own_dup (pc' := 138) S rfl at_137 rfl ?_
  refine own_iconst (1 : Int32) (pc' := 139) S rfl at_138 rfl ?_
  refine own_iconst (0 : Int32) (pc' := 140) S rfl at_139 rfl ?_
  refine own_iastore (pc' := 141) S Ca (k := 1) rfl (by decide) ca0 rfl at_140 ?_
  clear Ca
  intro T h S W Ca
  replace Ae := own_Awr Ae W nec
  refine own_dup (pc' := 142) S rfl at_141 rfl ?_
  refine own_iconst (2 : Int32) (pc' := 143) S rfl at_142 rfl ?_
  refine own_iload (pc' := 145) S rfl at_143 rfl ?_
  refine own_iload (pc' := 147) S rfl at_145 rfl ?_
  refine own_iconst (0 : Int32) (pc' := 148) S rfl at_147 rfl ?_
  refine own_iconst (1 : Int32) (pc' := 149) S rfl at_148 rfl ?_
  refine own_callS (pc' := 152) (yy := own_y1) (rm := ({ frames := 0, cells := 0, slots := 0, locals := 0 } : Room)) (W := 4) [(.int mm), (.int (Int32.ofNat n)), (.int (0 : Int32)), (.int (1 : Int32))] [(.int (2 : Int32)), (.ref ca), (.ref ca)] S (List.mem_of_getElem? (i := 2) rfl) (List.mem_of_getElem? (i := 3) rfl) (List.mem_of_getElem? (i := 4) rfl) (List.mem_of_getElem? (i := 5) rfl) (by decide) (own_m1 l Z a0 hw _ n0 (own_size S) mm n 0 1 hn3 (by decide) (by decide)) (ps := [.int, .int, .int, .int]) (r' := some .int) (by decide +kernel) rfl rfl rfl (Nat.le_of_ble_eq_true rfl) (by decide) (by decide) (by decide) (by decide) rfl at_149 ?_
  rintro T h2 _ S ⟨_, rfl, rfl, rfl⟩
  refine own_iastore (pc' := 153) S Ca (k := 2) rfl (by decide) ca0 rfl at_152 ?_
  clear Ca
  intro T h S W Ca
  replace Ae := own_Awr Ae W nec
  refine own_dup (pc' := 154) S rfl at_153 rfl ?_
  refine own_iconst (3 : Int32) (pc' := 155) S rfl at_154 rfl ?_
  refine own_iconst (1 : Int32) (pc' := 156) S rfl at_155 rfl ?_
  refine own_iastore (pc' := 157) S Ca (k := 3) rfl (by decide) ca0 rfl at_156 ?_
  clear Ca
  intro T h S W Ca
  replace Ae := own_Awr Ae W nec
  refine own_dup (pc' := 158) S rfl at_157 rfl ?_
  refine own_iconst (4 : Int32) (pc' := 159) S rfl at_158 rfl ?_
  refine own_iload (pc' := 161) S rfl at_159 rfl ?_
  refine own_iload (pc' := 163) S rfl at_161 rfl ?_
  refine own_iconst (1 : Int32) (pc' := 164) S rfl at_163 rfl ?_
  refine own_iconst (0 : Int32) (pc' := 165) S rfl at_164 rfl ?_
  refine own_callS (pc' := 168) (yy := own_y1) (rm := ({ frames := 0, cells := 0, slots := 0, locals := 0 } : Room)) (W := 4) [(.int mm), (.int (Int32.ofNat n)), (.int (1 : Int32)), (.int (0 : Int32))] [(.int (4 : Int32)), (.ref ca), (.ref ca)] S (List.mem_of_getElem? (i := 2) rfl) (List.mem_of_getElem? (i := 3) rfl) (List.mem_of_getElem? (i := 4) rfl) (List.mem_of_getElem? (i := 5) rfl) (by decide) (own_m1 l Z a0 hw _ n0 (own_size S) mm n 1 0 hn3 (by decide) (by decide)) (ps := [.int, .int, .int, .int]) (r' := some .int) (by decide +kernel) rfl rfl rfl (Nat.le_of_ble_eq_true rfl) (by decide) (by decide) (by decide) (by decide) rfl at_165 ?_
  rintro T h2 _ S ⟨_, rfl, rfl, rfl⟩
  refine own_iastore (pc' := 169) S Ca (k := 4) rfl (by decide) ca0 rfl at_168 ?_
  clear Ca
  intro T h S W Ca
  replace Ae := own_Awr Ae W nec
  refine own_dup (pc' := 170) S rfl at_169 rfl ?_
  refine own_iconst (5 : Int32) (pc' := 171) S rfl at_170 rfl ?_
  refine own_iconst (0 : Int32) (pc' := 172) S rfl at_171 rfl ?_
  refine own_iastore (pc' := 173) S Ca (k := 5) rfl (by decide) ca0 rfl at_172 ?_
  clear Ca
  intro T h S W Ca
  replace Ae := own_Awr Ae W nec
  refine own_dup (pc' := 174) S rfl at_173 rfl ?_
  refine own_bipush (6 : Int32) (pc' := 176) S rfl at_174 rfl ?_
  refine own_iload (pc' := 178) S rfl at_176 rfl ?_
  refine own_iload (pc' := 180) S rfl at_178 rfl ?_
  refine own_iconst (1 : Int32) (pc' := 181) S rfl at_180 rfl ?_
  refine own_iconst (1 : Int32) (pc' := 182) S rfl at_181 rfl ?_
  refine own_callS (pc' := 185) (yy := own_y1) (rm := ({ frames := 0, cells := 0, slots := 0, locals := 0 } : Room)) (W := 4) [(.int mm), (.int (Int32.ofNat n)), (.int (1 : Int32)), (.int (1 : Int32))] [(.int (6 : Int32)), (.ref ca), (.ref ca)] S (List.mem_of_getElem? (i := 2) rfl) (List.mem_of_getElem? (i := 3) rfl) (List.mem_of_getElem? (i := 4) rfl) (List.mem_of_getElem? (i := 5) rfl) (by decide) (own_m1 l Z a0 hw _ n0 (own_size S) mm n 1 1 hn3 (by decide) (by decide)) (ps := [.int, .int, .int, .int]) (r' := some .int) (by decide +kernel) rfl rfl rfl (Nat.le_of_ble_eq_true rfl) (by decide) (by decide) (by decide) (by decide) rfl at_182 ?_
  rintro T h2 _ S ⟨_, rfl, rfl, rfl⟩
  refine own_iastore (pc' := 186) S Ca (k := 6) rfl (by decide) ca0 rfl at_185 ?_
  clear Ca
  intro T h S W Ca
  replace Ae := own_Awr Ae W nec
  refine own_dup (pc' := 187) S rfl at_186 rfl ?_
  refine own_bipush (7 : Int32) (pc' := 189) S rfl at_187 rfl ?_
  refine own_iconst (1 : Int32) (pc' := 190) S rfl at_189 rfl ?_
  refine own_iastore (pc' := 191) S Ca (k := 7) rfl (by decide) ca0 rfl at_190 ?_
  clear Ca
  intro T h S W Ca
  replace Ae := own_Awr Ae W nec
  refine own_dup (pc' := 192) S rfl at_191 rfl ?_
  refine own_bipush (8 : Int32) (pc' := 194) S rfl at_192 rfl ?_
  refine own_iload (pc' := 196) S rfl at_194 rfl ?_
  refine own_iload (pc' := 198) S rfl at_196 rfl ?_
  refine own_iconst (2 : Int32) (pc' := 199) S rfl at_198 rfl ?_
  refine own_iconst (0 : Int32) (pc' := 200) S rfl at_199 rfl ?_
  refine own_callS (pc' := 203) (yy := own_y1) (rm := ({ frames := 0, cells := 0, slots := 0, locals := 0 } : Room)) (W := 4) [(.int mm), (.int (Int32.ofNat n)), (.int (2 : Int32)), (.int (0 : Int32))] [(.int (8 : Int32)), (.ref ca), (.ref ca)] S (List.mem_of_getElem? (i := 2) rfl) (List.mem_of_getElem? (i := 3) rfl) (List.mem_of_getElem? (i := 4) rfl) (List.mem_of_getElem? (i := 5) rfl) (by decide) (own_m1 l Z a0 hw _ n0 (own_size S) mm n 2 0 hn3 (by decide) (by decide)) (ps := [.int, .int, .int, .int]) (r' := some .int) (by decide +kernel) rfl rfl rfl (Nat.le_of_ble_eq_true rfl) (by decide) (by decide) (by decide) (by decide) rfl at_200 ?_
  rintro T h2 _ S ⟨_, rfl, rfl, rfl⟩
  refine own_iastore (pc' := 204) S Ca (k := 8) rfl (by decide) ca0 rfl at_203 ?_
  clear Ca
  intro T h S W Ca
  replace Ae := own_Awr Ae W nec
  refine own_dup (pc' := 205) S rfl at_204 rfl ?_
  refine own_bipush (9 : Int32) (pc' := 207) S rfl at_205 rfl ?_
  refine own_iconst (0 : Int32) (pc' := 208) S rfl at_207 rfl ?_
  refine own_iastore (pc' := 209) S Ca (k := 9) rfl (by decide) ca0 rfl at_208 ?_
  clear Ca
  intro T h S W Ca
  replace Ae := own_Awr Ae W nec
  refine own_dup (pc' := 210) S rfl at_209 rfl ?_
  refine own_bipush (10 : Int32) (pc' := 212) S rfl at_210 rfl ?_
  refine own_iload (pc' := 214) S rfl at_212 rfl ?_
  refine own_iload (pc' := 216) S rfl at_214 rfl ?_
  refine own_iconst (2 : Int32) (pc' := 217) S rfl at_216 rfl ?_
  refine own_iconst (1 : Int32) (pc' := 218) S rfl at_217 rfl ?_
  refine own_callS (pc' := 221) (yy := own_y1) (rm := ({ frames := 0, cells := 0, slots := 0, locals := 0 } : Room)) (W := 4) [(.int mm), (.int (Int32.ofNat n)), (.int (2 : Int32)), (.int (1 : Int32))] [(.int (10 : Int32)), (.ref ca), (.ref ca)] S (List.mem_of_getElem? (i := 2) rfl) (List.mem_of_getElem? (i := 3) rfl) (List.mem_of_getElem? (i := 4) rfl) (List.mem_of_getElem? (i := 5) rfl) (by decide) (own_m1 l Z a0 hw _ n0 (own_size S) mm n 2 1 hn3 (by decide) (by decide)) (ps := [.int, .int, .int, .int]) (r' := some .int) (by decide +kernel) rfl rfl rfl (Nat.le_of_ble_eq_true rfl) (by decide) (by decide) (by decide) (by decide) rfl at_218 ?_
  rintro T h2 _ S ⟨_, rfl, rfl, rfl⟩
  refine own_iastore (pc' := 222) S Ca (k := 10) rfl (by decide) ca0 rfl at_221 ?_
  clear Ca
  intro T h S W Ca
  replace Ae := own_Awr Ae W nec
  refine own_dup (pc' := 223) S rfl at_222 rfl ?_
  refine own_bipush (11 : Int32) (pc' := 225) S rfl at_223 rfl ?_
  refine own_iconst (1 : Int32) (pc' := 226) S rfl at_225 rfl ?_
  refine own_iastore (pc' := 227) S Ca (k := 11) rfl (by decide) ca0 rfl at_226 ?_
  clear Ca
  intro T h S W Ca
  replace Ae := own_Awr Ae W nec
  replace Ca : own_A Z _ ca .int 12 (fun k => .int (own_cf (own_t mm) n k)) := own_Aof Ca (fun k hk => by
    have : k = 0 ∨ k = 1 ∨ k = 2 ∨ k = 3 ∨ k = 4 ∨ k = 5 ∨ k = 6 ∨ k = 7 ∨ k = 8 ∨ k = 9 ∨ k = 10 ∨ k = 11 := by omega
    rcases this with rfl | rfl | rfl | rfl | rfl | rfl | rfl | rfl | rfl | rfl | rfl | rfl <;> rfl)
  refine own_astore (ls' := #[.val (.int x0), .val (.int x1), .val (.int x2), .val (.int x3), .val (.int (Int32.ofNat n)), .val (.int mm), .val (.int (Int32.ofNat s0)), .val (.int (Int32.ofNat len)), .val (.int (Int32.ofNat e0)), .val (.int (Int32.ofNat e1)), .val (.int (Int32.ofNat e2)), .val (.ref en), .val (.ref ca), .unset, .unset, .unset, .unset, .unset, .unset, .unset, .unset]) (pc' := 229) S rfl at_227 rfl rfl ?_
  have elt := own_Alt Ae
  have clt := own_Alt Ca
  refine own_new (pc' := 232) S (List.mem_of_getElem? (i := 6) rfl) (List.mem_of_getElem? (i := 7) rfl) (List.mem_of_getElem? (i := 8) rfl) (by decide) (by decide) rfl at_229 ?_
  intro T h b hb hb0 S Ex E D
  have neb : en ≠ b := by rw [hb]; exact Nat.ne_of_lt elt
  have ncb : ca ≠ b := by rw [hb]; exact Nat.ne_of_lt clt
  replace Ae := own_Aext Ae Ex
  replace Ca := own_Aext Ca Ex
  have Fs : Fld Z h b "com/example/ringloom/ringloom/BetweenCircles" "secondNodes" "I" (.int 0) := D (Or.inr (List.mem_of_getElem? (i := 16) rfl)) (ty := .int) (by decide +kernel)
  have Fo : Fld Z h b "com/example/ringloom/ringloom/BetweenCircles" "others" "I" (.int 0) := D (Or.inr (List.mem_of_getElem? (i := 18) rfl)) (ty := .int) (by decide +kernel)
  have Ft : Fld Z h b "com/example/ringloom/ringloom/BetweenCircles" "taken" "[Z" .null := D (Or.inr (List.mem_of_getElem? (i := 21) rfl)) (ty := (.array .boolean)) (by decide +kernel)
  have Fn : Fld Z h b "com/example/ringloom/ringloom/BetweenCircles" "next" "I" (.int 0) := D (Or.inl (List.mem_of_getElem? (i := 37) rfl)) (ty := .int) (by decide +kernel)
  refine own_dup (pc' := 233) S rfl at_232 rfl ?_
  refine own_iconst (2 : Int32) (pc' := 234) S rfl at_233 rfl ?_
  refine own_iload (pc' := 236) S rfl at_234 rfl ?_
  replace elt := own_Alt Ae
  replace clt := own_Alt Ca
  refine own_callI (pc' := 239) (yy := own_y2) (rm := ({ frames := 1, cells := 1, slots := 6, locals := 12 } : Room)) (W := 4) [(.int (2 : Int32)), (.int (Int32.ofNat n))] [(.ref b)] (b := b) S (List.mem_of_getElem? (i := 9) rfl) (List.mem_of_getElem? (i := 10) rfl) (List.mem_of_getElem? (i := 8) rfl) (List.mem_of_getElem? (i := 11) rfl) rfl (by decide) (own_m2 l Z a0 hw _ n0 (own_size S) b n hn3 hb0 E Fs Fo Ft Fn) (ps := [.int, .int]) (r' := none) (by decide +kernel) rfl rfl rfl (Nat.le_of_ble_eq_true rfl) (by decide) (by decide) (by decide) (by decide) rfl at_236 ?_
  rintro T h _ S ⟨rfl, ta, O, A, ta0, tne, hts, K⟩
  have net : en ≠ ta := Nat.ne_of_lt (Nat.lt_of_lt_of_le elt hts)
  have nct : ca ≠ ta := Nat.ne_of_lt (Nat.lt_of_lt_of_le clt hts)
  replace Ae := own_Akeep Ae K (ninS neb nin0)
  replace Ca := own_Akeep Ca K (ninS ncb nin0)
  clear K E Fs Fo Ft Fn D
  refine own_astore (ls' := #[.val (.int x0), .val (.int x1), .val (.int x2), .val (.int x3), .val (.int (Int32.ofNat n)), .val (.int mm), .val (.int (Int32.ofNat s0)), .val (.int (Int32.ofNat len)), .val (.int (Int32.ofNat e0)), .val (.int (Int32.ofNat e1)), .val (.int (Int32.ofNat e2)), .val (.ref en), .val (.ref ca), .val (.ref b), .unset, .unset, .unset, .unset, .unset, .unset, .unset]) (pc' := 241) S rfl at_239 rfl rfl ?_
  refine own_aload (pc' := 243) S rfl at_241 rfl rfl ?_
  refine own_aload (pc' := 245) S rfl at_243 rfl rfl ?_
  refine own_callV (pc' := 248) (yy := own_y4) (rm := ({ frames := 1, cells := 0, slots := 0, locals := 24 } : Room)) (W := 4) [(.ref ca)] [] (b := b) S (List.mem_of_getElem? (i := 22) rfl) (List.mem_of_getElem? (i := 23) rfl) (List.mem_of_getElem? (i := 25) rfl) (List.mem_of_getElem? (i := 24) rfl) (List.mem_of_getElem? (i := 8) rfl) (List.mem_of_getElem? (i := 26) rfl) (by decide) O.1 (own_m4 l Z a0 hw _ n0 (own_size S) b ta ca n (own_t mm) 0 hn3 ta0 tne.symm nct O Ca A) (ps := [(.array .int)]) (r' := none) (by decide +kernel) rfl rfl rfl (Nat.le_of_ble_eq_true rfl) (by decide) (by decide) (by decide) (by decide) rfl at_245 ?_
  rintro T h _ S ⟨rfl, O, A, K⟩
  replace Ae := own_Akeep Ae K (ninS net nin0)
  clear K
  refine own_aload (pc' := 250) S rfl at_248 rfl rfl ?_
  refine own_iload (pc' := 252) S rfl at_250 rfl ?_
  refine own_callV (pc' := 255) (yy := own_y5) (rm := ({ frames := 0, cells := 0, slots := 0, locals := 0 } : Room)) (W := 4) [(.int (Int32.ofNat s0))] [] (b := b) S (List.mem_of_getElem? (i := 31) rfl) (List.mem_of_getElem? (i := 32) rfl) (List.mem_of_getElem? (i := 34) rfl) (List.mem_of_getElem? (i := 33) rfl) (List.mem_of_getElem? (i := 8) rfl) (List.mem_of_getElem? (i := 35) rfl) (by decide) O.1 (own_m5 l Z a0 hw _ n0 (own_size S) b ta n 0 (Int32.ofNat s0) hb0 O) (ps := [.int]) (r' := none) (by decide +kernel) rfl rfl rfl (Nat.le_of_ble_eq_true rfl) (by decide) (by decide) (by decide) (by decide) rfl at_252 ?_
  rintro T h _ S ⟨rfl, O, K⟩
  replace Ae := own_Akeep Ae K (ninS neb nin0)
  replace A := own_Akeep A K (ninS tne nin0)
  clear K
  refine own_aload (pc' := 257) S rfl at_255 rfl rfl ?_
  refine own_aload (pc' := 259) S rfl at_257 rfl rfl ?_
  refine own_callV (pc' := 262) (yy := own_y6) (rm := ({ frames := 0, cells := 0, slots := 0, locals := 0 } : Room)) (W := 4) [(.ref en)] [] (b := b) S (List.mem_of_getElem? (i := 38) rfl) (List.mem_of_getElem? (i := 39) rfl) (List.mem_of_getElem? (i := 41) rfl) (List.mem_of_getElem? (i := 40) rfl) (List.mem_of_getElem? (i := 8) rfl) (List.mem_of_getElem? (i := 42) rfl) (by decide) O.1 (own_m6 l Z a0 hw _ n0 (own_size S) b ta en n len (own_t mm) (own_e e0 e1 e2) hn3 hn1 hlen (fun j hj => by unfold own_e; split <;> (try split) <;> assumption) s0 hs0 hb0 tne neb O A Ae) (ps := [(.array .int)]) (r' := some .int) (by decide +kernel) rfl rfl rfl (Nat.le_of_ble_eq_true rfl) (by decide) (by decide) (by decide) (by decide) rfl at_259 ?_
  rintro T h _ S ⟨w, rfl, hr⟩
  obtain ⟨g, nx, rfl, O, hres⟩ : ∃ g nx, w = .int g ∧ own_O Z h b n ta nx ∧ own_res (own_t mm) (own_e e0 e1 e2) len n s0 g nx := by
    rcases hr with ⟨k, q1, q2, q3, q4, q5⟩ | ⟨q1, q2, q3⟩
    · exact ⟨_, _, q4, q5, Or.inl ⟨k, q1, q2, q3, rfl, rfl⟩⟩
    · exact ⟨_, _, q2, q3, Or.inr ⟨q1, rfl, rfl⟩⟩
  refine own_istore (ls' := #[.val (.int x0), .val (.int x1), .val (.int x2), .val (.int x3), .val (.int (Int32.ofNat n)), .val (.int mm), .val (.int (Int32.ofNat s0)), .val (.int (Int32.ofNat len)), .val (.int (Int32.ofNat e0)), .val (.int (Int32.ofNat e1)), .val (.int (Int32.ofNat e2)), .val (.ref en), .val (.ref ca), .val (.ref b), .val (.int g), .unset, .unset, .unset, .unset, .unset, .unset]) (pc' := 264) S rfl at_262 rfl ?_
  refine own_aload (pc' := 266) S rfl at_264 rfl rfl ?_
  refine own_callV (pc' := 269) (yy := own_y7) (rm := ({ frames := 0, cells := 0, slots := 0, locals := 0 } : Room)) (W := 4) [] [] (b := b) S (List.mem_of_getElem? (i := 43) rfl) (List.mem_of_getElem? (i := 44) rfl) (List.mem_of_getElem? (i := 46) rfl) (List.mem_of_getElem? (i := 45) rfl) (List.mem_of_getElem? (i := 8) rfl) (List.mem_of_getElem? (i := 47) rfl) (by decide) O.1 (own_m7 l Z a0 hw _ n0 (own_size S) b ta n nx O) (ps := []) (r' := some .int) (by decide +kernel) rfl rfl rfl (Nat.le_of_ble_eq_true rfl) (by decide) (by decide) (by decide) (by decide) rfl at_266 ?_
  rintro T h2 _ S ⟨_, rfl, rfl, rfl⟩
  refine own_istore (ls' := #[.val (.int x0), .val (.int x1), .val (.int x2), .val (.int x3), .val (.int (Int32.ofNat n)), .val (.int mm), .val (.int (Int32.ofNat s0)), .val (.int (Int32.ofNat len)), .val (.int (Int32.ofNat e0)), .val (.int (Int32.ofNat e1)), .val (.int (Int32.ofNat e2)), .val (.ref en), .val (.ref ca), .val (.ref b), .val (.int g), .val (.int nx), .unset, .unset, .unset, .unset, .unset]) (pc' := 271) S rfl at_269 rfl ?_
  exact own_k271 x0 x1 x2 x3 mm n s0 len e0 e1 e2 hn3 hn1 hs0 hlen he0 he1 he2 g nx S hres
theorem own_pn0 : plainName "com/example/ringloom/ringloom/BetweenCirclesFreeNodePinLaw" = true := by first | (simp [plainName, overriddenIn]; done) | decide +kernel
theorem own_ef0 (m : MethodId) (x0 : Int32) (x1 : Int32) (x2 : Int32) (x3 : Int32) : entryFrame m #[(.int x0), (.int x1), (.int x2), (.int x3)] maxLocals = mkF m 0 #[.val (.int x0), .val (.int x1), .val (.int x2), .val (.int x3), .unset, .unset, .unset, .unset, .unset, .unset, .unset, .unset, .unset, .unset, .unset, .unset, .unset, .unset, .unset, .unset, .unset] [] := by first | (simp [entryFrame, mkF, argsToLocals, Value.category, maxLocals]; done) | rfl
set_option maxRecDepth 65536 in
set_option maxHeartbeats 40000000 in
theorem own_m0 (l : Launch) (Z : State) (a0 : Array Value) (hw : ∀ d ∈ tables_1, d.before a0 Z = true) (x0 : Int32) (x1 : Int32) (x2 : Int32) (x3 : Int32) (h0 : Heap) (n0 : Nat) (hn : n0 ≤ h0.size) :
    own_Met l Z h0 n0 x code maxLocals ret tables_1 room_1 #[(.int x0), (.int x1), (.int x2), (.int x3)] (own_V fun w h => w = .int 1) := by
  refine own_met (ls := #[.val (.int x0), .val (.int x1), .val (.int x2), .val (.int x3), .unset, .unset, .unset, .unset, .unset, .unset, .unset, .unset, .unset, .unset, .unset, .unset, .unset, .unset, .unset, .unset, .unset]) own_pn0 (fun m => own_ef0 m x0 x1 x2 x3) hn hw fun p e s m below meth c T S => ?_
  have km : (2147483647 : Int32).toInt = 2147483647 := rfl
  have k3 : (3 : Int32).toInt = 3 := rfl
  have k1 : (1 : Int32).toInt = 1 := rfl
  obtain ⟨n, hn3, hn1, en_⟩ : ∃ n : Nat, n < 4 ∧ 1 ≤ n ∧ (1 : Int32) + (x0 &&& 2147483647) % 3 = Int32.ofNat n := by
    obtain ⟨k, hk, ek⟩ := own_mask x0 2147483647 (by decide)
    refine ⟨1 + k % 3, by omega, by omega, ?_⟩
    rw [ek, show (3 : Int32) = Int32.ofNat 3 from rfl, own_modN (by omega) (by omega)]
    exact own_addN 1 _
  obtain ⟨s0, hs0, es_⟩ : ∃ s : Nat, s < n ∧ (x2 &&& 2147483647) % Int32.ofNat n = Int32.ofNat s := by
    obtain ⟨k, hk, ek⟩ := own_mask x2 2147483647 (by decide)
    exact ⟨k % n, Nat.mod_lt _ (by omega), by rw [ek, own_modN (by omega) (by omega)]⟩
  obtain ⟨len, hlen', el_⟩ := own_mask x3 3 (by decide)
  obtain ⟨e0, he0', ee0⟩ := own_mask (x3 >>> ((2 : Int32) &&& 31)) 1 (by decide)
  obtain ⟨e1, he1', ee1⟩ := own_mask (x3 >>> ((3 : Int32) &&& 31)) 1 (by decide)
  obtain ⟨e2, he2', ee2⟩ := own_mask (x3 >>> ((4 : Int32) &&& 31)) 1 (by decide)
  have hlen : len < 4 := by omega
  have he0 : e0 < 2 := by omega
  have he1 : e1 < 2 := by omega
  have he2 : e2 < 2 := by omega
  have tl := own_tn (i := len) (by omega)
  refine own_iconst (1 : Int32) (pc' := 1) S rfl at_0 rfl ?_
  refine own_iloadN (pc' := 2) S rfl at_1 rfl ?_
  refine own_ldc (v := (2147483647 : Int32)) (pc' := 4) S rfl at_2 (List.mem_of_getElem? (i := 0) rfl) ?_
  refine own_iand (pc' := 5) S rfl at_4 ?_
  refine own_iconst (3 : Int32) (pc' := 6) S rfl at_5 rfl ?_
  refine own_irem (pc' := 7) S rfl at_6 (by decide) ?_
  refine own_iadd (pc' := 8) S rfl at_7 ?_
  rw [en_]
  refine own_istore (ls' := #[.val (.int x0), .val (.int x1), .val (.int x2), .val (.int x3), .val (.int (Int32.ofNat n)), .unset, .unset, .unset, .unset, .unset, .unset, .unset, .unset, .unset, .unset, .unset, .unset, .unset, .unset, .unset, .unset]) (pc' := 10) S rfl at_8 rfl ?_
  refine own_iloadN (pc' := 11) S rfl at_10 rfl ?_
  refine own_bipush (63 : Int32) (pc' := 13) S rfl at_11 rfl ?_
  refine own_iand (pc' := 14) S rfl at_13 ?_
  refine own_istore (ls' := #[.val (.int x0), .val (.int x1), .val (.int x2), .val (.int x3), .val (.int (Int32.ofNat n)), .val (.int (x1 &&& (63 : Int32))), .unset, .unset, .unset, .unset, .unset, .unset, .unset, .unset, .unset, .unset, .unset, .unset, .unset, .unset, .unset]) (pc' := 16) S rfl at_14 rfl ?_
  refine own_iloadN (pc' := 17) S rfl at_16 rfl ?_
  refine own_ldc (v := (2147483647 : Int32)) (pc' := 19) S rfl at_17 (List.mem_of_getElem? (i := 0) rfl) ?_
  refine own_iand (pc' := 20) S rfl at_19 ?_
  refine own_iload (pc' := 22) S rfl at_20 rfl ?_
  refine own_irem (pc' := 23) S rfl at_22 (own_nz (by omega) (by omega)) ?_
  rw [es_]
  refine own_istore (ls' := #[.val (.int x0), .val (.int x1), .val (.int x2), .val (.int x3), .val (.int (Int32.ofNat n)), .val (.int (x1 &&& (63 : Int32))), .val (.int (Int32.ofNat s0)), .unset, .unset, .unset, .unset, .unset, .unset, .unset, .unset, .unset, .unset, .unset, .unset, .unset, .unset]) (pc' := 25) S rfl at_23 rfl ?_
  refine own_iloadN (pc' := 26) S rfl at_25 rfl ?_
  refine own_iconst (3 : Int32) (pc' := 27) S rfl at_26 rfl ?_
  refine own_iand (pc' := 28) S rfl at_27 ?_
  rw [el_]
  refine own_istore (ls' := #[.val (.int x0), .val (.int x1), .val (.int x2), .val (.int x3), .val (.int (Int32.ofNat n)), .val (.int (x1 &&& (63 : Int32))), .val (.int (Int32.ofNat s0)), .val (.int (Int32.ofNat len)), .unset, .unset, .unset, .unset, .unset, .unset, .unset, .unset, .unset, .unset, .unset, .unset, .unset]) (pc' := 30) S rfl at_28 rfl ?_
  refine own_iloadN (pc' := 31) S rfl at_30 rfl ?_
  refine own_iconst (2 : Int32) (pc' := 32) S rfl at_31 rfl ?_
  refine own_ishr (pc' := 33) S rfl at_32 ?_
  refine own_iconst (1 : Int32) (pc' := 34) S rfl at_33 rfl ?_
  refine own_iand (pc' := 35) S rfl at_34 ?_
  rw [ee0]
  refine own_istore (ls' := #[.val (.int x0), .val (.int x1), .val (.int x2), .val (.int x3), .val (.int (Int32.ofNat n)), .val (.int (x1 &&& (63 : Int32))), .val (.int (Int32.ofNat s0)), .val (.int (Int32.ofNat len)), .val (.int (Int32.ofNat e0)), .unset, .unset, .unset, .unset, .unset, .unset, .unset, .unset, .unset, .unset, .unset, .unset]) (pc' := 37) S rfl at_35 rfl ?_
  refine own_iloadN (pc' := 38) S rfl at_37 rfl ?_
  refine own_iconst (3 : Int32) (pc' := 39) S rfl at_38 rfl ?_
  refine own_ishr (pc' := 40) S rfl at_39 ?_
  refine own_iconst (1 : Int32) (pc' := 41) S rfl at_40 rfl ?_
  refine own_iand (pc' := 42) S rfl at_41 ?_
  rw [ee1]
  refine own_istore (ls' := #[.val (.int x0), .val (.int x1), .val (.int x2), .val (.int x3), .val (.int (Int32.ofNat n)), .val (.int (x1 &&& (63 : Int32))), .val (.int (Int32.ofNat s0)), .val (.int (Int32.ofNat len)), .val (.int (Int32.ofNat e0)), .val (.int (Int32.ofNat e1)), .unset, .unset, .unset, .unset, .unset, .unset, .unset, .unset, .unset, .unset, .unset]) (pc' := 44) S rfl at_42 rfl ?_
  refine own_iloadN (pc' := 45) S rfl at_44 rfl ?_
  refine own_iconst (4 : Int32) (pc' := 46) S rfl at_45 rfl ?_
  refine own_ishr (pc' := 47) S rfl at_46 ?_
  refine own_iconst (1 : Int32) (pc' := 48) S rfl at_47 rfl ?_
  refine own_iand (pc' := 49) S rfl at_48 ?_
  rw [ee2]
  refine own_istore (ls' := #[.val (.int x0), .val (.int x1), .val (.int x2), .val (.int x3), .val (.int (Int32.ofNat n)), .val (.int (x1 &&& (63 : Int32))), .val (.int (Int32.ofNat s0)), .val (.int (Int32.ofNat len)), .val (.int (Int32.ofNat e0)), .val (.int (Int32.ofNat e1)), .val (.int (Int32.ofNat e2)), .unset, .unset, .unset, .unset, .unset, .unset, .unset, .unset, .unset, .unset]) (pc' := 51) S rfl at_49 rfl ?_
  refine own_iload (pc' := 53) S rfl at_51 rfl ?_
  refine own_if (pt := 62) (pc' := 56) S (by decide) rfl rfl at_53 ?_ ?_
  · intro c53
    replace c53 := own_ne_t ((if0 _ _).symm.trans c53)
    have e53 := own_ten c53
    have k53 : (0 : Int32).toInt = 0 := rfl
    refine own_iload (pc' := 64) S rfl at_62 rfl ?_
    refine own_iconst (1 : Int32) (pc' := 65) S rfl at_64 rfl ?_
    refine own_ic (pt := 79) (pc' := 68) S (by decide) rfl rfl at_65 ?_ ?_
    · intro c65
      replace c65 := own_ne_t c65
      have e65 := own_ten c65
      have k65 : (1 : Int32).toInt = 1 := rfl
      refine own_iload (pc' := 81) S rfl at_79 rfl ?_
      refine own_iconst (2 : Int32) (pc' := 82) S rfl at_81 rfl ?_
      refine own_ic (pt := 101) (pc' := 85) S (by decide) rfl rfl at_82 ?_ ?_
      · intro c82
        replace c82 := own_ne_t c82
        have e82 := own_ten c82
        have k82 : (2 : Int32).toInt = 2 := rfl
        refine own_iconst (3 : Int32) (pc' := 102) S rfl at_101 rfl ?_
        refine own_newarray (pc' := 104) 3 S (List.mem_of_getElem? (i := 1) rfl) (n := 3) rfl (by decide) (by decide) (by decide) (by decide) rfl at_102 ?_
        intro T h en hen en0 S Ex Ae
        refine own_dup (pc' := 105) S rfl at_104 rfl ?_
        refine own_iconst (0 : Int32) (pc' := 106) S rfl at_105 rfl ?_
        refine own_iload (pc' := 108) S rfl at_106 rfl ?_
        refine own_iastore (pc' := 109) S Ae (k := 0) rfl (by decide) en0 rfl at_108 ?_
        clear Ae
        intro T h S W Ae
        refine own_dup (pc' := 110) S rfl at_109 rfl ?_
        refine own_iconst (1 : Int32) (pc' := 111) S rfl at_110 rfl ?_
        refine own_iload (pc' := 113) S rfl at_111 rfl ?_
        refine own_iastore (pc' := 114) S Ae (k := 1) rfl (by decide) en0 rfl at_113 ?_
        clear Ae
        intro T h S W Ae
        refine own_dup (pc' := 115) S rfl at_114 rfl ?_
        refine own_iconst (2 : Int32) (pc' := 116) S rfl at_115 rfl ?_
        refine own_iload (pc' := 118) S rfl at_116 rfl ?_
        refine own_iastore (pc' := 119) S Ae (k := 2) rfl (by decide) en0 rfl at_118 ?_
        clear Ae
        intro T h S W Ae
        have eln : len = 3 := by omega
        subst eln
        refine own_k119 x0 x1 x2 x3 _ n s0 3 e0 e1 e2 hn3 hn1 hs0 hlen he0 he1 he2 S (own_Aof Ae fun j hj => ?_)
        have : j = 0 ∨ j = 1 ∨ j = 2 := by omega
        rcases this with rfl | rfl | rfl <;> rfl
      · intro c82
        replace c82 := own_ne_f c82
        have e82 := congrArg Int32.toInt c82
        have k82 : (2 : Int32).toInt = 2 := rfl
        refine own_iconst (2 : Int32) (pc' := 86) S rfl at_85 rfl ?_
        refine own_newarray (pc' := 88) 3 S (List.mem_of_getElem? (i := 1) rfl) (n := 2) rfl (by decide) (by decide) (by decide) (by decide) rfl at_86 ?_
        intro T h en hen en0 S Ex Ae
        refine own_dup (pc' := 89) S rfl at_88 rfl ?_
        refine own_iconst (0 : Int32) (pc' := 90) S rfl at_89 rfl ?_
        refine own_iload (pc' := 92) S rfl at_90 rfl ?_
        refine own_iastore (pc' := 93) S Ae (k := 0) rfl (by decide) en0 rfl at_92 ?_
        clear Ae
        intro T h S W Ae
        refine own_dup (pc' := 94) S rfl at_93 rfl ?_
        refine own_iconst (1 : Int32) (pc' := 95) S rfl at_94 rfl ?_
        refine own_iload (pc' := 97) S rfl at_95 rfl ?_
        refine own_iastore (pc' := 98) S Ae (k := 1) rfl (by decide) en0 rfl at_97 ?_
        clear Ae
        intro T h S W Ae
        refine own_goto (pc' := 119) S (by decide) rfl at_98 ?_
        have eln : len = 2 := by omega
        subst eln
        refine own_k119 x0 x1 x2 x3 _ n s0 2 e0 e1 e2 hn3 hn1 hs0 hlen he0 he1 he2 S (own_Aof Ae fun j hj => ?_)
        have : j = 0 ∨ j = 1 := by omega
        rcases this with rfl | rfl <;> rfl
    · intro c65
      replace c65 := own_ne_f c65
      have e65 := congrArg Int32.toInt c65
      have k65 : (1 : Int32).toInt = 1 := rfl
      refine own_iconst (1 : Int32) (pc' := 69) S rfl at_68 rfl ?_
      refine own_newarray (pc' := 71) 3 S (List.mem_of_getElem? (i := 1) rfl) (n := 1) rfl (by decide) (by decide) (by decide) (by decide) rfl at_69 ?_
      intro T h en hen en0 S Ex Ae
      refine own_dup (pc' := 72) S rfl at_71 rfl ?_
      refine own_iconst (0 : Int32) (pc' := 73) S rfl at_72 rfl ?_
      refine own_iload (pc' := 75) S rfl at_73 rfl ?_
      refine own_iastore (pc' := 76) S Ae (k := 0) rfl (by decide) en0 rfl at_75 ?_
      clear Ae
      intro T h S W Ae
      refine own_goto (pc' := 119) S (by decide) rfl at_76 ?_
      have eln : len = 1 := by omega
      subst eln
      refine own_k119 x0 x1 x2 x3 _ n s0 1 e0 e1 e2 hn3 hn1 hs0 hlen he0 he1 he2 S (own_Aof Ae fun j hj => ?_)
      have : j = 0 := by omega
      rcases this with rfl <;> rfl
  · intro c53
    replace c53 := own_ne_f ((if0 _ _).symm.trans c53)
    have e53 := congrArg Int32.toInt c53
    have k53 : (0 : Int32).toInt = 0 := rfl
    refine own_iconst (0 : Int32) (pc' := 57) S rfl at_56 rfl ?_
    refine own_newarray (pc' := 59) 3 S (List.mem_of_getElem? (i := 1) rfl) (n := 0) rfl (by decide) (by decide) (by decide) (by decide) rfl at_57 ?_
    intro T h en hen en0 S Ex Ae
    refine own_goto (pc' := 119) S (by decide) rfl at_59 ?_
    have eln : len = 0 := by omega
    subst eln
    refine own_k119 x0 x1 x2 x3 _ n s0 0 e0 e1 e2 hn3 hn1 hs0 hlen he0 he1 he2 S (own_Aof Ae fun j hj => ?_)
    omega
set_option maxRecDepth 65536 in
set_option maxHeartbeats 40000000 in
theorem own_comes {Post : Tables → Env → Array Value → State → Outcome → State → Prop} (hpost : ∀ tb e args s v u, (limb_1_1.after args s (.returned v) u = true ∧ limb_1_2.after args s (.returned v) u = true ∧ True) → FrameEnd s (.returned v) u (Jvm.fieldLocs frame_1_writes args s ++ Jvm.arrayLocs frame_1_arrays args s ++ Jvm.staticLocs frame_1_statics s) 16 128 → Post tb e args s (.returned v) u) :
    ArmFor flags0 classFile x code maxLocals ret World_1 tables_1 room_1 Calls_1 rest_1 Pre_1 Post := by
  intro l hfl _ _ p e ha hc hk s m args below hf hA hF happ hP
  obtain ⟨hcalls, hrest, hpre⟩ := hP
  obtain ⟨-, -, -, hnamed, -, -, -, hat⟩ := (Spec.applies_iff hf).mp happ
  obtain ⟨hg, hn⟩ := and_e (Cond.before_iff.mp (show (Jvm.Cond.and given_1 narrow_1).before args s = true from hpre))
  obtain ⟨g0, r0⟩ := and_e hg
  obtain ⟨b0, r1⟩ := and_e r0
  obtain ⟨b1, r2⟩ := and_e r1
  obtain ⟨b2, r3⟩ := and_e r2
  have b3 := r3
  obtain ⟨w0, w1, w2, w3, rfl⟩ : ∃ w0 w1 w2 w3 : Value, args = #[w0, w1, w2, w3] := by
    have hs : args.size = 4 := by simpa [Cond.value, given_1] using g0
    obtain ⟨L⟩ := args
    match L, hs with
    | [w0, w1, w2, w3], _ => exact ⟨w0, w1, w2, w3, rfl⟩
  have hw := fun d (hd : d ∈ tables_1) => atoms_spec (ws := Jvm.Cond.code x code maxLocals ret :: tables_1) hat d (List.mem_cons_of_mem _ hd)
  obtain ⟨i0, ei0⟩ := is_v b0
  obtain rfl : w0 = (.int i0) := Option.some.inj ei0
  obtain ⟨i1, ei1⟩ := is_v b1
  obtain rfl : w1 = (.int i1) := Option.some.inj ei1
  obtain ⟨i2, ei2⟩ := is_v b2
  obtain rfl : w2 = (.int i2) := Option.some.inj ei2
  obtain ⟨i3, ei3⟩ := is_v b3
  obtain rfl : w3 = (.int i3) := Option.some.inj ei3
  obtain ⟨n, o, h1, h2, h3, _, L, rfl, ⟨⟨_, rfl, rfl⟩, N⟩, hq⟩ := own_m0 l s _ hw i0 i1 i2 i3 s.heap s.heap.size (Nat.le_refl _) p e ha hc hk s m _ below hf ((Spec.applies_iff_loose hf).mp happ).1 ⟨rfl, State.Warmed39.refl s, rfl⟩ trivial
  exact ⟨n, _, h1, h2, h3, hpost _ _ _ _ _ _ ⟨Cond.after_iff.mpr rfl, Cond.after_iff.mpr (eq_i res_at (Term.int_eval (1)) rfl), trivial⟩ ⟨hq.1, hq.2.1, (hq.2.2.sift fun y hy => Or.inr (N y hy)).mono (by decide) (by decide)⟩⟩
theorem main_1_1 : Claimed_1_1 := own_comes fun _ _ _ _ _ _ h hF => ⟨h.1, hF⟩
theorem main_1_2 : Claimed_1_2 := own_comes fun _ _ _ _ _ _ h hF => ⟨h.2.1, hF⟩
end Jvm.Pilot.@@N@@
namespace Jvm.Pilot.@@N@@
open Jvm Jvm.ClassFile Sem Op Lib Jvm.Free Jvm.Stand Jvm.Pilot.@@N@@.Jvm.D
/-! MADE BY PROGRAM (witnessworld.py) out of the Statement's table words and the real class files: 11 classes; the members and pool entries that the words name. The judged class is class 1, her method 4. -/
namespace start1
open Jvm.ClassFile
def u (s : String) : CpInfo := .utf8 (stringToUtf16 s)
/-- a pool by its gaps: so many unusable entries, then the entry; so many at the end -/
def gap : Nat → List CpInfo → List CpInfo
  | 0, r => r
  | n + 1, r => .unusable :: gap n r
def poolList (es : List (Nat × CpInfo)) (last : Nat) : List CpInfo := es.foldr (fun e r => gap e.1 (e.2 :: r)) (gap last [])
def pool (es : List (Nat × CpInfo)) (last : Nat) : Array CpInfo := ⟨poolList es last⟩
def fileOf (pool : Array CpInfo) (this : Nat) (attrs : Array Attribute := #[]) (ms : Array MethodInfo := #[]) (fl : Nat := 33) (sup : Nat := 0) (ifs : Array Nat := #[]) (fds : Array FieldInfo := #[]) : ClassFile where
  minorVersion := 0
  majorVersion := 65
  constantPool := pool
  accessFlags := fl
  thisClass := this
  superClass := sup
  interfaces := ifs
  fields := fds
  methods := ms
  attributes := attrs
def plain (name : String) (sup : Option ClassId) : Class where
  name := name
  kind := .ordinary
  loader := none
  accessFlags := 33
  super := sup
  interfaces := #[]
  cf := none
  fields := #[]
  methods := #[]
  instanceTypes := #[]
  staticTypes := #[]
  resolved := #[]
  callSites := []
  init := .initialized
  statics := none
  mirror := none

def pool0 : Array CpInfo := pool [(5, u "<init>"), (0, u "()V"), (1, .class_ 10), (1, u "java/lang/Object")] 113

def k0c0 : Code := { maxStack := 0, maxLocals := 1, code := object_method_1_code, exceptionTable := #[], attributes := #[] }
def k0m0 : Method := { name := "<init>", desc := "()V", sig := { parameters := [], returnType := none }, accessFlags := 1, code := some k0c0 }
/-- java/lang/Object -/
def k0 : Class := { plain "java/lang/Object" none with
  accessFlags := 33
  interfaces := #[]
  cf := some (fileOf pool0 8 #[] #[{ accessFlags := 1, nameIndex := 5, descriptorIndex := 6, attributes := #[] }] 33 0 #[] #[])
  fields := #[]
  methods := #[k0m0]
  instanceTypes := #[]
  staticTypes := #[]
  resolved := Array.replicate 124 none
  statics := none }

def pool1 : Array CpInfo := pool [(2, .class_ 4), (1, u "java/lang/Object"), (0, u "<init>"), (0, u "()V"), (0, .methodref 8 9), (0, .class_ 10), (0, .nameAndType 11 12), (0, u "com/example/ringloom/ringloom/BetweenCirclesFreeNodePinLaw"), (0, u "takenBit"), (0, u "(III)Z"), (0, .integer 2147483647), (0, .methodref 8 15), (0, .nameAndType 16 17), (0, u "circle"), (0, u "(IIII)I"), (0, .class_ 19), (0, u "com/example/ringloom/ringloom/BetweenCircles"), (0, .methodref 18 21), (0, .nameAndType 5 22), (0, u "(II)V"), (0, .methodref 18 24), (0, .nameAndType 25 26), (0, u "take"), (0, u "([I)V"), (0, .methodref 18 28), (0, .nameAndType 29 30), (0, u "resume"), (0, u "(I)V"), (0, .methodref 18 32), (0, .nameAndType 33 34), (0, u "freeNode"), (0, u "([I)I"), (0, .methodref 18 36), (0, .nameAndType 37 38), (0, u "position"), (0, u "()I"), (0, .methodref 8 40), (0, .nameAndType 41 42), (0, u "free"), (0, u "(IIIIII)Z"), (3, u "law"), (0, u "(IIII)Z")] 4

def k1m0 : Method := { name := "<init>", desc := "()V", sig := { parameters := [], returnType := none }, accessFlags := 1, code := none }
def k1c1 : Code := { maxStack := 3, maxLocals := 4, code := method_2_code, exceptionTable := #[], attributes := #[] }
def k1m1 : Method := { name := "circle", desc := "(IIII)I", sig := { parameters := [.int, .int, .int, .int], returnType := some .int }, accessFlags := 10, code := some k1c1 }
def k1c2 : Code := { maxStack := 3, maxLocals := 3, code := method_3_code, exceptionTable := #[], attributes := #[] }
def k1m2 : Method := { name := "takenBit", desc := "(III)Z", sig := { parameters := [.int, .int, .int], returnType := some .boolean }, accessFlags := 10, code := some k1c2 }
def k1c3 : Code := { maxStack := 3, maxLocals := 6, code := method_4_code, exceptionTable := #[], attributes := #[] }
def k1m3 : Method := { name := "free", desc := "(IIIIII)Z", sig := { parameters := [.int, .int, .int, .int, .int, .int], returnType := some .boolean }, accessFlags := 10, code := some k1c3 }
def k1c4 : Code := { maxStack := 7, maxLocals := 21, code := code, exceptionTable := #[], attributes := #[] }
def k1m4 : Method := { name := "law", desc := "(IIII)Z", sig := { parameters := [.int, .int, .int, .int], returnType := some .boolean }, accessFlags := 9, code := some k1c4 }
/-- com/example/ringloom/ringloom/BetweenCirclesFreeNodePinLaw -/
def k1 : Class := { plain "com/example/ringloom/ringloom/BetweenCirclesFreeNodePinLaw" (some 0) with
  accessFlags := 49
  interfaces := #[]
  cf := some (fileOf pool1 8 #[] #[{ accessFlags := 1, nameIndex := 5, descriptorIndex := 6, attributes := #[] }, { accessFlags := 10, nameIndex := 16, descriptorIndex := 17, attributes := #[] }, { accessFlags := 10, nameIndex := 11, descriptorIndex := 12, attributes := #[] }, { accessFlags := 10, nameIndex := 41, descriptorIndex := 42, attributes := #[] }, { accessFlags := 9, nameIndex := 46, descriptorIndex := 47, attributes := #[] }] 49 2 #[] #[])
  fields := #[]
  methods := #[k1m0, k1m1, k1m2, k1m3, k1m4]
  instanceTypes := #[]
  staticTypes := #[]
  resolved := Array.replicate 52 none
  statics := none }

def pool2 : Array CpInfo := pool [(1, .methodref 2 3), (0, .class_ 4), (0, .nameAndType 5 6), (0, u "java/lang/Object"), (0, u "<init>"), (0, u "()V"), (0, .fieldref 8 9), (0, .class_ 10), (0, .nameAndType 11 12), (0, u "com/example/ringloom/ringloom/BetweenCircles"), (0, u "secondNodes"), (0, u "I"), (0, .fieldref 8 14), (0, .nameAndType 15 12), (0, u "others"), (0, .fieldref 8 17), (0, .nameAndType 18 19), (0, u "taken"), (0, u "[Z"), (0, .methodref 8 21), (0, .nameAndType 22 23), (0, u "mark"), (0, u "([IZ)V"), (0, .fieldref 8 25), (0, .nameAndType 26 12), (0, u "next"), (2, u "freeNode"), (0, u "([I)I"), (19, u "take"), (0, u "([I)V"), (7, u "(II)V"), (5, u "position"), (0, u "()I"), (0, u "resume"), (0, u "(I)V")] 25

def k2c0 : Code := { maxStack := 3, maxLocals := 3, code := prog_1_method_1_code, exceptionTable := #[], attributes := #[] }
def k2m0 : Method := { name := "<init>", desc := "(II)V", sig := { parameters := [.int, .int], returnType := none }, accessFlags := 0, code := some k2c0 }
def k2c1 : Code := { maxStack := 3, maxLocals := 2, code := prog_1_method_2_code, exceptionTable := #[], attributes := #[] }
def k2m1 : Method := { name := "take", desc := "([I)V", sig := { parameters := [(.array .int)], returnType := none }, accessFlags := 128, code := some k2c1 }
def k2c2 : Code := { maxStack := 4, maxLocals := 9, code := prog_1_method_4_code, exceptionTable := #[], attributes := #[] }
def k2m2 : Method := { name := "freeNode", desc := "([I)I", sig := { parameters := [(.array .int)], returnType := some .int }, accessFlags := 128, code := some k2c2 }
def k2c3 : Code := { maxStack := 1, maxLocals := 1, code := prog_1_method_6_code, exceptionTable := #[], attributes := #[] }
def k2m3 : Method := { name := "position", desc := "()I", sig := { parameters := [], returnType := some .int }, accessFlags := 0, code := some k2c3 }
def k2c4 : Code := { maxStack := 2, maxLocals := 2, code := prog_1_method_7_code, exceptionTable := #[], attributes := #[] }
def k2m4 : Method := { name := "resume", desc := "(I)V", sig := { parameters := [.int], returnType := none }, accessFlags := 0, code := some k2c4 }
def k2c5 : Code := { maxStack := 5, maxLocals := 4, code := prog_1_method_12_code, exceptionTable := #[], attributes := #[] }
def k2m5 : Method := { name := "mark", desc := "([IZ)V", sig := { parameters := [(.array .int), .boolean], returnType := none }, accessFlags := 2, code := some k2c5 }
/-- com/example/ringloom/ringloom/BetweenCircles -/
def k2 : Class := { plain "com/example/ringloom/ringloom/BetweenCircles" (some 0) with
  accessFlags := 48
  interfaces := #[]
  cf := some (fileOf pool2 8 #[] #[{ accessFlags := 0, nameIndex := 5, descriptorIndex := 59, attributes := #[] }, { accessFlags := 128, nameIndex := 50, descriptorIndex := 51, attributes := #[] }, { accessFlags := 128, nameIndex := 29, descriptorIndex := 30, attributes := #[] }, { accessFlags := 0, nameIndex := 65, descriptorIndex := 66, attributes := #[] }, { accessFlags := 0, nameIndex := 67, descriptorIndex := 68, attributes := #[] }, { accessFlags := 2, nameIndex := 22, descriptorIndex := 23, attributes := #[] }] 48 2 #[] #[{ accessFlags := 18, nameIndex := 11, descriptorIndex := 12, attributes := #[] }, { accessFlags := 18, nameIndex := 15, descriptorIndex := 12, attributes := #[] }, { accessFlags := 18, nameIndex := 18, descriptorIndex := 19, attributes := #[] }, { accessFlags := 2, nameIndex := 26, descriptorIndex := 12, attributes := #[] }])
  fields := #[{ name := "secondNodes", type := .int, accessFlags := 18, slot := 0, constantValue := 0 }, { name := "others", type := .int, accessFlags := 18, slot := 1, constantValue := 0 }, { name := "taken", type := (.array .boolean), accessFlags := 18, slot := 2, constantValue := 0 }, { name := "next", type := .int, accessFlags := 2, slot := 3, constantValue := 0 }]
  methods := #[k2m0, k2m1, k2m2, k2m3, k2m4, k2m5]
  instanceTypes := #[.int, .int, (.array .boolean), .int]
  staticTypes := #[]
  resolved := Array.replicate 94 none
  statics := none }

def pool3 : Array CpInfo := pool [(1, u "java/lang/Cloneable"), (0, .class_ 1), (0, u "java/lang/Object"), (0, .class_ 3)] 3

/-- java/lang/Cloneable -/
def k3 : Class := { plain "java/lang/Cloneable" (some 0) with
  accessFlags := 1537
  interfaces := #[]
  cf := some (fileOf pool3 2 #[] #[] 1537 4 #[] #[])
  fields := #[]
  methods := #[]
  instanceTypes := #[]
  staticTypes := #[]
  resolved := Array.replicate 8 none
  statics := none }

def pool4 : Array CpInfo := pool [(1, u "java/io/Serializable"), (0, .class_ 1), (0, u "java/lang/Object"), (0, .class_ 3)] 3

/-- java/io/Serializable -/
def k4 : Class := { plain "java/io/Serializable" (some 0) with
  accessFlags := 1537
  interfaces := #[]
  cf := some (fileOf pool4 2 #[] #[] 1537 4 #[] #[])
  fields := #[]
  methods := #[]
  instanceTypes := #[]
  staticTypes := #[]
  resolved := Array.replicate 8 none
  statics := none }

/-- the primitive boolean -/
def k5 : Class := { plain "boolean" none with kind := .primitive 'Z', accessFlags := 0x411 }
/-- [Z -/
def k6 : Class := { plain "[Z" (some 0) with kind := .array 5 .boolean, interfaces := #[3, 4], accessFlags := 1041 }

/-- the primitive byte -/
def k7 : Class := { plain "byte" none with kind := .primitive 'B', accessFlags := 0x411 }
/-- [B -/
def k8 : Class := { plain "[B" (some 0) with kind := .array 7 .byte, interfaces := #[3, 4], accessFlags := 1041 }

/-- the primitive int -/
def k9 : Class := { plain "int" none with kind := .primitive 'I', accessFlags := 0x411 }
/-- [I -/
def k10 : Class := { plain "[I" (some 0) with kind := .array 9 .int, interfaces := #[3, 4], accessFlags := 1041 }

def heap : Heap := #[]
def classes : Array Class := #[k0, k1, k2, k3, k4, k5, k6, k7, k8, k9, k10]
def interned : List (Array UInt16 × Addr) := []
def slotsUsed : Nat := 0
def theMethod : MethodId := ⟨1, 4⟩
def args0 : Array Value := #[.int 1, .int 2, .int 3, .int 4]
def aboutOver (below : List Frame) : State where
  vm := { classes := classes, interned := interned.toArray }
  heap := heap
  slotsUsed := slotsUsed
  threads := #[{ frames := .invoking theMethod args0 :: below }]
def below0 : List Frame := [.native { method := ⟨0, 0⟩, args := #[] }]
def about1 : State := aboutOver below0
def p0 : Program := .bare "" "" ""
def e0 : Env := launch0.env 0 0 0
theorem w_frames : about1.frames = Frame.invoking theMethod args0 :: below0 := rfl
set_option maxRecDepth 65536 in
theorem w_args : argsFit about1.vm theMethod args0 = true := by decide +kernel
set_option maxRecDepth 65536 in
theorem w_heap : heapFits about1 = true := by decide +kernel
set_option maxRecDepth 65536 in
theorem w_runnable : about1.curStatus? = some .runnable := by decide +kernel
set_option maxRecDepth 65536 in
theorem w_alone : about1.alone = true := by decide +kernel
set_option maxRecDepth 65536 in
theorem w_named : about1.methodNamed? x = some theMethod := by decide +kernel
set_option maxRecDepth 65536 in
theorem w_hears : about1.hears theMethod below0 = true := by decide +kernel
set_option maxRecDepth 65536 in
theorem w_ripe : about1.ripe theMethod args0 below0 = true := by decide +kernel
theorem w_running : about1.status = .running := rfl
set_option maxRecDepth 65536 in
theorem w_room : about1.hasRoom e0.platform room_1 = true :=
  launch0.hasRoom_least _ room_1 (by decide +kernel) (by decide +kernel) (by decide +kernel) (by decide +kernel) (by decide +kernel) (by decide +kernel)
theorem allAtoms_all (ts : List Jvm.Cond) (a : Array Jvm.Value) (st : Jvm.State) : (allAtoms ts).before a st = ts.all (fun c => c.before a st) := by
  induction ts with
  | nil => rfl
  | cons c t ih =>
    show (Jvm.Cond.and c (allAtoms t)).before a st = _
    rw [Jvm.Cond.before_and, ih, List.all_cons]
def words1 : List Jvm.Cond := Jvm.Cond.code x code maxLocals ret :: tables_1
/-- a 'code' word, met by the world's own term for the bytes: nothing is compared byte by byte -/
theorem code_word {y : MethodName} {bytes : ByteArray} {mx : Nat} {rt : Option FieldType} {a : Array Value} {s : State} {m : MethodId} {meth : Method} {c : Code} (h1 : s.methodNamed? y = some m) (h2 : s.vm.method? m = some meth) (h3 : meth.code = some c) (h4 : c.code = bytes)
    (h5 : (c.maxLocals == mx && c.exceptionTable.isEmpty && decide (c.maxStack ≤ mostOperands) && decide (meth.sig.returnType = rt) && !meth.locks && decide (parseMethodDescriptor y.desc = some meth.sig)) = true) : (Jvm.Cond.code y bytes mx rt).before a s = true := by
  simp only [Bool.and_eq_true, beq_iff_eq, Bool.not_eq_true', decide_eq_true_eq] at h5
  obtain ⟨⟨⟨⟨⟨g1, g2⟩, g3⟩, g4⟩, g5⟩, g6⟩ := h5
  simp [Cond.before, Cond.holds, Cond.value, h1, h2, h3, h4, g1, g2, g3, g4, g5, g6]
def isCode : Jvm.Cond → Bool
  | .code _ _ _ _ => true
  | _ => false
theorem all_split {L : List Jvm.Cond} {P : Jvm.Cond → Bool} (h1 : L.all (fun c => isCode c || P c) = true) (h2 : ∀ c ∈ L.filter isCode, P c = true) : L.all P = true := by
  refine List.all_eq_true.mpr fun c hc => ?_
  have h := List.all_eq_true.mp h1 c hc
  rcases Bool.eq_false_or_eq_true (isCode c) with hi | hi
  · exact h2 c (List.mem_filter.mpr ⟨hc, hi⟩)
  · simpa [hi] using h
set_option maxRecDepth 65536 in
theorem w_c0 : (Jvm.Cond.code x code maxLocals ret).before args0 about1 = true := code_word (m := ⟨1, 4⟩) (meth := k1m4) (c := k1c4) (by decide +kernel) rfl rfl rfl (by decide +kernel)
set_option maxRecDepth 65536 in
theorem w_c1 : (Jvm.Cond.code ({ cls := "com/example/ringloom/ringloom/BetweenCirclesFreeNodePinLaw", name := "circle", desc := "(IIII)I" } : Jvm.MethodName) method_2_code (4 : Nat) (Option.some Jvm.ClassFile.FieldType.int)).before args0 about1 = true := code_word (m := ⟨1, 1⟩) (meth := k1m1) (c := k1c1) (by decide +kernel) rfl rfl rfl (by decide +kernel)
set_option maxRecDepth 65536 in
theorem w_c2 : (Jvm.Cond.code ({ cls := "com/example/ringloom/ringloom/BetweenCircles", name := "<init>", desc := "(II)V" } : Jvm.MethodName) prog_1_method_1_code (3 : Nat) (Option.none : Option Jvm.ClassFile.FieldType)).before args0 about1 = true := code_word (m := ⟨2, 0⟩) (meth := k2m0) (c := k2c0) (by decide +kernel) rfl rfl rfl (by decide +kernel)
set_option maxRecDepth 65536 in
theorem w_c3 : (Jvm.Cond.code ({ cls := "java/lang/Object", name := "<init>", desc := "()V" } : Jvm.MethodName) object_method_1_code (1 : Nat) (Option.none : Option Jvm.ClassFile.FieldType)).before args0 about1 = true := code_word (m := ⟨0, 0⟩) (meth := k0m0) (c := k0c0) (by decide +kernel) rfl rfl rfl (by decide +kernel)
set_option maxRecDepth 65536 in
theorem w_c4 : (Jvm.Cond.code ({ cls := "com/example/ringloom/ringloom/BetweenCircles", name := "take", desc := "([I)V" } : Jvm.MethodName) prog_1_method_2_code (2 : Nat) (Option.none : Option Jvm.ClassFile.FieldType)).before args0 about1 = true := code_word (m := ⟨2, 1⟩) (meth := k2m1) (c := k2c1) (by decide +kernel) rfl rfl rfl (by decide +kernel)
set_option maxRecDepth 65536 in
theorem w_c5 : (Jvm.Cond.code ({ cls := "com/example/ringloom/ringloom/BetweenCircles", name := "mark", desc := "([IZ)V" } : Jvm.MethodName) prog_1_method_12_code (4 : Nat) (Option.none : Option Jvm.ClassFile.FieldType)).before args0 about1 = true := code_word (m := ⟨2, 5⟩) (meth := k2m5) (c := k2c5) (by decide +kernel) rfl rfl rfl (by decide +kernel)
set_option maxRecDepth 65536 in
theorem w_c6 : (Jvm.Cond.code ({ cls := "com/example/ringloom/ringloom/BetweenCircles", name := "resume", desc := "(I)V" } : Jvm.MethodName) prog_1_method_7_code (2 : Nat) (Option.none : Option Jvm.ClassFile.FieldType)).before args0 about1 = true := code_word (m := ⟨2, 4⟩) (meth := k2m4) (c := k2c4) (by decide +kernel) rfl rfl rfl (by decide +kernel)
set_option maxRecDepth 65536 in
theorem w_c7 : (Jvm.Cond.code ({ cls := "com/example/ringloom/ringloom/BetweenCircles", name := "freeNode", desc := "([I)I" } : Jvm.MethodName) prog_1_method_4_code (9 : Nat) (Option.some Jvm.ClassFile.FieldType.int)).before args0 about1 = true := code_word (m := ⟨2, 2⟩) (meth := k2m2) (c := k2c2) (by decide +kernel) rfl rfl rfl (by decide +kernel)
set_option maxRecDepth 65536 in
theorem w_c8 : (Jvm.Cond.code ({ cls := "com/example/ringloom/ringloom/BetweenCircles", name := "position", desc := "()I" } : Jvm.MethodName) prog_1_method_6_code (1 : Nat) (Option.some Jvm.ClassFile.FieldType.int)).before args0 about1 = true := code_word (m := ⟨2, 3⟩) (meth := k2m3) (c := k2c3) (by decide +kernel) rfl rfl rfl (by decide +kernel)
set_option maxRecDepth 65536 in
theorem w_c9 : (Jvm.Cond.code ({ cls := "com/example/ringloom/ringloom/BetweenCirclesFreeNodePinLaw", name := "free", desc := "(IIIIII)Z" } : Jvm.MethodName) method_4_code (6 : Nat) (Option.some Jvm.ClassFile.FieldType.boolean)).before args0 about1 = true := code_word (m := ⟨1, 3⟩) (meth := k1m3) (c := k1c3) (by decide +kernel) rfl rfl rfl (by decide +kernel)
set_option maxRecDepth 65536 in
theorem w_c10 : (Jvm.Cond.code ({ cls := "com/example/ringloom/ringloom/BetweenCirclesFreeNodePinLaw", name := "takenBit", desc := "(III)Z" } : Jvm.MethodName) method_3_code (3 : Nat) (Option.some Jvm.ClassFile.FieldType.boolean)).before args0 about1 = true := code_word (m := ⟨1, 2⟩) (meth := k1m2) (c := k1c2) (by decide +kernel) rfl rfl rfl (by decide +kernel)
def codes1 : List Jvm.Cond := [Jvm.Cond.code x code maxLocals ret, Jvm.Cond.code ({ cls := "com/example/ringloom/ringloom/BetweenCirclesFreeNodePinLaw", name := "circle", desc := "(IIII)I" } : Jvm.MethodName) method_2_code (4 : Nat) (Option.some Jvm.ClassFile.FieldType.int), Jvm.Cond.code ({ cls := "com/example/ringloom/ringloom/BetweenCircles", name := "<init>", desc := "(II)V" } : Jvm.MethodName) prog_1_method_1_code (3 : Nat) (Option.none : Option Jvm.ClassFile.FieldType), Jvm.Cond.code ({ cls := "java/lang/Object", name := "<init>", desc := "()V" } : Jvm.MethodName) object_method_1_code (1 : Nat) (Option.none : Option Jvm.ClassFile.FieldType), Jvm.Cond.code ({ cls := "com/example/ringloom/ringloom/BetweenCircles", name := "take", desc := "([I)V" } : Jvm.MethodName) prog_1_method_2_code (2 : Nat) (Option.none : Option Jvm.ClassFile.FieldType), Jvm.Cond.code ({ cls := "com/example/ringloom/ringloom/BetweenCircles", name := "mark", desc := "([IZ)V" } : Jvm.MethodName) prog_1_method_12_code (4 : Nat) (Option.none : Option Jvm.ClassFile.FieldType), Jvm.Cond.code ({ cls := "com/example/ringloom/ringloom/BetweenCircles", name := "resume", desc := "(I)V" } : Jvm.MethodName) prog_1_method_7_code (2 : Nat) (Option.none : Option Jvm.ClassFile.FieldType), Jvm.Cond.code ({ cls := "com/example/ringloom/ringloom/BetweenCircles", name := "freeNode", desc := "([I)I" } : Jvm.MethodName) prog_1_method_4_code (9 : Nat) (Option.some Jvm.ClassFile.FieldType.int), Jvm.Cond.code ({ cls := "com/example/ringloom/ringloom/BetweenCircles", name := "position", desc := "()I" } : Jvm.MethodName) prog_1_method_6_code (1 : Nat) (Option.some Jvm.ClassFile.FieldType.int), Jvm.Cond.code ({ cls := "com/example/ringloom/ringloom/BetweenCirclesFreeNodePinLaw", name := "free", desc := "(IIIIII)Z" } : Jvm.MethodName) method_4_code (6 : Nat) (Option.some Jvm.ClassFile.FieldType.boolean), Jvm.Cond.code ({ cls := "com/example/ringloom/ringloom/BetweenCirclesFreeNodePinLaw", name := "takenBit", desc := "(III)Z" } : Jvm.MethodName) method_3_code (3 : Nat) (Option.some Jvm.ClassFile.FieldType.boolean)]
set_option maxRecDepth 65536 in
theorem codes_eq : words1.filter isCode = codes1 := rfl
theorem w_codes : ∀ c ∈ words1.filter isCode, c.before args0 about1 = true := by
  rw [codes_eq]
  intro c hc
  simp only [codes1, List.mem_cons, List.not_mem_nil, or_false] at hc
  rcases hc with rfl | rfl | rfl | rfl | rfl | rfl | rfl | rfl | rfl | rfl | rfl
  · exact w_c0
  · exact w_c1
  · exact w_c2
  · exact w_c3
  · exact w_c4
  · exact w_c5
  · exact w_c6
  · exact w_c7
  · exact w_c8
  · exact w_c9
  · exact w_c10
set_option maxRecDepth 65536 in
theorem w_t1 : (words1.take 24).all (fun c => isCode c || c.before args0 about1) = true := by decide +kernel
set_option maxRecDepth 65536 in
theorem w_t2 : ((words1.drop 24).take 24).all (fun c => isCode c || c.before args0 about1) = true := by decide +kernel
set_option maxRecDepth 65536 in
theorem w_t3 : ((words1.drop 24).drop 24).all (fun c => isCode c || c.before args0 about1) = true := by decide +kernel
theorem w_tables : (allAtoms (Jvm.Cond.code x code maxLocals ret :: tables_1)).before args0 about1 = true := by
  rw [allAtoms_all]
  show words1.all (fun c => c.before args0 about1) = true
  refine all_split ?_ w_codes
  rw [← List.take_append_drop 24 words1, List.all_append, w_t1, ← List.take_append_drop 24 (words1.drop 24), List.all_append, w_t2, w_t3]
  rfl
set_option maxRecDepth 65536 in
theorem w_case : (Jvm.Cond.and given_1 narrow_1).before args0 about1 = true := by decide +kernel
theorem w_applies : (headSpec (Jvm.Cond.code x code maxLocals ret :: tables_1) room_1).applies x e0.platform about1 = true :=
  (Spec.applies_iff w_frames).mpr ⟨w_running, w_runnable, w_alone, w_named, w_hears, w_ripe, w_room, w_tables⟩
theorem atStart : AtStart classFile x code maxLocals ret World_1 tables_1 room_1 Calls_1 rest_1 Pre_1 launch0 p0 e0 about1 theMethod args0 below0 :=
  ⟨lists_1, trivial, launch0.admits_env _ _ _, launch0.least_env, fairChoices_fair.cas, fairChoices_fair.clock, w_frames, w_args, w_heap, w_applies, trivial, trivial, w_case⟩
end start1
theorem witness_1 : WitnessClaimed_1 := ⟨start1.p0, start1.e0, start1.about1, start1.theMethod, start1.args0, start1.below0, start1.atStart⟩
end Jvm.Pilot.@@N@@
