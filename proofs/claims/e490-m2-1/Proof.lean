import JvmDerived
import JvmDerived.Pilot.@@N@@Statement
import JvmDerived.Pilot.@@N@@Code
set_option linter.unusedVariables false
set_option linter.unusedSimpArgs false
namespace Jvm.Pilot.@@N@@
open Jvm Jvm.ClassFile Sem Op Lib Jvm.Free Jvm.Stand Jvm.LawKit Jvm.RoadKit Bundle Jvm.Pilot.@@N@@.Jvm.D
section Own
variable {p : Program} {l : Launch} {e : Env} {s : State} {m : MethodId} {args : Array Value} {below : List Frame} {meth : Method} {c : Code} {Z : State} {a0 : Array Value} {n0 : Nat}
  {y : MethodName} {code : ByteArray} {mx : Nat} {ret : Option FieldType} {R : Room} {T : State} {h : Heap} {cells slots : Nat} {Q : Option Value → Heap → Prop} {pc pc' : Nat} {ls ls' : Array Slot} {st : List Value}
/-- where a walk stands: all that stays from step to step, in one word -/
def own_S (p : Program) (l : Launch) (e : Env) (s : State) (m : MethodId) (args : Array Value) (below : List Frame) (meth : Method) (c : Code) (Z : State) (a0 : Array Value) (n0 : Nat) (y : MethodName) (code : ByteArray) (mx : Nat) (ret : Option FieldType) (R : Room) (T : State) (h : Heap) (cells slots : Nat) : Prop :=
  ∃ locs : List Loc, Stand p l e R s m args below meth c T locs cells slots ∧ T.heap = h ∧ Fr n0 locs ∧ n0 ≤ s.heap.size ∧ p.tables.exec = Jvm.exec ∧ Z.Warmed39 s.vm ∧ (∀ d ∈ tables_1, d.before a0 Z = true) ∧ c.code = code ∧ c.maxLocals = mx ∧ s.vm.findClass y.cls = some m.cls ∧ meth.name = y.name ∧ meth.locks = false ∧ meth.sig.returnType = ret
/-- from T with the frame f on top the invocation comes to an end of which Q speaks -/
def own_G (p : Program) (e : Env) (s : State) (below : List Frame) (R : Room) (n0 : Nat) (Q : Option Value → Heap → Prop) (T : State) (f : JFrame) : Prop :=
  ∃ (U : State) (o : Outcome), Steps p.tables e below (T.setTop f) U ∧ U.status = .running ∧ Ended U below o ∧ ∃ v L, o = .returned v ∧ (Q v U.heap ∧ Fr n0 L) ∧ FrameEnd s o U L R.cells R.slots
theorem own_by {T' : State} {f f' : JFrame} (st : ∀ target, Steps p.tables e below (T'.setTop f') target → Steps p.tables e below (T.setTop f) target) (H : own_G p e s below R n0 Q T' f') : own_G p e s below R n0 Q T f := by
  obtain ⟨U, o, h1, h2⟩ := H
  exact ⟨U, o, st U h1, h2⟩
theorem own_word (S : own_S p l e s m args below meth c Z a0 n0 y code mx ret R T h cells slots) : ∀ d ∈ tables_1, d.before a0 Z = true := by
  obtain ⟨_, _, _, _, _, _, _, hw, _⟩ := S; exact hw
theorem own_size (S : own_S p l e s m args below meth c Z a0 n0 y code mx ret R T h cells slots) : n0 ≤ h.size := by
  obtain ⟨_, X, eT, _, hs, _⟩ := S; rw [← eT]; exact Nat.le_trans hs X.same.2.1
-- plain steps
theorem own_iload {k : Nat} {v : Int32} (S : own_S p l e s m args below meth c Z a0 n0 y code mx ret R T h cells slots) (hp : pc + 2 = pc') (hd : decode code pc = .ok (.iload k, 2)) (hl : ls[k]? = some (.val (.int v)))
    (H : own_G p e s below R n0 Q T (mkF m pc' ls (.int v :: st))) : own_G p e s below R n0 Q T (mkF m pc ls st) := by
  obtain ⟨_, X, _, _, _, hx, _, _, hby, _⟩ := S; subst hp
  exact own_by (fun _ k => XS.iload X.here hx rfl (hb hby hd) hl k) H
theorem own_iloadN {k : Fin 4} {v : Int32} (S : own_S p l e s m args below meth c Z a0 n0 y code mx ret R T h cells slots) (hp : pc + 1 = pc') (hd : decode code pc = .ok (.iload_n k, 1)) (hl : ls[k.val]? = some (.val (.int v)))
    (H : own_G p e s below R n0 Q T (mkF m pc' ls (.int v :: st))) : own_G p e s below R n0 Q T (mkF m pc ls st) := by
  obtain ⟨_, X, _, _, _, hx, _, _, hby, _⟩ := S; subst hp
  exact own_by (fun _ k => XS.iloadN X.here hx rfl (hb hby hd) hl k) H
theorem own_lload {k : Nat} {v : Int64} (S : own_S p l e s m args below meth c Z a0 n0 y code mx ret R T h cells slots) (hp : pc + 2 = pc') (hd : decode code pc = .ok (.lload k, 2)) (hl : ls[k]? = some (.val (.long v)))
    (H : own_G p e s below R n0 Q T (mkF m pc' ls (.long v :: st))) : own_G p e s below R n0 Q T (mkF m pc ls st) := by
  obtain ⟨_, X, _, _, _, hx, _, _, hby, _⟩ := S; subst hp
  exact own_by (fun _ k => XT.lload X.here hx rfl (hb hby hd) hl k) H
theorem own_lloadN {k : Fin 4} {v : Int64} (S : own_S p l e s m args below meth c Z a0 n0 y code mx ret R T h cells slots) (hp : pc + 1 = pc') (hd : decode code pc = .ok (.lload_n k, 1)) (hl : ls[k.val]? = some (.val (.long v)))
    (H : own_G p e s below R n0 Q T (mkF m pc' ls (.long v :: st))) : own_G p e s below R n0 Q T (mkF m pc ls st) := by
  obtain ⟨_, X, _, _, _, hx, _, _, hby, _⟩ := S; subst hp
  exact own_by (fun _ k => XT.lloadN X.here hx rfl (hb hby hd) hl k) H
theorem own_aload {k : Nat} {v : Value} (S : own_S p l e s m args below meth c Z a0 n0 y code mx ret R T h cells slots) (hp : pc + 2 = pc') (hd : decode code pc = .ok (.aload k, 2)) (hl : ls[k]? = some (.val v)) (hv : v.isRef = true)
    (H : own_G p e s below R n0 Q T (mkF m pc' ls (v :: st))) : own_G p e s below R n0 Q T (mkF m pc ls st) := by
  obtain ⟨_, X, _, _, _, hx, _, _, hby, _⟩ := S; subst hp
  exact own_by (fun _ k => XS.aload X.here hx rfl (hb hby hd) hl hv k) H
theorem own_aloadN {k : Fin 4} {v : Value} (S : own_S p l e s m args below meth c Z a0 n0 y code mx ret R T h cells slots) (hp : pc + 1 = pc') (hd : decode code pc = .ok (.aload_n k, 1)) (hl : ls[k.val]? = some (.val v)) (hv : v.isRef = true)
    (H : own_G p e s below R n0 Q T (mkF m pc' ls (v :: st))) : own_G p e s below R n0 Q T (mkF m pc ls st) := by
  obtain ⟨_, X, _, _, _, hx, _, _, hby, _⟩ := S; subst hp
  exact own_by (fun _ k => XS.aloadN X.here hx rfl (hb hby hd) hl hv k) H
theorem own_iconst {i : Int} (v : Int32) (S : own_S p l e s m args below meth c Z a0 n0 y code mx ret R T h cells slots) (hp : pc + 1 = pc') (hd : decode code pc = .ok (.iconst i, 1)) (hv : Int32.ofInt i = v)
    (H : own_G p e s below R n0 Q T (mkF m pc' ls (.int v :: st))) : own_G p e s below R n0 Q T (mkF m pc ls st) := by
  obtain ⟨_, X, _, _, _, hx, _, _, hby, _⟩ := S; subst hp
  exact own_by (fun _ k => XT.iconstV X.here hx rfl v (hb hby hd) hv k) H
theorem own_bipush {i : Int} (v : Int32) (S : own_S p l e s m args below meth c Z a0 n0 y code mx ret R T h cells slots) (hp : pc + 2 = pc') (hd : decode code pc = .ok (.bipush i, 2)) (hv : (Int8.ofInt i).toInt32 = v)
    (H : own_G p e s below R n0 Q T (mkF m pc' ls (.int v :: st))) : own_G p e s below R n0 Q T (mkF m pc ls st) := by
  obtain ⟨_, X, _, _, _, hx, _, _, hby, _⟩ := S; subst hp
  exact own_by (fun _ k => XT.bipushV X.here hx rfl v (hb hby hd) hv k) H
theorem own_sipush {i : Int} (v : Int32) (S : own_S p l e s m args below meth c Z a0 n0 y code mx ret R T h cells slots) (hp : pc + 3 = pc') (hd : decode code pc = .ok (.sipush i, 3)) (hv : (Int16.ofInt i).toInt32 = v)
    (H : own_G p e s below R n0 Q T (mkF m pc' ls (.int v :: st))) : own_G p e s below R n0 Q T (mkF m pc ls st) := by
  obtain ⟨_, X, _, _, _, hx, _, _, hby, _⟩ := S; subst hp
  exact own_by (fun _ k => XT.sipushV X.here hx rfl v (hb hby hd) hv k) H
theorem own_null (S : own_S p l e s m args below meth c Z a0 n0 y code mx ret R T h cells slots) (hp : pc + 1 = pc') (hd : decode code pc = .ok (.aconst_null, 1))
    (H : own_G p e s below R n0 Q T (mkF m pc' ls (.null :: st))) : own_G p e s below R n0 Q T (mkF m pc ls st) := by
  obtain ⟨_, X, _, _, _, hx, _, _, hby, _⟩ := S; subst hp
  exact own_by (fun _ k => XS.aconstNull X.here hx rfl (hb hby hd) k) H
theorem own_ldc {idx : Nat} {v : Int32} (S : own_S p l e s m args below meth c Z a0 n0 y code mx ret R T h cells slots) (hp : pc + 2 = pc') (hd : decode code pc = .ok (.ldc idx, 2)) (w : Jvm.Cond.constant y.cls idx v ∈ tables_1)
    (H : own_G p e s below R n0 Q T (mkF m pc' ls (.int v :: st))) : own_G p e s below R n0 Q T (mkF m pc ls st) := by
  obtain ⟨_, X, _, _, _, hx, hZ, hw, hby, _, hown, _⟩ := S; subst hp
  exact own_by (fun _ k => X.ldcI hx hown (mvT hZ (hw _ w)) rfl (hb hby hd) k) H
theorem own_iadd {a b : Int32} (S : own_S p l e s m args below meth c Z a0 n0 y code mx ret R T h cells slots) (hp : pc + 1 = pc') (hd : decode code pc = .ok (.iadd, 1))
    (H : own_G p e s below R n0 Q T (mkF m pc' ls (.int (a + b) :: st))) : own_G p e s below R n0 Q T (mkF m pc ls (.int b :: .int a :: st)) := by
  obtain ⟨_, X, _, _, _, hx, _, _, hby, _⟩ := S; subst hp
  exact own_by (fun _ k => XS.iadd X.here hx rfl (hb hby hd) rfl k) H
theorem own_isub {a b : Int32} (S : own_S p l e s m args below meth c Z a0 n0 y code mx ret R T h cells slots) (hp : pc + 1 = pc') (hd : decode code pc = .ok (.isub, 1))
    (H : own_G p e s below R n0 Q T (mkF m pc' ls (.int (a - b) :: st))) : own_G p e s below R n0 Q T (mkF m pc ls (.int b :: .int a :: st)) := by
  obtain ⟨_, X, _, _, _, hx, _, _, hby, _⟩ := S; subst hp
  exact own_by (fun _ k => XS.isub X.here hx rfl (hb hby hd) rfl k) H
theorem own_imul {a b : Int32} (S : own_S p l e s m args below meth c Z a0 n0 y code mx ret R T h cells slots) (hp : pc + 1 = pc') (hd : decode code pc = .ok (.imul, 1))
    (H : own_G p e s below R n0 Q T (mkF m pc' ls (.int (a * b) :: st))) : own_G p e s below R n0 Q T (mkF m pc ls (.int b :: .int a :: st)) := by
  obtain ⟨_, X, _, _, _, hx, _, _, hby, _⟩ := S; subst hp
  exact own_by (fun _ k => XS.imul X.here hx rfl (hb hby hd) rfl k) H
theorem own_idiv {a b : Int32} (S : own_S p l e s m args below meth c Z a0 n0 y code mx ret R T h cells slots) (hp : pc + 1 = pc') (hd : decode code pc = .ok (.idiv, 1)) (hz : b ≠ 0)
    (H : own_G p e s below R n0 Q T (mkF m pc' ls (.int (a / b) :: st))) : own_G p e s below R n0 Q T (mkF m pc ls (.int b :: .int a :: st)) := by
  obtain ⟨_, X, _, _, _, hx, _, _, hby, _⟩ := S; subst hp
  exact own_by (fun _ k => XS.idiv X.here hx rfl (hb hby hd) rfl hz k) H
theorem own_irem {a b : Int32} (S : own_S p l e s m args below meth c Z a0 n0 y code mx ret R T h cells slots) (hp : pc + 1 = pc') (hd : decode code pc = .ok (.irem, 1)) (hz : b ≠ 0)
    (H : own_G p e s below R n0 Q T (mkF m pc' ls (.int (a % b) :: st))) : own_G p e s below R n0 Q T (mkF m pc ls (.int b :: .int a :: st)) := by
  obtain ⟨_, X, _, _, _, hx, _, _, hby, _⟩ := S; subst hp
  exact own_by (fun _ k => iremM X hx rfl (hb hby hd) rfl hz k) H
theorem own_iand {a b : Int32} (S : own_S p l e s m args below meth c Z a0 n0 y code mx ret R T h cells slots) (hp : pc + 1 = pc') (hd : decode code pc = .ok (.iand, 1))
    (H : own_G p e s below R n0 Q T (mkF m pc' ls (.int (a &&& b) :: st))) : own_G p e s below R n0 Q T (mkF m pc ls (.int b :: .int a :: st)) := by
  obtain ⟨_, X, _, _, _, hx, _, _, hby, _⟩ := S; subst hp
  exact own_by (fun _ k => XS.iand X.here hx rfl (hb hby hd) rfl k) H
theorem own_ior {a b : Int32} (S : own_S p l e s m args below meth c Z a0 n0 y code mx ret R T h cells slots) (hp : pc + 1 = pc') (hd : decode code pc = .ok (.ior, 1))
    (H : own_G p e s below R n0 Q T (mkF m pc' ls (.int (a ||| b) :: st))) : own_G p e s below R n0 Q T (mkF m pc ls (.int b :: .int a :: st)) := by
  obtain ⟨_, X, _, _, _, hx, _, _, hby, _⟩ := S; subst hp
  exact own_by (fun _ k => XT.ior X.here hx rfl (hb hby hd) rfl k) H
theorem own_ixor {a b : Int32} (S : own_S p l e s m args below meth c Z a0 n0 y code mx ret R T h cells slots) (hp : pc + 1 = pc') (hd : decode code pc = .ok (.ixor, 1))
    (H : own_G p e s below R n0 Q T (mkF m pc' ls (.int (a ^^^ b) :: st))) : own_G p e s below R n0 Q T (mkF m pc ls (.int b :: .int a :: st)) := by
  obtain ⟨_, X, _, _, _, hx, _, _, hby, _⟩ := S; subst hp
  exact own_by (fun _ k => XT.ixor X.here hx rfl (hb hby hd) rfl k) H
theorem own_ishr {a b : Int32} (S : own_S p l e s m args below meth c Z a0 n0 y code mx ret R T h cells slots) (hp : pc + 1 = pc') (hd : decode code pc = .ok (.ishr, 1))
    (H : own_G p e s below R n0 Q T (mkF m pc' ls (.int (a >>> (b &&& 31)) :: st))) : own_G p e s below R n0 Q T (mkF m pc ls (.int b :: .int a :: st)) := by
  obtain ⟨_, X, _, _, _, hx, _, _, hby, _⟩ := S; subst hp
  exact own_by (fun _ k => XT.ishr X.here hx rfl (hb hby hd) rfl k) H
theorem own_iushr {a b : Int32} (S : own_S p l e s m args below meth c Z a0 n0 y code mx ret R T h cells slots) (hp : pc + 1 = pc') (hd : decode code pc = .ok (.iushr, 1))
    (H : own_G p e s below R n0 Q T (mkF m pc' ls (.int (XT.ushr a b) :: st))) : own_G p e s below R n0 Q T (mkF m pc ls (.int b :: .int a :: st)) := by
  obtain ⟨_, X, _, _, _, hx, _, _, hby, _⟩ := S; subst hp
  exact own_by (fun _ k => XT.iushr X.here hx rfl (hb hby hd) rfl k) H
theorem own_lushr {a : Int64} {b : Int32} (S : own_S p l e s m args below meth c Z a0 n0 y code mx ret R T h cells slots) (hp : pc + 1 = pc') (hd : decode code pc = .ok (.lushr, 1))
    (H : own_G p e s below R n0 Q T (mkF m pc' ls (.long (XT.ushrL a b) :: st))) : own_G p e s below R n0 Q T (mkF m pc ls (.int b :: .long a :: st)) := by
  obtain ⟨_, X, _, _, _, hx, _, _, hby, _⟩ := S; subst hp
  exact own_by (fun _ k => XT.lushr X.here hx rfl (hb hby hd) rfl k) H
theorem own_l2i {a : Int64} (S : own_S p l e s m args below meth c Z a0 n0 y code mx ret R T h cells slots) (hp : pc + 1 = pc') (hd : decode code pc = .ok (.l2i, 1))
    (H : own_G p e s below R n0 Q T (mkF m pc' ls (.int a.toInt32 :: st))) : own_G p e s below R n0 Q T (mkF m pc ls (.long a :: st)) := by
  obtain ⟨_, X, _, _, _, hx, _, _, hby, _⟩ := S; subst hp
  exact own_by (fun _ k => XT.l2i X.here hx rfl (hb hby hd) rfl k) H
theorem own_i2b {a : Int32} (S : own_S p l e s m args below meth c Z a0 n0 y code mx ret R T h cells slots) (hp : pc + 1 = pc') (hd : decode code pc = .ok (.i2b, 1))
    (H : own_G p e s below R n0 Q T (mkF m pc' ls (.int a.toInt8.toInt32 :: st))) : own_G p e s below R n0 Q T (mkF m pc ls (.int a :: st)) := by
  obtain ⟨_, X, _, _, _, hx, _, _, hby, _⟩ := S; subst hp
  exact own_by (fun _ k => XT.i2b X.here hx rfl (hb hby hd) rfl k) H
theorem own_i2c {a : Int32} (S : own_S p l e s m args below meth c Z a0 n0 y code mx ret R T h cells slots) (hp : pc + 1 = pc') (hd : decode code pc = .ok (.i2c, 1))
    (H : own_G p e s below R n0 Q T (mkF m pc' ls (.int a.toUInt32.toUInt16.toUInt32.toInt32 :: st))) : own_G p e s below R n0 Q T (mkF m pc ls (.int a :: st)) := by
  obtain ⟨_, X, _, _, _, hx, _, _, hby, _⟩ := S; subst hp
  exact own_by (fun _ k => XT.i2c X.here hx rfl (hb hby hd) rfl k) H
theorem own_dup {a : Value} (S : own_S p l e s m args below meth c Z a0 n0 y code mx ret R T h cells slots) (hp : pc + 1 = pc') (hd : decode code pc = .ok (.dup, 1)) (hc : a.category = 1)
    (H : own_G p e s below R n0 Q T (mkF m pc' ls (a :: a :: st))) : own_G p e s below R n0 Q T (mkF m pc ls (a :: st)) := by
  obtain ⟨_, X, _, _, _, hx, _, _, hby, _⟩ := S; subst hp
  exact own_by (fun _ k => XS.dup X.here hx rfl (hb hby hd) rfl hc k) H
theorem own_dup2 {a b : Value} (S : own_S p l e s m args below meth c Z a0 n0 y code mx ret R T h cells slots) (hp : pc + 1 = pc') (hd : decode code pc = .ok (.dup2, 1)) (hc : a.category = 1) (hc' : b.category = 1)
    (H : own_G p e s below R n0 Q T (mkF m pc' ls (a :: b :: a :: b :: st))) : own_G p e s below R n0 Q T (mkF m pc ls (a :: b :: st)) := by
  obtain ⟨_, X, _, _, _, hx, _, _, hby, _⟩ := S; subst hp
  exact own_by (fun _ k => XT.dup2 X.here hx rfl (hb hby hd) rfl hc hc' k) H
theorem own_istore {k : Nat} {v : Int32} (S : own_S p l e s m args below meth c Z a0 n0 y code mx ret R T h cells slots) (hp : pc + 2 = pc') (hd : decode code pc = .ok (.istore k, 2)) (hl : storeLocals ls k (.int v) = some ls')
    (H : own_G p e s below R n0 Q T (mkF m pc' ls' st)) : own_G p e s below R n0 Q T (mkF m pc ls (.int v :: st)) := by
  obtain ⟨_, X, _, _, _, hx, _, _, hby, _⟩ := S; subst hp
  exact own_by (fun _ k => XS.istore X.here hx rfl (hb hby hd) rfl hl k) H
theorem own_istoreN {k : Fin 4} {v : Int32} (S : own_S p l e s m args below meth c Z a0 n0 y code mx ret R T h cells slots) (hp : pc + 1 = pc') (hd : decode code pc = .ok (.istore_n k, 1)) (hl : storeLocals ls k.val (.int v) = some ls')
    (H : own_G p e s below R n0 Q T (mkF m pc' ls' st)) : own_G p e s below R n0 Q T (mkF m pc ls (.int v :: st)) := by
  obtain ⟨_, X, _, _, _, hx, _, _, hby, _⟩ := S; subst hp
  exact own_by (fun _ k => XS.istoreN X.here hx rfl (hb hby hd) rfl hl k) H
theorem own_astore {k : Nat} {v : Value} (S : own_S p l e s m args below meth c Z a0 n0 y code mx ret R T h cells slots) (hp : pc + 2 = pc') (hd : decode code pc = .ok (.astore k, 2)) (hv : v.isRef = true) (hl : storeLocals ls k v = some ls')
    (H : own_G p e s below R n0 Q T (mkF m pc' ls' st)) : own_G p e s below R n0 Q T (mkF m pc ls (v :: st)) := by
  obtain ⟨_, X, _, _, _, hx, _, _, hby, _⟩ := S; subst hp
  exact own_by (fun _ k => XS.astore X.here hx rfl (hb hby hd) rfl hv hl k) H
theorem own_astoreN {k : Fin 4} {v : Value} (S : own_S p l e s m args below meth c Z a0 n0 y code mx ret R T h cells slots) (hp : pc + 1 = pc') (hd : decode code pc = .ok (.astore_n k, 1)) (hv : v.isRef = true) (hl : storeLocals ls k.val v = some ls')
    (H : own_G p e s below R n0 Q T (mkF m pc' ls' st)) : own_G p e s below R n0 Q T (mkF m pc ls (v :: st)) := by
  obtain ⟨_, X, _, _, _, hx, _, _, hby, _⟩ := S; subst hp
  exact own_by (fun _ k => XS.astoreN X.here hx rfl (hb hby hd) rfl hv hl k) H
theorem own_iinc {k : Nat} {cst : Int} {x : Int32} (v : Int32) (S : own_S p l e s m args below meth c Z a0 n0 y code mx ret R T h cells slots) (hp : pc + 3 = pc') (hd : decode code pc = .ok (.iinc k cst, 3)) (hv : Int32.ofInt cst = v) (hl : ls[k]? = some (.val (.int x))) (hl' : storeLocals ls k (.int (x + v)) = some ls')
    (H : own_G p e s below R n0 Q T (mkF m pc' ls' st)) : own_G p e s below R n0 Q T (mkF m pc ls st) := by
  obtain ⟨_, X, _, _, _, hx, _, _, hby, _⟩ := S; subst hp
  exact own_by (fun _ k => XT.iincV X.here hx rfl v (hb hby hd) hv hl hl' k) H
theorem own_goto {o : Int} (S : own_S p l e s m args below meth c Z a0 n0 y code mx ret R T h cells slots) (ho : 0 ≤ (pc : Int) + o) (hp : ((pc : Int) + o).toNat = pc') (hd : decode code pc = .ok (.goto o, 3))
    (H : own_G p e s below R n0 Q T (mkF m pc' ls st)) : own_G p e s below R n0 Q T (mkF m pc ls st) := by
  obtain ⟨_, X, _, _, _, hx, _, _, hby, _⟩ := S
  exact own_by (fun _ k => XS.goto X.here hx rfl rfl (hb hby hd) ho hp k) H
-- branches
theorem own_icY {cd : ClassFile.Cond} {a b : Int32} {o : Int} (S : own_S p l e s m args below meth c Z a0 n0 y code mx ret R T h cells slots) (ho : 0 ≤ (pc : Int) + o) (hp : ((pc : Int) + o).toNat = pc') (hd : decode code pc = .ok (.if_icmp cd o, 3)) (hc : if_icmp.holds cd a b = true)
    (H : own_G p e s below R n0 Q T (mkF m pc' ls st)) : own_G p e s below R n0 Q T (mkF m pc ls (.int b :: .int a :: st)) := by
  obtain ⟨_, X, _, _, _, hx, _, _, hby, _⟩ := S
  exact own_by (fun _ k => XS.icmpYes X.here hx rfl rfl (hb hby hd) rfl hc ho hp k) H
theorem own_icN {cd : ClassFile.Cond} {a b : Int32} {o : Int} (S : own_S p l e s m args below meth c Z a0 n0 y code mx ret R T h cells slots) (hp : pc + 3 = pc') (hd : decode code pc = .ok (.if_icmp cd o, 3)) (hc : if_icmp.holds cd a b = false)
    (H : own_G p e s below R n0 Q T (mkF m pc' ls st)) : own_G p e s below R n0 Q T (mkF m pc ls (.int b :: .int a :: st)) := by
  obtain ⟨_, X, _, _, _, hx, _, _, hby, _⟩ := S; subst hp
  exact own_by (fun _ k => XS.icmpNo X.here hx rfl (hb hby hd) rfl hc k) H
theorem own_ifY {cd : ClassFile.Cond} {a : Int32} {o : Int} (S : own_S p l e s m args below meth c Z a0 n0 y code mx ret R T h cells slots) (ho : 0 ≤ (pc : Int) + o) (hp : ((pc : Int) + o).toNat = pc') (hd : decode code pc = .ok (.ifCond cd o, 3)) (hc : ifCond.holds cd a = true)
    (H : own_G p e s below R n0 Q T (mkF m pc' ls st)) : own_G p e s below R n0 Q T (mkF m pc ls (.int a :: st)) := by
  obtain ⟨_, X, _, _, _, hx, _, _, hby, _⟩ := S
  exact own_by (fun _ k => XS.ifYes X.here hx rfl rfl (hb hby hd) rfl hc ho hp k) H
theorem own_ifN {cd : ClassFile.Cond} {a : Int32} {o : Int} (S : own_S p l e s m args below meth c Z a0 n0 y code mx ret R T h cells slots) (hp : pc + 3 = pc') (hd : decode code pc = .ok (.ifCond cd o, 3)) (hc : ifCond.holds cd a = false)
    (H : own_G p e s below R n0 Q T (mkF m pc' ls st)) : own_G p e s below R n0 Q T (mkF m pc ls (.int a :: st)) := by
  obtain ⟨_, X, _, _, _, hx, _, _, hby, _⟩ := S; subst hp
  exact own_by (fun _ k => XS.ifNo X.here hx rfl (hb hby hd) rfl hc k) H
theorem own_nullN {b : Addr} {o : Int} (S : own_S p l e s m args below meth c Z a0 n0 y code mx ret R T h cells slots) (hp : pc + 3 = pc') (hd : decode code pc = .ok (.ifnull o, 3))
    (H : own_G p e s below R n0 Q T (mkF m pc' ls st)) : own_G p e s below R n0 Q T (mkF m pc ls (.ref b :: st)) := by
  obtain ⟨_, X, _, _, _, hx, _, _, hby, _⟩ := S; subst hp
  exact own_by (fun _ k => XS.ifnullNo X.here hx rfl (hb hby hd) rfl k) H
theorem own_nonnullY {b : Addr} {o : Int} (S : own_S p l e s m args below meth c Z a0 n0 y code mx ret R T h cells slots) (ho : 0 ≤ (pc : Int) + o) (hp : ((pc : Int) + o).toNat = pc') (hd : decode code pc = .ok (.ifnonnull o, 3))
    (H : own_G p e s below R n0 Q T (mkF m pc' ls st)) : own_G p e s below R n0 Q T (mkF m pc ls (.ref b :: st)) := by
  obtain ⟨_, X, _, _, _, hx, _, _, hby, _⟩ := S
  exact own_by (fun _ k => XT.ifnonnullYes X.here hx rfl rfl (hb hby hd) rfl ho hp k) H
theorem own_nonnullN {o : Int} (S : own_S p l e s m args below meth c Z a0 n0 y code mx ret R T h cells slots) (hp : pc + 3 = pc') (hd : decode code pc = .ok (.ifnonnull o, 3))
    (H : own_G p e s below R n0 Q T (mkF m pc' ls st)) : own_G p e s below R n0 Q T (mkF m pc ls (.null :: st)) := by
  obtain ⟨_, X, _, _, _, hx, _, _, hby, _⟩ := S; subst hp
  exact own_by (fun _ k => XT.ifnonnullNo X.here hx rfl (hb hby hd) rfl k) H
-- both roads at once
theorem own_ic {cd : ClassFile.Cond} {a b : Int32} {o : Int} {pt : Nat} (S : own_S p l e s m args below meth c Z a0 n0 y code mx ret R T h cells slots) (ho : 0 ≤ (pc : Int) + o) (hp : ((pc : Int) + o).toNat = pt) (hp' : pc + 3 = pc') (hd : decode code pc = .ok (.if_icmp cd o, 3))
    (H : if_icmp.holds cd a b = true → own_G p e s below R n0 Q T (mkF m pt ls st)) (H' : if_icmp.holds cd a b = false → own_G p e s below R n0 Q T (mkF m pc' ls st)) : own_G p e s below R n0 Q T (mkF m pc ls (.int b :: .int a :: st)) := by
  cases hc : if_icmp.holds cd a b with
  | true => exact own_icY S ho hp hd hc (H hc)
  | false => exact own_icN S hp' hd hc (H' hc)
theorem own_if {cd : ClassFile.Cond} {a : Int32} {o : Int} {pt : Nat} (S : own_S p l e s m args below meth c Z a0 n0 y code mx ret R T h cells slots) (ho : 0 ≤ (pc : Int) + o) (hp : ((pc : Int) + o).toNat = pt) (hp' : pc + 3 = pc') (hd : decode code pc = .ok (.ifCond cd o, 3))
    (H : ifCond.holds cd a = true → own_G p e s below R n0 Q T (mkF m pt ls st)) (H' : ifCond.holds cd a = false → own_G p e s below R n0 Q T (mkF m pc' ls st)) : own_G p e s below R n0 Q T (mkF m pc ls (.int a :: st)) := by
  cases hc : ifCond.holds cd a with
  | true => exact own_ifY S ho hp hd hc (H hc)
  | false => exact own_ifN S hp' hd hc (H' hc)
-- what a comparison's outcome says of the numbers
theorem own_lt_t {a b : Int32} (h : if_icmp.holds .lt a b = true) : a.toInt < b.toInt := Int32.lt_iff_toInt_lt.mp (by simpa [if_icmp.holds] using h)
theorem own_lt_f {a b : Int32} (h : if_icmp.holds .lt a b = false) : b.toInt ≤ a.toInt := by
  have q : ¬ a < b := by simpa [if_icmp.holds] using h
  rw [Int32.lt_iff_toInt_lt] at q; omega
theorem own_cmp (a b : Int32) : (if_icmp.holds .ge a b = !if_icmp.holds .lt a b) ∧ (if_icmp.holds .gt a b = if_icmp.holds .lt b a) ∧ (if_icmp.holds .le a b = !if_icmp.holds .lt b a) ∧ (if_icmp.holds .ne a b = !if_icmp.holds .eq a b) := by
  refine ⟨?_, ?_, ?_, ?_⟩
  · by_cases q : a < b
    · rw [(tlt q).1, (tlt q).2.1]; rfl
    · rw [(flt q).1, (flt q).2.1]; rfl
  · by_cases q : b < a
    · rw [(tlt q).1, (tlt q).2.2.1]
    · rw [(flt q).1, (flt q).2.2.1]
  · by_cases q : b < a
    · rw [(tlt q).1, (tlt q).2.2.2]; rfl
    · rw [(flt q).1, (flt q).2.2.2]; rfl
  · by_cases q : a = b
    · rw [(teq q).1, (teq q).2]; rfl
    · rw [(feq q).1, (feq q).2]; rfl
theorem own_ge_t {a b : Int32} (h : if_icmp.holds .ge a b = true) : b.toInt ≤ a.toInt := own_lt_f (by rw [(own_cmp a b).1] at h; simpa using h)
theorem own_ge_f {a b : Int32} (h : if_icmp.holds .ge a b = false) : a.toInt < b.toInt := own_lt_t (by rw [(own_cmp a b).1] at h; simpa using h)
theorem own_gt_t {a b : Int32} (h : if_icmp.holds .gt a b = true) : b.toInt < a.toInt := own_lt_t (by rw [(own_cmp a b).2.1] at h; exact h)
theorem own_gt_f {a b : Int32} (h : if_icmp.holds .gt a b = false) : a.toInt ≤ b.toInt := own_lt_f (by rw [(own_cmp a b).2.1] at h; exact h)
theorem own_le_t {a b : Int32} (h : if_icmp.holds .le a b = true) : a.toInt ≤ b.toInt := own_lt_f (by rw [(own_cmp a b).2.2.1] at h; simpa using h)
theorem own_le_f {a b : Int32} (h : if_icmp.holds .le a b = false) : b.toInt < a.toInt := own_lt_t (by rw [(own_cmp a b).2.2.1] at h; simpa using h)
theorem own_eq_t {a b : Int32} (h : if_icmp.holds .eq a b = true) : a = b := by
  by_cases q : a = b
  · exact q
  · rw [(feq q).1] at h; cases h
theorem own_eq_f {a b : Int32} (h : if_icmp.holds .eq a b = false) : ¬ a = b := fun q => by rw [(teq q).1] at h; cases h
theorem own_ne_t {a b : Int32} (h : if_icmp.holds .ne a b = true) : ¬ a = b := fun q => by rw [(teq q).2] at h; cases h
theorem own_ne_f {a b : Int32} (h : if_icmp.holds .ne a b = false) : a = b := by
  by_cases q : a = b
  · exact q
  · rw [(feq q).2] at h; cases h
theorem own_ten {a b : Int32} (h : ¬ a = b) : ¬ a.toInt = b.toInt := fun q => h (Int32.toInt_inj.mp q)
-- and back
theorem own_t_lt {a b : Int32} (h : a.toInt < b.toInt) : if_icmp.holds .lt a b = true := (tlt (Int32.lt_iff_toInt_lt.mpr h)).1
theorem own_f_lt {a b : Int32} (h : b.toInt ≤ a.toInt) : if_icmp.holds .lt a b = false := (flt (fun q => by rw [Int32.lt_iff_toInt_lt] at q; omega)).1
theorem own_t_ge {a b : Int32} (h : b.toInt ≤ a.toInt) : if_icmp.holds .ge a b = true := by rw [(own_cmp a b).1, own_f_lt h]; rfl
theorem own_f_ge {a b : Int32} (h : a.toInt < b.toInt) : if_icmp.holds .ge a b = false := by rw [(own_cmp a b).1, own_t_lt h]; rfl
theorem own_t_gt {a b : Int32} (h : b.toInt < a.toInt) : if_icmp.holds .gt a b = true := by rw [(own_cmp a b).2.1, own_t_lt h]
theorem own_f_gt {a b : Int32} (h : a.toInt ≤ b.toInt) : if_icmp.holds .gt a b = false := by rw [(own_cmp a b).2.1, own_f_lt h]
theorem own_t_le {a b : Int32} (h : a.toInt ≤ b.toInt) : if_icmp.holds .le a b = true := by rw [(own_cmp a b).2.2.1, own_f_lt h]; rfl
theorem own_f_le {a b : Int32} (h : b.toInt < a.toInt) : if_icmp.holds .le a b = false := by rw [(own_cmp a b).2.2.1, own_t_lt h]; rfl
theorem own_t_eq {a b : Int32} (h : a = b) : if_icmp.holds .eq a b = true := (teq h).1
theorem own_f_eq {a b : Int32} (h : ¬ a = b) : if_icmp.holds .eq a b = false := (feq h).1
theorem own_t_ne {a b : Int32} (h : ¬ a = b) : if_icmp.holds .ne a b = true := (feq h).2
theorem own_f_ne {a b : Int32} (h : a = b) : if_icmp.holds .ne a b = false := (teq h).2
-- returns
theorem own_retI {z : Int32} (S : own_S p l e s m args below meth c Z a0 n0 y code mx (some .int) R T h cells slots) (hd : decode code pc = .ok (.ireturn, 1)) (hk : cells ≤ R.cells) (hn : slots ≤ R.slots) (HQ : Q (some (.int z)) h) : own_G p e s below R n0 Q T (mkF m pc ls (.int z :: st)) := by
  obtain ⟨locs, X, eT, N, _, hx, _, _, hby, _, _, _, hlk, hret⟩ := S
  obtain ⟨fs, hr, hrun, hended, hW, hsame⟩ := X.leave (v := some (.int z)) (fun q => by rw [hret] at q; cases q) hlk
  exact ⟨_, _, retOut X hx hret rfl (Or.inl ⟨rfl, Or.inl rfl, z, rfl⟩) (hb hby hd) hr, hrun, hended, _, locs, rfl, ⟨by show Q _ T.heap; rw [eT]; exact HQ, N⟩, ⟨_, rfl⟩, hW, hsame.mono hk hn⟩
theorem own_retZ {z : Int32} (hz : z = 0 ∨ z = 1) (S : own_S p l e s m args below meth c Z a0 n0 y code mx (some .boolean) R T h cells slots) (hd : decode code pc = .ok (.ireturn, 1)) (hk : cells ≤ R.cells) (hn : slots ≤ R.slots) (HQ : Q (some (.int z)) h) : own_G p e s below R n0 Q T (mkF m pc ls (.int z :: st)) := by
  obtain ⟨locs, X, eT, N, _, hx, _, _, hby, _, _, _, hlk, hret⟩ := S
  obtain ⟨fs, hr, hrun, hended, hW, hsame⟩ := X.leave (v := some (.int z)) (fun q => by rw [hret] at q; cases q) hlk
  have hnz : narrow .boolean (.int z) = .int z := by rcases hz with rfl | rfl <;> rfl
  exact ⟨_, _, retOut X hx hret hnz (Or.inl ⟨rfl, Or.inr (Or.inl rfl), z, rfl⟩) (hb hby hd) hr, hrun, hended, _, locs, rfl, ⟨by show Q _ T.heap; rw [eT]; exact HQ, N⟩, ⟨_, rfl⟩, hW, hsame.mono hk hn⟩
theorem own_retB {z : Int32} (hz : z.toInt8.toInt32 = z) (S : own_S p l e s m args below meth c Z a0 n0 y code mx (some .byte) R T h cells slots) (hd : decode code pc = .ok (.ireturn, 1)) (hk : cells ≤ R.cells) (hn : slots ≤ R.slots) (HQ : Q (some (.int z)) h) : own_G p e s below R n0 Q T (mkF m pc ls (.int z :: st)) := by
  obtain ⟨locs, X, eT, N, _, hx, _, _, hby, _, _, _, hlk, hret⟩ := S
  obtain ⟨fs, hr, hrun, hended, hW, hsame⟩ := X.leave (v := some (.int z)) (fun q => by rw [hret] at q; cases q) hlk
  have hnz : narrow .byte (.int z) = .int z := by show Value.int z.toInt8.toInt32 = _; rw [hz]
  exact ⟨_, _, retOut X hx hret hnz (Or.inl ⟨rfl, Or.inr (Or.inr (Or.inl rfl)), z, rfl⟩) (hb hby hd) hr, hrun, hended, _, locs, rfl, ⟨by show Q _ T.heap; rw [eT]; exact HQ, N⟩, ⟨_, rfl⟩, hW, hsame.mono hk hn⟩
theorem own_retA {w : Value} {t : FieldType} (hw : w.isRef = true) (ht : t.isReference = true) (S : own_S p l e s m args below meth c Z a0 n0 y code mx (some t) R T h cells slots) (hd : decode code pc = .ok (.areturn, 1)) (hk : cells ≤ R.cells) (hn : slots ≤ R.slots) (HQ : Q (some w) h) : own_G p e s below R n0 Q T (mkF m pc ls (w :: st)) := by
  obtain ⟨locs, X, eT, N, _, hx, _, _, hby, _, _, _, hlk, hret⟩ := S
  obtain ⟨fs, hr, hrun, hended, hW, hsame⟩ := X.leave (v := some w) (fun q => by rw [hret] at q; cases q) hlk
  have hnz : narrow t w = w := by rcases ref_cases hw with rfl | ⟨b, rfl⟩ <;> cases t <;> rfl
  exact ⟨_, _, retOut X hx hret hnz (Or.inr (Or.inr (Or.inr (Or.inr ⟨rfl, ht, hw⟩)))) (hb hby hd) hr, hrun, hended, _, locs, rfl, ⟨by show Q _ T.heap; rw [eT]; exact HQ, N⟩, ⟨_, rfl⟩, hW, hsame.mono hk hn⟩
theorem own_ret (S : own_S p l e s m args below meth c Z a0 n0 y code mx none R T h cells slots) (hd : decode code pc = .ok (.return_, 1)) (hk : cells ≤ R.cells) (hn : slots ≤ R.slots) (HQ : Q none h) : own_G p e s below R n0 Q T (mkF m pc ls []) := by
  obtain ⟨locs, X, eT, N, _, hx, _, _, hby, _, _, _, hlk, hret⟩ := S
  obtain ⟨fs, hr, hrun, hended, hW, hsame⟩ := X.leave (v := none) (fun _ => rfl) hlk
  exact ⟨_, _, X.returnOut hx hret (hb hby hd) hr, hrun, hended, _, locs, rfl, ⟨by show Q _ T.heap; rw [eT]; exact HQ, N⟩, ⟨_, rfl⟩, hW, hsame.mono hk hn⟩
-- arrays
/-- at a stands an array of n places of the kind ty; place j holds g j -/
def own_A (Z : State) (h : Heap) (a : Addr) (ty : FieldType) (n : Nat) (g : Nat → Value) : Prop := ∃ cl : Cell, Arr Z h a cl ty ∧ cl.slots.size = n ∧ ∀ j, j < n → cl.slots[j]? = some (g j)
def own_upd (g : Nat → Value) (k : Nat) (v : Value) : Nat → Value := fun j => if j = k then v else g j
theorem own_Alt {a : Addr} {ty : FieldType} {n : Nat} {g : Nat → Value} (A : own_A Z h a ty n g) : a < h.size := by obtain ⟨_, A, _⟩ := A; exact A.lt
theorem own_Aext {h' : Heap} {a : Addr} {ty : FieldType} {n : Nat} {g : Nat → Value} (A : own_A Z h a ty n g) (E : Ext h h') : own_A Z h' a ty n g := by obtain ⟨cl, A, r⟩ := A; exact ⟨cl, A.ext E, r⟩
theorem own_Awr {h' : Heap} {a b : Addr} {ty : FieldType} {n sl : Nat} {v : Value} {g : Nat → Value} (A : own_A Z h a ty n g) (W : Wr h h' b sl v) (ne : a ≠ b) : own_A Z h' a ty n g := by obtain ⟨cl, A, r⟩ := A; exact ⟨cl, A.other W ne, r⟩
theorem own_Akeep {h' : Heap} {a : Addr} {ty : FieldType} {n : Nat} {ws : List Addr} {g : Nat → Value} (A : own_A Z h a ty n g) (K : Keep h h' ws) (q : a ∉ ws) : own_A Z h' a ty n g := by obtain ⟨cl, A, r⟩ := A; exact ⟨cl, ⟨K.2.1 a cl A.1 q, A.2⟩, r⟩
theorem own_Aof {a : Addr} {ty : FieldType} {n : Nat} {g g' : Nat → Value} (A : own_A Z h a ty n g) (q : ∀ j, j < n → g j = g' j) : own_A Z h a ty n g' := by obtain ⟨cl, A, r, t⟩ := A; exact ⟨cl, A, r, fun j hj => by rw [← q j hj]; exact t j hj⟩
theorem own_ix {x : Int32} {k : Nat} (hi : x.toInt = k) : x.toNatClampNeg = k ∧ ¬ x < 0 := by
  refine ⟨by rw [Int32.toNatClampNeg, hi]; rfl, ?_⟩
  rw [Int32.lt_iff_toInt_lt, hi, show (0 : Int32).toInt = 0 from rfl]; omega
theorem own_in {x : Int32} {k n : Nat} {cl : Cell} (hi : x.toInt = k) (hk : k < n) (hs : cl.slots.size = n) : ¬ (x < 0 ∨ cl.slots.size ≤ x.toNatClampNeg) := by
  obtain ⟨q1, q2⟩ := own_ix hi
  rw [hs, q1]
  exact fun q => q.elim q2 (fun q => by omega)
theorem own_iaload {a : Addr} {x w : Int32} {k n : Nat} {g : Nat → Value} (S : own_S p l e s m args below meth c Z a0 n0 y code mx ret R T h cells slots) (A : own_A Z h a .int n g) (hi : x.toInt = k) (hk : k < n) (hv : g k = .int w) (hp : pc + 1 = pc') (hd : decode code pc = .ok (.iaload, 1))
    (H : own_G p e s below R n0 Q T (mkF m pc' ls (.int w :: st))) : own_G p e s below R n0 Q T (mkF m pc ls (.int x :: .ref a :: st)) := by
  obtain ⟨_, X, eT, _, _, hx, hZ, _, hby, _⟩ := S; subst hp
  obtain ⟨cl, Ar, hs, ht⟩ := A
  exact own_by (fun t k => X.iaload hx (g := mkF m pc ls (.int x :: .ref a :: st)) (by rw [eT]; exact Ar.1) (State.isArrayOf_alike hZ.alike Ar.2.1) Ar.2.2 (own_in hi hk hs) (by rw [(own_ix hi).1, ht _ hk, hv]) rfl rfl (hb hby hd) t k) H
theorem own_baloadB {a : Addr} {x w : Int32} {k n : Nat} {g : Nat → Value} (S : own_S p l e s m args below meth c Z a0 n0 y code mx ret R T h cells slots) (A : own_A Z h a .byte n g) (hi : x.toInt = k) (hk : k < n) (hv : g k = .int w) (hp : pc + 1 = pc') (hd : decode code pc = .ok (.baload, 1))
    (H : own_G p e s below R n0 Q T (mkF m pc' ls (.int w :: st))) : own_G p e s below R n0 Q T (mkF m pc ls (.int x :: .ref a :: st)) := by
  obtain ⟨_, X, eT, _, _, hx, hZ, _, hby, _⟩ := S; subst hp
  obtain ⟨cl, Ar, hs, ht⟩ := A
  exact own_by (fun t k => X.baloadBytes hx (g := mkF m pc ls (.int x :: .ref a :: st)) (by rw [eT]; exact Ar.1) (State.isArrayOf_alike hZ.alike Ar.2.1) Ar.2.2 (own_in hi hk hs) (by rw [(own_ix hi).1, ht _ hk, hv]) rfl rfl (hb hby hd) t k) H
theorem own_baloadZ {a : Addr} {x w : Int32} {k n : Nat} {g : Nat → Value} (S : own_S p l e s m args below meth c Z a0 n0 y code mx ret R T h cells slots) (A : own_A Z h a .boolean n g) (hi : x.toInt = k) (hk : k < n) (hv : g k = .int w) (hp : pc + 1 = pc') (hd : decode code pc = .ok (.baload, 1))
    (H : own_G p e s below R n0 Q T (mkF m pc' ls (.int w :: st))) : own_G p e s below R n0 Q T (mkF m pc ls (.int x :: .ref a :: st)) := by
  obtain ⟨_, X, eT, _, _, hx, hZ, _, hby, _⟩ := S; subst hp
  obtain ⟨cl, Ar, hs, ht⟩ := A
  exact own_by (fun t k => X.baloadBooleans hx (g := mkF m pc ls (.int x :: .ref a :: st)) (by rw [eT]; exact Ar.1) (State.isArrayOf_alike hZ.alike Ar.2.1) Ar.2.2 (own_in hi hk hs) (by rw [(own_ix hi).1, ht _ hk, hv]) rfl rfl (hb hby hd) t k) H
theorem own_caload {a : Addr} {x w : Int32} {k n : Nat} {g : Nat → Value} (S : own_S p l e s m args below meth c Z a0 n0 y code mx ret R T h cells slots) (A : own_A Z h a .char n g) (hi : x.toInt = k) (hk : k < n) (hv : g k = .int w) (hp : pc + 1 = pc') (hd : decode code pc = .ok (.caload, 1))
    (H : own_G p e s below R n0 Q T (mkF m pc' ls (.int w :: st))) : own_G p e s below R n0 Q T (mkF m pc ls (.int x :: .ref a :: st)) := by
  obtain ⟨_, X, eT, _, _, hx, hZ, _, hby, _⟩ := S; subst hp
  obtain ⟨cl, Ar, hs, ht⟩ := A
  exact own_by (fun t k => X.caload hx (g := mkF m pc ls (.int x :: .ref a :: st)) (by rw [eT]; exact Ar.1) (State.isArrayOf_alike hZ.alike Ar.2.1) Ar.2.2 (own_in hi hk hs) (by rw [(own_ix hi).1, ht _ hk, hv]) rfl rfl (hb hby hd) t k) H
theorem own_alen {a : Addr} {ty : FieldType} {w : Int32} {n : Nat} {g : Nat → Value} (S : own_S p l e s m args below meth c Z a0 n0 y code mx ret R T h cells slots) (A : own_A Z h a ty n g) (hv : w.toInt = n) (hp : pc + 1 = pc') (hd : decode code pc = .ok (.arraylength, 1))
    (H : own_G p e s below R n0 Q T (mkF m pc' ls (.int w :: st))) : own_G p e s below R n0 Q T (mkF m pc ls (.ref a :: st)) := by
  obtain ⟨_, X, eT, _, _, hx, hZ, _, hby, _⟩ := S; subst hp
  obtain ⟨cl, Ar, hs, ht⟩ := A
  have hq : cl.slots.size.toInt32 = w := by
    have := w.toInt_lt
    apply Int32.toInt_inj.mp
    rw [hs, len_toInt (by omega), hv]
  exact own_by (fun t k => X.arraylength hx (g := mkF m pc ls (.ref a :: st)) (by rw [eT]; exact Ar.1) (State.isArrayOf_alike hZ.alike Ar.2.1) rfl rfl (hb hby hd) t (by rw [hq]; exact k)) H
theorem own_Aset {h' : Heap} {a : Addr} {ty : FieldType} {n k : Nat} {v : Value} {g : Nat → Value} (A : own_A Z h a ty n g) (W : Wr h h' a k v) : own_A Z h' a ty n (own_upd g k v) := by
  obtain ⟨cl, Ar, hs, ht⟩ := A
  refine ⟨_, Ar.same W, by rw [sz_set]; exact hs, fun j hj => ?_⟩
  unfold own_upd
  by_cases q : j = k
  · subst q
    rw [if_pos rfl]
    have : j < cl.slots.size := by rw [hs]; exact hj
    simp [Cell.setSlot, this]
  · rw [if_neg q]
    simp only [Cell.setSlot]
    rw [Array.getElem?_setIfInBounds_ne (Ne.symm q)]
    exact ht j hj
theorem own_iastore {a : Addr} {x w : Int32} {k n : Nat} {g : Nat → Value} (S : own_S p l e s m args below meth c Z a0 n0 y code mx ret R T h cells slots) (A : own_A Z h a .int n g) (hi : x.toInt = k) (hk : k < n) (ha : n0 ≤ a) (hp : pc + 1 = pc') (hd : decode code pc = .ok (.iastore, 1))
    (H : ∀ T' h', own_S p l e s m args below meth c Z a0 n0 y code mx ret R T' h' cells slots → Wr h h' a k (.int w) → own_A Z h' a .int n (own_upd g k (.int w)) → own_G p e s below R n0 Q T' (mkF m pc' ls st)) : own_G p e s below R n0 Q T (mkF m pc ls (.int w :: .int x :: .ref a :: st)) := by
  obtain ⟨locs, X, eT, N, hn, hx, hZ, hw, hby, r⟩ := S; subst hp
  have A' := A
  obtain ⟨cl, Ar, hs, ht⟩ := A
  obtain ⟨T', h', X', e', W, stp⟩ := stI X hx hZ eT Ar (j := x) (own_in hi hk hs) (g := mkF m pc ls (.int w :: .int x :: .ref a :: st)) rfl rfl (hb hby hd)
  have N' := Fr.snoc X' N ha
  rw [(own_ix hi).1] at W
  exact own_by stp (H T' h' ⟨_, X', e', N', hn, hx, hZ, hw, hby, r⟩ W (own_Aset A' W))
theorem own_bastoreB {a : Addr} {x w : Int32} {k n : Nat} {g : Nat → Value} (S : own_S p l e s m args below meth c Z a0 n0 y code mx ret R T h cells slots) (A : own_A Z h a .byte n g) (hi : x.toInt = k) (hk : k < n) (ha : n0 ≤ a) (hp : pc + 1 = pc') (hd : decode code pc = .ok (.bastore, 1))
    (H : ∀ T' h', own_S p l e s m args below meth c Z a0 n0 y code mx ret R T' h' cells slots → Wr h h' a k (.int (nar .byte w)) → own_A Z h' a .byte n (own_upd g k (.int (nar .byte w))) → own_G p e s below R n0 Q T' (mkF m pc' ls st)) : own_G p e s below R n0 Q T (mkF m pc ls (.int w :: .int x :: .ref a :: st)) := by
  obtain ⟨locs, X, eT, N, hn, hx, hZ, hw, hby, r⟩ := S; subst hp
  have A' := A
  obtain ⟨cl, Ar, hs, ht⟩ := A
  obtain ⟨T', h', X', e', W, stp⟩ := stB X hx hZ eT Ar (j := x) (own_in hi hk hs) (g := mkF m pc ls (.int w :: .int x :: .ref a :: st)) rfl rfl (hb hby hd)
  have N' := Fr.snoc X' N ha
  rw [(own_ix hi).1] at W
  exact own_by stp (H T' h' ⟨_, X', e', N', hn, hx, hZ, hw, hby, r⟩ W (own_Aset A' W))
theorem own_bastoreZ {a : Addr} {x w : Int32} {k n : Nat} {g : Nat → Value} (S : own_S p l e s m args below meth c Z a0 n0 y code mx ret R T h cells slots) (A : own_A Z h a .boolean n g) (hi : x.toInt = k) (hk : k < n) (ha : n0 ≤ a) (hp : pc + 1 = pc') (hd : decode code pc = .ok (.bastore, 1))
    (H : ∀ T' h', own_S p l e s m args below meth c Z a0 n0 y code mx ret R T' h' cells slots → Wr h h' a k (.int (nar .boolean w)) → own_A Z h' a .boolean n (own_upd g k (.int (nar .boolean w))) → own_G p e s below R n0 Q T' (mkF m pc' ls st)) : own_G p e s below R n0 Q T (mkF m pc ls (.int w :: .int x :: .ref a :: st)) := by
  obtain ⟨locs, X, eT, N, hn, hx, hZ, hw, hby, r⟩ := S; subst hp
  have A' := A
  obtain ⟨cl, Ar, hs, ht⟩ := A
  obtain ⟨T', h', X', e', W, stp⟩ := stZ X hx hZ eT Ar (j := x) (own_in hi hk hs) (g := mkF m pc ls (.int w :: .int x :: .ref a :: st)) rfl rfl (hb hby hd)
  have N' := Fr.snoc X' N ha
  rw [(own_ix hi).1] at W
  exact own_by stp (H T' h' ⟨_, X', e', N', hn, hx, hZ, hw, hby, r⟩ W (own_Aset A' W))
theorem own_castore {a : Addr} {x w : Int32} {k n : Nat} {g : Nat → Value} (S : own_S p l e s m args below meth c Z a0 n0 y code mx ret R T h cells slots) (A : own_A Z h a .char n g) (hi : x.toInt = k) (hk : k < n) (ha : n0 ≤ a) (hp : pc + 1 = pc') (hd : decode code pc = .ok (.castore, 1))
    (H : ∀ T' h', own_S p l e s m args below meth c Z a0 n0 y code mx ret R T' h' cells slots → Wr h h' a k (.int (nar .char w)) → own_A Z h' a .char n (own_upd g k (.int (nar .char w))) → own_G p e s below R n0 Q T' (mkF m pc' ls st)) : own_G p e s below R n0 Q T (mkF m pc ls (.int w :: .int x :: .ref a :: st)) := by
  obtain ⟨locs, X, eT, N, hn, hx, hZ, hw, hby, r⟩ := S; subst hp
  have A' := A
  obtain ⟨cl, Ar, hs, ht⟩ := A
  obtain ⟨T', h', X', e', W, stp⟩ := stC X hx hZ eT Ar (j := x) (own_in hi hk hs) (g := mkF m pc ls (.int w :: .int x :: .ref a :: st)) rfl rfl (hb hby hd)
  have N' := Fr.snoc X' N ha
  rw [(own_ix hi).1] at W
  exact own_by stp (H T' h' ⟨_, X', e', N', hn, hx, hZ, hw, hby, r⟩ W (own_Aset A' W))
theorem own_newarray {aty : ArrayType} {x : Int32} {n : Nat} (cap : Nat) (S : own_S p l e s m args below meth c Z a0 n0 y code mx ret R T h cells slots) (w : Jvm.Cond.arrayClass (newarray.typeOf aty) ∈ tables_1) (hi : x.toInt = n) (hcap : n ≤ cap) (hb8 : cap * 8 ≤ 536870912) (hc : cells + 1 ≤ R.cells) (hl : slots + cap ≤ R.slots) (hp : pc + 2 = pc') (hd : decode code pc = .ok (.newarray aty, 2))
    (H : ∀ T' h' a, a = h.size → n0 ≤ a → own_S p l e s m args below meth c Z a0 n0 y code mx ret R T' h' (cells + 1) (slots + cap) → Ext h h' → own_A Z h' a (newarray.typeOf aty) n (fun _ => defaultValue (newarray.typeOf aty)) → own_G p e s below R n0 Q T' (mkF m pc' ls (.ref a :: st))) : own_G p e s below R n0 Q T (mkF m pc ls (.int x :: st)) := by
  obtain ⟨locs, X, eT, N, hn, hx, hZ, hw, hby, r⟩ := S; subst hp
  obtain ⟨q1, q2⟩ := own_ix hi
  obtain ⟨T', h', k, X', e', E, Ar, stp⟩ := newP X hx hZ (hw _ w) eT (g := mkF m pc ls (.int x :: st)) rfl (hb hby hd) rfl q2 (cap := cap) (by rw [q1]; exact hcap) hb8 hc hl
  refine own_by stp (H T' h' h.size rfl (by rw [← eT]; exact Nat.le_trans hn X.same.2.1) ⟨_, X', e', N, hn, hx, hZ, hw, hby, r⟩ E ⟨_, Ar, by rw [sz_new, q1], fun j hj => ?_⟩)
  simp [newA, q1, hj]
-- objects
theorem own_new {idx n : Nat} {C : String} (S : own_S p l e s m args below meth c Z a0 n0 y code mx ret R T h cells slots) (w1 : Jvm.Cond.classLink y.cls idx C ∈ tables_1) (w2 : Jvm.Cond.instantiable C n ∈ tables_1) (w3 : Jvm.Cond.initialized C ∈ tables_1) (hc : cells + 1 ≤ R.cells) (hl : slots + n ≤ R.slots) (hp : pc + 3 = pc') (hd : decode code pc = .ok (.new idx, 3))
    (H : ∀ T' h' a, a = h.size → n0 ≤ a → own_S p l e s m args below meth c Z a0 n0 y code mx ret R T' h' (cells + 1) (slots + n) → Ext h h' → Exa Z h' a C → (∀ {O nm d : String} {ty : FieldType}, (Jvm.Cond.lays C O nm d ∈ tables_1 ∨ Jvm.Cond.laysFinal C O nm d ∈ tables_1) → parseFieldDescriptor d = some ty → Fld Z h' a O nm d (defaultValue ty)) → own_G p e s below R n0 Q T' (mkF m pc' ls (.ref a :: st))) : own_G p e s below R n0 Q T (mkF m pc ls st) := by
  obtain ⟨locs, X, eT, N, hn, hx, hZ, hw, hby, hmx, hown, r⟩ := S; subst hp
  obtain ⟨T', h', X', e', E, A, D, -, stp⟩ := newO X hx hZ hown (hw _ w1) (hw _ w2) (hw _ w3) eT (g := mkF m pc ls st) rfl (hb hby hd) hc hl
  exact own_by stp (H T' h' h.size rfl (by rw [← eT]; exact Nat.le_trans hn X.same.2.1) ⟨_, X', e', N, hn, hx, hZ, hw, hby, hmx, hown, r⟩ E A (fun q ht => D (q.imp (hw _) (hw _)) ht))
theorem own_getfield {idx : Nat} {O n d : String} {a : Addr} {v : Value} (S : own_S p l e s m args below meth c Z a0 n0 y code mx ret R T h cells slots) (w : Jvm.Cond.fieldLink y.cls idx O n d ∈ tables_1) (F : Fld Z h a O n d v) (hp : pc + 3 = pc') (hd : decode code pc = .ok (.getfield idx, 3))
    (H : ∀ T', own_S p l e s m args below meth c Z a0 n0 y code mx ret R T' h cells slots → own_G p e s below R n0 Q T' (mkF m pc' ls (v :: st))) : own_G p e s below R n0 Q T (mkF m pc ls (.ref a :: st)) := by
  obtain ⟨locs, X, eT, N, hn, hx, hZ, hw, hby, hmx, hown, r⟩ := S; subst hp
  obtain ⟨T', X', e', stp⟩ := getF X hx hZ hown (host := "") (Or.inl (hw _ w)) Via.refl eT F (g := mkF m pc ls (.ref a :: st)) rfl rfl (hb hby hd)
  exact own_by stp (H T' ⟨_, X', e', N, hn, hx, hZ, hw, hby, hmx, hown, r⟩)
theorem own_putfield {idx kk : Nat} {O n d C : String} {a : Addr} {v old : Value} {ty : FieldType} (S : own_S p l e s m args below meth c Z a0 n0 y code mx ret R T h cells slots) (w : Jvm.Cond.fieldLink y.cls idx O n d ∈ tables_1) (F : Fld Z h a O n d old) (E : Exa Z h a C) (L : Jvm.Cond.lays C O n d ∈ tables_1 ∨ (Jvm.Cond.laysFinal C O n d ∈ tables_1 ∧ y.cls = O ∧ y.name = "<init>")) (wi : Jvm.Cond.instantiable C kk ∈ tables_1)
    (hty : parseFieldDescriptor d = some ty) (hnr : narrow ty v = v) (hf : fits ty v = true) (ha : n0 ≤ a) (hp : pc + 3 = pc') (hd : decode code pc = .ok (.putfield idx, 3))
    (H : ∀ T' h', own_S p l e s m args below meth c Z a0 n0 y code mx ret R T' h' cells slots → Wr h h' a (RoadKit.slotOf Z O n d) v → Fld Z h' a O n d v → own_G p e s below R n0 Q T' (mkF m pc' ls st)) : own_G p e s below R n0 Q T (mkF m pc ls (v :: .ref a :: st)) := by
  obtain ⟨locs, X, eT, N, hn, hx, hZ, hw, hby, hmx, hown, hnm, r⟩ := S; subst hp
  obtain ⟨T', h', X', e', W, stp⟩ := putF X hx hZ hown (host := "") (Or.inl (hw _ w)) Via.refl eT F E (L.imp (hw _) (fun q => ⟨hw _ q.1, q.2.1, hnm.trans q.2.2⟩)) (hw _ wi) hty hnr hf (g := mkF m pc ls (v :: .ref a :: st)) rfl rfl (hb hby hd)
  exact own_by stp (H T' h' ⟨_, X', e', Fr.snoc X' N ha, hn, hx, hZ, hw, hby, hmx, hown, hnm, r⟩ W (F.same W))
theorem own_initO {idx : Nat} {a : Addr} (S : own_S p l e s m args below meth c Z a0 n0 y code mx ret R T h cells slots) (w1 : Jvm.Cond.methodLink y.cls idx Lib.objectInit ∈ tables_1) (w2 : Jvm.Cond.instanceMethod Lib.objectInit ∈ tables_1) (w3 : Jvm.Cond.code Lib.objectInit ⟨#[0xb1]⟩ 1 none ∈ tables_1) (hsz : ls.size = mx) (hf : 1 ≤ R.frames) {W : Nat} (hW : (st.map fun v => v.category).sum ≤ W) (hl : W + 12 ≤ R.locals) (hp : pc + 3 = pc') (hd : decode code pc = .ok (.invokespecial idx, 3))
    (H : ∀ T', own_S p l e s m args below meth c Z a0 n0 y code mx ret R T' h cells slots → own_G p e s below R n0 Q T' (mkF m pc' ls st)) : own_G p e s below R n0 Q T (mkF m pc ls (.ref a :: st)) := by
  obtain ⟨locs, X, eT, N, hn, hx, hZ, hw, hby, hmx, hown, r⟩ := S; subst hp
  obtain ⟨T', X', e', stp⟩ := initO X hx hZ hown (hw _ w1) (hw _ w2) (hw _ w3) eT (g := mkF m pc ls (.ref a :: st)) rfl (by rw [hmx]; exact hsz) rfl (hb hby hd) hf (W := W) (by show 2 * 0 + _ ≤ _; omega) hl
  exact own_by stp (H T' ⟨_, X', e', N, hn, hx, hZ, hw, hby, hmx, hown, r⟩)
-- contracts
/-- yy, called at the heap h0 with the arguments as', returns as Q says -/
def own_Met (l : Launch) (Z : State) (h0 : Heap) (n0 : Nat) (yy : MethodName) (bytes : ByteArray) (mx : Nat) (ret : Option FieldType) (ws : List Jvm.Cond) (rm : Room) (as' : Array Value) (Q : Option Value → Heap → Prop) : Prop :=
  MetFree l yy (head1 (Jvm.Cond.code yy bytes mx ret :: ws) rm) (fun a U => a = as' ∧ Z.Warmed39 U.vm ∧ U.heap = h0) (fun _ _ _ _ _ => True) (fun _ U o U' => ∃ v L, o = .returned v ∧ (Q v U'.heap ∧ Fr n0 L) ∧ FrameEnd U o U' L rm.cells rm.slots)
theorem own_met {yy : MethodName} {bytes : ByteArray} {ws : List Jvm.Cond} {rm : Room} {as' : Array Value} {h0 : Heap} (hpn : plainName yy.cls = true) (hef : ∀ m, entryFrame m as' mx = mkF m 0 ls []) (hn : n0 ≤ h0.size) (hw : ∀ d ∈ tables_1, d.before a0 Z = true)
    (H : ∀ p e s m below meth c T, own_S p l e s m as' below meth c Z a0 n0 yy bytes mx ret rm T h0 0 0 → own_G p e s below rm n0 Q T (mkF m 0 ls [])) : own_Met l Z h0 n0 yy bytes mx ret ws rm as' Q := by
  refine MetFree.of_bodySF (plainFor_of_name hpn) hisR ?_
  intro p e s m args below meth c s₁ Bd hml0 hP hK
  obtain ⟨rfl, hZ, hh⟩ := hP
  have e0 : s₁.heap = h0 := by rw [← hh, Bd.state]; rfl
  rw [hef m]
  exact H p e s m below meth c s₁ ⟨[], Stand.of_body Bd, e0, Fr.nil n0, by rw [hh]; exact hn, Bd.exec, hZ, hw, Bd.bytes, hml0, findClass_of_methodNamed Bd.named, (name_of_methodNamed Bd.named Bd.method).1, Bd.notSynchronized, Bd.returns⟩
/-- what a method that hands back a value, or none, says -/
def own_V (q : Value → Heap → Prop) : Option Value → Heap → Prop := fun v h => ∃ w, v = some w ∧ q w h
def own_N (q : Heap → Prop) : Option Value → Heap → Prop := fun v h => v = none ∧ q h
theorem own_callS {idx : Nat} {yy : MethodName} {bytes : ByteArray} {maxL : Nat} {rt : Option FieldType} {rm : Room} {Q' : Option Value → Heap → Prop} {ps : List FieldType} {r' : Option FieldType} (argsL rest : List Value) (S : own_S p l e s m args below meth c Z a0 n0 y code mx ret R T h cells slots)
    (w1 : Jvm.Cond.methodLink y.cls idx yy ∈ tables_1) (w2 : Jvm.Cond.static yy ∈ tables_1) (w3 : Jvm.Cond.initialized yy.cls ∈ tables_1) (w4 : Jvm.Cond.code yy bytes maxL rt ∈ tables_1) (hy : yy.cls ≠ "java/lang/invoke/MethodHandle" ∧ yy.cls ≠ "java/lang/invoke/VarHandle")
    (M : own_Met l Z h n0 yy bytes maxL rt [] rm argsL.toArray Q') (hds : parseMethodDescriptor yy.desc = some ⟨ps, r'⟩) (hal : argsL.length = ps.length) (hst : st = argsL.reverse ++ rest) (hsz : ls.size = mx) {W : Nat} (hW : (rest.map fun v => v.category).sum ≤ W)
    (hfr : rm.frames + 1 ≤ R.frames) (hlo : W + (maxL + 11) + rm.locals ≤ R.locals) (hc : cells + rm.cells ≤ R.cells) (hs : slots + rm.slots ≤ R.slots) (hp : pc + 3 = pc') (hd : decode code pc = .ok (.invokestatic idx, 3))
    (H : ∀ T' h' v, own_S p l e s m args below meth c Z a0 n0 y code mx ret R T' h' (cells + rm.cells) (slots + rm.slots) → Q' v h' → own_G p e s below R n0 Q T' (mkF m pc' ls (v.toList ++ rest))) : own_G p e s below R n0 Q T (mkF m pc ls st) := by
  obtain ⟨locs, X, eT, N, hn, hx, hZ, hw, hby, hmx, hown, r⟩ := S; subst hp hst
  obtain ⟨v, _, ⟨T', L', k', n'⟩, -, X', ⟨Lc, hQ, l', y', z'⟩, stp⟩ := Jvm.LawKit.callS X hx (y := yy) hown (mvT hZ (hw _ w1)) (mvT hZ (hw _ w2)) (mvT hZ (hw _ w3)) (mvT hZ (hw _ w4)) hy (backOf (Q := fun v h L => Q' v h ∧ Fr n0 L) (W := W) M hZ (hw _ w4) (hw _ w3) hfr hlo) (g := mkF m pc ls (argsL.reverse ++ rest)) rfl (by rw [hmx]; exact hsz) (argsL := argsL) (rest := rest) (lenOf hds hal) rfl (by show 2 * 0 + _ ≤ _; omega) (hb hby hd) (fun _ _ => ⟨rfl, eT, hc, hs⟩)
  dsimp only [Pt.U, Pt.locs, Pt.cells, Pt.slots] at X' l' y' z' stp hQ
  subst l' y' z'
  exact own_by stp (H T' T'.heap v ⟨_, X', rfl, Fr.app N hQ.2, hn, hx, hZ, hw, hby, hmx, hown, r⟩ hQ.1)
theorem own_callI {idx : Nat} {yy : MethodName} {bytes : ByteArray} {maxL : Nat} {rm : Room} {Q' : Option Value → Heap → Prop} {ps : List FieldType} {r' : Option FieldType} (argsL rest : List Value) (S : own_S p l e s m args below meth c Z a0 n0 y code mx ret R T h cells slots) {b : Addr}
    (w1 : Jvm.Cond.methodLink y.cls idx yy ∈ tables_1) (w2 : Jvm.Cond.instanceMethod yy ∈ tables_1) (w3 : Jvm.Cond.initialized yy.cls ∈ tables_1) (w4 : Jvm.Cond.code yy bytes maxL none ∈ tables_1) (hnm : yy.name = "<init>") (hy : yy.cls ≠ "java/lang/invoke/MethodHandle" ∧ yy.cls ≠ "java/lang/invoke/VarHandle")
    (M : own_Met l Z h n0 yy bytes maxL none [] rm (.ref b :: argsL).toArray Q') (hds : parseMethodDescriptor yy.desc = some ⟨ps, r'⟩) (hal : argsL.length = ps.length) (hst : st = argsL.reverse ++ .ref b :: rest) (hsz : ls.size = mx) {W : Nat} (hW : (rest.map fun v => v.category).sum ≤ W)
    (hfr : rm.frames + 1 ≤ R.frames) (hlo : W + (maxL + 11) + rm.locals ≤ R.locals) (hc : cells + rm.cells ≤ R.cells) (hs : slots + rm.slots ≤ R.slots) (hp : pc + 3 = pc') (hd : decode code pc = .ok (.invokespecial idx, 3))
    (H : ∀ T' h' v, own_S p l e s m args below meth c Z a0 n0 y code mx ret R T' h' (cells + rm.cells) (slots + rm.slots) → Q' v h' → own_G p e s below R n0 Q T' (mkF m pc' ls (v.toList ++ rest))) : own_G p e s below R n0 Q T (mkF m pc ls st) := by
  obtain ⟨locs, X, eT, N, hn, hx, hZ, hw, hby, hmx, hown, r⟩ := S; subst hp hst
  obtain ⟨v, _, ⟨T', L', k', n'⟩, -, X', ⟨Lc, hQ, l', y', z'⟩, stp⟩ := X.specialBack hx (y := yy) hnm hown (mvT hZ (hw _ w1)) (mvT hZ (hw _ w2)) (mvT hZ (hw _ w4)) hy (backOf (Q := fun v h L => Q' v h ∧ Fr n0 L) (W := W) M hZ (hw _ w4) (hw _ w3) hfr hlo) (g := mkF m pc ls (argsL.reverse ++ .ref b :: rest)) rfl (by rw [hmx]; exact hsz) (Steps.refl _) (a := b) (argsL := argsL) (rest := rest) (lenOf hds hal) rfl (by show 2 * 0 + _ ≤ _; omega) (hb hby hd) (fun _ _ => ⟨rfl, eT, hc, hs⟩)
  dsimp only [Pt.U, Pt.locs, Pt.cells, Pt.slots] at X' l' y' z' stp hQ
  subst l' y' z'
  exact own_by (fun _ k => stp.trans k) (H T' T'.heap v ⟨_, X', rfl, Fr.app N hQ.2, hn, hx, hZ, hw, hby, hmx, hown, r⟩ hQ.1)
theorem own_callV {idx : Nat} {yy : MethodName} {bytes : ByteArray} {maxL : Nat} {rt : Option FieldType} {rm : Room} {Q' : Option Value → Heap → Prop} {ps : List FieldType} {r' : Option FieldType} (argsL rest : List Value) (S : own_S p l e s m args below meth c Z a0 n0 y code mx ret R T h cells slots) {b : Addr} {C : String}
    (w1 : Jvm.Cond.methodLink y.cls idx yy ∈ tables_1) (w2 : Jvm.Cond.declares yy ∈ tables_1) (w5 : Jvm.Cond.selects C yy yy ∈ tables_1) (w6 : Jvm.Cond.instanceMethod yy ∈ tables_1) (w3 : Jvm.Cond.initialized yy.cls ∈ tables_1) (w4 : Jvm.Cond.code yy bytes maxL rt ∈ tables_1) (hy : yy.cls ≠ "java/lang/invoke/MethodHandle" ∧ yy.cls ≠ "java/lang/invoke/VarHandle")
    (E : Exa Z h b C) (M : own_Met l Z h n0 yy bytes maxL rt [] rm (.ref b :: argsL).toArray Q') (hds : parseMethodDescriptor yy.desc = some ⟨ps, r'⟩) (hal : argsL.length = ps.length) (hst : st = argsL.reverse ++ .ref b :: rest) (hsz : ls.size = mx) {W : Nat} (hW : (rest.map fun v => v.category).sum ≤ W)
    (hfr : rm.frames + 1 ≤ R.frames) (hlo : W + (maxL + 11) + rm.locals ≤ R.locals) (hc : cells + rm.cells ≤ R.cells) (hs : slots + rm.slots ≤ R.slots) (hp : pc + 3 = pc') (hd : decode code pc = .ok (.invokevirtual idx, 3))
    (H : ∀ T' h' v, own_S p l e s m args below meth c Z a0 n0 y code mx ret R T' h' (cells + rm.cells) (slots + rm.slots) → Q' v h' → own_G p e s below R n0 Q T' (mkF m pc' ls (v.toList ++ rest))) : own_G p e s below R n0 Q T (mkF m pc ls st) := by
  obtain ⟨locs, X, eT, N, hn, hx, hZ, hw, hby, hmx, hown, r⟩ := S; subst hp hst
  obtain ⟨cq, kq, qa, qb, qc⟩ := isOf hZ eT E
  obtain ⟨v, _, ⟨T', L', k', n'⟩, -, X', ⟨Lc, hQ, l', y', z'⟩, stp⟩ := X.virtualBack hx (y := yy) (z := yy) hown (mvT hZ (hw _ w1)) (mvT hZ (hw _ w2)) (notFace_of_selects (args := #[]) (mvT hZ (hw _ w5))) (mvT hZ (hw _ w5)) (mvT hZ (hw _ w6)) hy (backOf (Q := fun v h L => Q' v h ∧ Fr n0 L) (W := W) M hZ (hw _ w4) (hw _ w3) hfr hlo) qa qc (g := mkF m pc ls (argsL.reverse ++ .ref b :: rest)) rfl (by rw [hmx]; exact hsz) (Steps.refl _) (argsL := argsL) (rest := rest) (lenOf hds hal) rfl (by show 2 * 0 + _ ≤ _; omega) (hb hby hd) (fun _ _ => ⟨rfl, eT, hc, hs⟩)
  dsimp only [Pt.U, Pt.locs, Pt.cells, Pt.slots] at X' l' y' z' stp hQ
  subst l' y' z'
  exact own_by (fun _ k => stp.trans k) (H T' T'.heap v ⟨_, X', rfl, Fr.app N hQ.2, hn, hx, hZ, hw, hby, hmx, hown, r⟩ hQ.1)
theorem own_callP {idx : Nat} {yy : MethodName} {bytes : ByteArray} {maxL : Nat} {rt : Option FieldType} {rm : Room} {Q' : Option Value → Heap → Prop} {ps : List FieldType} {r' : Option FieldType} (argsL rest : List Value) (S : own_S p l e s m args below meth c Z a0 n0 y code mx ret R T h cells slots) {b : Addr} {C : String} {kk : Nat}
    (w1 : Jvm.Cond.methodLink y.cls idx yy ∈ tables_1) (w6 : Jvm.Cond.instanceMethod yy ∈ tables_1) (w7 : Jvm.Cond.privateMethod yy ∈ tables_1) (w8 : Jvm.Cond.instantiable yy.cls kk ∈ tables_1) (w3 : Jvm.Cond.initialized yy.cls ∈ tables_1) (w4 : Jvm.Cond.code yy bytes maxL rt ∈ tables_1) (hy : yy.cls ≠ "java/lang/invoke/MethodHandle" ∧ yy.cls ≠ "java/lang/invoke/VarHandle")
    (E : Exa Z h b C) (M : own_Met l Z h n0 yy bytes maxL rt [] rm (.ref b :: argsL).toArray Q') (hds : parseMethodDescriptor yy.desc = some ⟨ps, r'⟩) (hal : argsL.length = ps.length) (hst : st = argsL.reverse ++ .ref b :: rest) (hsz : ls.size = mx) {W : Nat} (hW : (rest.map fun v => v.category).sum ≤ W)
    (hfr : rm.frames + 1 ≤ R.frames) (hlo : W + (maxL + 11) + rm.locals ≤ R.locals) (hc : cells + rm.cells ≤ R.cells) (hs : slots + rm.slots ≤ R.slots) (hp : pc + 3 = pc') (hd : decode code pc = .ok (.invokevirtual idx, 3))
    (H : ∀ T' h' v, own_S p l e s m args below meth c Z a0 n0 y code mx ret R T' h' (cells + rm.cells) (slots + rm.slots) → Q' v h' → own_G p e s below R n0 Q T' (mkF m pc' ls (v.toList ++ rest))) : own_G p e s below R n0 Q T (mkF m pc ls st) := by
  obtain ⟨locs, X, eT, N, hn, hx, hZ, hw, hby, hmx, hown, r⟩ := S; subst hp hst
  obtain ⟨cell, kx, c1, c2, c3, c4, -⟩ := E
  have hpriv : s.PrivateAt yy := Cond.privateMethod_at (mvP hZ (hw _ w7) (args := #[]))
  have hinst : (Jvm.Cond.instanceMethod yy).before args s = true := mvT hZ (hw _ w6)
  have hini : (Jvm.Cond.instantiable yy.cls kk).before args s = true := mvT hZ (hw _ w8)
  have hsel : (Jvm.Cond.selects yy.cls yy yy).before args s = true := by
    obtain ⟨cc, k, i1, i2, i3, i4, -⟩ := Cond.instantiable_spec hini
    exact Stand.selects_self_of_private i1 i2 (by simp only [Bool.or_eq_false_iff] at i4; exact i4.1) hpriv hinst hy
  obtain ⟨v, _, ⟨T', L', k', n'⟩, -, X', ⟨Lc, hQ, l', y', z'⟩, stp⟩ := X.privateBack hx (y := yy) hown (mvT hZ (hw _ w1)) hinst hsel hpriv (mvT hZ (hw _ w4)) hy (backOf (Q := fun v h L => Q' v h ∧ Fr n0 L) (W := W) M hZ (hw _ w4) (hw _ w3) hfr hlo) (g := mkF m pc ls (argsL.reverse ++ .ref b :: rest)) rfl (by rw [hmx]; exact hsz) (Steps.refl _) (a := b) (cell := cell) (by rw [eT]; exact c1) (fun q e => by rw [e] at c4; cases c4) (argsL := argsL) (rest := rest) (lenOf hds hal) rfl (by show 2 * 0 + _ ≤ _; omega) (hb hby hd) (fun _ _ => ⟨rfl, eT, hc, hs⟩)
  dsimp only [Pt.U, Pt.locs, Pt.cells, Pt.slots] at X' l' y' z' stp hQ
  subst l' y' z'
  exact own_by (fun _ k => stp.trans k) (H T' T'.heap v ⟨_, X', rfl, Fr.app N hQ.2, hn, hx, hZ, hw, hby, hmx, hown, r⟩ hQ.1)
theorem own_dupx1 {a b : Value} (S : own_S p l e s m args below meth c Z a0 n0 y code mx ret R T h cells slots) (hp : pc + 1 = pc') (hd : decode code pc = .ok (.dup_x1, 1)) (hc : a.category = 1) (hc' : b.category = 1)
    (H : own_G p e s below R n0 Q T (mkF m pc' ls (a :: b :: a :: st))) : own_G p e s below R n0 Q T (mkF m pc ls (a :: b :: st)) := by
  obtain ⟨_, X, _, _, _, hx, _, _, hby, _⟩ := S; subst hp
  exact own_by (fun _ k => XT.dupX1 X.here hx rfl (hb hby hd) rfl hc hc' k) H
theorem own_anewarray {idx : Nat} {C : String} {x : Int32} {n : Nat} (cap : Nat) (S : own_S p l e s m args below meth c Z a0 n0 y code mx ret R T h cells slots) (w1 : Jvm.Cond.classLink y.cls idx C ∈ tables_1) (w2 : Jvm.Cond.arrayOver (.object C) ∈ tables_1) (hi : x.toInt = n) (hcap : n ≤ cap) (hb8 : cap * 8 ≤ 536870912) (hc : cells + 1 ≤ R.cells) (hl : slots + cap ≤ R.slots) (hp : pc + 3 = pc') (hd : decode code pc = .ok (.anewarray idx, 3))
    (H : ∀ T' h' a, a = h.size → n0 ≤ a → own_S p l e s m args below meth c Z a0 n0 y code mx ret R T' h' (cells + 1) (slots + cap) → Ext h h' → own_G p e s below R n0 Q T' (mkF m pc' ls (.ref a :: st))) : own_G p e s below R n0 Q T (mkF m pc ls (.int x :: st)) := by
  obtain ⟨locs, X, eT, N, hn, hx, hZ, hw, hby, hmx, hown, r⟩ := S; subst hp
  obtain ⟨q1, q2⟩ := own_ix hi
  obtain ⟨T', h', k, X', e', E, Ar, -, stp⟩ := newR X hx hZ hown (hw _ w1) (hw _ w2) eT (g := mkF m pc ls (.int x :: st)) rfl (hb hby hd) rfl q2 (cap := cap) (by rw [q1]; exact hcap) hb8 hc hl
  exact own_by stp (H T' h' h.size rfl (by rw [← eT]; exact Nat.le_trans hn X.same.2.1) ⟨_, X', e', N, hn, hx, hZ, hw, hby, hmx, hown, r⟩ E)
/-- a cell is there, of a known kind -/
def own_U (h : Heap) (a : Addr) : Prop := ∃ cell : Cell, h[a]? = some cell ∧ cell.vm ≠ .unknown
theorem own_Uext {h h' : Heap} {a : Addr} (U : own_U h a) (E : Ext h h') : own_U h' a := by obtain ⟨cl, h1, h2⟩ := U; exact ⟨cl, E.2 _ _ h1, h2⟩
theorem own_Ukeep {h h' : Heap} {a : Addr} {ws : List Addr} (U : own_U h a) (K : Keep h h' ws) : own_U h' a := by obtain ⟨cl, h1, h2⟩ := U; obtain ⟨c', q1, _, q2, _⟩ := K.2.2 _ _ h1; exact ⟨c', q1, by rw [q2]; exact h2⟩
theorem own_Uwr {h h' : Heap} {a b : Addr} {sl : Nat} {v : Value} (U : own_U h a) (W : Wr h h' b sl v) : own_U h' a := own_Ukeep U (Keep.of_wr W)
theorem own_Uof {Z : State} {h : Heap} {a : Addr} {C n d : String} {v : Value} (F : Fld Z h a C n d v) : own_U h a := by obtain ⟨cl, _, _, _, _, h1, _, _, h4, _⟩ := F; exact ⟨cl, h1, h4⟩
end Own
theorem d1_0 : decode prog_41_method_3_code 0 = .ok (.iload_n 0, 1) := by decide +kernel
theorem d1_1 : decode prog_41_method_3_code 1 = .ok (.iload_n 0, 1) := by decide +kernel
theorem d1_2 : decode prog_41_method_3_code 2 = .ok (.iconst 1, 1) := by decide +kernel
theorem d1_3 : decode prog_41_method_3_code 3 = .ok (.isub, 1) := by decide +kernel
theorem d1_4 : decode prog_41_method_3_code 4 = .ok (.imul, 1) := by decide +kernel
theorem d1_5 : decode prog_41_method_3_code 5 = .ok (.newarray .int, 2) := by decide +kernel
theorem d1_7 : decode prog_41_method_3_code 7 = .ok (.astore_n 1, 1) := by decide +kernel
theorem d1_8 : decode prog_41_method_3_code 8 = .ok (.iconst 0, 1) := by decide +kernel
theorem d1_9 : decode prog_41_method_3_code 9 = .ok (.istore_n 2, 1) := by decide +kernel
theorem d1_10 : decode prog_41_method_3_code 10 = .ok (.iconst 0, 1) := by decide +kernel
theorem d1_11 : decode prog_41_method_3_code 11 = .ok (.istore_n 3, 1) := by decide +kernel
theorem d1_12 : decode prog_41_method_3_code 12 = .ok (.iload_n 3, 1) := by decide +kernel
theorem d1_13 : decode prog_41_method_3_code 13 = .ok (.iload_n 0, 1) := by decide +kernel
theorem d1_14 : decode prog_41_method_3_code 14 = .ok (.if_icmp .ge 63, 3) := by decide +kernel
theorem d1_17 : decode prog_41_method_3_code 17 = .ok (.iconst 1, 1) := by decide +kernel
theorem d1_18 : decode prog_41_method_3_code 18 = .ok (.istore 4, 2) := by decide +kernel
theorem d1_20 : decode prog_41_method_3_code 20 = .ok (.iconst 2, 1) := by decide +kernel
theorem d1_21 : decode prog_41_method_3_code 21 = .ok (.iload 4, 2) := by decide +kernel
theorem d1_23 : decode prog_41_method_3_code 23 = .ok (.imul, 1) := by decide +kernel
theorem d1_24 : decode prog_41_method_3_code 24 = .ok (.iload_n 0, 1) := by decide +kernel
theorem d1_25 : decode prog_41_method_3_code 25 = .ok (.if_icmp .gt 46, 3) := by decide +kernel
theorem d1_28 : decode prog_41_method_3_code 28 = .ok (.iload_n 3, 1) := by decide +kernel
theorem d1_29 : decode prog_41_method_3_code 29 = .ok (.iload 4, 2) := by decide +kernel
theorem d1_31 : decode prog_41_method_3_code 31 = .ok (.iadd, 1) := by decide +kernel
theorem d1_32 : decode prog_41_method_3_code 32 = .ok (.iload_n 0, 1) := by decide +kernel
theorem d1_33 : decode prog_41_method_3_code 33 = .ok (.irem, 1) := by decide +kernel
theorem d1_34 : decode prog_41_method_3_code 34 = .ok (.istore 5, 2) := by decide +kernel
theorem d1_36 : decode prog_41_method_3_code 36 = .ok (.iconst 2, 1) := by decide +kernel
theorem d1_37 : decode prog_41_method_3_code 37 = .ok (.iload 4, 2) := by decide +kernel
theorem d1_39 : decode prog_41_method_3_code 39 = .ok (.imul, 1) := by decide +kernel
theorem d1_40 : decode prog_41_method_3_code 40 = .ok (.iload_n 0, 1) := by decide +kernel
theorem d1_41 : decode prog_41_method_3_code 41 = .ok (.if_icmp .lt 9, 3) := by decide +kernel
theorem d1_44 : decode prog_41_method_3_code 44 = .ok (.iload_n 3, 1) := by decide +kernel
theorem d1_45 : decode prog_41_method_3_code 45 = .ok (.iload 5, 2) := by decide +kernel
theorem d1_47 : decode prog_41_method_3_code 47 = .ok (.if_icmp .ge 18, 3) := by decide +kernel
theorem d1_50 : decode prog_41_method_3_code 50 = .ok (.aload_n 1, 1) := by decide +kernel
theorem d1_51 : decode prog_41_method_3_code 51 = .ok (.iload_n 2, 1) := by decide +kernel
theorem d1_52 : decode prog_41_method_3_code 52 = .ok (.iinc 2 1, 3) := by decide +kernel
theorem d1_55 : decode prog_41_method_3_code 55 = .ok (.iload_n 3, 1) := by decide +kernel
theorem d1_56 : decode prog_41_method_3_code 56 = .ok (.iastore, 1) := by decide +kernel
theorem d1_57 : decode prog_41_method_3_code 57 = .ok (.aload_n 1, 1) := by decide +kernel
theorem d1_58 : decode prog_41_method_3_code 58 = .ok (.iload_n 2, 1) := by decide +kernel
theorem d1_59 : decode prog_41_method_3_code 59 = .ok (.iinc 2 1, 3) := by decide +kernel
theorem d1_62 : decode prog_41_method_3_code 62 = .ok (.iload 5, 2) := by decide +kernel
theorem d1_64 : decode prog_41_method_3_code 64 = .ok (.iastore, 1) := by decide +kernel
theorem d1_65 : decode prog_41_method_3_code 65 = .ok (.iinc 4 1, 3) := by decide +kernel
theorem d1_68 : decode prog_41_method_3_code 68 = .ok (.goto (-48), 3) := by decide +kernel
theorem d1_71 : decode prog_41_method_3_code 71 = .ok (.iinc 3 1, 3) := by decide +kernel
theorem d1_74 : decode prog_41_method_3_code 74 = .ok (.goto (-62), 3) := by decide +kernel
theorem d1_77 : decode prog_41_method_3_code 77 = .ok (.aload_n 1, 1) := by decide +kernel
theorem d1_78 : decode prog_41_method_3_code 78 = .ok (.areturn, 1) := by decide +kernel
theorem d2_0 : decode method_3_code 0 = .ok (.iload_n 1, 1) := by decide +kernel
theorem d2_1 : decode method_3_code 1 = .ok (.iconst 2, 1) := by decide +kernel
theorem d2_2 : decode method_3_code 2 = .ok (.irem, 1) := by decide +kernel
theorem d2_3 : decode method_3_code 3 = .ok (.iconst 1, 1) := by decide +kernel
theorem d2_4 : decode method_3_code 4 = .ok (.if_icmp .ne 26, 3) := by decide +kernel
theorem d2_7 : decode method_3_code 7 = .ok (.iload_n 1, 1) := by decide +kernel
theorem d2_8 : decode method_3_code 8 = .ok (.iconst 1, 1) := by decide +kernel
theorem d2_9 : decode method_3_code 9 = .ok (.isub, 1) := by decide +kernel
theorem d2_10 : decode method_3_code 10 = .ok (.iconst 2, 1) := by decide +kernel
theorem d2_11 : decode method_3_code 11 = .ok (.idiv, 1) := by decide +kernel
theorem d2_12 : decode method_3_code 12 = .ok (.istore 5, 2) := by decide +kernel
theorem d2_14 : decode method_3_code 14 = .ok (.iload_n 2, 1) := by decide +kernel
theorem d2_15 : decode method_3_code 15 = .ok (.iload 5, 2) := by decide +kernel
theorem d2_17 : decode method_3_code 17 = .ok (.idiv, 1) := by decide +kernel
theorem d2_18 : decode method_3_code 18 = .ok (.istore_n 3, 1) := by decide +kernel
theorem d2_19 : decode method_3_code 19 = .ok (.iload_n 2, 1) := by decide +kernel
theorem d2_20 : decode method_3_code 20 = .ok (.iload 5, 2) := by decide +kernel
theorem d2_22 : decode method_3_code 22 = .ok (.irem, 1) := by decide +kernel
theorem d2_23 : decode method_3_code 23 = .ok (.iconst 1, 1) := by decide +kernel
theorem d2_24 : decode method_3_code 24 = .ok (.iadd, 1) := by decide +kernel
theorem d2_25 : decode method_3_code 25 = .ok (.istore 4, 2) := by decide +kernel
theorem d2_27 : decode method_3_code 27 = .ok (.goto 64, 3) := by decide +kernel
theorem d2_30 : decode method_3_code 30 = .ok (.iload_n 1, 1) := by decide +kernel
theorem d2_31 : decode method_3_code 31 = .ok (.iconst 2, 1) := by decide +kernel
theorem d2_32 : decode method_3_code 32 = .ok (.idiv, 1) := by decide +kernel
theorem d2_33 : decode method_3_code 33 = .ok (.istore 5, 2) := by decide +kernel
theorem d2_35 : decode method_3_code 35 = .ok (.iload_n 2, 1) := by decide +kernel
theorem d2_36 : decode method_3_code 36 = .ok (.iload 5, 2) := by decide +kernel
theorem d2_38 : decode method_3_code 38 = .ok (.iload 5, 2) := by decide +kernel
theorem d2_40 : decode method_3_code 40 = .ok (.imul, 1) := by decide +kernel
theorem d2_41 : decode method_3_code 41 = .ok (.if_icmp .ge 19, 3) := by decide +kernel
theorem d2_44 : decode method_3_code 44 = .ok (.iload_n 2, 1) := by decide +kernel
theorem d2_45 : decode method_3_code 45 = .ok (.iload 5, 2) := by decide +kernel
theorem d2_47 : decode method_3_code 47 = .ok (.idiv, 1) := by decide +kernel
theorem d2_48 : decode method_3_code 48 = .ok (.istore_n 3, 1) := by decide +kernel
theorem d2_49 : decode method_3_code 49 = .ok (.iload_n 2, 1) := by decide +kernel
theorem d2_50 : decode method_3_code 50 = .ok (.iload 5, 2) := by decide +kernel
theorem d2_52 : decode method_3_code 52 = .ok (.irem, 1) := by decide +kernel
theorem d2_53 : decode method_3_code 53 = .ok (.iconst 1, 1) := by decide +kernel
theorem d2_54 : decode method_3_code 54 = .ok (.iadd, 1) := by decide +kernel
theorem d2_55 : decode method_3_code 55 = .ok (.istore 4, 2) := by decide +kernel
theorem d2_57 : decode method_3_code 57 = .ok (.goto 34, 3) := by decide +kernel
theorem d2_60 : decode method_3_code 60 = .ok (.iload_n 2, 1) := by decide +kernel
theorem d2_61 : decode method_3_code 61 = .ok (.iload 5, 2) := by decide +kernel
theorem d2_63 : decode method_3_code 63 = .ok (.iload 5, 2) := by decide +kernel
theorem d2_65 : decode method_3_code 65 = .ok (.imul, 1) := by decide +kernel
theorem d2_66 : decode method_3_code 66 = .ok (.isub, 1) := by decide +kernel
theorem d2_67 : decode method_3_code 67 = .ok (.istore 6, 2) := by decide +kernel
theorem d2_69 : decode method_3_code 69 = .ok (.iload 5, 2) := by decide +kernel
theorem d2_71 : decode method_3_code 71 = .ok (.iload 6, 2) := by decide +kernel
theorem d2_73 : decode method_3_code 73 = .ok (.iload 5, 2) := by decide +kernel
theorem d2_75 : decode method_3_code 75 = .ok (.iconst 1, 1) := by decide +kernel
theorem d2_76 : decode method_3_code 76 = .ok (.isub, 1) := by decide +kernel
theorem d2_77 : decode method_3_code 77 = .ok (.idiv, 1) := by decide +kernel
theorem d2_78 : decode method_3_code 78 = .ok (.iadd, 1) := by decide +kernel
theorem d2_79 : decode method_3_code 79 = .ok (.istore_n 3, 1) := by decide +kernel
theorem d2_80 : decode method_3_code 80 = .ok (.iload 6, 2) := by decide +kernel
theorem d2_82 : decode method_3_code 82 = .ok (.iload 5, 2) := by decide +kernel
theorem d2_84 : decode method_3_code 84 = .ok (.iconst 1, 1) := by decide +kernel
theorem d2_85 : decode method_3_code 85 = .ok (.isub, 1) := by decide +kernel
theorem d2_86 : decode method_3_code 86 = .ok (.irem, 1) := by decide +kernel
theorem d2_87 : decode method_3_code 87 = .ok (.iconst 1, 1) := by decide +kernel
theorem d2_88 : decode method_3_code 88 = .ok (.iadd, 1) := by decide +kernel
theorem d2_89 : decode method_3_code 89 = .ok (.istore 4, 2) := by decide +kernel
theorem d2_91 : decode method_3_code 91 = .ok (.iload_n 3, 1) := by decide +kernel
theorem d2_92 : decode method_3_code 92 = .ok (.iload 4, 2) := by decide +kernel
theorem d2_94 : decode method_3_code 94 = .ok (.iadd, 1) := by decide +kernel
theorem d2_95 : decode method_3_code 95 = .ok (.iload_n 1, 1) := by decide +kernel
theorem d2_96 : decode method_3_code 96 = .ok (.irem, 1) := by decide +kernel
theorem d2_97 : decode method_3_code 97 = .ok (.istore 5, 2) := by decide +kernel
theorem d2_99 : decode method_3_code 99 = .ok (.aload_n 0, 1) := by decide +kernel
theorem d2_100 : decode method_3_code 100 = .ok (.iconst 2, 1) := by decide +kernel
theorem d2_101 : decode method_3_code 101 = .ok (.iload_n 2, 1) := by decide +kernel
theorem d2_102 : decode method_3_code 102 = .ok (.imul, 1) := by decide +kernel
theorem d2_103 : decode method_3_code 103 = .ok (.iaload, 1) := by decide +kernel
theorem d2_104 : decode method_3_code 104 = .ok (.iload_n 3, 1) := by decide +kernel
theorem d2_105 : decode method_3_code 105 = .ok (.if_icmp .ne 19, 3) := by decide +kernel
theorem d2_108 : decode method_3_code 108 = .ok (.aload_n 0, 1) := by decide +kernel
theorem d2_109 : decode method_3_code 109 = .ok (.iconst 2, 1) := by decide +kernel
theorem d2_110 : decode method_3_code 110 = .ok (.iload_n 2, 1) := by decide +kernel
theorem d2_111 : decode method_3_code 111 = .ok (.imul, 1) := by decide +kernel
theorem d2_112 : decode method_3_code 112 = .ok (.iconst 1, 1) := by decide +kernel
theorem d2_113 : decode method_3_code 113 = .ok (.iadd, 1) := by decide +kernel
theorem d2_114 : decode method_3_code 114 = .ok (.iaload, 1) := by decide +kernel
theorem d2_115 : decode method_3_code 115 = .ok (.iload 5, 2) := by decide +kernel
theorem d2_117 : decode method_3_code 117 = .ok (.if_icmp .ne 7, 3) := by decide +kernel
theorem d2_120 : decode method_3_code 120 = .ok (.iconst 1, 1) := by decide +kernel
theorem d2_121 : decode method_3_code 121 = .ok (.goto 4, 3) := by decide +kernel
theorem d2_124 : decode method_3_code 124 = .ok (.iconst 0, 1) := by decide +kernel
theorem d2_125 : decode method_3_code 125 = .ok (.ireturn, 1) := by decide +kernel
theorem own_tn {i : Nat} (h : i < 2147483648) : (Int32.ofNat i).toInt = i := Int32.toInt_ofNat_of_lt (by omega)
theorem own_one (i : Nat) : Int32.ofNat i + (1 : Int32) = Int32.ofNat (i + 1) := (Int32.ofNat_add i 1).symm
theorem own_addN (a b : Nat) : Int32.ofNat a + Int32.ofNat b = Int32.ofNat (a + b) := (Int32.ofNat_add a b).symm
theorem own_mulN (a b : Nat) : Int32.ofNat a * Int32.ofNat b = Int32.ofNat (a * b) := (Int32.ofNat_mul a b).symm
theorem own_two (a : Nat) : (2 : Int32) * Int32.ofNat a = Int32.ofNat (2 * a) := own_mulN 2 a
theorem own_subN {a b : Nat} (ha : a < 2147483648) (hab : b ≤ a) : Int32.ofNat a - Int32.ofNat b = Int32.ofNat (a - b) := by
  apply Int32.toInt_inj.mp
  have h1 := c_isub (Int32.ofNat a) (Int32.ofNat b)
  have h2 := rng32 (Int32.ofNat a - Int32.ofNat b)
  rw [own_tn ha, own_tn (i := b) (by omega)] at h1
  rw [own_tn (i := a - b) (by omega)]
  omega
theorem own_sub1 {a : Nat} (ha : a < 2147483648) (hab : 1 ≤ a) : Int32.ofNat a - (1 : Int32) = Int32.ofNat (a - 1) := own_subN ha hab
theorem own_modN {a b : Nat} (ha : a < 2147483648) (hb : b < 2147483648) : Int32.ofNat a % Int32.ofNat b = Int32.ofNat (a % b) := by
  apply Int32.toInt_inj.mp
  rw [Int32.toInt_mod, own_tn ha, own_tn hb, own_tn (i := a % b) (Nat.lt_of_le_of_lt (Nat.mod_le a b) ha)]
  rfl
theorem own_divN {a b : Nat} (ha : a < 2147483648) (hb : b < 2147483648) : Int32.ofNat a / Int32.ofNat b = Int32.ofNat (a / b) := by
  apply Int32.toInt_inj.mp
  rw [Int32.toInt_div_of_ne_right _ _ (fun q => by have := congrArg Int32.toInt q; rw [own_tn hb] at this; have e : (-1 : Int32).toInt = -1 := rfl; omega), own_tn ha, own_tn hb, own_tn (i := a / b) (Nat.lt_of_le_of_lt (Nat.div_le_self a b) ha)]
  rfl
theorem own_nz {a : Nat} (ha : a < 2147483648) (h : a ≠ 0) : Int32.ofNat a ≠ 0 := fun q => by
  have := congrArg Int32.toInt q
  rw [own_tn ha] at this
  have e : (0 : Int32).toInt = 0 := rfl
  omega
theorem own_nat {y : Int32} (h : 0 ≤ y.toInt) : y = Int32.ofNat y.toInt.toNat := by
  apply Int32.toInt_inj.mp
  have := y.toInt_lt
  rw [own_tn (by omega)]
  omega
theorem own_mask (x m : Int32) (h : 0 ≤ m.toInt) : ∃ k : Nat, (k : Int) ≤ m.toInt ∧ x &&& m = Int32.ofNat k := by
  have r := c_and x m h
  exact ⟨(x &&& m).toInt.toNat, by omega, own_nat r.1⟩
/-- how many pairs are written before (i, d) -/
def own_cnt (N i d : Nat) : Nat := if N % 2 = 1 then i * ((N - 1) / 2) + (d - 1) else if i < N / 2 then i * (N / 2) + (d - 1) else (N / 2) * (N / 2) + (i - N / 2) * (N / 2 - 1) + min (d - 1) (N / 2 - 1)
def own_I (N p : Nat) : Nat := if N % 2 = 1 then p / ((N - 1) / 2) else if p < (N / 2) * (N / 2) then p / (N / 2) else N / 2 + (p - (N / 2) * (N / 2)) / (N / 2 - 1)
def own_D (N p : Nat) : Nat := if N % 2 = 1 then p % ((N - 1) / 2) + 1 else if p < (N / 2) * (N / 2) then p % (N / 2) + 1 else (p - (N / 2) * (N / 2)) % (N / 2 - 1) + 1
def own_J (N p : Nat) : Nat := (own_I N p + own_D N p) % N
def own_incB (N i d : Nat) : Bool := !(decide (1 ≤ d) && decide (2 * d ≤ N) && (decide (2 * d < N) || decide (i < (i + d) % N))) || (decide (2 * own_cnt N i d + 1 < N * (N - 1)) && decide (own_I N (own_cnt N i d) = i) && decide (own_J N (own_cnt N i d) = (i + d) % N) && decide (own_cnt N i (d + 1) = own_cnt N i d + 1))
def own_excB (N i d : Nat) : Bool := !(decide (1 ≤ d) && decide (2 * d ≤ N) && !(decide (2 * d < N) || decide (i < (i + d) % N))) || decide (own_cnt N i (d + 1) = own_cnt N i d)
def own_pntB (N p : Nat) : Bool := !decide (p < N * (N - 1) / 2) || (decide (own_I N p < 16) && decide (own_D N p < 9) && (!decide (N % 2 = 1) || decide ((N - 1) / 2 ≠ 0)) && (decide (N % 2 = 1) || (decide (N / 2 ≠ 0) && (decide (p < (N / 2) * (N / 2)) || decide (N / 2 - 1 ≠ 0)))))
set_option maxRecDepth 65536 in
theorem own_incC : ∀ N, N < 17 → ∀ i, i < N → ∀ d, d < 9 → own_incB N i d = true := by decide +kernel
set_option maxRecDepth 65536 in
theorem own_excC : ∀ N, N < 17 → ∀ i, i < N → ∀ d, d < 9 → own_excB N i d = true := by decide +kernel
set_option maxRecDepth 65536 in
theorem own_pntC : ∀ N, N < 17 → ∀ p, p < 120 → own_pntB N p = true := by decide +kernel
theorem own_inc (N : Nat) (hN : N < 17) (i : Nat) (hi : i < N) (d : Nat) (hd : d < 9) (h1 : 1 ≤ d) (h2 : 2 * d ≤ N) (h3 : 2 * d < N ∨ i < (i + d) % N) : 2 * own_cnt N i d + 1 < N * (N - 1) ∧ own_I N (own_cnt N i d) = i ∧ own_J N (own_cnt N i d) = (i + d) % N ∧ own_cnt N i (d + 1) = own_cnt N i d + 1 := by
  have h := own_incC N hN i hi d hd
  unfold own_incB at h
  simp only [Bool.or_eq_true, Bool.and_eq_true, Bool.not_eq_true', Bool.and_eq_false_iff, Bool.or_eq_false_iff, decide_eq_true_eq, decide_eq_false_iff_not] at h
  rcases h with h | h
  · exact absurd h (by omega)
  · exact ⟨h.1.1.1, h.1.1.2, h.1.2, h.2⟩
theorem own_exc (N : Nat) (hN : N < 17) (i : Nat) (hi : i < N) (d : Nat) (hd : d < 9) (h1 : 1 ≤ d) (h2 : 2 * d ≤ N) (h3 : ¬ (2 * d < N ∨ i < (i + d) % N)) : own_cnt N i (d + 1) = own_cnt N i d := by
  have h := own_excC N hN i hi d hd
  unfold own_excB at h
  simp only [Bool.or_eq_true, Bool.and_eq_true, Bool.not_eq_true', Bool.and_eq_false_iff, Bool.or_eq_false_iff, Bool.not_eq_false', decide_eq_true_eq, decide_eq_false_iff_not] at h
  rcases h with h | h
  · exact absurd h (by omega)
  · exact h
theorem own_pnt (N : Nat) (hN : N < 17) (p : Nat) (hp : p < 120) (h1 : p < N * (N - 1) / 2) : own_I N p < 16 ∧ own_D N p < 9 ∧ (N % 2 = 1 → (N - 1) / 2 ≠ 0) ∧ (N % 2 ≠ 1 → N / 2 ≠ 0 ∧ (¬ p < (N / 2) * (N / 2) → N / 2 - 1 ≠ 0)) := by
  have h := own_pntC N hN p hp
  unfold own_pntB at h
  simp only [Bool.or_eq_true, Bool.and_eq_true, Bool.not_eq_true', decide_eq_true_eq, decide_eq_false_iff_not] at h
  rcases h with h | ⟨⟨⟨q1, q2⟩, q3⟩, q4⟩
  · exact absurd h1 h
  · exact ⟨q1, q2, fun z => q3.elim (fun y => absurd z y) id, fun z => q4.elim (fun y => absurd y z) (fun y => ⟨y.1, fun x => y.2.elim (fun u => absurd u x) id⟩)⟩
set_option maxRecDepth 65536 in
theorem own_row : ∀ N, N < 17 → 1 ≤ N → ∀ i, i < N → own_cnt N i (N / 2 + 1) = own_cnt N (i + 1) 1 := by decide +kernel
set_option maxRecDepth 65536 in
theorem own_all : ∀ N, N < 17 → 1 ≤ N → own_cnt N N 1 = N * (N - 1) / 2 ∧ own_cnt N 0 1 = 0 ∧ 2 * (N * (N - 1) / 2) = N * (N - 1) ∧ N * (N - 1) ≤ 240 := by decide +kernel
/-- the first k pairs are written -/
def own_Inv (N k : Nat) (g : Nat → Value) : Prop := ∀ p, p < k → g (2 * p) = .int (Int32.ofNat (own_I N p)) ∧ g (2 * p + 1) = .int (Int32.ofNat (own_J N p))
theorem own_inv {N k : Nat} {g : Nat → Value} (H : own_Inv N k g) : own_Inv N (k + 1) (own_upd (own_upd g (2 * k) (.int (Int32.ofNat (own_I N k)))) (2 * k + 1) (.int (Int32.ofNat (own_J N k)))) := fun p hp => by
  unfold own_upd
  by_cases q : p = k
  · subst q
    refine ⟨?_, ?_⟩
    · rw [if_neg (by omega), if_pos rfl]
    · rw [if_pos rfl]
  · obtain ⟨h1, h2⟩ := H p (by omega)
    refine ⟨?_, ?_⟩
    · rw [if_neg (by omega), if_neg (by omega)]; exact h1
    · rw [if_neg (by omega), if_neg (by omega)]; exact h2
def own_y1 : MethodName := ⟨"com/example/ringloom/ringloom/RoundRobin", "orientation", "(I)[I"⟩
set_option maxRecDepth 65536 in
set_option maxHeartbeats 40000000 in
theorem own_lpI {p : Program} {l : Launch} {e : Env} {s : State} {m : MethodId} {args : Array Value} {below : List Frame} {meth : Method} {c : Code} {Z : State} {a0 : Array Value} {n0 : Nat} {b : Addr} {N i : Nat} (hN : N < 17) (hN1 : 1 ≤ N) (hi : i < N) (hb0 : n0 ≤ b) {Q : Option Value → Heap → Prop}
    (K : ∀ T h g (s4 s5 : Slot), One s4 → One s5 → own_S p l e s m args below meth c Z a0 n0 own_y1 prog_41_method_3_code 6 (some (.array .int)) ({ frames := 0, cells := 1, slots := 240, locals := 0 } : Room) T h (0 + 1) (0 + 240) → own_A Z h b .int (N * (N - 1)) g → own_Inv N (own_cnt N (i + 1) 1) g → own_G p e s below ({ frames := 0, cells := 1, slots := 240, locals := 0 } : Room) n0 Q T (mkF m 12 #[.val (.int (Int32.ofNat N)), .val (.ref b), .val (.int (Int32.ofNat (2 * own_cnt N (i + 1) 1))), .val (.int (Int32.ofNat (i + 1))), s4, s5] [])) :
    ∀ q d T h g (s5 : Slot), d + q = N / 2 + 1 → 1 ≤ d → One s5 → own_S p l e s m args below meth c Z a0 n0 own_y1 prog_41_method_3_code 6 (some (.array .int)) ({ frames := 0, cells := 1, slots := 240, locals := 0 } : Room) T h (0 + 1) (0 + 240) → own_A Z h b .int (N * (N - 1)) g → own_Inv N (own_cnt N i d) g → own_G p e s below ({ frames := 0, cells := 1, slots := 240, locals := 0 } : Room) n0 Q T (mkF m 20 #[.val (.int (Int32.ofNat N)), .val (.ref b), .val (.int (Int32.ofNat (2 * own_cnt N i d))), .val (.int (Int32.ofNat i)), .val (.int (Int32.ofNat d)), s5] []) := by
  intro q
  induction q with
  | zero =>
    intro d T h g s5 hd hd1 h_s5 S A H
    have tN := own_tn (i := N) (by omega)
    have td := own_tn (i := 2 * d) (by omega)
    refine own_iconst (2 : Int32) (pc' := 21) S rfl d1_20 rfl ?_
    refine own_iload (pc' := 23) S rfl d1_21 rfl ?_
    refine own_imul (pc' := 24) S rfl d1_23 ?_
    rw [own_two]
    refine own_iloadN (pc' := 25) S rfl d1_24 rfl ?_
    refine own_icY (pc' := 71) S (by decide) rfl d1_25 (own_t_gt (by omega)) ?_
    refine own_iinc (1 : Int32) (ls' := #[.val (.int (Int32.ofNat N)), .val (.ref b), .val (.int (Int32.ofNat (2 * own_cnt N i d))), .val (.int ((Int32.ofNat i) + (1 : Int32))), .val (.int (Int32.ofNat d)), s5]) (pc' := 74) S rfl d1_71 rfl rfl rfl ?_
    refine own_goto (pc' := 12) S (by decide) rfl d1_74 ?_
    rw [own_one]
    have e := own_row N hN hN1 i hi
    have ed : d = N / 2 + 1 := by omega
    subst ed
    rw [e] at H ⊢
    exact K T h g _ _ (One.val rfl) h_s5 S A H
  | succ q ih =>
    intro d T h g s5 hd hd1 h_s5 S A H
    have tN := own_tn (i := N) (by omega)
    have td := own_tn (i := 2 * d) (by omega)
    have tm := own_tn (i := (i + d) % N) (by have := Nat.mod_lt (i + d) hN1; omega)
    have ti := own_tn (i := i) (by omega)
    refine own_iconst (2 : Int32) (pc' := 21) S rfl d1_20 rfl ?_
    refine own_iload (pc' := 23) S rfl d1_21 rfl ?_
    refine own_imul (pc' := 24) S rfl d1_23 ?_
    rw [own_two]
    refine own_iloadN (pc' := 25) S rfl d1_24 rfl ?_
    refine own_icN (pc' := 28) S rfl d1_25 (own_f_gt (by omega)) ?_
    refine own_iloadN (pc' := 29) S rfl d1_28 rfl ?_
    refine own_iload (pc' := 31) S rfl d1_29 rfl ?_
    refine own_iadd (pc' := 32) S rfl d1_31 ?_
    refine own_iloadN (pc' := 33) S rfl d1_32 rfl ?_
    rw [own_addN]
    refine own_irem (pc' := 34) S rfl d1_33 (own_nz (by omega) (by omega)) ?_
    rw [own_modN (by omega) (by omega)]
    refine own_istore (ls' := #[.val (.int (Int32.ofNat N)), .val (.ref b), .val (.int (Int32.ofNat (2 * own_cnt N i d))), .val (.int (Int32.ofNat i)), .val (.int (Int32.ofNat d)), .val (.int (Int32.ofNat ((i + d) % N)))]) (pc' := 36) S rfl d1_34 ((XS.store1 (o := s5) rfl h_s5 rfl).trans rfl) ?_
    refine own_iconst (2 : Int32) (pc' := 37) S rfl d1_36 rfl ?_
    refine own_iload (pc' := 39) S rfl d1_37 rfl ?_
    refine own_imul (pc' := 40) S rfl d1_39 ?_
    rw [own_two]
    refine own_iloadN (pc' := 41) S rfl d1_40 rfl ?_
    refine own_ic (pt := 50) (pc' := 44) S (by decide) rfl rfl d1_41 ?_ ?_
    · intro c41
      replace c41 := own_lt_t c41
      obtain ⟨f1, f2, f3, f4⟩ := own_inc N hN i hi d (by omega) hd1 (by omega) (by omega)
      have tp := own_tn (i := 2 * own_cnt N i d) (by have := (own_all N hN hN1).2.2.2; omega)
      have tp1 := own_tn (i := 2 * own_cnt N i d + 1) (by have := (own_all N hN hN1).2.2.2; omega)
      refine own_aloadN (pc' := 51) S rfl d1_50 rfl rfl ?_
      refine own_iloadN (pc' := 52) S rfl d1_51 rfl ?_
      refine own_iinc (1 : Int32) (ls' := #[.val (.int (Int32.ofNat N)), .val (.ref b), .val (.int ((Int32.ofNat (2 * own_cnt N i d)) + (1 : Int32))), .val (.int (Int32.ofNat i)), .val (.int (Int32.ofNat d)), .val (.int (Int32.ofNat ((i + d) % N)))]) (pc' := 55) S rfl d1_52 rfl rfl rfl ?_
      refine own_iloadN (pc' := 56) S rfl d1_55 rfl ?_
      refine own_iastore (pc' := 57) S A (k := 2 * own_cnt N i d) tp (by omega) hb0 rfl d1_56 ?_
      intro T' h' S W A
      rw [own_one]
      refine own_aloadN (pc' := 58) S rfl d1_57 rfl rfl ?_
      refine own_iloadN (pc' := 59) S rfl d1_58 rfl ?_
      refine own_iinc (1 : Int32) (ls' := #[.val (.int (Int32.ofNat N)), .val (.ref b), .val (.int ((Int32.ofNat (2 * own_cnt N i d + 1)) + (1 : Int32))), .val (.int (Int32.ofNat i)), .val (.int (Int32.ofNat d)), .val (.int (Int32.ofNat ((i + d) % N)))]) (pc' := 62) S rfl d1_59 rfl rfl rfl ?_
      refine own_iload (pc' := 64) S rfl d1_62 rfl ?_
      refine own_iastore (pc' := 65) S A (k := 2 * own_cnt N i d + 1) tp1 (by omega) hb0 rfl d1_64 ?_
      clear W
      intro T' h' S W A
      replace H := own_inv H
      rw [f2, f3] at H
      rw [own_one, show 2 * own_cnt N i d + 1 + 1 = 2 * own_cnt N i (d + 1) by rw [f4]; omega]
      refine own_iinc (1 : Int32) (ls' := #[.val (.int (Int32.ofNat N)), .val (.ref b), .val (.int (Int32.ofNat (2 * own_cnt N i (d + 1)))), .val (.int (Int32.ofNat i)), .val (.int ((Int32.ofNat d) + (1 : Int32))), .val (.int (Int32.ofNat ((i + d) % N)))]) (pc' := 68) S rfl d1_65 rfl rfl rfl ?_
      refine own_goto (pc' := 20) S (by decide) rfl d1_68 ?_
      rw [own_one]
      exact ih (d + 1) T' h' _ _ (by omega) (by omega) (One.val rfl) S A (by rw [f4]; exact H)
    · intro c41
      replace c41 := own_lt_f c41
      refine own_iloadN (pc' := 45) S rfl d1_44 rfl ?_
      refine own_iload (pc' := 47) S rfl d1_45 rfl ?_
      refine own_ic (pt := 65) (pc' := 50) S (by decide) rfl rfl d1_47 ?_ ?_
      · intro c47
        replace c47 := own_ge_t c47
        refine own_iinc (1 : Int32) (ls' := #[.val (.int (Int32.ofNat N)), .val (.ref b), .val (.int (Int32.ofNat (2 * own_cnt N i d))), .val (.int (Int32.ofNat i)), .val (.int ((Int32.ofNat d) + (1 : Int32))), .val (.int (Int32.ofNat ((i + d) % N)))]) (pc' := 68) S rfl d1_65 rfl rfl rfl ?_
        refine own_goto (pc' := 20) S (by decide) rfl d1_68 ?_
        rw [own_one]
        have f := own_exc N hN i hi d (by omega) hd1 (by omega) (by omega)
        rw [← f] at H ⊢
        exact ih (d + 1) T h g _ (by omega) (by omega) (One.val rfl) S A H
      · intro c47
        replace c47 := own_ge_f c47
        obtain ⟨f1, f2, f3, f4⟩ := own_inc N hN i hi d (by omega) hd1 (by omega) (by omega)
        have tp := own_tn (i := 2 * own_cnt N i d) (by have := (own_all N hN hN1).2.2.2; omega)
        have tp1 := own_tn (i := 2 * own_cnt N i d + 1) (by have := (own_all N hN hN1).2.2.2; omega)
        refine own_aloadN (pc' := 51) S rfl d1_50 rfl rfl ?_
        refine own_iloadN (pc' := 52) S rfl d1_51 rfl ?_
        refine own_iinc (1 : Int32) (ls' := #[.val (.int (Int32.ofNat N)), .val (.ref b), .val (.int ((Int32.ofNat (2 * own_cnt N i d)) + (1 : Int32))), .val (.int (Int32.ofNat i)), .val (.int (Int32.ofNat d)), .val (.int (Int32.ofNat ((i + d) % N)))]) (pc' := 55) S rfl d1_52 rfl rfl rfl ?_
        refine own_iloadN (pc' := 56) S rfl d1_55 rfl ?_
        refine own_iastore (pc' := 57) S A (k := 2 * own_cnt N i d) tp (by omega) hb0 rfl d1_56 ?_
        intro T' h' S W A
        rw [own_one]
        refine own_aloadN (pc' := 58) S rfl d1_57 rfl rfl ?_
        refine own_iloadN (pc' := 59) S rfl d1_58 rfl ?_
        refine own_iinc (1 : Int32) (ls' := #[.val (.int (Int32.ofNat N)), .val (.ref b), .val (.int ((Int32.ofNat (2 * own_cnt N i d + 1)) + (1 : Int32))), .val (.int (Int32.ofNat i)), .val (.int (Int32.ofNat d)), .val (.int (Int32.ofNat ((i + d) % N)))]) (pc' := 62) S rfl d1_59 rfl rfl rfl ?_
        refine own_iload (pc' := 64) S rfl d1_62 rfl ?_
        refine own_iastore (pc' := 65) S A (k := 2 * own_cnt N i d + 1) tp1 (by omega) hb0 rfl d1_64 ?_
        clear W
        intro T' h' S W A
        replace H := own_inv H
        rw [f2, f3] at H
        rw [own_one, show 2 * own_cnt N i d + 1 + 1 = 2 * own_cnt N i (d + 1) by rw [f4]; omega]
        refine own_iinc (1 : Int32) (ls' := #[.val (.int (Int32.ofNat N)), .val (.ref b), .val (.int (Int32.ofNat (2 * own_cnt N i (d + 1)))), .val (.int (Int32.ofNat i)), .val (.int ((Int32.ofNat d) + (1 : Int32))), .val (.int (Int32.ofNat ((i + d) % N)))]) (pc' := 68) S rfl d1_65 rfl rfl rfl ?_
        refine own_goto (pc' := 20) S (by decide) rfl d1_68 ?_
        rw [own_one]
        exact ih (d + 1) T' h' _ _ (by omega) (by omega) (One.val rfl) S A (by rw [f4]; exact H)
set_option maxRecDepth 65536 in
set_option maxHeartbeats 40000000 in
theorem own_lpO {p : Program} {l : Launch} {e : Env} {s : State} {m : MethodId} {args : Array Value} {below : List Frame} {meth : Method} {c : Code} {Z : State} {a0 : Array Value} {n0 : Nat} {b : Addr} {N : Nat} (hN : N < 17) (hN1 : 1 ≤ N) (hb0 : n0 ≤ b) :
    ∀ q i T h g (s4 s5 : Slot), i + q = N → One s4 → One s5 → own_S p l e s m args below meth c Z a0 n0 own_y1 prog_41_method_3_code 6 (some (.array .int)) ({ frames := 0, cells := 1, slots := 240, locals := 0 } : Room) T h (0 + 1) (0 + 240) → own_A Z h b .int (N * (N - 1)) g → own_Inv N (own_cnt N i 1) g → own_G p e s below ({ frames := 0, cells := 1, slots := 240, locals := 0 } : Room) n0 (own_V fun w h' => ∃ b g, w = .ref b ∧ own_A Z h' b .int (N * (N - 1)) g ∧ own_Inv N (N * (N - 1) / 2) g) T (mkF m 12 #[.val (.int (Int32.ofNat N)), .val (.ref b), .val (.int (Int32.ofNat (2 * own_cnt N i 1))), .val (.int (Int32.ofNat i)), s4, s5] []) := by
  intro q
  induction q with
  | zero =>
    intro i T h g s4 s5 hi h_s4 h_s5 S A H
    have ei : i = N := by omega
    subst ei
    refine own_iloadN (pc' := 13) S rfl d1_12 rfl ?_
    refine own_iloadN (pc' := 14) S rfl d1_13 rfl ?_
    refine own_icY (pc' := 77) S (by decide) rfl d1_14 (own_t_ge (Int.le_refl _)) ?_
    refine own_aloadN (pc' := 78) S rfl d1_77 rfl rfl ?_
    exact own_retA (t := .array .int) rfl rfl S d1_78 (by decide) (by decide) ⟨_, rfl, b, g, rfl, A, by rw [(own_all i hN hN1).1] at H; exact H⟩
  | succ q ih =>
    intro i T h g s4 s5 hi h_s4 h_s5 S A H
    have tN := own_tn (i := N) (by omega)
    have ti := own_tn (i := i) (by omega)
    refine own_iloadN (pc' := 13) S rfl d1_12 rfl ?_
    refine own_iloadN (pc' := 14) S rfl d1_13 rfl ?_
    refine own_icN (pc' := 17) S rfl d1_14 (own_f_ge (by omega)) ?_
    refine own_iconst (1 : Int32) (pc' := 18) S rfl d1_17 rfl ?_
    refine own_istore (ls' := #[.val (.int (Int32.ofNat N)), .val (.ref b), .val (.int (Int32.ofNat (2 * own_cnt N i 1))), .val (.int (Int32.ofNat i)), .val (.int (1 : Int32)), s5]) (pc' := 20) S rfl d1_18 ((XS.store1 (o := s4) rfl h_s4 rfl).trans rfl) ?_
    exact own_lpI hN hN1 (by omega) hb0 (fun T h g s4 s5 q4 q5 S A H => ih (i + 1) T h g s4 s5 (by omega) q4 q5 S A H) (N / 2) 1 T h g s5 (by omega) (by omega) h_s5 S A H
theorem own_pn1 : plainName "com/example/ringloom/ringloom/RoundRobin" = true := by first | (simp [plainName, overriddenIn]; done) | decide +kernel
theorem own_ef1 (m : MethodId) (x : Int32) : entryFrame m #[.int x] 6 = mkF m 0 #[.val (.int x), .unset, .unset, .unset, .unset, .unset] [] := by first | (simp [entryFrame, mkF, argsToLocals, Value.category]; done) | rfl
set_option maxRecDepth 65536 in
set_option maxHeartbeats 40000000 in
theorem own_m1 (l : Launch) (Z : State) (a0 : Array Value) (hw : ∀ d ∈ tables_1, d.before a0 Z = true) (N : Nat) (hN : N < 17) (hN1 : 1 ≤ N) (h0 : Heap) (n0 : Nat) (hn : n0 ≤ h0.size) :
    own_Met l Z h0 n0 own_y1 prog_41_method_3_code 6 (some (.array .int)) [] ({ frames := 0, cells := 1, slots := 240, locals := 0 } : Room) #[.int (Int32.ofNat N)] (own_V fun w h' => ∃ b g, w = .ref b ∧ own_A Z h' b .int (N * (N - 1)) g ∧ own_Inv N (N * (N - 1) / 2) g) := by
  refine own_met (ls := #[.val (.int (Int32.ofNat N)), .unset, .unset, .unset, .unset, .unset]) own_pn1 (fun m => own_ef1 m _) hn hw fun p e s m below meth c T S => ?_
  have ha := own_all N hN hN1
  refine own_iloadN (pc' := 1) S rfl d1_0 rfl ?_
  refine own_iloadN (pc' := 2) S rfl d1_1 rfl ?_
  refine own_iconst (1 : Int32) (pc' := 3) S rfl d1_2 rfl ?_
  refine own_isub (pc' := 4) S rfl d1_3 ?_
  rw [own_sub1 (by omega) hN1]
  refine own_imul (pc' := 5) S rfl d1_4 ?_
  rw [own_mulN]
  refine own_newarray (pc' := 7) 240 S (List.mem_of_getElem? (i := 4) rfl) (n := N * (N - 1)) (own_tn (by omega)) ha.2.2.2 (by decide) (by decide) (by decide) rfl d1_5 ?_
  intro T h b hb hb0 S E A
  refine own_astoreN (ls' := #[.val (.int (Int32.ofNat N)), .val (.ref b), .unset, .unset, .unset, .unset]) (pc' := 8) S rfl d1_7 rfl rfl ?_
  refine own_iconst (0 : Int32) (pc' := 9) S rfl d1_8 rfl ?_
  refine own_istoreN (ls' := #[.val (.int (Int32.ofNat N)), .val (.ref b), .val (.int (0 : Int32)), .unset, .unset, .unset]) (pc' := 10) S rfl d1_9 rfl ?_
  refine own_iconst (0 : Int32) (pc' := 11) S rfl d1_10 rfl ?_
  refine own_istoreN (ls' := #[.val (.int (Int32.ofNat N)), .val (.ref b), .val (.int (0 : Int32)), .val (.int (0 : Int32)), .unset, .unset]) (pc' := 12) S rfl d1_11 rfl ?_
  have e0 : (0 : Int32) = Int32.ofNat (2 * own_cnt N 0 1) := by rw [ha.2.1]; rfl
  have H : own_Inv N (own_cnt N 0 1) (fun _ => defaultValue (newarray.typeOf .int)) := by rw [ha.2.1]; intro p hp; omega
  have K := own_lpO hN hN1 hb0 N 0 T h _ .unset .unset (by omega) One.u One.u S A H
  rw [← e0] at K
  exact K
def own_y2 : MethodName := ⟨"com/example/ringloom/ringloom/RoundRobinOrientationPinLaw", "check", "([III)Z"⟩
theorem own_pn2 : plainName "com/example/ringloom/ringloom/RoundRobinOrientationPinLaw" = true := by first | (simp [plainName, overriddenIn]; done) | decide +kernel
theorem own_ef2 (m : MethodId) (b : Addr) (x z : Int32) : entryFrame m #[.ref b, .int x, .int z] 7 = mkF m 0 #[.val (.ref b), .val (.int x), .val (.int z), .unset, .unset, .unset, .unset] [] := by first | (simp [entryFrame, mkF, argsToLocals, Value.category]; done) | rfl
set_option maxRecDepth 65536 in
set_option maxHeartbeats 40000000 in
theorem own_k91 {p : Program} {l : Launch} {e : Env} {s : State} {m : MethodId} {args : Array Value} {below : List Frame} {meth : Method} {c : Code} {Z : State} {a0 : Array Value} {n0 : Nat} {T : State} {h0 : Heap} {b : Addr} {N P : Nat} {g : Nat → Value} {s5 s6 : Slot} (h_s5 : One s5) (hN : N < 17) (hN1 : 1 ≤ N) (hP : P < N * (N - 1) / 2) (S : own_S p l e s m args below meth c Z a0 n0 own_y2 method_3_code 7 (some .boolean) ({ frames := 0, cells := 0, slots := 0, locals := 0 } : Room) T h0 0 0) (A : own_A Z h0 b .int (N * (N - 1)) g) (H : own_Inv N (N * (N - 1) / 2) g) : own_G p e s below ({ frames := 0, cells := 0, slots := 0, locals := 0 } : Room) n0 (own_V fun w h => w = .int 1 ∧ h0 = h) T (mkF m 91 #[.val (.ref b), .val (.int (Int32.ofNat N)), .val (.int (Int32.ofNat P)), .val (.int (Int32.ofNat (own_I N P))), .val (.int (Int32.ofNat (own_D N P))), s5, s6] []) := by
  have ha := own_all N hN hN1
  have hp := own_pnt N hN P (by omega) hP
  have tp := own_tn (i := 2 * P) (by omega)
  have tp1 := own_tn (i := 2 * P + 1) (by omega)
  refine own_iloadN (pc' := 92) S rfl d2_91 rfl ?_
  refine own_iload (pc' := 94) S rfl d2_92 rfl ?_
  refine own_iadd (pc' := 95) S rfl d2_94 ?_
  rw [own_addN]
  refine own_iloadN (pc' := 96) S rfl d2_95 rfl ?_
  refine own_irem (pc' := 97) S rfl d2_96 (own_nz (by omega) (by omega)) ?_
  rw [own_modN (by omega) (by omega), show (own_I N P + own_D N P) % N = own_J N P from rfl]
  refine own_istore (ls' := #[.val (.ref b), .val (.int (Int32.ofNat N)), .val (.int (Int32.ofNat P)), .val (.int (Int32.ofNat (own_I N P))), .val (.int (Int32.ofNat (own_D N P))), .val (.int (Int32.ofNat (own_J N P))), s6]) (pc' := 99) S rfl d2_97 ((XS.store1 (o := s5) rfl h_s5 rfl).trans rfl) ?_
  refine own_aloadN (pc' := 100) S rfl d2_99 rfl rfl ?_
  refine own_iconst (2 : Int32) (pc' := 101) S rfl d2_100 rfl ?_
  refine own_iloadN (pc' := 102) S rfl d2_101 rfl ?_
  refine own_imul (pc' := 103) S rfl d2_102 ?_
  rw [own_two]
  refine own_iaload (pc' := 104) (w := (Int32.ofNat (own_I N P))) S A (k := 2 * P) tp (by omega) (H P hP).1 rfl d2_103 ?_
  refine own_iloadN (pc' := 105) S rfl d2_104 rfl ?_
  refine own_icN (pc' := 108) S rfl d2_105 (own_f_ne rfl) ?_
  refine own_aloadN (pc' := 109) S rfl d2_108 rfl rfl ?_
  refine own_iconst (2 : Int32) (pc' := 110) S rfl d2_109 rfl ?_
  refine own_iloadN (pc' := 111) S rfl d2_110 rfl ?_
  refine own_imul (pc' := 112) S rfl d2_111 ?_
  rw [own_two]
  refine own_iconst (1 : Int32) (pc' := 113) S rfl d2_112 rfl ?_
  refine own_iadd (pc' := 114) S rfl d2_113 ?_
  rw [own_one]
  refine own_iaload (pc' := 115) (w := (Int32.ofNat (own_J N P))) S A (k := 2 * P + 1) tp1 (by omega) (H P hP).2 rfl d2_114 ?_
  refine own_iload (pc' := 117) S rfl d2_115 rfl ?_
  refine own_icN (pc' := 120) S rfl d2_117 (own_f_ne rfl) ?_
  refine own_iconst (1 : Int32) (pc' := 121) S rfl d2_120 rfl ?_
  refine own_goto (pc' := 125) S (by decide) rfl d2_121 ?_
  exact own_retZ (Or.inr rfl) S d2_125 (by decide) (by decide) ⟨_, rfl, rfl, rfl⟩
set_option maxRecDepth 65536 in
set_option maxHeartbeats 40000000 in
theorem own_m2 (l : Launch) (Z : State) (a0 : Array Value) (hw : ∀ d ∈ tables_1, d.before a0 Z = true) (b : Addr) (N P : Nat) (g : Nat → Value) (hN : N < 17) (hN1 : 1 ≤ N) (hP : P < N * (N - 1) / 2) (h0 : Heap) (n0 : Nat) (hn : n0 ≤ h0.size) (A : own_A Z h0 b .int (N * (N - 1)) g) (H : own_Inv N (N * (N - 1) / 2) g) :
    own_Met l Z h0 n0 own_y2 method_3_code 7 (some .boolean) [] ({ frames := 0, cells := 0, slots := 0, locals := 0 } : Room) #[.ref b, .int (Int32.ofNat N), .int (Int32.ofNat P)] (own_V fun w h => w = .int 1 ∧ h0 = h) := by
  refine own_met (ls := #[.val (.ref b), .val (.int (Int32.ofNat N)), .val (.int (Int32.ofNat P)), .unset, .unset, .unset, .unset]) own_pn2 (fun m => own_ef2 m b _ _) hn hw fun p e s m below meth c T S => ?_
  have ha := own_all N hN hN1
  have hp := own_pnt N hN P (by omega) hP
  have e2 : (2 : Int32) = Int32.ofNat 2 := rfl
  have e1 : (1 : Int32) = Int32.ofNat 1 := rfl
  have t2 := own_tn (i := N % 2) (by omega)
  have tP := own_tn (i := P) (by omega)
  have th := own_tn (i := N / 2 * (N / 2)) (by have : N / 2 * (N / 2) ≤ 8 * 8 := Nat.mul_le_mul (by omega) (by omega); omega)
  refine own_iloadN (pc' := 1) S rfl d2_0 rfl ?_
  refine own_iconst (2 : Int32) (pc' := 2) S rfl d2_1 rfl ?_
  refine own_irem (pc' := 3) S rfl d2_2 (by decide) ?_
  rw [e2, own_modN (by omega) (by omega)]
  refine own_iconst (1 : Int32) (pc' := 4) S rfl d2_3 rfl ?_
  refine own_ic (pt := 30) (pc' := 7) S (by decide) rfl rfl d2_4 ?_ ?_
  · intro c4
    replace c4 := own_ne_t c4
    have e4 := own_ten c4
    have k4 : (1 : Int32).toInt = 1 := rfl
    refine own_iloadN (pc' := 31) S rfl d2_30 rfl ?_
    refine own_iconst (2 : Int32) (pc' := 32) S rfl d2_31 rfl ?_
    refine own_idiv (pc' := 33) S rfl d2_32 (by decide) ?_
    rw [e2, own_divN (by omega) (by omega)]
    refine own_istore (ls' := #[.val (.ref b), .val (.int (Int32.ofNat N)), .val (.int (Int32.ofNat P)), .unset, .unset, .val (.int (Int32.ofNat (N / 2))), .unset]) (pc' := 35) S rfl d2_33 rfl ?_
    refine own_iloadN (pc' := 36) S rfl d2_35 rfl ?_
    refine own_iload (pc' := 38) S rfl d2_36 rfl ?_
    refine own_iload (pc' := 40) S rfl d2_38 rfl ?_
    refine own_imul (pc' := 41) S rfl d2_40 ?_
    rw [own_mulN]
    refine own_ic (pt := 60) (pc' := 44) S (by decide) rfl rfl d2_41 ?_ ?_
    · intro c41
      replace c41 := own_ge_t c41
      refine own_iloadN (pc' := 61) S rfl d2_60 rfl ?_
      refine own_iload (pc' := 63) S rfl d2_61 rfl ?_
      refine own_iload (pc' := 65) S rfl d2_63 rfl ?_
      refine own_imul (pc' := 66) S rfl d2_65 ?_
      rw [own_mulN]
      refine own_isub (pc' := 67) S rfl d2_66 ?_
      rw [own_subN (by omega) (by omega)]
      refine own_istore (ls' := #[.val (.ref b), .val (.int (Int32.ofNat N)), .val (.int (Int32.ofNat P)), .unset, .unset, .val (.int (Int32.ofNat (N / 2))), .val (.int (Int32.ofNat (P - N / 2 * (N / 2))))]) (pc' := 69) S rfl d2_67 rfl ?_
      refine own_iload (pc' := 71) S rfl d2_69 rfl ?_
      refine own_iload (pc' := 73) S rfl d2_71 rfl ?_
      refine own_iload (pc' := 75) S rfl d2_73 rfl ?_
      refine own_iconst (1 : Int32) (pc' := 76) S rfl d2_75 rfl ?_
      refine own_isub (pc' := 77) S rfl d2_76 ?_
      rw [own_sub1 (by omega) (by omega)]
      refine own_idiv (pc' := 78) S rfl d2_77 (own_nz (by omega) ((hp.2.2.2 (by omega)).2 (by omega))) ?_
      rw [own_divN (by omega) (by omega)]
      refine own_iadd (pc' := 79) S rfl d2_78 ?_
      rw [own_addN]
      refine own_istoreN (ls' := #[.val (.ref b), .val (.int (Int32.ofNat N)), .val (.int (Int32.ofNat P)), .val (.int (Int32.ofNat (N / 2 + (P - N / 2 * (N / 2)) / (N / 2 - 1)))), .unset, .val (.int (Int32.ofNat (N / 2))), .val (.int (Int32.ofNat (P - N / 2 * (N / 2))))]) (pc' := 80) S rfl d2_79 rfl ?_
      refine own_iload (pc' := 82) S rfl d2_80 rfl ?_
      refine own_iload (pc' := 84) S rfl d2_82 rfl ?_
      refine own_iconst (1 : Int32) (pc' := 85) S rfl d2_84 rfl ?_
      refine own_isub (pc' := 86) S rfl d2_85 ?_
      rw [own_sub1 (by omega) (by omega)]
      refine own_irem (pc' := 87) S rfl d2_86 (own_nz (by omega) ((hp.2.2.2 (by omega)).2 (by omega))) ?_
      rw [own_modN (by omega) (by omega)]
      refine own_iconst (1 : Int32) (pc' := 88) S rfl d2_87 rfl ?_
      refine own_iadd (pc' := 89) S rfl d2_88 ?_
      rw [own_one]
      refine own_istore (ls' := #[.val (.ref b), .val (.int (Int32.ofNat N)), .val (.int (Int32.ofNat P)), .val (.int (Int32.ofNat (N / 2 + (P - N / 2 * (N / 2)) / (N / 2 - 1)))), .val (.int (Int32.ofNat ((P - N / 2 * (N / 2)) % (N / 2 - 1) + 1))), .val (.int (Int32.ofNat (N / 2))), .val (.int (Int32.ofNat (P - N / 2 * (N / 2))))]) (pc' := 91) S rfl d2_89 rfl ?_
      have eI : own_I N P = N / 2 + (P - N / 2 * (N / 2)) / (N / 2 - 1) := by unfold own_I; rw [if_neg (by omega), if_neg (by omega)]
      have eD : own_D N P = (P - N / 2 * (N / 2)) % (N / 2 - 1) + 1 := by unfold own_D; rw [if_neg (by omega), if_neg (by omega)]
      rw [← eI, ← eD]
      exact own_k91 (One.val rfl) hN hN1 hP S A H
    · intro c41
      replace c41 := own_ge_f c41
      refine own_iloadN (pc' := 45) S rfl d2_44 rfl ?_
      refine own_iload (pc' := 47) S rfl d2_45 rfl ?_
      refine own_idiv (pc' := 48) S rfl d2_47 (own_nz (by omega) (hp.2.2.2 (by omega)).1) ?_
      rw [own_divN (by omega) (by omega)]
      refine own_istoreN (ls' := #[.val (.ref b), .val (.int (Int32.ofNat N)), .val (.int (Int32.ofNat P)), .val (.int (Int32.ofNat (P / (N / 2)))), .unset, .val (.int (Int32.ofNat (N / 2))), .unset]) (pc' := 49) S rfl d2_48 rfl ?_
      refine own_iloadN (pc' := 50) S rfl d2_49 rfl ?_
      refine own_iload (pc' := 52) S rfl d2_50 rfl ?_
      refine own_irem (pc' := 53) S rfl d2_52 (own_nz (by omega) (hp.2.2.2 (by omega)).1) ?_
      rw [own_modN (by omega) (by omega)]
      refine own_iconst (1 : Int32) (pc' := 54) S rfl d2_53 rfl ?_
      refine own_iadd (pc' := 55) S rfl d2_54 ?_
      rw [own_one]
      refine own_istore (ls' := #[.val (.ref b), .val (.int (Int32.ofNat N)), .val (.int (Int32.ofNat P)), .val (.int (Int32.ofNat (P / (N / 2)))), .val (.int (Int32.ofNat (P % (N / 2) + 1))), .val (.int (Int32.ofNat (N / 2))), .unset]) (pc' := 57) S rfl d2_55 rfl ?_
      refine own_goto (pc' := 91) S (by decide) rfl d2_57 ?_
      have eI : own_I N P = P / (N / 2) := by unfold own_I; rw [if_neg (by omega), if_pos (by omega)]
      have eD : own_D N P = P % (N / 2) + 1 := by unfold own_D; rw [if_neg (by omega), if_pos (by omega)]
      rw [← eI, ← eD]
      exact own_k91 (One.val rfl) hN hN1 hP S A H
  · intro c4
    replace c4 := own_ne_f c4
    have e4 := congrArg Int32.toInt c4
    have k4 : (1 : Int32).toInt = 1 := rfl
    refine own_iloadN (pc' := 8) S rfl d2_7 rfl ?_
    refine own_iconst (1 : Int32) (pc' := 9) S rfl d2_8 rfl ?_
    refine own_isub (pc' := 10) S rfl d2_9 ?_
    rw [own_sub1 (by omega) hN1]
    refine own_iconst (2 : Int32) (pc' := 11) S rfl d2_10 rfl ?_
    refine own_idiv (pc' := 12) S rfl d2_11 (by decide) ?_
    rw [e2, own_divN (by omega) (by omega)]
    refine own_istore (ls' := #[.val (.ref b), .val (.int (Int32.ofNat N)), .val (.int (Int32.ofNat P)), .unset, .unset, .val (.int (Int32.ofNat ((N - 1) / 2))), .unset]) (pc' := 14) S rfl d2_12 rfl ?_
    refine own_iloadN (pc' := 15) S rfl d2_14 rfl ?_
    refine own_iload (pc' := 17) S rfl d2_15 rfl ?_
    refine own_idiv (pc' := 18) S rfl d2_17 (own_nz (by omega) (hp.2.2.1 (by omega))) ?_
    rw [own_divN (by omega) (by omega)]
    refine own_istoreN (ls' := #[.val (.ref b), .val (.int (Int32.ofNat N)), .val (.int (Int32.ofNat P)), .val (.int (Int32.ofNat (P / ((N - 1) / 2)))), .unset, .val (.int (Int32.ofNat ((N - 1) / 2))), .unset]) (pc' := 19) S rfl d2_18 rfl ?_
    refine own_iloadN (pc' := 20) S rfl d2_19 rfl ?_
    refine own_iload (pc' := 22) S rfl d2_20 rfl ?_
    refine own_irem (pc' := 23) S rfl d2_22 (own_nz (by omega) (hp.2.2.1 (by omega))) ?_
    rw [own_modN (by omega) (by omega)]
    refine own_iconst (1 : Int32) (pc' := 24) S rfl d2_23 rfl ?_
    refine own_iadd (pc' := 25) S rfl d2_24 ?_
    rw [own_one]
    refine own_istore (ls' := #[.val (.ref b), .val (.int (Int32.ofNat N)), .val (.int (Int32.ofNat P)), .val (.int (Int32.ofNat (P / ((N - 1) / 2)))), .val (.int (Int32.ofNat (P % ((N - 1) / 2) + 1))), .val (.int (Int32.ofNat ((N - 1) / 2))), .unset]) (pc' := 27) S rfl d2_25 rfl ?_
    refine own_goto (pc' := 91) S (by decide) rfl d2_27 ?_
    have eI : own_I N P = P / ((N - 1) / 2) := by unfold own_I; rw [if_pos (by omega)]
    have eD : own_D N P = P % ((N - 1) / 2) + 1 := by unfold own_D; rw [if_pos (by omega)]
    rw [← eI, ← eD]
    exact own_k91 (One.val rfl) hN hN1 hP S A H
theorem own_pn0 : plainName "com/example/ringloom/ringloom/RoundRobinOrientationPinLaw" = true := by first | (simp [plainName, overriddenIn]; done) | decide +kernel
theorem own_ef0 (m : MethodId) (x0 : Int32) (x1 : Int32) (x2 : Int32) : entryFrame m #[(.int x0), (.int x1), (.int x2)] maxLocals = mkF m 0 #[.val (.int x0), .val (.int x1), .val (.int x2), .unset, .unset, .unset, .unset, .unset] [] := by first | (simp [entryFrame, mkF, argsToLocals, Value.category, maxLocals]; done) | rfl
set_option maxRecDepth 65536 in
set_option maxHeartbeats 40000000 in
theorem own_m0 (l : Launch) (Z : State) (a0 : Array Value) (hw : ∀ d ∈ tables_1, d.before a0 Z = true) (x0 : Int32) (x1 : Int32) (x2 : Int32) (h0 : Heap) (n0 : Nat) (hn : n0 ≤ h0.size) :
    own_Met l Z h0 n0 x code maxLocals ret tables_1 room_1 #[(.int x0), (.int x1), (.int x2)] (own_V fun w h => w = .int 1) := by
  refine own_met (ls := #[.val (.int x0), .val (.int x1), .val (.int x2), .unset, .unset, .unset, .unset, .unset]) own_pn0 (fun m => own_ef0 m x0 x1 x2) hn hw fun p e s m below meth c T S => ?_
  obtain ⟨N, hN, hN1, eN⟩ : ∃ N : Nat, N < 17 ∧ 1 ≤ N ∧ (1 : Int32) + (x0 &&& 15) = Int32.ofNat N := by
    obtain ⟨k, hk, ek⟩ := own_mask x0 15 (by decide)
    have : (15 : Int32).toInt = 15 := rfl
    exact ⟨1 + k, by omega, by omega, by rw [ek]; exact own_addN 1 k⟩
  have ha := own_all N hN hN1
  have e2 : (2 : Int32) = Int32.ofNat 2 := rfl
  have hm : ∀ z : Int32, N * (N - 1) / 2 ≠ 0 → ∃ P : Nat, P < N * (N - 1) / 2 ∧ (z &&& 2147483647) % Int32.ofNat (N * (N - 1) / 2) = Int32.ofNat P := fun z hz => by
    obtain ⟨k, hk, ek⟩ := own_mask z 2147483647 (by decide)
    have : (2147483647 : Int32).toInt = 2147483647 := rfl
    exact ⟨k % (N * (N - 1) / 2), Nat.mod_lt _ (by omega), by rw [ek, own_modN (by omega) (by omega)]⟩
  refine own_iconst (1 : Int32) (pc' := 1) S rfl at_0 rfl ?_
  refine own_iloadN (pc' := 2) S rfl at_1 rfl ?_
  refine own_bipush (15 : Int32) (pc' := 4) S rfl at_2 rfl ?_
  refine own_iand (pc' := 5) S rfl at_4 ?_
  refine own_iadd (pc' := 6) S rfl at_5 ?_
  rw [eN]
  refine own_istoreN (ls' := #[.val (.int x0), .val (.int x1), .val (.int x2), .val (.int (Int32.ofNat N)), .unset, .unset, .unset, .unset]) (pc' := 7) S rfl at_6 rfl ?_
  refine own_iloadN (pc' := 8) S rfl at_7 rfl ?_
  refine own_callS (pc' := 11) (yy := own_y1) (rm := ({ frames := 0, cells := 1, slots := 240, locals := 0 } : Room)) (W := 2) [(.int (Int32.ofNat N))] [] S (List.mem_of_getElem? (i := 0) rfl) (List.mem_of_getElem? (i := 1) rfl) (List.mem_of_getElem? (i := 2) rfl) (List.mem_of_getElem? (i := 3) rfl) (by decide) (own_m1 l Z a0 hw N hN hN1 h0 n0 hn) (ps := [.int]) (r' := some (.array .int)) (by decide +kernel) rfl rfl rfl (Nat.le_of_ble_eq_true rfl) (by decide) (by decide) (by decide) (by decide) rfl at_8 ?_
  rintro T h' _ S ⟨_, rfl, b, g, rfl, A, H⟩
  have hn' := own_size S
  refine own_astore (ls' := #[.val (.int x0), .val (.int x1), .val (.int x2), .val (.int (Int32.ofNat N)), .val (.ref b), .unset, .unset, .unset]) (pc' := 13) S rfl at_11 rfl rfl ?_
  refine own_aload (pc' := 15) S rfl at_13 rfl rfl ?_
  refine own_alen (pc' := 16) (w := (Int32.ofNat (N * (N - 1)))) S A (own_tn (by omega)) rfl at_15 ?_
  refine own_iloadN (pc' := 17) S rfl at_16 rfl ?_
  refine own_iloadN (pc' := 18) S rfl at_17 rfl ?_
  refine own_iconst (1 : Int32) (pc' := 19) S rfl at_18 rfl ?_
  refine own_isub (pc' := 20) S rfl at_19 ?_
  rw [own_sub1 (by omega) hN1]
  refine own_imul (pc' := 21) S rfl at_20 ?_
  rw [own_mulN]
  refine own_icY (pc' := 26) S (by decide) rfl at_21 (own_t_eq rfl) ?_
  refine own_iloadN (pc' := 27) S rfl at_26 rfl ?_
  refine own_iloadN (pc' := 28) S rfl at_27 rfl ?_
  refine own_iconst (1 : Int32) (pc' := 29) S rfl at_28 rfl ?_
  refine own_isub (pc' := 30) S rfl at_29 ?_
  rw [own_sub1 (by omega) hN1]
  refine own_imul (pc' := 31) S rfl at_30 ?_
  rw [own_mulN]
  refine own_iconst (2 : Int32) (pc' := 32) S rfl at_31 rfl ?_
  refine own_idiv (pc' := 33) S rfl at_32 (by decide) ?_
  rw [e2, own_divN (by omega) (by omega)]
  refine own_istore (ls' := #[.val (.int x0), .val (.int x1), .val (.int x2), .val (.int (Int32.ofNat N)), .val (.ref b), .val (.int (Int32.ofNat (N * (N - 1) / 2))), .unset, .unset]) (pc' := 35) S rfl at_33 rfl ?_
  refine own_iload (pc' := 37) S rfl at_35 rfl ?_
  refine own_if (pt := 42) (pc' := 40) S (by decide) rfl rfl at_37 ?_ ?_
  · intro c37
    replace c37 := own_ne_t ((if0 _ _).symm.trans c37)
    have e37 := own_ten c37
    have k37 : (0 : Int32).toInt = 0 := rfl
    have hE : N * (N - 1) / 2 ≠ 0 := fun q => c37 (by rw [q]; rfl)
    obtain ⟨P1, hP1, eP1⟩ := hm x1 hE
    obtain ⟨P2, hP2, eP2⟩ := hm x2 hE
    refine own_iloadN (pc' := 43) S rfl at_42 rfl ?_
    refine own_ldc (v := (2147483647 : Int32)) (pc' := 45) S rfl at_43 (List.mem_of_getElem? (i := 5) rfl) ?_
    refine own_iand (pc' := 46) S rfl at_45 ?_
    refine own_iload (pc' := 48) S rfl at_46 rfl ?_
    refine own_irem (pc' := 49) S rfl at_48 (own_nz (by omega) hE) ?_
    rw [eP1]
    refine own_istore (ls' := #[.val (.int x0), .val (.int x1), .val (.int x2), .val (.int (Int32.ofNat N)), .val (.ref b), .val (.int (Int32.ofNat (N * (N - 1) / 2))), .val (.int (Int32.ofNat P1)), .unset]) (pc' := 51) S rfl at_49 rfl ?_
    refine own_iloadN (pc' := 52) S rfl at_51 rfl ?_
    refine own_ldc (v := (2147483647 : Int32)) (pc' := 54) S rfl at_52 (List.mem_of_getElem? (i := 5) rfl) ?_
    refine own_iand (pc' := 55) S rfl at_54 ?_
    refine own_iload (pc' := 57) S rfl at_55 rfl ?_
    refine own_irem (pc' := 58) S rfl at_57 (own_nz (by omega) hE) ?_
    rw [eP2]
    refine own_istore (ls' := #[.val (.int x0), .val (.int x1), .val (.int x2), .val (.int (Int32.ofNat N)), .val (.ref b), .val (.int (Int32.ofNat (N * (N - 1) / 2))), .val (.int (Int32.ofNat P1)), .val (.int (Int32.ofNat P2))]) (pc' := 60) S rfl at_58 rfl ?_
    refine own_aload (pc' := 62) S rfl at_60 rfl rfl ?_
    refine own_iloadN (pc' := 63) S rfl at_62 rfl ?_
    refine own_iload (pc' := 65) S rfl at_63 rfl ?_
    refine own_callS (pc' := 68) (yy := own_y2) (rm := ({ frames := 0, cells := 0, slots := 0, locals := 0 } : Room)) (W := 2) [(.ref b), (.int (Int32.ofNat N)), (.int (Int32.ofNat P1))] [] S (List.mem_of_getElem? (i := 6) rfl) (List.mem_of_getElem? (i := 7) rfl) (List.mem_of_getElem? (i := 8) rfl) (List.mem_of_getElem? (i := 9) rfl) (by decide) (own_m2 l Z a0 hw b N P1 g hN hN1 hP1 h' n0 hn' A H) (ps := [.array .int, .int, .int]) (r' := some .boolean) (by decide +kernel) rfl rfl rfl (Nat.le_of_ble_eq_true rfl) (by decide) (by decide) (by decide) (by decide) rfl at_65 ?_
    rintro T h2 _ S ⟨_, rfl, rfl, rfl⟩
    refine own_ifN (pc' := 71) S rfl at_68 ((if0 _ _).trans (own_f_eq (by decide))) ?_
    refine own_aload (pc' := 73) S rfl at_71 rfl rfl ?_
    refine own_iloadN (pc' := 74) S rfl at_73 rfl ?_
    refine own_iload (pc' := 76) S rfl at_74 rfl ?_
    refine own_callS (pc' := 79) (yy := own_y2) (rm := ({ frames := 0, cells := 0, slots := 0, locals := 0 } : Room)) (W := 2) [(.ref b), (.int (Int32.ofNat N)), (.int (Int32.ofNat P2))] [] S (List.mem_of_getElem? (i := 6) rfl) (List.mem_of_getElem? (i := 7) rfl) (List.mem_of_getElem? (i := 8) rfl) (List.mem_of_getElem? (i := 9) rfl) (by decide) (own_m2 l Z a0 hw b N P2 g hN hN1 hP2 h' n0 hn' A H) (ps := [.array .int, .int, .int]) (r' := some .boolean) (by decide +kernel) rfl rfl rfl (Nat.le_of_ble_eq_true rfl) (by decide) (by decide) (by decide) (by decide) rfl at_76 ?_
    rintro T h2 _ S ⟨_, rfl, rfl, rfl⟩
    refine own_ifN (pc' := 82) S rfl at_79 ((if0 _ _).trans (own_f_eq (by decide))) ?_
    refine own_iconst (1 : Int32) (pc' := 83) S rfl at_82 rfl ?_
    refine own_goto (pc' := 87) S (by decide) rfl at_83 ?_
    exact own_retZ (Or.inr rfl) S at_87 (by decide) (by decide) ⟨_, rfl, rfl⟩
  · intro c37
    replace c37 := own_ne_f ((if0 _ _).symm.trans c37)
    have e37 := congrArg Int32.toInt c37
    have k37 : (0 : Int32).toInt = 0 := rfl
    refine own_iconst (1 : Int32) (pc' := 41) S rfl at_40 rfl ?_
    exact own_retZ (Or.inr rfl) S at_41 (by decide) (by decide) ⟨_, rfl, rfl⟩
set_option maxRecDepth 65536 in
set_option maxHeartbeats 40000000 in
theorem own_comes {Post : Tables → Env → Array Value → State → Outcome → State → Prop} (hpost : ∀ tb e args s v u, (limb_1_1.after args s (.returned v) u = true ∧ limb_1_2.after args s (.returned v) u = true ∧ True) → FrameEnd s (.returned v) u (Jvm.fieldLocs frame_1_writes args s ++ Jvm.arrayLocs frame_1_arrays args s ++ Jvm.staticLocs frame_1_statics s) 16 576 → Post tb e args s (.returned v) u) :
    ArmFor flags0 classFile x code maxLocals ret World_1 tables_1 room_1 Calls_1 rest_1 Pre_1 Post := by
  intro l hfl _ _ p e ha hc hk s m args below hf hA hF happ hP
  obtain ⟨hcalls, hrest, hpre⟩ := hP
  obtain ⟨-, -, -, hnamed, -, -, -, hat⟩ := (Spec.applies_iff hf).mp happ
  obtain ⟨hg, hn⟩ := and_e (Cond.before_iff.mp (show (Jvm.Cond.and given_1 narrow_1).before args s = true from hpre))
  obtain ⟨g0, r0⟩ := and_e hg
  obtain ⟨b0, r1⟩ := and_e r0
  obtain ⟨b1, r2⟩ := and_e r1
  have b2 := r2
  obtain ⟨w0, w1, w2, rfl⟩ : ∃ w0 w1 w2 : Value, args = #[w0, w1, w2] := by
    have hs : args.size = 3 := by simpa [Cond.value, given_1] using g0
    obtain ⟨L⟩ := args
    match L, hs with
    | [w0, w1, w2], _ => exact ⟨w0, w1, w2, rfl⟩
  have hw := fun d (hd : d ∈ tables_1) => atoms_spec (ws := Jvm.Cond.code x code maxLocals ret :: tables_1) hat d (List.mem_cons_of_mem _ hd)
  obtain ⟨i0, ei0⟩ := is_v b0
  obtain rfl : w0 = (.int i0) := Option.some.inj ei0
  obtain ⟨i1, ei1⟩ := is_v b1
  obtain rfl : w1 = (.int i1) := Option.some.inj ei1
  obtain ⟨i2, ei2⟩ := is_v b2
  obtain rfl : w2 = (.int i2) := Option.some.inj ei2
  obtain ⟨n, o, h1, h2, h3, _, L, rfl, ⟨⟨_, rfl, rfl⟩, N⟩, hq⟩ := own_m0 l s _ hw i0 i1 i2 s.heap s.heap.size (Nat.le_refl _) p e ha hc hk s m _ below hf ((Spec.applies_iff_loose hf).mp happ).1 ⟨rfl, State.Warmed39.refl s, rfl⟩ trivial
  exact ⟨n, _, h1, h2, h3, hpost _ _ _ _ _ _ ⟨Cond.after_iff.mpr rfl, Cond.after_iff.mpr (eq_i res_at (Term.int_eval (1)) rfl), trivial⟩ ⟨hq.1, hq.2.1, (hq.2.2.sift fun y hy => Or.inr (N y hy)).mono (by decide) (by decide)⟩⟩
theorem main_1_1 : Claimed_1_1 := own_comes fun _ _ _ _ _ _ h hF => ⟨h.1, hF⟩
theorem main_1_2 : Claimed_1_2 := own_comes fun _ _ _ _ _ _ h hF => ⟨h.2.1, hF⟩
end Jvm.Pilot.@@N@@
namespace Jvm.Pilot.@@N@@
open Jvm Jvm.ClassFile Sem Op Lib Jvm.Free Jvm.Stand Jvm.Pilot.@@N@@.Jvm.D
/-! MADE BY PROGRAM (witnessworld.py) out of the Statement's table words and the real class files: 9 classes; the members and pool entries that the words name. The judged class is class 1, her method 1. -/
namespace start1
open Jvm.ClassFile
def u (s : String) : CpInfo := .utf8 (stringToUtf16 s)
/-- a pool by its gaps: so many unusable entries, then the entry; so many at the end -/
def gap : Nat → List CpInfo → List CpInfo
  | 0, r => r
  | n + 1, r => .unusable :: gap n r
def poolList (es : List (Nat × CpInfo)) (last : Nat) : List CpInfo := es.foldr (fun e r => gap e.1 (e.2 :: r)) (gap last [])
def pool (es : List (Nat × CpInfo)) (last : Nat) : Array CpInfo := ⟨poolList es last⟩
def fileOf (pool : Array CpInfo) (this : Nat) (attrs : Array Attribute := #[]) (ms : Array MethodInfo := #[]) (fl : Nat := 33) (sup : Nat := 0) (ifs : Array Nat := #[]) (fds : Array FieldInfo := #[]) : ClassFile where
  minorVersion := 0
  majorVersion := 65
  constantPool := pool
  accessFlags := fl
  thisClass := this
  superClass := sup
  interfaces := ifs
  fields := fds
  methods := ms
  attributes := attrs
def plain (name : String) (sup : Option ClassId) : Class where
  name := name
  kind := .ordinary
  loader := none
  accessFlags := 33
  super := sup
  interfaces := #[]
  cf := none
  fields := #[]
  methods := #[]
  instanceTypes := #[]
  staticTypes := #[]
  resolved := #[]
  callSites := []
  init := .initialized
  statics := none
  mirror := none

def pool0 : Array CpInfo := pool [(5, u "<init>"), (0, u "()V"), (1, .class_ 10), (1, u "java/lang/Object")] 113

def k0m0 : Method := { name := "<init>", desc := "()V", sig := { parameters := [], returnType := none }, accessFlags := 1, code := none }
/-- java/lang/Object -/
def k0 : Class := { plain "java/lang/Object" none with
  accessFlags := 33
  interfaces := #[]
  cf := some (fileOf pool0 8 #[] #[{ accessFlags := 1, nameIndex := 5, descriptorIndex := 6, attributes := #[] }] 33 0 #[] #[])
  fields := #[]
  methods := #[k0m0]
  instanceTypes := #[]
  staticTypes := #[]
  resolved := Array.replicate 124 none
  statics := none }

def pool1 : Array CpInfo := pool [(2, .class_ 4), (1, u "java/lang/Object"), (0, u "<init>"), (0, u "()V"), (0, .methodref 8 9), (0, .class_ 10), (0, .nameAndType 11 12), (0, u "com/example/ringloom/ringloom/RoundRobin"), (0, u "orientation"), (0, u "(I)[I"), (0, .integer 2147483647), (0, .methodref 15 16), (0, .class_ 17), (0, .nameAndType 18 19), (0, u "com/example/ringloom/ringloom/RoundRobinOrientationPinLaw"), (0, u "check"), (0, u "([III)Z"), (2, u "law"), (0, u "(III)Z")] 5

def k1m0 : Method := { name := "<init>", desc := "()V", sig := { parameters := [], returnType := none }, accessFlags := 2, code := none }
def k1c1 : Code := { maxStack := 4, maxLocals := 8, code := code, exceptionTable := #[], attributes := #[] }
def k1m1 : Method := { name := "law", desc := "(III)Z", sig := { parameters := [.int, .int, .int], returnType := some .boolean }, accessFlags := 9, code := some k1c1 }
def k1c2 : Code := { maxStack := 4, maxLocals := 7, code := method_3_code, exceptionTable := #[], attributes := #[] }
def k1m2 : Method := { name := "check", desc := "([III)Z", sig := { parameters := [(.array .int), .int, .int], returnType := some .boolean }, accessFlags := 10, code := some k1c2 }
/-- com/example/ringloom/ringloom/RoundRobinOrientationPinLaw -/
def k1 : Class := { plain "com/example/ringloom/ringloom/RoundRobinOrientationPinLaw" (some 0) with
  accessFlags := 49
  interfaces := #[]
  cf := some (fileOf pool1 15 #[] #[{ accessFlags := 2, nameIndex := 5, descriptorIndex := 6, attributes := #[] }, { accessFlags := 9, nameIndex := 22, descriptorIndex := 23, attributes := #[] }, { accessFlags := 10, nameIndex := 18, descriptorIndex := 19, attributes := #[] }] 49 2 #[] #[])
  fields := #[]
  methods := #[k1m0, k1m1, k1m2]
  instanceTypes := #[]
  staticTypes := #[]
  resolved := Array.replicate 29 none
  statics := none }

def pool2 : Array CpInfo := pool [(2, .class_ 4), (1, u "java/lang/Object"), (0, u "<init>"), (0, u "()V"), (12, .class_ 21), (1, u "com/example/ringloom/ringloom/RoundRobin"), (48, u "orientation"), (0, u "(I)[I")] 6

def k2m0 : Method := { name := "<init>", desc := "()V", sig := { parameters := [], returnType := none }, accessFlags := 2, code := none }
def k2c1 : Code := { maxStack := 3, maxLocals := 6, code := prog_41_method_3_code, exceptionTable := #[], attributes := #[] }
def k2m1 : Method := { name := "orientation", desc := "(I)[I", sig := { parameters := [.int], returnType := some (.array .int) }, accessFlags := 8, code := some k2c1 }
/-- com/example/ringloom/ringloom/RoundRobin -/
def k2 : Class := { plain "com/example/ringloom/ringloom/RoundRobin" (some 0) with
  accessFlags := 48
  interfaces := #[]
  cf := some (fileOf pool2 19 #[] #[{ accessFlags := 2, nameIndex := 5, descriptorIndex := 6, attributes := #[] }, { accessFlags := 8, nameIndex := 70, descriptorIndex := 71, attributes := #[] }] 48 2 #[] #[])
  fields := #[]
  methods := #[k2m0, k2m1]
  instanceTypes := #[]
  staticTypes := #[]
  resolved := Array.replicate 78 none
  statics := none }

def pool3 : Array CpInfo := pool [(1, u "java/lang/Cloneable"), (0, .class_ 1), (0, u "java/lang/Object"), (0, .class_ 3)] 3

/-- java/lang/Cloneable -/
def k3 : Class := { plain "java/lang/Cloneable" (some 0) with
  accessFlags := 1537
  interfaces := #[]
  cf := some (fileOf pool3 2 #[] #[] 1537 4 #[] #[])
  fields := #[]
  methods := #[]
  instanceTypes := #[]
  staticTypes := #[]
  resolved := Array.replicate 8 none
  statics := none }

def pool4 : Array CpInfo := pool [(1, u "java/io/Serializable"), (0, .class_ 1), (0, u "java/lang/Object"), (0, .class_ 3)] 3

/-- java/io/Serializable -/
def k4 : Class := { plain "java/io/Serializable" (some 0) with
  accessFlags := 1537
  interfaces := #[]
  cf := some (fileOf pool4 2 #[] #[] 1537 4 #[] #[])
  fields := #[]
  methods := #[]
  instanceTypes := #[]
  staticTypes := #[]
  resolved := Array.replicate 8 none
  statics := none }

/-- the primitive byte -/
def k5 : Class := { plain "byte" none with kind := .primitive 'B', accessFlags := 0x411 }
/-- [B -/
def k6 : Class := { plain "[B" (some 0) with kind := .array 5 .byte, interfaces := #[3, 4], accessFlags := 1041 }

/-- the primitive int -/
def k7 : Class := { plain "int" none with kind := .primitive 'I', accessFlags := 0x411 }
/-- [I -/
def k8 : Class := { plain "[I" (some 0) with kind := .array 7 .int, interfaces := #[3, 4], accessFlags := 1041 }

def heap : Heap := #[]
def classes : Array Class := #[k0, k1, k2, k3, k4, k5, k6, k7, k8]
def interned : List (Array UInt16 × Addr) := []
def slotsUsed : Nat := 0
def theMethod : MethodId := ⟨1, 1⟩
def args0 : Array Value := #[.int 3, .int 4, .int 5]
def aboutOver (below : List Frame) : State where
  vm := { classes := classes, interned := interned.toArray }
  heap := heap
  slotsUsed := slotsUsed
  threads := #[{ frames := .invoking theMethod args0 :: below }]
def below0 : List Frame := [.native { method := ⟨0, 0⟩, args := #[] }]
def about1 : State := aboutOver below0
def p0 : Program := .bare "" "" ""
def e0 : Env := launch0.env 0 0 0
theorem w_frames : about1.frames = Frame.invoking theMethod args0 :: below0 := rfl
set_option maxRecDepth 65536 in
theorem w_args : argsFit about1.vm theMethod args0 = true := by decide +kernel
set_option maxRecDepth 65536 in
theorem w_heap : heapFits about1 = true := by decide +kernel
set_option maxRecDepth 65536 in
theorem w_runnable : about1.curStatus? = some .runnable := by decide +kernel
set_option maxRecDepth 65536 in
theorem w_alone : about1.alone = true := by decide +kernel
set_option maxRecDepth 65536 in
theorem w_named : about1.methodNamed? x = some theMethod := by decide +kernel
set_option maxRecDepth 65536 in
theorem w_hears : about1.hears theMethod below0 = true := by decide +kernel
set_option maxRecDepth 65536 in
theorem w_ripe : about1.ripe theMethod args0 below0 = true := by decide +kernel
theorem w_running : about1.status = .running := rfl
set_option maxRecDepth 65536 in
theorem w_room : about1.hasRoom e0.platform room_1 = true :=
  launch0.hasRoom_least _ room_1 (by decide +kernel) (by decide +kernel) (by decide +kernel) (by decide +kernel) (by decide +kernel) (by decide +kernel)
theorem allAtoms_all (ts : List Jvm.Cond) (a : Array Jvm.Value) (st : Jvm.State) : (allAtoms ts).before a st = ts.all (fun c => c.before a st) := by
  induction ts with
  | nil => rfl
  | cons c t ih =>
    show (Jvm.Cond.and c (allAtoms t)).before a st = _
    rw [Jvm.Cond.before_and, ih, List.all_cons]
def words1 : List Jvm.Cond := Jvm.Cond.code x code maxLocals ret :: tables_1
/-- a 'code' word, met by the world's own term for the bytes: nothing is compared byte by byte -/
theorem code_word {y : MethodName} {bytes : ByteArray} {mx : Nat} {rt : Option FieldType} {a : Array Value} {s : State} {m : MethodId} {meth : Method} {c : Code} (h1 : s.methodNamed? y = some m) (h2 : s.vm.method? m = some meth) (h3 : meth.code = some c) (h4 : c.code = bytes)
    (h5 : (c.maxLocals == mx && c.exceptionTable.isEmpty && decide (c.maxStack ≤ mostOperands) && decide (meth.sig.returnType = rt) && !meth.locks && decide (parseMethodDescriptor y.desc = some meth.sig)) = true) : (Jvm.Cond.code y bytes mx rt).before a s = true := by
  simp only [Bool.and_eq_true, beq_iff_eq, Bool.not_eq_true', decide_eq_true_eq] at h5
  obtain ⟨⟨⟨⟨⟨g1, g2⟩, g3⟩, g4⟩, g5⟩, g6⟩ := h5
  simp [Cond.before, Cond.holds, Cond.value, h1, h2, h3, h4, g1, g2, g3, g4, g5, g6]
def isCode : Jvm.Cond → Bool
  | .code _ _ _ _ => true
  | _ => false
theorem all_split {L : List Jvm.Cond} {P : Jvm.Cond → Bool} (h1 : L.all (fun c => isCode c || P c) = true) (h2 : ∀ c ∈ L.filter isCode, P c = true) : L.all P = true := by
  refine List.all_eq_true.mpr fun c hc => ?_
  have h := List.all_eq_true.mp h1 c hc
  rcases Bool.eq_false_or_eq_true (isCode c) with hi | hi
  · exact h2 c (List.mem_filter.mpr ⟨hc, hi⟩)
  · simpa [hi] using h
set_option maxRecDepth 65536 in
theorem w_c0 : (Jvm.Cond.code x code maxLocals ret).before args0 about1 = true := code_word (m := ⟨1, 1⟩) (meth := k1m1) (c := k1c1) (by decide +kernel) rfl rfl rfl (by decide +kernel)
set_option maxRecDepth 65536 in
theorem w_c1 : (Jvm.Cond.code ({ cls := "com/example/ringloom/ringloom/RoundRobin", name := "orientation", desc := "(I)[I" } : Jvm.MethodName) prog_41_method_3_code (6 : Nat) (Option.some (Jvm.ClassFile.FieldType.array Jvm.ClassFile.FieldType.int))).before args0 about1 = true := code_word (m := ⟨2, 1⟩) (meth := k2m1) (c := k2c1) (by decide +kernel) rfl rfl rfl (by decide +kernel)
set_option maxRecDepth 65536 in
theorem w_c2 : (Jvm.Cond.code ({ cls := "com/example/ringloom/ringloom/RoundRobinOrientationPinLaw", name := "check", desc := "([III)Z" } : Jvm.MethodName) method_3_code (7 : Nat) (Option.some Jvm.ClassFile.FieldType.boolean)).before args0 about1 = true := code_word (m := ⟨1, 2⟩) (meth := k1m2) (c := k1c2) (by decide +kernel) rfl rfl rfl (by decide +kernel)
def codes1 : List Jvm.Cond := [Jvm.Cond.code x code maxLocals ret, Jvm.Cond.code ({ cls := "com/example/ringloom/ringloom/RoundRobin", name := "orientation", desc := "(I)[I" } : Jvm.MethodName) prog_41_method_3_code (6 : Nat) (Option.some (Jvm.ClassFile.FieldType.array Jvm.ClassFile.FieldType.int)), Jvm.Cond.code ({ cls := "com/example/ringloom/ringloom/RoundRobinOrientationPinLaw", name := "check", desc := "([III)Z" } : Jvm.MethodName) method_3_code (7 : Nat) (Option.some Jvm.ClassFile.FieldType.boolean)]
set_option maxRecDepth 65536 in
theorem codes_eq : words1.filter isCode = codes1 := rfl
theorem w_codes : ∀ c ∈ words1.filter isCode, c.before args0 about1 = true := by
  rw [codes_eq]
  intro c hc
  simp only [codes1, List.mem_cons, List.not_mem_nil, or_false] at hc
  rcases hc with rfl | rfl | rfl
  · exact w_c0
  · exact w_c1
  · exact w_c2
set_option maxRecDepth 65536 in
theorem w_t1 : words1.all (fun c => isCode c || c.before args0 about1) = true := by decide +kernel
theorem w_tables : (allAtoms (Jvm.Cond.code x code maxLocals ret :: tables_1)).before args0 about1 = true := by
  rw [allAtoms_all]
  show words1.all (fun c => c.before args0 about1) = true
  refine all_split ?_ w_codes
  rw [w_t1]
set_option maxRecDepth 65536 in
theorem w_case : (Jvm.Cond.and given_1 narrow_1).before args0 about1 = true := by decide +kernel
theorem w_applies : (headSpec (Jvm.Cond.code x code maxLocals ret :: tables_1) room_1).applies x e0.platform about1 = true :=
  (Spec.applies_iff w_frames).mpr ⟨w_running, w_runnable, w_alone, w_named, w_hears, w_ripe, w_room, w_tables⟩
theorem atStart : AtStart classFile x code maxLocals ret World_1 tables_1 room_1 Calls_1 rest_1 Pre_1 launch0 p0 e0 about1 theMethod args0 below0 :=
  ⟨lists_1, trivial, launch0.admits_env _ _ _, launch0.least_env, fairChoices_fair.cas, fairChoices_fair.clock, w_frames, w_args, w_heap, w_applies, trivial, trivial, w_case⟩
end start1
theorem witness_1 : WitnessClaimed_1 := ⟨start1.p0, start1.e0, start1.about1, start1.theMethod, start1.args0, start1.below0, start1.atStart⟩
end Jvm.Pilot.@@N@@
