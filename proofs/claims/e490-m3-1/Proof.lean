import JvmDerived
import JvmDerived.Pilot.@@N@@Statement
import JvmDerived.Pilot.@@N@@Code
set_option linter.unusedVariables false
set_option linter.unusedSimpArgs false
namespace Jvm.Pilot.@@N@@
open Jvm Jvm.ClassFile Sem Op Lib Jvm.Free Jvm.Stand Jvm.LawKit Jvm.RoadKit Bundle Jvm.Pilot.@@N@@.Jvm.D
section Own
variable {p : Program} {l : Launch} {e : Env} {s : State} {m : MethodId} {args : Array Value} {below : List Frame} {meth : Method} {c : Code} {Z : State} {a0 : Array Value} {n0 : Nat}
  {y : MethodName} {code : ByteArray} {mx : Nat} {ret : Option FieldType} {R : Room} {T : State} {h : Heap} {cells slots : Nat} {Q : Option Value → Heap → Prop} {pc pc' : Nat} {ls ls' : Array Slot} {st : List Value}
/-- where a walk stands: all that stays from step to step, in one word -/
def own_S (p : Program) (l : Launch) (e : Env) (s : State) (m : MethodId) (args : Array Value) (below : List Frame) (meth : Method) (c : Code) (Z : State) (a0 : Array Value) (n0 : Nat) (y : MethodName) (code : ByteArray) (mx : Nat) (ret : Option FieldType) (R : Room) (T : State) (h : Heap) (cells slots : Nat) : Prop :=
  ∃ locs : List Loc, Stand p l e R s m args below meth c T locs cells slots ∧ T.heap = h ∧ Fr n0 locs ∧ n0 ≤ s.heap.size ∧ p.tables.exec = Jvm.exec ∧ Z.Warmed39 s.vm ∧ (∀ d ∈ tables_1, d.before a0 Z = true) ∧ c.code = code ∧ c.maxLocals = mx ∧ s.vm.findClass y.cls = some m.cls ∧ meth.name = y.name ∧ meth.locks = false ∧ meth.sig.returnType = ret
/-- from T with the frame f on top the invocation comes to an end of which Q speaks -/
def own_G (p : Program) (e : Env) (s : State) (below : List Frame) (R : Room) (n0 : Nat) (Q : Option Value → Heap → Prop) (T : State) (f : JFrame) : Prop :=
  ∃ (U : State) (o : Outcome), Steps p.tables e below (T.setTop f) U ∧ U.status = .running ∧ Ended U below o ∧ ∃ v L, o = .returned v ∧ (Q v U.heap ∧ Fr n0 L) ∧ FrameEnd s o U L R.cells R.slots
theorem own_by {T' : State} {f f' : JFrame} (st : ∀ target, Steps p.tables e below (T'.setTop f') target → Steps p.tables e below (T.setTop f) target) (H : own_G p e s below R n0 Q T' f') : own_G p e s below R n0 Q T f := by
  obtain ⟨U, o, h1, h2⟩ := H
  exact ⟨U, o, st U h1, h2⟩
theorem own_word (S : own_S p l e s m args below meth c Z a0 n0 y code mx ret R T h cells slots) : ∀ d ∈ tables_1, d.before a0 Z = true := by
  obtain ⟨_, _, _, _, _, _, _, hw, _⟩ := S; exact hw
theorem own_size (S : own_S p l e s m args below meth c Z a0 n0 y code mx ret R T h cells slots) : n0 ≤ h.size := by
  obtain ⟨_, X, eT, _, hs, _⟩ := S; rw [← eT]; exact Nat.le_trans hs X.same.2.1
-- plain steps
theorem own_iload {k : Nat} {v : Int32} (S : own_S p l e s m args below meth c Z a0 n0 y code mx ret R T h cells slots) (hp : pc + 2 = pc') (hd : decode code pc = .ok (.iload k, 2)) (hl : ls[k]? = some (.val (.int v)))
    (H : own_G p e s below R n0 Q T (mkF m pc' ls (.int v :: st))) : own_G p e s below R n0 Q T (mkF m pc ls st) := by
  obtain ⟨_, X, _, _, _, hx, _, _, hby, _⟩ := S; subst hp
  exact own_by (fun _ k => XS.iload X.here hx rfl (hb hby hd) hl k) H
theorem own_iloadN {k : Fin 4} {v : Int32} (S : own_S p l e s m args below meth c Z a0 n0 y code mx ret R T h cells slots) (hp : pc + 1 = pc') (hd : decode code pc = .ok (.iload_n k, 1)) (hl : ls[k.val]? = some (.val (.int v)))
    (H : own_G p e s below R n0 Q T (mkF m pc' ls (.int v :: st))) : own_G p e s below R n0 Q T (mkF m pc ls st) := by
  obtain ⟨_, X, _, _, _, hx, _, _, hby, _⟩ := S; subst hp
  exact own_by (fun _ k => XS.iloadN X.here hx rfl (hb hby hd) hl k) H
theorem own_lload {k : Nat} {v : Int64} (S : own_S p l e s m args below meth c Z a0 n0 y code mx ret R T h cells slots) (hp : pc + 2 = pc') (hd : decode code pc = .ok (.lload k, 2)) (hl : ls[k]? = some (.val (.long v)))
    (H : own_G p e s below R n0 Q T (mkF m pc' ls (.long v :: st))) : own_G p e s below R n0 Q T (mkF m pc ls st) := by
  obtain ⟨_, X, _, _, _, hx, _, _, hby, _⟩ := S; subst hp
  exact own_by (fun _ k => XT.lload X.here hx rfl (hb hby hd) hl k) H
theorem own_lloadN {k : Fin 4} {v : Int64} (S : own_S p l e s m args below meth c Z a0 n0 y code mx ret R T h cells slots) (hp : pc + 1 = pc') (hd : decode code pc = .ok (.lload_n k, 1)) (hl : ls[k.val]? = some (.val (.long v)))
    (H : own_G p e s below R n0 Q T (mkF m pc' ls (.long v :: st))) : own_G p e s below R n0 Q T (mkF m pc ls st) := by
  obtain ⟨_, X, _, _, _, hx, _, _, hby, _⟩ := S; subst hp
  exact own_by (fun _ k => XT.lloadN X.here hx rfl (hb hby hd) hl k) H
theorem own_aload {k : Nat} {v : Value} (S : own_S p l e s m args below meth c Z a0 n0 y code mx ret R T h cells slots) (hp : pc + 2 = pc') (hd : decode code pc = .ok (.aload k, 2)) (hl : ls[k]? = some (.val v)) (hv : v.isRef = true)
    (H : own_G p e s below R n0 Q T (mkF m pc' ls (v :: st))) : own_G p e s below R n0 Q T (mkF m pc ls st) := by
  obtain ⟨_, X, _, _, _, hx, _, _, hby, _⟩ := S; subst hp
  exact own_by (fun _ k => XS.aload X.here hx rfl (hb hby hd) hl hv k) H
theorem own_aloadN {k : Fin 4} {v : Value} (S : own_S p l e s m args below meth c Z a0 n0 y code mx ret R T h cells slots) (hp : pc + 1 = pc') (hd : decode code pc = .ok (.aload_n k, 1)) (hl : ls[k.val]? = some (.val v)) (hv : v.isRef = true)
    (H : own_G p e s below R n0 Q T (mkF m pc' ls (v :: st))) : own_G p e s below R n0 Q T (mkF m pc ls st) := by
  obtain ⟨_, X, _, _, _, hx, _, _, hby, _⟩ := S; subst hp
  exact own_by (fun _ k => XS.aloadN X.here hx rfl (hb hby hd) hl hv k) H
theorem own_iconst {i : Int} (v : Int32) (S : own_S p l e s m args below meth c Z a0 n0 y code mx ret R T h cells slots) (hp : pc + 1 = pc') (hd : decode code pc = .ok (.iconst i, 1)) (hv : Int32.ofInt i = v)
    (H : own_G p e s below R n0 Q T (mkF m pc' ls (.int v :: st))) : own_G p e s below R n0 Q T (mkF m pc ls st) := by
  obtain ⟨_, X, _, _, _, hx, _, _, hby, _⟩ := S; subst hp
  exact own_by (fun _ k => XT.iconstV X.here hx rfl v (hb hby hd) hv k) H
theorem own_bipush {i : Int} (v : Int32) (S : own_S p l e s m args below meth c Z a0 n0 y code mx ret R T h cells slots) (hp : pc + 2 = pc') (hd : decode code pc = .ok (.bipush i, 2)) (hv : (Int8.ofInt i).toInt32 = v)
    (H : own_G p e s below R n0 Q T (mkF m pc' ls (.int v :: st))) : own_G p e s below R n0 Q T (mkF m pc ls st) := by
  obtain ⟨_, X, _, _, _, hx, _, _, hby, _⟩ := S; subst hp
  exact own_by (fun _ k => XT.bipushV X.here hx rfl v (hb hby hd) hv k) H
theorem own_sipush {i : Int} (v : Int32) (S : own_S p l e s m args below meth c Z a0 n0 y code mx ret R T h cells slots) (hp : pc + 3 = pc') (hd : decode code pc = .ok (.sipush i, 3)) (hv : (Int16.ofInt i).toInt32 = v)
    (H : own_G p e s below R n0 Q T (mkF m pc' ls (.int v :: st))) : own_G p e s below R n0 Q T (mkF m pc ls st) := by
  obtain ⟨_, X, _, _, _, hx, _, _, hby, _⟩ := S; subst hp
  exact own_by (fun _ k => XT.sipushV X.here hx rfl v (hb hby hd) hv k) H
theorem own_null (S : own_S p l e s m args below meth c Z a0 n0 y code mx ret R T h cells slots) (hp : pc + 1 = pc') (hd : decode code pc = .ok (.aconst_null, 1))
    (H : own_G p e s below R n0 Q T (mkF m pc' ls (.null :: st))) : own_G p e s below R n0 Q T (mkF m pc ls st) := by
  obtain ⟨_, X, _, _, _, hx, _, _, hby, _⟩ := S; subst hp
  exact own_by (fun _ k => XS.aconstNull X.here hx rfl (hb hby hd) k) H
theorem own_ldc {idx : Nat} {v : Int32} (S : own_S p l e s m args below meth c Z a0 n0 y code mx ret R T h cells slots) (hp : pc + 2 = pc') (hd : decode code pc = .ok (.ldc idx, 2)) (w : Jvm.Cond.constant y.cls idx v ∈ tables_1)
    (H : own_G p e s below R n0 Q T (mkF m pc' ls (.int v :: st))) : own_G p e s below R n0 Q T (mkF m pc ls st) := by
  obtain ⟨_, X, _, _, _, hx, hZ, hw, hby, _, hown, _⟩ := S; subst hp
  exact own_by (fun _ k => X.ldcI hx hown (mvT hZ (hw _ w)) rfl (hb hby hd) k) H
theorem own_iadd {a b : Int32} (S : own_S p l e s m args below meth c Z a0 n0 y code mx ret R T h cells slots) (hp : pc + 1 = pc') (hd : decode code pc = .ok (.iadd, 1))
    (H : own_G p e s below R n0 Q T (mkF m pc' ls (.int (a + b) :: st))) : own_G p e s below R n0 Q T (mkF m pc ls (.int b :: .int a :: st)) := by
  obtain ⟨_, X, _, _, _, hx, _, _, hby, _⟩ := S; subst hp
  exact own_by (fun _ k => XS.iadd X.here hx rfl (hb hby hd) rfl k) H
theorem own_isub {a b : Int32} (S : own_S p l e s m args below meth c Z a0 n0 y code mx ret R T h cells slots) (hp : pc + 1 = pc') (hd : decode code pc = .ok (.isub, 1))
    (H : own_G p e s below R n0 Q T (mkF m pc' ls (.int (a - b) :: st))) : own_G p e s below R n0 Q T (mkF m pc ls (.int b :: .int a :: st)) := by
  obtain ⟨_, X, _, _, _, hx, _, _, hby, _⟩ := S; subst hp
  exact own_by (fun _ k => XS.isub X.here hx rfl (hb hby hd) rfl k) H
theorem own_imul {a b : Int32} (S : own_S p l e s m args below meth c Z a0 n0 y code mx ret R T h cells slots) (hp : pc + 1 = pc') (hd : decode code pc = .ok (.imul, 1))
    (H : own_G p e s below R n0 Q T (mkF m pc' ls (.int (a * b) :: st))) : own_G p e s below R n0 Q T (mkF m pc ls (.int b :: .int a :: st)) := by
  obtain ⟨_, X, _, _, _, hx, _, _, hby, _⟩ := S; subst hp
  exact own_by (fun _ k => XS.imul X.here hx rfl (hb hby hd) rfl k) H
theorem own_idiv {a b : Int32} (S : own_S p l e s m args below meth c Z a0 n0 y code mx ret R T h cells slots) (hp : pc + 1 = pc') (hd : decode code pc = .ok (.idiv, 1)) (hz : b ≠ 0)
    (H : own_G p e s below R n0 Q T (mkF m pc' ls (.int (a / b) :: st))) : own_G p e s below R n0 Q T (mkF m pc ls (.int b :: .int a :: st)) := by
  obtain ⟨_, X, _, _, _, hx, _, _, hby, _⟩ := S; subst hp
  exact own_by (fun _ k => XS.idiv X.here hx rfl (hb hby hd) rfl hz k) H
theorem own_irem {a b : Int32} (S : own_S p l e s m args below meth c Z a0 n0 y code mx ret R T h cells slots) (hp : pc + 1 = pc') (hd : decode code pc = .ok (.irem, 1)) (hz : b ≠ 0)
    (H : own_G p e s below R n0 Q T (mkF m pc' ls (.int (a % b) :: st))) : own_G p e s below R n0 Q T (mkF m pc ls (.int b :: .int a :: st)) := by
  obtain ⟨_, X, _, _, _, hx, _, _, hby, _⟩ := S; subst hp
  exact own_by (fun _ k => iremM X hx rfl (hb hby hd) rfl hz k) H
theorem own_iand {a b : Int32} (S : own_S p l e s m args below meth c Z a0 n0 y code mx ret R T h cells slots) (hp : pc + 1 = pc') (hd : decode code pc = .ok (.iand, 1))
    (H : own_G p e s below R n0 Q T (mkF m pc' ls (.int (a &&& b) :: st))) : own_G p e s below R n0 Q T (mkF m pc ls (.int b :: .int a :: st)) := by
  obtain ⟨_, X, _, _, _, hx, _, _, hby, _⟩ := S; subst hp
  exact own_by (fun _ k => XS.iand X.here hx rfl (hb hby hd) rfl k) H
theorem own_ior {a b : Int32} (S : own_S p l e s m args below meth c Z a0 n0 y code mx ret R T h cells slots) (hp : pc + 1 = pc') (hd : decode code pc = .ok (.ior, 1))
    (H : own_G p e s below R n0 Q T (mkF m pc' ls (.int (a ||| b) :: st))) : own_G p e s below R n0 Q T (mkF m pc ls (.int b :: .int a :: st)) := by
  obtain ⟨_, X, _, _, _, hx, _, _, hby, _⟩ := S; subst hp
  exact own_by (fun _ k => XT.ior X.here hx rfl (hb hby hd) rfl k) H
theorem own_ixor {a b : Int32} (S : own_S p l e s m args below meth c Z a0 n0 y code mx ret R T h cells slots) (hp : pc + 1 = pc') (hd : decode code pc = .ok (.ixor, 1))
    (H : own_G p e s below R n0 Q T (mkF m pc' ls (.int (a ^^^ b) :: st))) : own_G p e s below R n0 Q T (mkF m pc ls (.int b :: .int a :: st)) := by
  obtain ⟨_, X, _, _, _, hx, _, _, hby, _⟩ := S; subst hp
  exact own_by (fun _ k => XT.ixor X.here hx rfl (hb hby hd) rfl k) H
theorem own_ishr {a b : Int32} (S : own_S p l e s m args below meth c Z a0 n0 y code mx ret R T h cells slots) (hp : pc + 1 = pc') (hd : decode code pc = .ok (.ishr, 1))
    (H : own_G p e s below R n0 Q T (mkF m pc' ls (.int (a >>> (b &&& 31)) :: st))) : own_G p e s below R n0 Q T (mkF m pc ls (.int b :: .int a :: st)) := by
  obtain ⟨_, X, _, _, _, hx, _, _, hby, _⟩ := S; subst hp
  exact own_by (fun _ k => XT.ishr X.here hx rfl (hb hby hd) rfl k) H
theorem own_iushr {a b : Int32} (S : own_S p l e s m args below meth c Z a0 n0 y code mx ret R T h cells slots) (hp : pc + 1 = pc') (hd : decode code pc = .ok (.iushr, 1))
    (H : own_G p e s below R n0 Q T (mkF m pc' ls (.int (XT.ushr a b) :: st))) : own_G p e s below R n0 Q T (mkF m pc ls (.int b :: .int a :: st)) := by
  obtain ⟨_, X, _, _, _, hx, _, _, hby, _⟩ := S; subst hp
  exact own_by (fun _ k => XT.iushr X.here hx rfl (hb hby hd) rfl k) H
theorem own_lushr {a : Int64} {b : Int32} (S : own_S p l e s m args below meth c Z a0 n0 y code mx ret R T h cells slots) (hp : pc + 1 = pc') (hd : decode code pc = .ok (.lushr, 1))
    (H : own_G p e s below R n0 Q T (mkF m pc' ls (.long (XT.ushrL a b) :: st))) : own_G p e s below R n0 Q T (mkF m pc ls (.int b :: .long a :: st)) := by
  obtain ⟨_, X, _, _, _, hx, _, _, hby, _⟩ := S; subst hp
  exact own_by (fun _ k => XT.lushr X.here hx rfl (hb hby hd) rfl k) H
theorem own_l2i {a : Int64} (S : own_S p l e s m args below meth c Z a0 n0 y code mx ret R T h cells slots) (hp : pc + 1 = pc') (hd : decode code pc = .ok (.l2i, 1))
    (H : own_G p e s below R n0 Q T (mkF m pc' ls (.int a.toInt32 :: st))) : own_G p e s below R n0 Q T (mkF m pc ls (.long a :: st)) := by
  obtain ⟨_, X, _, _, _, hx, _, _, hby, _⟩ := S; subst hp
  exact own_by (fun _ k => XT.l2i X.here hx rfl (hb hby hd) rfl k) H
theorem own_i2b {a : Int32} (S : own_S p l e s m args below meth c Z a0 n0 y code mx ret R T h cells slots) (hp : pc + 1 = pc') (hd : decode code pc = .ok (.i2b, 1))
    (H : own_G p e s below R n0 Q T (mkF m pc' ls (.int a.toInt8.toInt32 :: st))) : own_G p e s below R n0 Q T (mkF m pc ls (.int a :: st)) := by
  obtain ⟨_, X, _, _, _, hx, _, _, hby, _⟩ := S; subst hp
  exact own_by (fun _ k => XT.i2b X.here hx rfl (hb hby hd) rfl k) H
theorem own_i2c {a : Int32} (S : own_S p l e s m args below meth c Z a0 n0 y code mx ret R T h cells slots) (hp : pc + 1 = pc') (hd : decode code pc = .ok (.i2c, 1))
    (H : own_G p e s below R n0 Q T (mkF m pc' ls (.int a.toUInt32.toUInt16.toUInt32.toInt32 :: st))) : own_G p e s below R n0 Q T (mkF m pc ls (.int a :: st)) := by
  obtain ⟨_, X, _, _, _, hx, _, _, hby, _⟩ := S; subst hp
  exact own_by (fun _ k => XT.i2c X.here hx rfl (hb hby hd) rfl k) H
theorem own_dup {a : Value} (S : own_S p l e s m args below meth c Z a0 n0 y code mx ret R T h cells slots) (hp : pc + 1 = pc') (hd : decode code pc = .ok (.dup, 1)) (hc : a.category = 1)
    (H : own_G p e s below R n0 Q T (mkF m pc' ls (a :: a :: st))) : own_G p e s below R n0 Q T (mkF m pc ls (a :: st)) := by
  obtain ⟨_, X, _, _, _, hx, _, _, hby, _⟩ := S; subst hp
  exact own_by (fun _ k => XS.dup X.here hx rfl (hb hby hd) rfl hc k) H
theorem own_dup2 {a b : Value} (S : own_S p l e s m args below meth c Z a0 n0 y code mx ret R T h cells slots) (hp : pc + 1 = pc') (hd : decode code pc = .ok (.dup2, 1)) (hc : a.category = 1) (hc' : b.category = 1)
    (H : own_G p e s below R n0 Q T (mkF m pc' ls (a :: b :: a :: b :: st))) : own_G p e s below R n0 Q T (mkF m pc ls (a :: b :: st)) := by
  obtain ⟨_, X, _, _, _, hx, _, _, hby, _⟩ := S; subst hp
  exact own_by (fun _ k => XT.dup2 X.here hx rfl (hb hby hd) rfl hc hc' k) H
theorem own_istore {k : Nat} {v : Int32} (S : own_S p l e s m args below meth c Z a0 n0 y code mx ret R T h cells slots) (hp : pc + 2 = pc') (hd : decode code pc = .ok (.istore k, 2)) (hl : storeLocals ls k (.int v) = some ls')
    (H : own_G p e s below R n0 Q T (mkF m pc' ls' st)) : own_G p e s below R n0 Q T (mkF m pc ls (.int v :: st)) := by
  obtain ⟨_, X, _, _, _, hx, _, _, hby, _⟩ := S; subst hp
  exact own_by (fun _ k => XS.istore X.here hx rfl (hb hby hd) rfl hl k) H
theorem own_istoreN {k : Fin 4} {v : Int32} (S : own_S p l e s m args below meth c Z a0 n0 y code mx ret R T h cells slots) (hp : pc + 1 = pc') (hd : decode code pc = .ok (.istore_n k, 1)) (hl : storeLocals ls k.val (.int v) = some ls')
    (H : own_G p e s below R n0 Q T (mkF m pc' ls' st)) : own_G p e s below R n0 Q T (mkF m pc ls (.int v :: st)) := by
  obtain ⟨_, X, _, _, _, hx, _, _, hby, _⟩ := S; subst hp
  exact own_by (fun _ k => XS.istoreN X.here hx rfl (hb hby hd) rfl hl k) H
theorem own_astore {k : Nat} {v : Value} (S : own_S p l e s m args below meth c Z a0 n0 y code mx ret R T h cells slots) (hp : pc + 2 = pc') (hd : decode code pc = .ok (.astore k, 2)) (hv : v.isRef = true) (hl : storeLocals ls k v = some ls')
    (H : own_G p e s below R n0 Q T (mkF m pc' ls' st)) : own_G p e s below R n0 Q T (mkF m pc ls (v :: st)) := by
  obtain ⟨_, X, _, _, _, hx, _, _, hby, _⟩ := S; subst hp
  exact own_by (fun _ k => XS.astore X.here hx rfl (hb hby hd) rfl hv hl k) H
theorem own_astoreN {k : Fin 4} {v : Value} (S : own_S p l e s m args below meth c Z a0 n0 y code mx ret R T h cells slots) (hp : pc + 1 = pc') (hd : decode code pc = .ok (.astore_n k, 1)) (hv : v.isRef = true) (hl : storeLocals ls k.val v = some ls')
    (H : own_G p e s below R n0 Q T (mkF m pc' ls' st)) : own_G p e s below R n0 Q T (mkF m pc ls (v :: st)) := by
  obtain ⟨_, X, _, _, _, hx, _, _, hby, _⟩ := S; subst hp
  exact own_by (fun _ k => XS.astoreN X.here hx rfl (hb hby hd) rfl hv hl k) H
theorem own_iinc {k : Nat} {cst : Int} {x : Int32} (v : Int32) (S : own_S p l e s m args below meth c Z a0 n0 y code mx ret R T h cells slots) (hp : pc + 3 = pc') (hd : decode code pc = .ok (.iinc k cst, 3)) (hv : Int32.ofInt cst = v) (hl : ls[k]? = some (.val (.int x))) (hl' : storeLocals ls k (.int (x + v)) = some ls')
    (H : own_G p e s below R n0 Q T (mkF m pc' ls' st)) : own_G p e s below R n0 Q T (mkF m pc ls st) := by
  obtain ⟨_, X, _, _, _, hx, _, _, hby, _⟩ := S; subst hp
  exact own_by (fun _ k => XT.iincV X.here hx rfl v (hb hby hd) hv hl hl' k) H
theorem own_goto {o : Int} (S : own_S p l e s m args below meth c Z a0 n0 y code mx ret R T h cells slots) (ho : 0 ≤ (pc : Int) + o) (hp : ((pc : Int) + o).toNat = pc') (hd : decode code pc = .ok (.goto o, 3))
    (H : own_G p e s below R n0 Q T (mkF m pc' ls st)) : own_G p e s below R n0 Q T (mkF m pc ls st) := by
  obtain ⟨_, X, _, _, _, hx, _, _, hby, _⟩ := S
  exact own_by (fun _ k => XS.goto X.here hx rfl rfl (hb hby hd) ho hp k) H
-- branches
theorem own_icY {cd : ClassFile.Cond} {a b : Int32} {o : Int} (S : own_S p l e s m args below meth c Z a0 n0 y code mx ret R T h cells slots) (ho : 0 ≤ (pc : Int) + o) (hp : ((pc : Int) + o).toNat = pc') (hd : decode code pc = .ok (.if_icmp cd o, 3)) (hc : if_icmp.holds cd a b = true)
    (H : own_G p e s below R n0 Q T (mkF m pc' ls st)) : own_G p e s below R n0 Q T (mkF m pc ls (.int b :: .int a :: st)) := by
  obtain ⟨_, X, _, _, _, hx, _, _, hby, _⟩ := S
  exact own_by (fun _ k => XS.icmpYes X.here hx rfl rfl (hb hby hd) rfl hc ho hp k) H
theorem own_icN {cd : ClassFile.Cond} {a b : Int32} {o : Int} (S : own_S p l e s m args below meth c Z a0 n0 y code mx ret R T h cells slots) (hp : pc + 3 = pc') (hd : decode code pc = .ok (.if_icmp cd o, 3)) (hc : if_icmp.holds cd a b = false)
    (H : own_G p e s below R n0 Q T (mkF m pc' ls st)) : own_G p e s below R n0 Q T (mkF m pc ls (.int b :: .int a :: st)) := by
  obtain ⟨_, X, _, _, _, hx, _, _, hby, _⟩ := S; subst hp
  exact own_by (fun _ k => XS.icmpNo X.here hx rfl (hb hby hd) rfl hc k) H
theorem own_ifY {cd : ClassFile.Cond} {a : Int32} {o : Int} (S : own_S p l e s m args below meth c Z a0 n0 y code mx ret R T h cells slots) (ho : 0 ≤ (pc : Int) + o) (hp : ((pc : Int) + o).toNat = pc') (hd : decode code pc = .ok (.ifCond cd o, 3)) (hc : ifCond.holds cd a = true)
    (H : own_G p e s below R n0 Q T (mkF m pc' ls st)) : own_G p e s below R n0 Q T (mkF m pc ls (.int a :: st)) := by
  obtain ⟨_, X, _, _, _, hx, _, _, hby, _⟩ := S
  exact own_by (fun _ k => XS.ifYes X.here hx rfl rfl (hb hby hd) rfl hc ho hp k) H
theorem own_ifN {cd : ClassFile.Cond} {a : Int32} {o : Int} (S : own_S p l e s m args below meth c Z a0 n0 y code mx ret R T h cells slots) (hp : pc + 3 = pc') (hd : decode code pc = .ok (.ifCond cd o, 3)) (hc : ifCond.holds cd a = false)
    (H : own_G p e s below R n0 Q T (mkF m pc' ls st)) : own_G p e s below R n0 Q T (mkF m pc ls (.int a :: st)) := by
  obtain ⟨_, X, _, _, _, hx, _, _, hby, _⟩ := S; subst hp
  exact own_by (fun _ k => XS.ifNo X.here hx rfl (hb hby hd) rfl hc k) H
theorem own_nullN {b : Addr} {o : Int} (S : own_S p l e s m args below meth c Z a0 n0 y code mx ret R T h cells slots) (hp : pc + 3 = pc') (hd : decode code pc = .ok (.ifnull o, 3))
    (H : own_G p e s below R n0 Q T (mkF m pc' ls st)) : own_G p e s below R n0 Q T (mkF m pc ls (.ref b :: st)) := by
  obtain ⟨_, X, _, _, _, hx, _, _, hby, _⟩ := S; subst hp
  exact own_by (fun _ k => XS.ifnullNo X.here hx rfl (hb hby hd) rfl k) H
theorem own_nonnullY {b : Addr} {o : Int} (S : own_S p l e s m args below meth c Z a0 n0 y code mx ret R T h cells slots) (ho : 0 ≤ (pc : Int) + o) (hp : ((pc : Int) + o).toNat = pc') (hd : decode code pc = .ok (.ifnonnull o, 3))
    (H : own_G p e s below R n0 Q T (mkF m pc' ls st)) : own_G p e s below R n0 Q T (mkF m pc ls (.ref b :: st)) := by
  obtain ⟨_, X, _, _, _, hx, _, _, hby, _⟩ := S
  exact own_by (fun _ k => XT.ifnonnullYes X.here hx rfl rfl (hb hby hd) rfl ho hp k) H
theorem own_nonnullN {o : Int} (S : own_S p l e s m args below meth c Z a0 n0 y code mx ret R T h cells slots) (hp : pc + 3 = pc') (hd : decode code pc = .ok (.ifnonnull o, 3))
    (H : own_G p e s below R n0 Q T (mkF m pc' ls st)) : own_G p e s below R n0 Q T (mkF m pc ls (.null :: st)) := by
  obtain ⟨_, X, _, _, _, hx, _, _, hby, _⟩ := S; subst hp
  exact own_by (fun _ k => XT.ifnonnullNo X.here hx rfl (hb hby hd) rfl k) H
-- both roads at once
theorem own_ic {cd : ClassFile.Cond} {a b : Int32} {o : Int} {pt : Nat} (S : own_S p l e s m args below meth c Z a0 n0 y code mx ret R T h cells slots) (ho : 0 ≤ (pc : Int) + o) (hp : ((pc : Int) + o).toNat = pt) (hp' : pc + 3 = pc') (hd : decode code pc = .ok (.if_icmp cd o, 3))
    (H : if_icmp.holds cd a b = true → own_G p e s below R n0 Q T (mkF m pt ls st)) (H' : if_icmp.holds cd a b = false → own_G p e s below R n0 Q T (mkF m pc' ls st)) : own_G p e s below R n0 Q T (mkF m pc ls (.int b :: .int a :: st)) := by
  cases hc : if_icmp.holds cd a b with
  | true => exact own_icY S ho hp hd hc (H hc)
  | false => exact own_icN S hp' hd hc (H' hc)
theorem own_if {cd : ClassFile.Cond} {a : Int32} {o : Int} {pt : Nat} (S : own_S p l e s m args below meth c Z a0 n0 y code mx ret R T h cells slots) (ho : 0 ≤ (pc : Int) + o) (hp : ((pc : Int) + o).toNat = pt) (hp' : pc + 3 = pc') (hd : decode code pc = .ok (.ifCond cd o, 3))
    (H : ifCond.holds cd a = true → own_G p e s below R n0 Q T (mkF m pt ls st)) (H' : ifCond.holds cd a = false → own_G p e s below R n0 Q T (mkF m pc' ls st)) : own_G p e s below R n0 Q T (mkF m pc ls (.int a :: st)) := by
  cases hc : ifCond.holds cd a with
  | true => exact own_ifY S ho hp hd hc (H hc)
  | false => exact own_ifN S hp' hd hc (H' hc)
-- what a comparison's outcome says of the numbers
theorem own_lt_t {a b : Int32} (h : if_icmp.holds .lt a b = true) : a.toInt < b.toInt := Int32.lt_iff_toInt_lt.mp (by simpa [if_icmp.holds] using h)
theorem own_lt_f {a b : Int32} (h : if_icmp.holds .lt a b = false) : b.toInt ≤ a.toInt := by
  have q : ¬ a < b := by simpa [if_icmp.holds] using h
  rw [Int32.lt_iff_toInt_lt] at q; omega
theorem own_cmp (a b : Int32) : (if_icmp.holds .ge a b = !if_icmp.holds .lt a b) ∧ (if_icmp.holds .gt a b = if_icmp.holds .lt b a) ∧ (if_icmp.holds .le a b = !if_icmp.holds .lt b a) ∧ (if_icmp.holds .ne a b = !if_icmp.holds .eq a b) := by
  refine ⟨?_, ?_, ?_, ?_⟩
  · by_cases q : a < b
    · rw [(tlt q).1, (tlt q).2.1]; rfl
    · rw [(flt q).1, (flt q).2.1]; rfl
  · by_cases q : b < a
    · rw [(tlt q).1, (tlt q).2.2.1]
    · rw [(flt q).1, (flt q).2.2.1]
  · by_cases q : b < a
    · rw [(tlt q).1, (tlt q).2.2.2]; rfl
    · rw [(flt q).1, (flt q).2.2.2]; rfl
  · by_cases q : a = b
    · rw [(teq q).1, (teq q).2]; rfl
    · rw [(feq q).1, (feq q).2]; rfl
theorem own_ge_t {a b : Int32} (h : if_icmp.holds .ge a b = true) : b.toInt ≤ a.toInt := own_lt_f (by rw [(own_cmp a b).1] at h; simpa using h)
theorem own_ge_f {a b : Int32} (h : if_icmp.holds .ge a b = false) : a.toInt < b.toInt := own_lt_t (by rw [(own_cmp a b).1] at h; simpa using h)
theorem own_gt_t {a b : Int32} (h : if_icmp.holds .gt a b = true) : b.toInt < a.toInt := own_lt_t (by rw [(own_cmp a b).2.1] at h; exact h)
theorem own_gt_f {a b : Int32} (h : if_icmp.holds .gt a b = false) : a.toInt ≤ b.toInt := own_lt_f (by rw [(own_cmp a b).2.1] at h; exact h)
theorem own_le_t {a b : Int32} (h : if_icmp.holds .le a b = true) : a.toInt ≤ b.toInt := own_lt_f (by rw [(own_cmp a b).2.2.1] at h; simpa using h)
theorem own_le_f {a b : Int32} (h : if_icmp.holds .le a b = false) : b.toInt < a.toInt := own_lt_t (by rw [(own_cmp a b).2.2.1] at h; simpa using h)
theorem own_eq_t {a b : Int32} (h : if_icmp.holds .eq a b = true) : a = b := by
  by_cases q : a = b
  · exact q
  · rw [(feq q).1] at h; cases h
theorem own_eq_f {a b : Int32} (h : if_icmp.holds .eq a b = false) : ¬ a = b := fun q => by rw [(teq q).1] at h; cases h
theorem own_ne_t {a b : Int32} (h : if_icmp.holds .ne a b = true) : ¬ a = b := fun q => by rw [(teq q).2] at h; cases h
theorem own_ne_f {a b : Int32} (h : if_icmp.holds .ne a b = false) : a = b := by
  by_cases q : a = b
  · exact q
  · rw [(feq q).2] at h; cases h
theorem own_ten {a b : Int32} (h : ¬ a = b) : ¬ a.toInt = b.toInt := fun q => h (Int32.toInt_inj.mp q)
-- and back
theorem own_t_lt {a b : Int32} (h : a.toInt < b.toInt) : if_icmp.holds .lt a b = true := (tlt (Int32.lt_iff_toInt_lt.mpr h)).1
theorem own_f_lt {a b : Int32} (h : b.toInt ≤ a.toInt) : if_icmp.holds .lt a b = false := (flt (fun q => by rw [Int32.lt_iff_toInt_lt] at q; omega)).1
theorem own_t_ge {a b : Int32} (h : b.toInt ≤ a.toInt) : if_icmp.holds .ge a b = true := by rw [(own_cmp a b).1, own_f_lt h]; rfl
theorem own_f_ge {a b : Int32} (h : a.toInt < b.toInt) : if_icmp.holds .ge a b = false := by rw [(own_cmp a b).1, own_t_lt h]; rfl
theorem own_t_gt {a b : Int32} (h : b.toInt < a.toInt) : if_icmp.holds .gt a b = true := by rw [(own_cmp a b).2.1, own_t_lt h]
theorem own_f_gt {a b : Int32} (h : a.toInt ≤ b.toInt) : if_icmp.holds .gt a b = false := by rw [(own_cmp a b).2.1, own_f_lt h]
theorem own_t_le {a b : Int32} (h : a.toInt ≤ b.toInt) : if_icmp.holds .le a b = true := by rw [(own_cmp a b).2.2.1, own_f_lt h]; rfl
theorem own_f_le {a b : Int32} (h : b.toInt < a.toInt) : if_icmp.holds .le a b = false := by rw [(own_cmp a b).2.2.1, own_t_lt h]; rfl
theorem own_t_eq {a b : Int32} (h : a = b) : if_icmp.holds .eq a b = true := (teq h).1
theorem own_f_eq {a b : Int32} (h : ¬ a = b) : if_icmp.holds .eq a b = false := (feq h).1
theorem own_t_ne {a b : Int32} (h : ¬ a = b) : if_icmp.holds .ne a b = true := (feq h).2
theorem own_f_ne {a b : Int32} (h : a = b) : if_icmp.holds .ne a b = false := (teq h).2
-- returns
theorem own_retI {z : Int32} (S : own_S p l e s m args below meth c Z a0 n0 y code mx (some .int) R T h cells slots) (hd : decode code pc = .ok (.ireturn, 1)) (hk : cells ≤ R.cells) (hn : slots ≤ R.slots) (HQ : Q (some (.int z)) h) : own_G p e s below R n0 Q T (mkF m pc ls (.int z :: st)) := by
  obtain ⟨locs, X, eT, N, _, hx, _, _, hby, _, _, _, hlk, hret⟩ := S
  obtain ⟨fs, hr, hrun, hended, hW, hsame⟩ := X.leave (v := some (.int z)) (fun q => by rw [hret] at q; cases q) hlk
  exact ⟨_, _, retOut X hx hret rfl (Or.inl ⟨rfl, Or.inl rfl, z, rfl⟩) (hb hby hd) hr, hrun, hended, _, locs, rfl, ⟨by show Q _ T.heap; rw [eT]; exact HQ, N⟩, ⟨_, rfl⟩, hW, hsame.mono hk hn⟩
theorem own_retZ {z : Int32} (hz : z = 0 ∨ z = 1) (S : own_S p l e s m args below meth c Z a0 n0 y code mx (some .boolean) R T h cells slots) (hd : decode code pc = .ok (.ireturn, 1)) (hk : cells ≤ R.cells) (hn : slots ≤ R.slots) (HQ : Q (some (.int z)) h) : own_G p e s below R n0 Q T (mkF m pc ls (.int z :: st)) := by
  obtain ⟨locs, X, eT, N, _, hx, _, _, hby, _, _, _, hlk, hret⟩ := S
  obtain ⟨fs, hr, hrun, hended, hW, hsame⟩ := X.leave (v := some (.int z)) (fun q => by rw [hret] at q; cases q) hlk
  have hnz : narrow .boolean (.int z) = .int z := by rcases hz with rfl | rfl <;> rfl
  exact ⟨_, _, retOut X hx hret hnz (Or.inl ⟨rfl, Or.inr (Or.inl rfl), z, rfl⟩) (hb hby hd) hr, hrun, hended, _, locs, rfl, ⟨by show Q _ T.heap; rw [eT]; exact HQ, N⟩, ⟨_, rfl⟩, hW, hsame.mono hk hn⟩
theorem own_retB {z : Int32} (hz : z.toInt8.toInt32 = z) (S : own_S p l e s m args below meth c Z a0 n0 y code mx (some .byte) R T h cells slots) (hd : decode code pc = .ok (.ireturn, 1)) (hk : cells ≤ R.cells) (hn : slots ≤ R.slots) (HQ : Q (some (.int z)) h) : own_G p e s below R n0 Q T (mkF m pc ls (.int z :: st)) := by
  obtain ⟨locs, X, eT, N, _, hx, _, _, hby, _, _, _, hlk, hret⟩ := S
  obtain ⟨fs, hr, hrun, hended, hW, hsame⟩ := X.leave (v := some (.int z)) (fun q => by rw [hret] at q; cases q) hlk
  have hnz : narrow .byte (.int z) = .int z := by show Value.int z.toInt8.toInt32 = _; rw [hz]
  exact ⟨_, _, retOut X hx hret hnz (Or.inl ⟨rfl, Or.inr (Or.inr (Or.inl rfl)), z, rfl⟩) (hb hby hd) hr, hrun, hended, _, locs, rfl, ⟨by show Q _ T.heap; rw [eT]; exact HQ, N⟩, ⟨_, rfl⟩, hW, hsame.mono hk hn⟩
theorem own_retA {w : Value} {t : FieldType} (hw : w.isRef = true) (ht : t.isReference = true) (S : own_S p l e s m args below meth c Z a0 n0 y code mx (some t) R T h cells slots) (hd : decode code pc = .ok (.areturn, 1)) (hk : cells ≤ R.cells) (hn : slots ≤ R.slots) (HQ : Q (some w) h) : own_G p e s below R n0 Q T (mkF m pc ls (w :: st)) := by
  obtain ⟨locs, X, eT, N, _, hx, _, _, hby, _, _, _, hlk, hret⟩ := S
  obtain ⟨fs, hr, hrun, hended, hW, hsame⟩ := X.leave (v := some w) (fun q => by rw [hret] at q; cases q) hlk
  have hnz : narrow t w = w := by rcases ref_cases hw with rfl | ⟨b, rfl⟩ <;> cases t <;> rfl
  exact ⟨_, _, retOut X hx hret hnz (Or.inr (Or.inr (Or.inr (Or.inr ⟨rfl, ht, hw⟩)))) (hb hby hd) hr, hrun, hended, _, locs, rfl, ⟨by show Q _ T.heap; rw [eT]; exact HQ, N⟩, ⟨_, rfl⟩, hW, hsame.mono hk hn⟩
theorem own_ret (S : own_S p l e s m args below meth c Z a0 n0 y code mx none R T h cells slots) (hd : decode code pc = .ok (.return_, 1)) (hk : cells ≤ R.cells) (hn : slots ≤ R.slots) (HQ : Q none h) : own_G p e s below R n0 Q T (mkF m pc ls []) := by
  obtain ⟨locs, X, eT, N, _, hx, _, _, hby, _, _, _, hlk, hret⟩ := S
  obtain ⟨fs, hr, hrun, hended, hW, hsame⟩ := X.leave (v := none) (fun _ => rfl) hlk
  exact ⟨_, _, X.returnOut hx hret (hb hby hd) hr, hrun, hended, _, locs, rfl, ⟨by show Q _ T.heap; rw [eT]; exact HQ, N⟩, ⟨_, rfl⟩, hW, hsame.mono hk hn⟩
-- arrays
/-- at a stands an array of n places of the kind ty; place j holds g j -/
def own_A (Z : State) (h : Heap) (a : Addr) (ty : FieldType) (n : Nat) (g : Nat → Value) : Prop := ∃ cl : Cell, Arr Z h a cl ty ∧ cl.slots.size = n ∧ ∀ j, j < n → cl.slots[j]? = some (g j)
def own_upd (g : Nat → Value) (k : Nat) (v : Value) : Nat → Value := fun j => if j = k then v else g j
theorem own_Alt {a : Addr} {ty : FieldType} {n : Nat} {g : Nat → Value} (A : own_A Z h a ty n g) : a < h.size := by obtain ⟨_, A, _⟩ := A; exact A.lt
theorem own_Aext {h' : Heap} {a : Addr} {ty : FieldType} {n : Nat} {g : Nat → Value} (A : own_A Z h a ty n g) (E : Ext h h') : own_A Z h' a ty n g := by obtain ⟨cl, A, r⟩ := A; exact ⟨cl, A.ext E, r⟩
theorem own_Awr {h' : Heap} {a b : Addr} {ty : FieldType} {n sl : Nat} {v : Value} {g : Nat → Value} (A : own_A Z h a ty n g) (W : Wr h h' b sl v) (ne : a ≠ b) : own_A Z h' a ty n g := by obtain ⟨cl, A, r⟩ := A; exact ⟨cl, A.other W ne, r⟩
theorem own_Akeep {h' : Heap} {a : Addr} {ty : FieldType} {n : Nat} {ws : List Addr} {g : Nat → Value} (A : own_A Z h a ty n g) (K : Keep h h' ws) (q : a ∉ ws) : own_A Z h' a ty n g := by obtain ⟨cl, A, r⟩ := A; exact ⟨cl, ⟨K.2.1 a cl A.1 q, A.2⟩, r⟩
theorem own_Aof {a : Addr} {ty : FieldType} {n : Nat} {g g' : Nat → Value} (A : own_A Z h a ty n g) (q : ∀ j, j < n → g j = g' j) : own_A Z h a ty n g' := by obtain ⟨cl, A, r, t⟩ := A; exact ⟨cl, A, r, fun j hj => by rw [← q j hj]; exact t j hj⟩
theorem own_ix {x : Int32} {k : Nat} (hi : x.toInt = k) : x.toNatClampNeg = k ∧ ¬ x < 0 := by
  refine ⟨by rw [Int32.toNatClampNeg, hi]; rfl, ?_⟩
  rw [Int32.lt_iff_toInt_lt, hi, show (0 : Int32).toInt = 0 from rfl]; omega
theorem own_in {x : Int32} {k n : Nat} {cl : Cell} (hi : x.toInt = k) (hk : k < n) (hs : cl.slots.size = n) : ¬ (x < 0 ∨ cl.slots.size ≤ x.toNatClampNeg) := by
  obtain ⟨q1, q2⟩ := own_ix hi
  rw [hs, q1]
  exact fun q => q.elim q2 (fun q => by omega)
theorem own_iaload {a : Addr} {x w : Int32} {k n : Nat} {g : Nat → Value} (S : own_S p l e s m args below meth c Z a0 n0 y code mx ret R T h cells slots) (A : own_A Z h a .int n g) (hi : x.toInt = k) (hk : k < n) (hv : g k = .int w) (hp : pc + 1 = pc') (hd : decode code pc = .ok (.iaload, 1))
    (H : own_G p e s below R n0 Q T (mkF m pc' ls (.int w :: st))) : own_G p e s below R n0 Q T (mkF m pc ls (.int x :: .ref a :: st)) := by
  obtain ⟨_, X, eT, _, _, hx, hZ, _, hby, _⟩ := S; subst hp
  obtain ⟨cl, Ar, hs, ht⟩ := A
  exact own_by (fun t k => X.iaload hx (g := mkF m pc ls (.int x :: .ref a :: st)) (by rw [eT]; exact Ar.1) (State.isArrayOf_alike hZ.alike Ar.2.1) Ar.2.2 (own_in hi hk hs) (by rw [(own_ix hi).1, ht _ hk, hv]) rfl rfl (hb hby hd) t k) H
theorem own_baloadB {a : Addr} {x w : Int32} {k n : Nat} {g : Nat → Value} (S : own_S p l e s m args below meth c Z a0 n0 y code mx ret R T h cells slots) (A : own_A Z h a .byte n g) (hi : x.toInt = k) (hk : k < n) (hv : g k = .int w) (hp : pc + 1 = pc') (hd : decode code pc = .ok (.baload, 1))
    (H : own_G p e s below R n0 Q T (mkF m pc' ls (.int w :: st))) : own_G p e s below R n0 Q T (mkF m pc ls (.int x :: .ref a :: st)) := by
  obtain ⟨_, X, eT, _, _, hx, hZ, _, hby, _⟩ := S; subst hp
  obtain ⟨cl, Ar, hs, ht⟩ := A
  exact own_by (fun t k => X.baloadBytes hx (g := mkF m pc ls (.int x :: .ref a :: st)) (by rw [eT]; exact Ar.1) (State.isArrayOf_alike hZ.alike Ar.2.1) Ar.2.2 (own_in hi hk hs) (by rw [(own_ix hi).1, ht _ hk, hv]) rfl rfl (hb hby hd) t k) H
theorem own_baloadZ {a : Addr} {x w : Int32} {k n : Nat} {g : Nat → Value} (S : own_S p l e s m args below meth c Z a0 n0 y code mx ret R T h cells slots) (A : own_A Z h a .boolean n g) (hi : x.toInt = k) (hk : k < n) (hv : g k = .int w) (hp : pc + 1 = pc') (hd : decode code pc = .ok (.baload, 1))
    (H : own_G p e s below R n0 Q T (mkF m pc' ls (.int w :: st))) : own_G p e s below R n0 Q T (mkF m pc ls (.int x :: .ref a :: st)) := by
  obtain ⟨_, X, eT, _, _, hx, hZ, _, hby, _⟩ := S; subst hp
  obtain ⟨cl, Ar, hs, ht⟩ := A
  exact own_by (fun t k => X.baloadBooleans hx (g := mkF m pc ls (.int x :: .ref a :: st)) (by rw [eT]; exact Ar.1) (State.isArrayOf_alike hZ.alike Ar.2.1) Ar.2.2 (own_in hi hk hs) (by rw [(own_ix hi).1, ht _ hk, hv]) rfl rfl (hb hby hd) t k) H
theorem own_caload {a : Addr} {x w : Int32} {k n : Nat} {g : Nat → Value} (S : own_S p l e s m args below meth c Z a0 n0 y code mx ret R T h cells slots) (A : own_A Z h a .char n g) (hi : x.toInt = k) (hk : k < n) (hv : g k = .int w) (hp : pc + 1 = pc') (hd : decode code pc = .ok (.caload, 1))
    (H : own_G p e s below R n0 Q T (mkF m pc' ls (.int w :: st))) : own_G p e s below R n0 Q T (mkF m pc ls (.int x :: .ref a :: st)) := by
  obtain ⟨_, X, eT, _, _, hx, hZ, _, hby, _⟩ := S; subst hp
  obtain ⟨cl, Ar, hs, ht⟩ := A
  exact own_by (fun t k => X.caload hx (g := mkF m pc ls (.int x :: .ref a :: st)) (by rw [eT]; exact Ar.1) (State.isArrayOf_alike hZ.alike Ar.2.1) Ar.2.2 (own_in hi hk hs) (by rw [(own_ix hi).1, ht _ hk, hv]) rfl rfl (hb hby hd) t k) H
theorem own_alen {a : Addr} {ty : FieldType} {w : Int32} {n : Nat} {g : Nat → Value} (S : own_S p l e s m args below meth c Z a0 n0 y code mx ret R T h cells slots) (A : own_A Z h a ty n g) (hv : w.toInt = n) (hp : pc + 1 = pc') (hd : decode code pc = .ok (.arraylength, 1))
    (H : own_G p e s below R n0 Q T (mkF m pc' ls (.int w :: st))) : own_G p e s below R n0 Q T (mkF m pc ls (.ref a :: st)) := by
  obtain ⟨_, X, eT, _, _, hx, hZ, _, hby, _⟩ := S; subst hp
  obtain ⟨cl, Ar, hs, ht⟩ := A
  have hq : cl.slots.size.toInt32 = w := by
    have := w.toInt_lt
    apply Int32.toInt_inj.mp
    rw [hs, len_toInt (by omega), hv]
  exact own_by (fun t k => X.arraylength hx (g := mkF m pc ls (.ref a :: st)) (by rw [eT]; exact Ar.1) (State.isArrayOf_alike hZ.alike Ar.2.1) rfl rfl (hb hby hd) t (by rw [hq]; exact k)) H
theorem own_Aset {h' : Heap} {a : Addr} {ty : FieldType} {n k : Nat} {v : Value} {g : Nat → Value} (A : own_A Z h a ty n g) (W : Wr h h' a k v) : own_A Z h' a ty n (own_upd g k v) := by
  obtain ⟨cl, Ar, hs, ht⟩ := A
  refine ⟨_, Ar.same W, by rw [sz_set]; exact hs, fun j hj => ?_⟩
  unfold own_upd
  by_cases q : j = k
  · subst q
    rw [if_pos rfl]
    have : j < cl.slots.size := by rw [hs]; exact hj
    simp [Cell.setSlot, this]
  · rw [if_neg q]
    simp only [Cell.setSlot]
    rw [Array.getElem?_setIfInBounds_ne (Ne.symm q)]
    exact ht j hj
theorem own_iastore {a : Addr} {x w : Int32} {k n : Nat} {g : Nat → Value} (S : own_S p l e s m args below meth c Z a0 n0 y code mx ret R T h cells slots) (A : own_A Z h a .int n g) (hi : x.toInt = k) (hk : k < n) (ha : n0 ≤ a) (hp : pc + 1 = pc') (hd : decode code pc = .ok (.iastore, 1))
    (H : ∀ T' h', own_S p l e s m args below meth c Z a0 n0 y code mx ret R T' h' cells slots → Wr h h' a k (.int w) → own_A Z h' a .int n (own_upd g k (.int w)) → own_G p e s below R n0 Q T' (mkF m pc' ls st)) : own_G p e s below R n0 Q T (mkF m pc ls (.int w :: .int x :: .ref a :: st)) := by
  obtain ⟨locs, X, eT, N, hn, hx, hZ, hw, hby, r⟩ := S; subst hp
  have A' := A
  obtain ⟨cl, Ar, hs, ht⟩ := A
  obtain ⟨T', h', X', e', W, stp⟩ := stI X hx hZ eT Ar (j := x) (own_in hi hk hs) (g := mkF m pc ls (.int w :: .int x :: .ref a :: st)) rfl rfl (hb hby hd)
  have N' := Fr.snoc X' N ha
  rw [(own_ix hi).1] at W
  exact own_by stp (H T' h' ⟨_, X', e', N', hn, hx, hZ, hw, hby, r⟩ W (own_Aset A' W))
theorem own_bastoreB {a : Addr} {x w : Int32} {k n : Nat} {g : Nat → Value} (S : own_S p l e s m args below meth c Z a0 n0 y code mx ret R T h cells slots) (A : own_A Z h a .byte n g) (hi : x.toInt = k) (hk : k < n) (ha : n0 ≤ a) (hp : pc + 1 = pc') (hd : decode code pc = .ok (.bastore, 1))
    (H : ∀ T' h', own_S p l e s m args below meth c Z a0 n0 y code mx ret R T' h' cells slots → Wr h h' a k (.int (nar .byte w)) → own_A Z h' a .byte n (own_upd g k (.int (nar .byte w))) → own_G p e s below R n0 Q T' (mkF m pc' ls st)) : own_G p e s below R n0 Q T (mkF m pc ls (.int w :: .int x :: .ref a :: st)) := by
  obtain ⟨locs, X, eT, N, hn, hx, hZ, hw, hby, r⟩ := S; subst hp
  have A' := A
  obtain ⟨cl, Ar, hs, ht⟩ := A
  obtain ⟨T', h', X', e', W, stp⟩ := stB X hx hZ eT Ar (j := x) (own_in hi hk hs) (g := mkF m pc ls (.int w :: .int x :: .ref a :: st)) rfl rfl (hb hby hd)
  have N' := Fr.snoc X' N ha
  rw [(own_ix hi).1] at W
  exact own_by stp (H T' h' ⟨_, X', e', N', hn, hx, hZ, hw, hby, r⟩ W (own_Aset A' W))
theorem own_bastoreZ {a : Addr} {x w : Int32} {k n : Nat} {g : Nat → Value} (S : own_S p l e s m args below meth c Z a0 n0 y code mx ret R T h cells slots) (A : own_A Z h a .boolean n g) (hi : x.toInt = k) (hk : k < n) (ha : n0 ≤ a) (hp : pc + 1 = pc') (hd : decode code pc = .ok (.bastore, 1))
    (H : ∀ T' h', own_S p l e s m args below meth c Z a0 n0 y code mx ret R T' h' cells slots → Wr h h' a k (.int (nar .boolean w)) → own_A Z h' a .boolean n (own_upd g k (.int (nar .boolean w))) → own_G p e s below R n0 Q T' (mkF m pc' ls st)) : own_G p e s below R n0 Q T (mkF m pc ls (.int w :: .int x :: .ref a :: st)) := by
  obtain ⟨locs, X, eT, N, hn, hx, hZ, hw, hby, r⟩ := S; subst hp
  have A' := A
  obtain ⟨cl, Ar, hs, ht⟩ := A
  obtain ⟨T', h', X', e', W, stp⟩ := stZ X hx hZ eT Ar (j := x) (own_in hi hk hs) (g := mkF m pc ls (.int w :: .int x :: .ref a :: st)) rfl rfl (hb hby hd)
  have N' := Fr.snoc X' N ha
  rw [(own_ix hi).1] at W
  exact own_by stp (H T' h' ⟨_, X', e', N', hn, hx, hZ, hw, hby, r⟩ W (own_Aset A' W))
theorem own_castore {a : Addr} {x w : Int32} {k n : Nat} {g : Nat → Value} (S : own_S p l e s m args below meth c Z a0 n0 y code mx ret R T h cells slots) (A : own_A Z h a .char n g) (hi : x.toInt = k) (hk : k < n) (ha : n0 ≤ a) (hp : pc + 1 = pc') (hd : decode code pc = .ok (.castore, 1))
    (H : ∀ T' h', own_S p l e s m args below meth c Z a0 n0 y code mx ret R T' h' cells slots → Wr h h' a k (.int (nar .char w)) → own_A Z h' a .char n (own_upd g k (.int (nar .char w))) → own_G p e s below R n0 Q T' (mkF m pc' ls st)) : own_G p e s below R n0 Q T (mkF m pc ls (.int w :: .int x :: .ref a :: st)) := by
  obtain ⟨locs, X, eT, N, hn, hx, hZ, hw, hby, r⟩ := S; subst hp
  have A' := A
  obtain ⟨cl, Ar, hs, ht⟩ := A
  obtain ⟨T', h', X', e', W, stp⟩ := stC X hx hZ eT Ar (j := x) (own_in hi hk hs) (g := mkF m pc ls (.int w :: .int x :: .ref a :: st)) rfl rfl (hb hby hd)
  have N' := Fr.snoc X' N ha
  rw [(own_ix hi).1] at W
  exact own_by stp (H T' h' ⟨_, X', e', N', hn, hx, hZ, hw, hby, r⟩ W (own_Aset A' W))
theorem own_newarray {aty : ArrayType} {x : Int32} {n : Nat} (cap : Nat) (S : own_S p l e s m args below meth c Z a0 n0 y code mx ret R T h cells slots) (w : Jvm.Cond.arrayClass (newarray.typeOf aty) ∈ tables_1) (hi : x.toInt = n) (hcap : n ≤ cap) (hb8 : cap * 8 ≤ 536870912) (hc : cells + 1 ≤ R.cells) (hl : slots + cap ≤ R.slots) (hp : pc + 2 = pc') (hd : decode code pc = .ok (.newarray aty, 2))
    (H : ∀ T' h' a, a = h.size → n0 ≤ a → own_S p l e s m args below meth c Z a0 n0 y code mx ret R T' h' (cells + 1) (slots + cap) → Ext h h' → own_A Z h' a (newarray.typeOf aty) n (fun _ => defaultValue (newarray.typeOf aty)) → own_G p e s below R n0 Q T' (mkF m pc' ls (.ref a :: st))) : own_G p e s below R n0 Q T (mkF m pc ls (.int x :: st)) := by
  obtain ⟨locs, X, eT, N, hn, hx, hZ, hw, hby, r⟩ := S; subst hp
  obtain ⟨q1, q2⟩ := own_ix hi
  obtain ⟨T', h', k, X', e', E, Ar, stp⟩ := newP X hx hZ (hw _ w) eT (g := mkF m pc ls (.int x :: st)) rfl (hb hby hd) rfl q2 (cap := cap) (by rw [q1]; exact hcap) hb8 hc hl
  refine own_by stp (H T' h' h.size rfl (by rw [← eT]; exact Nat.le_trans hn X.same.2.1) ⟨_, X', e', N, hn, hx, hZ, hw, hby, r⟩ E ⟨_, Ar, by rw [sz_new, q1], fun j hj => ?_⟩)
  simp [newA, q1, hj]
-- objects
theorem own_new {idx n : Nat} {C : String} (S : own_S p l e s m args below meth c Z a0 n0 y code mx ret R T h cells slots) (w1 : Jvm.Cond.classLink y.cls idx C ∈ tables_1) (w2 : Jvm.Cond.instantiable C n ∈ tables_1) (w3 : Jvm.Cond.initialized C ∈ tables_1) (hc : cells + 1 ≤ R.cells) (hl : slots + n ≤ R.slots) (hp : pc + 3 = pc') (hd : decode code pc = .ok (.new idx, 3))
    (H : ∀ T' h' a, a = h.size → n0 ≤ a → own_S p l e s m args below meth c Z a0 n0 y code mx ret R T' h' (cells + 1) (slots + n) → Ext h h' → Exa Z h' a C → (∀ {O nm d : String} {ty : FieldType}, (Jvm.Cond.lays C O nm d ∈ tables_1 ∨ Jvm.Cond.laysFinal C O nm d ∈ tables_1) → parseFieldDescriptor d = some ty → Fld Z h' a O nm d (defaultValue ty)) → own_G p e s below R n0 Q T' (mkF m pc' ls (.ref a :: st))) : own_G p e s below R n0 Q T (mkF m pc ls st) := by
  obtain ⟨locs, X, eT, N, hn, hx, hZ, hw, hby, hmx, hown, r⟩ := S; subst hp
  obtain ⟨T', h', X', e', E, A, D, -, stp⟩ := newO X hx hZ hown (hw _ w1) (hw _ w2) (hw _ w3) eT (g := mkF m pc ls st) rfl (hb hby hd) hc hl
  exact own_by stp (H T' h' h.size rfl (by rw [← eT]; exact Nat.le_trans hn X.same.2.1) ⟨_, X', e', N, hn, hx, hZ, hw, hby, hmx, hown, r⟩ E A (fun q ht => D (q.imp (hw _) (hw _)) ht))
theorem own_getfield {idx : Nat} {O n d : String} {a : Addr} {v : Value} (S : own_S p l e s m args below meth c Z a0 n0 y code mx ret R T h cells slots) (w : Jvm.Cond.fieldLink y.cls idx O n d ∈ tables_1) (F : Fld Z h a O n d v) (hp : pc + 3 = pc') (hd : decode code pc = .ok (.getfield idx, 3))
    (H : ∀ T', own_S p l e s m args below meth c Z a0 n0 y code mx ret R T' h cells slots → own_G p e s below R n0 Q T' (mkF m pc' ls (v :: st))) : own_G p e s below R n0 Q T (mkF m pc ls (.ref a :: st)) := by
  obtain ⟨locs, X, eT, N, hn, hx, hZ, hw, hby, hmx, hown, r⟩ := S; subst hp
  obtain ⟨T', X', e', stp⟩ := getF X hx hZ hown (host := "") (Or.inl (hw _ w)) Via.refl eT F (g := mkF m pc ls (.ref a :: st)) rfl rfl (hb hby hd)
  exact own_by stp (H T' ⟨_, X', e', N, hn, hx, hZ, hw, hby, hmx, hown, r⟩)
theorem own_putfield {idx kk : Nat} {O n d C : String} {a : Addr} {v old : Value} {ty : FieldType} (S : own_S p l e s m args below meth c Z a0 n0 y code mx ret R T h cells slots) (w : Jvm.Cond.fieldLink y.cls idx O n d ∈ tables_1) (F : Fld Z h a O n d old) (E : Exa Z h a C) (L : Jvm.Cond.lays C O n d ∈ tables_1 ∨ (Jvm.Cond.laysFinal C O n d ∈ tables_1 ∧ y.cls = O ∧ y.name = "<init>")) (wi : Jvm.Cond.instantiable C kk ∈ tables_1)
    (hty : parseFieldDescriptor d = some ty) (hnr : narrow ty v = v) (hf : fits ty v = true) (ha : n0 ≤ a) (hp : pc + 3 = pc') (hd : decode code pc = .ok (.putfield idx, 3))
    (H : ∀ T' h', own_S p l e s m args below meth c Z a0 n0 y code mx ret R T' h' cells slots → Wr h h' a (RoadKit.slotOf Z O n d) v → Fld Z h' a O n d v → own_G p e s below R n0 Q T' (mkF m pc' ls st)) : own_G p e s below R n0 Q T (mkF m pc ls (v :: .ref a :: st)) := by
  obtain ⟨locs, X, eT, N, hn, hx, hZ, hw, hby, hmx, hown, hnm, r⟩ := S; subst hp
  obtain ⟨T', h', X', e', W, stp⟩ := putF X hx hZ hown (host := "") (Or.inl (hw _ w)) Via.refl eT F E (L.imp (hw _) (fun q => ⟨hw _ q.1, q.2.1, hnm.trans q.2.2⟩)) (hw _ wi) hty hnr hf (g := mkF m pc ls (v :: .ref a :: st)) rfl rfl (hb hby hd)
  exact own_by stp (H T' h' ⟨_, X', e', Fr.snoc X' N ha, hn, hx, hZ, hw, hby, hmx, hown, hnm, r⟩ W (F.same W))
theorem own_initO {idx : Nat} {a : Addr} (S : own_S p l e s m args below meth c Z a0 n0 y code mx ret R T h cells slots) (w1 : Jvm.Cond.methodLink y.cls idx Lib.objectInit ∈ tables_1) (w2 : Jvm.Cond.instanceMethod Lib.objectInit ∈ tables_1) (w3 : Jvm.Cond.code Lib.objectInit ⟨#[0xb1]⟩ 1 none ∈ tables_1) (hsz : ls.size = mx) (hf : 1 ≤ R.frames) {W : Nat} (hW : (st.map fun v => v.category).sum ≤ W) (hl : W + 12 ≤ R.locals) (hp : pc + 3 = pc') (hd : decode code pc = .ok (.invokespecial idx, 3))
    (H : ∀ T', own_S p l e s m args below meth c Z a0 n0 y code mx ret R T' h cells slots → own_G p e s below R n0 Q T' (mkF m pc' ls st)) : own_G p e s below R n0 Q T (mkF m pc ls (.ref a :: st)) := by
  obtain ⟨locs, X, eT, N, hn, hx, hZ, hw, hby, hmx, hown, r⟩ := S; subst hp
  obtain ⟨T', X', e', stp⟩ := initO X hx hZ hown (hw _ w1) (hw _ w2) (hw _ w3) eT (g := mkF m pc ls (.ref a :: st)) rfl (by rw [hmx]; exact hsz) rfl (hb hby hd) hf (W := W) (by show 2 * 0 + _ ≤ _; omega) hl
  exact own_by stp (H T' ⟨_, X', e', N, hn, hx, hZ, hw, hby, hmx, hown, r⟩)
-- contracts
/-- yy, called at the heap h0 with the arguments as', returns as Q says -/
def own_Met (l : Launch) (Z : State) (h0 : Heap) (n0 : Nat) (yy : MethodName) (bytes : ByteArray) (mx : Nat) (ret : Option FieldType) (ws : List Jvm.Cond) (rm : Room) (as' : Array Value) (Q : Option Value → Heap → Prop) : Prop :=
  MetFree l yy (head1 (Jvm.Cond.code yy bytes mx ret :: ws) rm) (fun a U => a = as' ∧ Z.Warmed39 U.vm ∧ U.heap = h0) (fun _ _ _ _ _ => True) (fun _ U o U' => ∃ v L, o = .returned v ∧ (Q v U'.heap ∧ Fr n0 L) ∧ FrameEnd U o U' L rm.cells rm.slots)
theorem own_met {yy : MethodName} {bytes : ByteArray} {ws : List Jvm.Cond} {rm : Room} {as' : Array Value} {h0 : Heap} (hpn : plainName yy.cls = true) (hef : ∀ m, entryFrame m as' mx = mkF m 0 ls []) (hn : n0 ≤ h0.size) (hw : ∀ d ∈ tables_1, d.before a0 Z = true)
    (H : ∀ p e s m below meth c T, own_S p l e s m as' below meth c Z a0 n0 yy bytes mx ret rm T h0 0 0 → own_G p e s below rm n0 Q T (mkF m 0 ls [])) : own_Met l Z h0 n0 yy bytes mx ret ws rm as' Q := by
  refine MetFree.of_bodySF (plainFor_of_name hpn) hisR ?_
  intro p e s m args below meth c s₁ Bd hml0 hP hK
  obtain ⟨rfl, hZ, hh⟩ := hP
  have e0 : s₁.heap = h0 := by rw [← hh, Bd.state]; rfl
  rw [hef m]
  exact H p e s m below meth c s₁ ⟨[], Stand.of_body Bd, e0, Fr.nil n0, by rw [hh]; exact hn, Bd.exec, hZ, hw, Bd.bytes, hml0, findClass_of_methodNamed Bd.named, (name_of_methodNamed Bd.named Bd.method).1, Bd.notSynchronized, Bd.returns⟩
/-- what a method that hands back a value, or none, says -/
def own_V (q : Value → Heap → Prop) : Option Value → Heap → Prop := fun v h => ∃ w, v = some w ∧ q w h
def own_N (q : Heap → Prop) : Option Value → Heap → Prop := fun v h => v = none ∧ q h
theorem own_callS {idx : Nat} {yy : MethodName} {bytes : ByteArray} {maxL : Nat} {rt : Option FieldType} {rm : Room} {Q' : Option Value → Heap → Prop} {ps : List FieldType} {r' : Option FieldType} (argsL rest : List Value) (S : own_S p l e s m args below meth c Z a0 n0 y code mx ret R T h cells slots)
    (w1 : Jvm.Cond.methodLink y.cls idx yy ∈ tables_1) (w2 : Jvm.Cond.static yy ∈ tables_1) (w3 : Jvm.Cond.initialized yy.cls ∈ tables_1) (w4 : Jvm.Cond.code yy bytes maxL rt ∈ tables_1) (hy : yy.cls ≠ "java/lang/invoke/MethodHandle" ∧ yy.cls ≠ "java/lang/invoke/VarHandle")
    (M : own_Met l Z h n0 yy bytes maxL rt [] rm argsL.toArray Q') (hds : parseMethodDescriptor yy.desc = some ⟨ps, r'⟩) (hal : argsL.length = ps.length) (hst : st = argsL.reverse ++ rest) (hsz : ls.size = mx) {W : Nat} (hW : (rest.map fun v => v.category).sum ≤ W)
    (hfr : rm.frames + 1 ≤ R.frames) (hlo : W + (maxL + 11) + rm.locals ≤ R.locals) (hc : cells + rm.cells ≤ R.cells) (hs : slots + rm.slots ≤ R.slots) (hp : pc + 3 = pc') (hd : decode code pc = .ok (.invokestatic idx, 3))
    (H : ∀ T' h' v, own_S p l e s m args below meth c Z a0 n0 y code mx ret R T' h' (cells + rm.cells) (slots + rm.slots) → Q' v h' → own_G p e s below R n0 Q T' (mkF m pc' ls (v.toList ++ rest))) : own_G p e s below R n0 Q T (mkF m pc ls st) := by
  obtain ⟨locs, X, eT, N, hn, hx, hZ, hw, hby, hmx, hown, r⟩ := S; subst hp hst
  obtain ⟨v, _, ⟨T', L', k', n'⟩, -, X', ⟨Lc, hQ, l', y', z'⟩, stp⟩ := Jvm.LawKit.callS X hx (y := yy) hown (mvT hZ (hw _ w1)) (mvT hZ (hw _ w2)) (mvT hZ (hw _ w3)) (mvT hZ (hw _ w4)) hy (backOf (Q := fun v h L => Q' v h ∧ Fr n0 L) (W := W) M hZ (hw _ w4) (hw _ w3) hfr hlo) (g := mkF m pc ls (argsL.reverse ++ rest)) rfl (by rw [hmx]; exact hsz) (argsL := argsL) (rest := rest) (lenOf hds hal) rfl (by show 2 * 0 + _ ≤ _; omega) (hb hby hd) (fun _ _ => ⟨rfl, eT, hc, hs⟩)
  dsimp only [Pt.U, Pt.locs, Pt.cells, Pt.slots] at X' l' y' z' stp hQ
  subst l' y' z'
  exact own_by stp (H T' T'.heap v ⟨_, X', rfl, Fr.app N hQ.2, hn, hx, hZ, hw, hby, hmx, hown, r⟩ hQ.1)
theorem own_callI {idx : Nat} {yy : MethodName} {bytes : ByteArray} {maxL : Nat} {rm : Room} {Q' : Option Value → Heap → Prop} {ps : List FieldType} {r' : Option FieldType} (argsL rest : List Value) (S : own_S p l e s m args below meth c Z a0 n0 y code mx ret R T h cells slots) {b : Addr}
    (w1 : Jvm.Cond.methodLink y.cls idx yy ∈ tables_1) (w2 : Jvm.Cond.instanceMethod yy ∈ tables_1) (w3 : Jvm.Cond.initialized yy.cls ∈ tables_1) (w4 : Jvm.Cond.code yy bytes maxL none ∈ tables_1) (hnm : yy.name = "<init>") (hy : yy.cls ≠ "java/lang/invoke/MethodHandle" ∧ yy.cls ≠ "java/lang/invoke/VarHandle")
    (M : own_Met l Z h n0 yy bytes maxL none [] rm (.ref b :: argsL).toArray Q') (hds : parseMethodDescriptor yy.desc = some ⟨ps, r'⟩) (hal : argsL.length = ps.length) (hst : st = argsL.reverse ++ .ref b :: rest) (hsz : ls.size = mx) {W : Nat} (hW : (rest.map fun v => v.category).sum ≤ W)
    (hfr : rm.frames + 1 ≤ R.frames) (hlo : W + (maxL + 11) + rm.locals ≤ R.locals) (hc : cells + rm.cells ≤ R.cells) (hs : slots + rm.slots ≤ R.slots) (hp : pc + 3 = pc') (hd : decode code pc = .ok (.invokespecial idx, 3))
    (H : ∀ T' h' v, own_S p l e s m args below meth c Z a0 n0 y code mx ret R T' h' (cells + rm.cells) (slots + rm.slots) → Q' v h' → own_G p e s below R n0 Q T' (mkF m pc' ls (v.toList ++ rest))) : own_G p e s below R n0 Q T (mkF m pc ls st) := by
  obtain ⟨locs, X, eT, N, hn, hx, hZ, hw, hby, hmx, hown, r⟩ := S; subst hp hst
  obtain ⟨v, _, ⟨T', L', k', n'⟩, -, X', ⟨Lc, hQ, l', y', z'⟩, stp⟩ := X.specialBack hx (y := yy) hnm hown (mvT hZ (hw _ w1)) (mvT hZ (hw _ w2)) (mvT hZ (hw _ w4)) hy (backOf (Q := fun v h L => Q' v h ∧ Fr n0 L) (W := W) M hZ (hw _ w4) (hw _ w3) hfr hlo) (g := mkF m pc ls (argsL.reverse ++ .ref b :: rest)) rfl (by rw [hmx]; exact hsz) (Steps.refl _) (a := b) (argsL := argsL) (rest := rest) (lenOf hds hal) rfl (by show 2 * 0 + _ ≤ _; omega) (hb hby hd) (fun _ _ => ⟨rfl, eT, hc, hs⟩)
  dsimp only [Pt.U, Pt.locs, Pt.cells, Pt.slots] at X' l' y' z' stp hQ
  subst l' y' z'
  exact own_by (fun _ k => stp.trans k) (H T' T'.heap v ⟨_, X', rfl, Fr.app N hQ.2, hn, hx, hZ, hw, hby, hmx, hown, r⟩ hQ.1)
theorem own_callV {idx : Nat} {yy : MethodName} {bytes : ByteArray} {maxL : Nat} {rt : Option FieldType} {rm : Room} {Q' : Option Value → Heap → Prop} {ps : List FieldType} {r' : Option FieldType} (argsL rest : List Value) (S : own_S p l e s m args below meth c Z a0 n0 y code mx ret R T h cells slots) {b : Addr} {C : String}
    (w1 : Jvm.Cond.methodLink y.cls idx yy ∈ tables_1) (w2 : Jvm.Cond.declares yy ∈ tables_1) (w5 : Jvm.Cond.selects C yy yy ∈ tables_1) (w6 : Jvm.Cond.instanceMethod yy ∈ tables_1) (w3 : Jvm.Cond.initialized yy.cls ∈ tables_1) (w4 : Jvm.Cond.code yy bytes maxL rt ∈ tables_1) (hy : yy.cls ≠ "java/lang/invoke/MethodHandle" ∧ yy.cls ≠ "java/lang/invoke/VarHandle")
    (E : Exa Z h b C) (M : own_Met l Z h n0 yy bytes maxL rt [] rm (.ref b :: argsL).toArray Q') (hds : parseMethodDescriptor yy.desc = some ⟨ps, r'⟩) (hal : argsL.length = ps.length) (hst : st = argsL.reverse ++ .ref b :: rest) (hsz : ls.size = mx) {W : Nat} (hW : (rest.map fun v => v.category).sum ≤ W)
    (hfr : rm.frames + 1 ≤ R.frames) (hlo : W + (maxL + 11) + rm.locals ≤ R.locals) (hc : cells + rm.cells ≤ R.cells) (hs : slots + rm.slots ≤ R.slots) (hp : pc + 3 = pc') (hd : decode code pc = .ok (.invokevirtual idx, 3))
    (H : ∀ T' h' v, own_S p l e s m args below meth c Z a0 n0 y code mx ret R T' h' (cells + rm.cells) (slots + rm.slots) → Q' v h' → own_G p e s below R n0 Q T' (mkF m pc' ls (v.toList ++ rest))) : own_G p e s below R n0 Q T (mkF m pc ls st) := by
  obtain ⟨locs, X, eT, N, hn, hx, hZ, hw, hby, hmx, hown, r⟩ := S; subst hp hst
  obtain ⟨cq, kq, qa, qb, qc⟩ := isOf hZ eT E
  obtain ⟨v, _, ⟨T', L', k', n'⟩, -, X', ⟨Lc, hQ, l', y', z'⟩, stp⟩ := X.virtualBack hx (y := yy) (z := yy) hown (mvT hZ (hw _ w1)) (mvT hZ (hw _ w2)) (notFace_of_selects (args := #[]) (mvT hZ (hw _ w5))) (mvT hZ (hw _ w5)) (mvT hZ (hw _ w6)) hy (backOf (Q := fun v h L => Q' v h ∧ Fr n0 L) (W := W) M hZ (hw _ w4) (hw _ w3) hfr hlo) qa qc (g := mkF m pc ls (argsL.reverse ++ .ref b :: rest)) rfl (by rw [hmx]; exact hsz) (Steps.refl _) (argsL := argsL) (rest := rest) (lenOf hds hal) rfl (by show 2 * 0 + _ ≤ _; omega) (hb hby hd) (fun _ _ => ⟨rfl, eT, hc, hs⟩)
  dsimp only [Pt.U, Pt.locs, Pt.cells, Pt.slots] at X' l' y' z' stp hQ
  subst l' y' z'
  exact own_by (fun _ k => stp.trans k) (H T' T'.heap v ⟨_, X', rfl, Fr.app N hQ.2, hn, hx, hZ, hw, hby, hmx, hown, r⟩ hQ.1)
theorem own_callP {idx : Nat} {yy : MethodName} {bytes : ByteArray} {maxL : Nat} {rt : Option FieldType} {rm : Room} {Q' : Option Value → Heap → Prop} {ps : List FieldType} {r' : Option FieldType} (argsL rest : List Value) (S : own_S p l e s m args below meth c Z a0 n0 y code mx ret R T h cells slots) {b : Addr} {C : String} {kk : Nat}
    (w1 : Jvm.Cond.methodLink y.cls idx yy ∈ tables_1) (w6 : Jvm.Cond.instanceMethod yy ∈ tables_1) (w7 : Jvm.Cond.privateMethod yy ∈ tables_1) (w8 : Jvm.Cond.instantiable yy.cls kk ∈ tables_1) (w3 : Jvm.Cond.initialized yy.cls ∈ tables_1) (w4 : Jvm.Cond.code yy bytes maxL rt ∈ tables_1) (hy : yy.cls ≠ "java/lang/invoke/MethodHandle" ∧ yy.cls ≠ "java/lang/invoke/VarHandle")
    (E : Exa Z h b C) (M : own_Met l Z h n0 yy bytes maxL rt [] rm (.ref b :: argsL).toArray Q') (hds : parseMethodDescriptor yy.desc = some ⟨ps, r'⟩) (hal : argsL.length = ps.length) (hst : st = argsL.reverse ++ .ref b :: rest) (hsz : ls.size = mx) {W : Nat} (hW : (rest.map fun v => v.category).sum ≤ W)
    (hfr : rm.frames + 1 ≤ R.frames) (hlo : W + (maxL + 11) + rm.locals ≤ R.locals) (hc : cells + rm.cells ≤ R.cells) (hs : slots + rm.slots ≤ R.slots) (hp : pc + 3 = pc') (hd : decode code pc = .ok (.invokevirtual idx, 3))
    (H : ∀ T' h' v, own_S p l e s m args below meth c Z a0 n0 y code mx ret R T' h' (cells + rm.cells) (slots + rm.slots) → Q' v h' → own_G p e s below R n0 Q T' (mkF m pc' ls (v.toList ++ rest))) : own_G p e s below R n0 Q T (mkF m pc ls st) := by
  obtain ⟨locs, X, eT, N, hn, hx, hZ, hw, hby, hmx, hown, r⟩ := S; subst hp hst
  obtain ⟨cell, kx, c1, c2, c3, c4, -⟩ := E
  have hpriv : s.PrivateAt yy := Cond.privateMethod_at (mvP hZ (hw _ w7) (args := #[]))
  have hinst : (Jvm.Cond.instanceMethod yy).before args s = true := mvT hZ (hw _ w6)
  have hini : (Jvm.Cond.instantiable yy.cls kk).before args s = true := mvT hZ (hw _ w8)
  have hsel : (Jvm.Cond.selects yy.cls yy yy).before args s = true := by
    obtain ⟨cc, k, i1, i2, i3, i4, -⟩ := Cond.instantiable_spec hini
    exact Stand.selects_self_of_private i1 i2 (by simp only [Bool.or_eq_false_iff] at i4; exact i4.1) hpriv hinst hy
  obtain ⟨v, _, ⟨T', L', k', n'⟩, -, X', ⟨Lc, hQ, l', y', z'⟩, stp⟩ := X.privateBack hx (y := yy) hown (mvT hZ (hw _ w1)) hinst hsel hpriv (mvT hZ (hw _ w4)) hy (backOf (Q := fun v h L => Q' v h ∧ Fr n0 L) (W := W) M hZ (hw _ w4) (hw _ w3) hfr hlo) (g := mkF m pc ls (argsL.reverse ++ .ref b :: rest)) rfl (by rw [hmx]; exact hsz) (Steps.refl _) (a := b) (cell := cell) (by rw [eT]; exact c1) (fun q e => by rw [e] at c4; cases c4) (argsL := argsL) (rest := rest) (lenOf hds hal) rfl (by show 2 * 0 + _ ≤ _; omega) (hb hby hd) (fun _ _ => ⟨rfl, eT, hc, hs⟩)
  dsimp only [Pt.U, Pt.locs, Pt.cells, Pt.slots] at X' l' y' z' stp hQ
  subst l' y' z'
  exact own_by (fun _ k => stp.trans k) (H T' T'.heap v ⟨_, X', rfl, Fr.app N hQ.2, hn, hx, hZ, hw, hby, hmx, hown, r⟩ hQ.1)
theorem own_dupx1 {a b : Value} (S : own_S p l e s m args below meth c Z a0 n0 y code mx ret R T h cells slots) (hp : pc + 1 = pc') (hd : decode code pc = .ok (.dup_x1, 1)) (hc : a.category = 1) (hc' : b.category = 1)
    (H : own_G p e s below R n0 Q T (mkF m pc' ls (a :: b :: a :: st))) : own_G p e s below R n0 Q T (mkF m pc ls (a :: b :: st)) := by
  obtain ⟨_, X, _, _, _, hx, _, _, hby, _⟩ := S; subst hp
  exact own_by (fun _ k => XT.dupX1 X.here hx rfl (hb hby hd) rfl hc hc' k) H
theorem own_anewarray {idx : Nat} {C : String} {x : Int32} {n : Nat} (cap : Nat) (S : own_S p l e s m args below meth c Z a0 n0 y code mx ret R T h cells slots) (w1 : Jvm.Cond.classLink y.cls idx C ∈ tables_1) (w2 : Jvm.Cond.arrayOver (.object C) ∈ tables_1) (hi : x.toInt = n) (hcap : n ≤ cap) (hb8 : cap * 8 ≤ 536870912) (hc : cells + 1 ≤ R.cells) (hl : slots + cap ≤ R.slots) (hp : pc + 3 = pc') (hd : decode code pc = .ok (.anewarray idx, 3))
    (H : ∀ T' h' a, a = h.size → n0 ≤ a → own_S p l e s m args below meth c Z a0 n0 y code mx ret R T' h' (cells + 1) (slots + cap) → Ext h h' → own_G p e s below R n0 Q T' (mkF m pc' ls (.ref a :: st))) : own_G p e s below R n0 Q T (mkF m pc ls (.int x :: st)) := by
  obtain ⟨locs, X, eT, N, hn, hx, hZ, hw, hby, hmx, hown, r⟩ := S; subst hp
  obtain ⟨q1, q2⟩ := own_ix hi
  obtain ⟨T', h', k, X', e', E, Ar, -, stp⟩ := newR X hx hZ hown (hw _ w1) (hw _ w2) eT (g := mkF m pc ls (.int x :: st)) rfl (hb hby hd) rfl q2 (cap := cap) (by rw [q1]; exact hcap) hb8 hc hl
  exact own_by stp (H T' h' h.size rfl (by rw [← eT]; exact Nat.le_trans hn X.same.2.1) ⟨_, X', e', N, hn, hx, hZ, hw, hby, hmx, hown, r⟩ E)
/-- a cell is there, of a known kind -/
def own_U (h : Heap) (a : Addr) : Prop := ∃ cell : Cell, h[a]? = some cell ∧ cell.vm ≠ .unknown
theorem own_Uext {h h' : Heap} {a : Addr} (U : own_U h a) (E : Ext h h') : own_U h' a := by obtain ⟨cl, h1, h2⟩ := U; exact ⟨cl, E.2 _ _ h1, h2⟩
theorem own_Ukeep {h h' : Heap} {a : Addr} {ws : List Addr} (U : own_U h a) (K : Keep h h' ws) : own_U h' a := by obtain ⟨cl, h1, h2⟩ := U; obtain ⟨c', q1, _, q2, _⟩ := K.2.2 _ _ h1; exact ⟨c', q1, by rw [q2]; exact h2⟩
theorem own_Uwr {h h' : Heap} {a b : Addr} {sl : Nat} {v : Value} (U : own_U h a) (W : Wr h h' b sl v) : own_U h' a := own_Ukeep U (Keep.of_wr W)
theorem own_Uof {Z : State} {h : Heap} {a : Addr} {C n d : String} {v : Value} (F : Fld Z h a C n d v) : own_U h a := by obtain ⟨cl, _, _, _, _, h1, _, _, h4, _⟩ := F; exact ⟨cl, h1, h4⟩
end Own
theorem d1_0 : decode jdk_92_method_1_code 0 = .ok (.iload_n 0, 1) := by decide +kernel
theorem d1_1 : decode jdk_92_method_1_code 1 = .ok (.bipush 6, 2) := by decide +kernel
theorem d1_3 : decode jdk_92_method_1_code 3 = .ok (.ishr, 1) := by decide +kernel
theorem d1_4 : decode jdk_92_method_1_code 4 = .ok (.ireturn, 1) := by decide +kernel
def own_y1 : MethodName := ⟨"java/util/BitSet", "wordIndex", "(I)I"⟩
theorem own_pn1 : plainName "java/util/BitSet" = true := by first | (simp [plainName, overriddenIn]; done) | decide +kernel
theorem d2_0 : decode jdk_92_method_6_code 0 = .ok (.aload_n 0, 1) := by decide +kernel
theorem d2_1 : decode jdk_92_method_6_code 1 = .ok (.iload_n 1, 1) := by decide +kernel
theorem d2_2 : decode jdk_92_method_6_code 2 = .ok (.iconst 1, 1) := by decide +kernel
theorem d2_3 : decode jdk_92_method_6_code 3 = .ok (.isub, 1) := by decide +kernel
theorem d2_4 : decode jdk_92_method_6_code 4 = .ok (.invokestatic 52, 3) := by decide +kernel
theorem d2_7 : decode jdk_92_method_6_code 7 = .ok (.iconst 1, 1) := by decide +kernel
theorem d2_8 : decode jdk_92_method_6_code 8 = .ok (.iadd, 1) := by decide +kernel
theorem d2_9 : decode jdk_92_method_6_code 9 = .ok (.newarray .long, 2) := by decide +kernel
theorem d2_11 : decode jdk_92_method_6_code 11 = .ok (.putfield 11, 3) := by decide +kernel
theorem d2_14 : decode jdk_92_method_6_code 14 = .ok (.return_, 1) := by decide +kernel
def own_y2 : MethodName := ⟨"java/util/BitSet", "initWords", "(I)V"⟩
theorem own_pn2 : plainName "java/util/BitSet" = true := by first | (simp [plainName, overriddenIn]; done) | decide +kernel
theorem d3_0 : decode jdk_92_method_4_code 0 = .ok (.aload_n 0, 1) := by decide +kernel
theorem d3_1 : decode jdk_92_method_4_code 1 = .ok (.invokespecial 21, 3) := by decide +kernel
theorem d3_4 : decode jdk_92_method_4_code 4 = .ok (.aload_n 0, 1) := by decide +kernel
theorem d3_5 : decode jdk_92_method_4_code 5 = .ok (.iconst 0, 1) := by decide +kernel
theorem d3_6 : decode jdk_92_method_4_code 6 = .ok (.putfield 7, 3) := by decide +kernel
theorem d3_9 : decode jdk_92_method_4_code 9 = .ok (.aload_n 0, 1) := by decide +kernel
theorem d3_10 : decode jdk_92_method_4_code 10 = .ok (.iconst 0, 1) := by decide +kernel
theorem d3_11 : decode jdk_92_method_4_code 11 = .ok (.putfield 24, 3) := by decide +kernel
theorem d3_14 : decode jdk_92_method_4_code 14 = .ok (.aload_n 0, 1) := by decide +kernel
theorem d3_15 : decode jdk_92_method_4_code 15 = .ok (.bipush 64, 2) := by decide +kernel
theorem d3_17 : decode jdk_92_method_4_code 17 = .ok (.invokevirtual 27, 3) := by decide +kernel
theorem d3_20 : decode jdk_92_method_4_code 20 = .ok (.aload_n 0, 1) := by decide +kernel
theorem d3_21 : decode jdk_92_method_4_code 21 = .ok (.iconst 0, 1) := by decide +kernel
theorem d3_22 : decode jdk_92_method_4_code 22 = .ok (.putfield 24, 3) := by decide +kernel
theorem d3_25 : decode jdk_92_method_4_code 25 = .ok (.return_, 1) := by decide +kernel
def own_y3 : MethodName := ⟨"java/util/BitSet", "<init>", "()V"⟩
theorem own_pn3 : plainName "java/util/BitSet" = true := by first | (simp [plainName, overriddenIn]; done) | decide +kernel
theorem d4_0 : decode prog_14_method_1_code 0 = .ok (.aload_n 0, 1) := by decide +kernel
theorem d4_1 : decode prog_14_method_1_code 1 = .ok (.invokespecial 1, 3) := by decide +kernel
theorem d4_4 : decode prog_14_method_1_code 4 = .ok (.aload_n 0, 1) := by decide +kernel
theorem d4_5 : decode prog_14_method_1_code 5 = .ok (.bipush 16, 2) := by decide +kernel
theorem d4_7 : decode prog_14_method_1_code 7 = .ok (.newarray .int, 2) := by decide +kernel
theorem d4_9 : decode prog_14_method_1_code 9 = .ok (.putfield 7, 3) := by decide +kernel
theorem d4_12 : decode prog_14_method_1_code 12 = .ok (.return_, 1) := by decide +kernel
def own_y4 : MethodName := ⟨"com/example/ringloom/ringloom/IntList", "<init>", "()V"⟩
theorem own_pn4 : plainName "com/example/ringloom/ringloom/IntList" = true := by first | (simp [plainName, overriddenIn]; done) | decide +kernel
theorem d5_0 : decode jdk_22_method_1_code 0 = .ok (.aload_n 0, 1) := by decide +kernel
theorem d5_1 : decode jdk_22_method_1_code 1 = .ok (.invokespecial 1, 3) := by decide +kernel
theorem d5_4 : decode jdk_22_method_1_code 4 = .ok (.return_, 1) := by decide +kernel
def own_y5 : MethodName := ⟨"java/util/AbstractCollection", "<init>", "()V"⟩
theorem own_pn5 : plainName "java/util/AbstractCollection" = true := by first | (simp [plainName, overriddenIn]; done) | decide +kernel
theorem d6_0 : decode jdk_21_method_3_code 0 = .ok (.aload_n 0, 1) := by decide +kernel
theorem d6_1 : decode jdk_21_method_3_code 1 = .ok (.invokespecial 42, 3) := by decide +kernel
theorem d6_4 : decode jdk_21_method_3_code 4 = .ok (.aload_n 0, 1) := by decide +kernel
theorem d6_5 : decode jdk_21_method_3_code 5 = .ok (.bipush 17, 2) := by decide +kernel
theorem d6_7 : decode jdk_21_method_3_code 7 = .ok (.anewarray 47, 3) := by decide +kernel
theorem d6_10 : decode jdk_21_method_3_code 10 = .ok (.putfield 3, 3) := by decide +kernel
theorem d6_13 : decode jdk_21_method_3_code 13 = .ok (.return_, 1) := by decide +kernel
def own_y6 : MethodName := ⟨"java/util/ArrayDeque", "<init>", "()V"⟩
theorem own_pn6 : plainName "java/util/ArrayDeque" = true := by first | (simp [plainName, overriddenIn]; done) | decide +kernel
theorem d7_0 : decode prog_7_method_1_code 0 = .ok (.aload_n 0, 1) := by decide +kernel
theorem d7_1 : decode prog_7_method_1_code 1 = .ok (.invokespecial 1, 3) := by decide +kernel
theorem d7_4 : decode prog_7_method_1_code 4 = .ok (.aload_n 0, 1) := by decide +kernel
theorem d7_5 : decode prog_7_method_1_code 5 = .ok (.sipush 512, 3) := by decide +kernel
theorem d7_8 : decode prog_7_method_1_code 8 = .ok (.newarray .int, 2) := by decide +kernel
theorem d7_10 : decode prog_7_method_1_code 10 = .ok (.putfield 9, 3) := by decide +kernel
theorem d7_13 : decode prog_7_method_1_code 13 = .ok (.aload_n 0, 1) := by decide +kernel
theorem d7_14 : decode prog_7_method_1_code 14 = .ok (.bipush 64, 2) := by decide +kernel
theorem d7_16 : decode prog_7_method_1_code 16 = .ok (.newarray .byte, 2) := by decide +kernel
theorem d7_18 : decode prog_7_method_1_code 18 = .ok (.putfield 13, 3) := by decide +kernel
theorem d7_21 : decode prog_7_method_1_code 21 = .ok (.aload_n 0, 1) := by decide +kernel
theorem d7_22 : decode prog_7_method_1_code 22 = .ok (.new 17, 3) := by decide +kernel
theorem d7_25 : decode prog_7_method_1_code 25 = .ok (.dup, 1) := by decide +kernel
theorem d7_26 : decode prog_7_method_1_code 26 = .ok (.invokespecial 19, 3) := by decide +kernel
theorem d7_29 : decode prog_7_method_1_code 29 = .ok (.putfield 20, 3) := by decide +kernel
theorem d7_32 : decode prog_7_method_1_code 32 = .ok (.aload_n 0, 1) := by decide +kernel
theorem d7_33 : decode prog_7_method_1_code 33 = .ok (.new 24, 3) := by decide +kernel
theorem d7_36 : decode prog_7_method_1_code 36 = .ok (.dup, 1) := by decide +kernel
theorem d7_37 : decode prog_7_method_1_code 37 = .ok (.invokespecial 26, 3) := by decide +kernel
theorem d7_40 : decode prog_7_method_1_code 40 = .ok (.putfield 27, 3) := by decide +kernel
theorem d7_43 : decode prog_7_method_1_code 43 = .ok (.aload_n 0, 1) := by decide +kernel
theorem d7_44 : decode prog_7_method_1_code 44 = .ok (.new 24, 3) := by decide +kernel
theorem d7_47 : decode prog_7_method_1_code 47 = .ok (.dup, 1) := by decide +kernel
theorem d7_48 : decode prog_7_method_1_code 48 = .ok (.invokespecial 26, 3) := by decide +kernel
theorem d7_51 : decode prog_7_method_1_code 51 = .ok (.putfield 31, 3) := by decide +kernel
theorem d7_54 : decode prog_7_method_1_code 54 = .ok (.aload_n 0, 1) := by decide +kernel
theorem d7_55 : decode prog_7_method_1_code 55 = .ok (.bipush 64, 2) := by decide +kernel
theorem d7_57 : decode prog_7_method_1_code 57 = .ok (.newarray .int, 2) := by decide +kernel
theorem d7_59 : decode prog_7_method_1_code 59 = .ok (.putfield 34, 3) := by decide +kernel
theorem d7_62 : decode prog_7_method_1_code 62 = .ok (.aload_n 0, 1) := by decide +kernel
theorem d7_63 : decode prog_7_method_1_code 63 = .ok (.new 17, 3) := by decide +kernel
theorem d7_66 : decode prog_7_method_1_code 66 = .ok (.dup, 1) := by decide +kernel
theorem d7_67 : decode prog_7_method_1_code 67 = .ok (.invokespecial 19, 3) := by decide +kernel
theorem d7_70 : decode prog_7_method_1_code 70 = .ok (.putfield 37, 3) := by decide +kernel
theorem d7_73 : decode prog_7_method_1_code 73 = .ok (.aload_n 0, 1) := by decide +kernel
theorem d7_74 : decode prog_7_method_1_code 74 = .ok (.new 40, 3) := by decide +kernel
theorem d7_77 : decode prog_7_method_1_code 77 = .ok (.dup, 1) := by decide +kernel
theorem d7_78 : decode prog_7_method_1_code 78 = .ok (.invokespecial 42, 3) := by decide +kernel
theorem d7_81 : decode prog_7_method_1_code 81 = .ok (.putfield 43, 3) := by decide +kernel
theorem d7_84 : decode prog_7_method_1_code 84 = .ok (.aload_n 0, 1) := by decide +kernel
theorem d7_85 : decode prog_7_method_1_code 85 = .ok (.iload_n 1, 1) := by decide +kernel
theorem d7_86 : decode prog_7_method_1_code 86 = .ok (.putfield 47, 3) := by decide +kernel
theorem d7_89 : decode prog_7_method_1_code 89 = .ok (.aload_n 0, 1) := by decide +kernel
theorem d7_90 : decode prog_7_method_1_code 90 = .ok (.iload_n 2, 1) := by decide +kernel
theorem d7_91 : decode prog_7_method_1_code 91 = .ok (.putfield 51, 3) := by decide +kernel
theorem d7_94 : decode prog_7_method_1_code 94 = .ok (.return_, 1) := by decide +kernel
def own_y7 : MethodName := ⟨"com/example/ringloom/ringloom/DraftPlan", "<init>", "(II)V"⟩
theorem own_pn7 : plainName "com/example/ringloom/ringloom/DraftPlan" = true := by first | (simp [plainName, overriddenIn]; done) | decide +kernel
theorem d8_0 : decode jdk_92_method_23_code 0 = .ok (.iload_n 1, 1) := by decide +kernel
theorem d8_1 : decode jdk_92_method_23_code 1 = .ok (.ifCond .ge 30, 3) := by decide +kernel
theorem d8_31 : decode jdk_92_method_23_code 31 = .ok (.iload_n 1, 1) := by decide +kernel
theorem d8_32 : decode jdk_92_method_23_code 32 = .ok (.invokestatic 52, 3) := by decide +kernel
theorem d8_35 : decode jdk_92_method_23_code 35 = .ok (.istore_n 2, 1) := by decide +kernel
theorem d8_36 : decode jdk_92_method_23_code 36 = .ok (.iload_n 2, 1) := by decide +kernel
theorem d8_37 : decode jdk_92_method_23_code 37 = .ok (.aload_n 0, 1) := by decide +kernel
theorem d8_38 : decode jdk_92_method_23_code 38 = .ok (.getfield 7, 3) := by decide +kernel
theorem d8_41 : decode jdk_92_method_23_code 41 = .ok (.if_icmp .lt 4, 3) := by decide +kernel
theorem d8_44 : decode jdk_92_method_23_code 44 = .ok (.return_, 1) := by decide +kernel
def own_y8 : MethodName := ⟨"java/util/BitSet", "clear", "(I)V"⟩
theorem own_pn8 : plainName "java/util/BitSet" = true := by first | (simp [plainName, overriddenIn]; done) | decide +kernel
theorem d9_0 : decode prog_7_method_6_code 0 = .ok (.aload_n 0, 1) := by decide +kernel
theorem d9_1 : decode prog_7_method_6_code 1 = .ok (.getfield 13, 3) := by decide +kernel
theorem d9_4 : decode prog_7_method_6_code 4 = .ok (.iload_n 1, 1) := by decide +kernel
theorem d9_5 : decode prog_7_method_6_code 5 = .ok (.baload, 1) := by decide +kernel
theorem d9_6 : decode prog_7_method_6_code 6 = .ok (.istore 4, 2) := by decide +kernel
theorem d9_8 : decode prog_7_method_6_code 8 = .ok (.iload 4, 2) := by decide +kernel
theorem d9_10 : decode prog_7_method_6_code 10 = .ok (.iconst 4, 1) := by decide +kernel
theorem d9_11 : decode prog_7_method_6_code 11 = .ok (.if_icmp .ne 17, 3) := by decide +kernel
theorem d9_28 : decode prog_7_method_6_code 28 = .ok (.aload_n 0, 1) := by decide +kernel
theorem d9_29 : decode prog_7_method_6_code 29 = .ok (.getfield 9, 3) := by decide +kernel
theorem d9_32 : decode prog_7_method_6_code 32 = .ok (.bipush 8, 2) := by decide +kernel
theorem d9_34 : decode prog_7_method_6_code 34 = .ok (.iload_n 1, 1) := by decide +kernel
theorem d9_35 : decode prog_7_method_6_code 35 = .ok (.imul, 1) := by decide +kernel
theorem d9_36 : decode prog_7_method_6_code 36 = .ok (.iconst 2, 1) := by decide +kernel
theorem d9_37 : decode prog_7_method_6_code 37 = .ok (.iload 4, 2) := by decide +kernel
theorem d9_39 : decode prog_7_method_6_code 39 = .ok (.imul, 1) := by decide +kernel
theorem d9_40 : decode prog_7_method_6_code 40 = .ok (.iadd, 1) := by decide +kernel
theorem d9_41 : decode prog_7_method_6_code 41 = .ok (.iload_n 2, 1) := by decide +kernel
theorem d9_42 : decode prog_7_method_6_code 42 = .ok (.iastore, 1) := by decide +kernel
theorem d9_43 : decode prog_7_method_6_code 43 = .ok (.aload_n 0, 1) := by decide +kernel
theorem d9_44 : decode prog_7_method_6_code 44 = .ok (.getfield 9, 3) := by decide +kernel
theorem d9_47 : decode prog_7_method_6_code 47 = .ok (.bipush 8, 2) := by decide +kernel
theorem d9_49 : decode prog_7_method_6_code 49 = .ok (.iload_n 1, 1) := by decide +kernel
theorem d9_50 : decode prog_7_method_6_code 50 = .ok (.imul, 1) := by decide +kernel
theorem d9_51 : decode prog_7_method_6_code 51 = .ok (.iconst 2, 1) := by decide +kernel
theorem d9_52 : decode prog_7_method_6_code 52 = .ok (.iload 4, 2) := by decide +kernel
theorem d9_54 : decode prog_7_method_6_code 54 = .ok (.imul, 1) := by decide +kernel
theorem d9_55 : decode prog_7_method_6_code 55 = .ok (.iadd, 1) := by decide +kernel
theorem d9_56 : decode prog_7_method_6_code 56 = .ok (.iconst 1, 1) := by decide +kernel
theorem d9_57 : decode prog_7_method_6_code 57 = .ok (.iadd, 1) := by decide +kernel
theorem d9_58 : decode prog_7_method_6_code 58 = .ok (.iload_n 3, 1) := by decide +kernel
theorem d9_59 : decode prog_7_method_6_code 59 = .ok (.iastore, 1) := by decide +kernel
theorem d9_60 : decode prog_7_method_6_code 60 = .ok (.aload_n 0, 1) := by decide +kernel
theorem d9_61 : decode prog_7_method_6_code 61 = .ok (.getfield 13, 3) := by decide +kernel
theorem d9_64 : decode prog_7_method_6_code 64 = .ok (.iload_n 1, 1) := by decide +kernel
theorem d9_65 : decode prog_7_method_6_code 65 = .ok (.dup2, 1) := by decide +kernel
theorem d9_66 : decode prog_7_method_6_code 66 = .ok (.baload, 1) := by decide +kernel
theorem d9_67 : decode prog_7_method_6_code 67 = .ok (.iconst 1, 1) := by decide +kernel
theorem d9_68 : decode prog_7_method_6_code 68 = .ok (.iadd, 1) := by decide +kernel
theorem d9_69 : decode prog_7_method_6_code 69 = .ok (.i2b, 1) := by decide +kernel
theorem d9_70 : decode prog_7_method_6_code 70 = .ok (.bastore, 1) := by decide +kernel
theorem d9_71 : decode prog_7_method_6_code 71 = .ok (.aload_n 0, 1) := by decide +kernel
theorem d9_72 : decode prog_7_method_6_code 72 = .ok (.getfield 20, 3) := by decide +kernel
theorem d9_75 : decode prog_7_method_6_code 75 = .ok (.iload_n 1, 1) := by decide +kernel
theorem d9_76 : decode prog_7_method_6_code 76 = .ok (.invokevirtual 110, 3) := by decide +kernel
theorem d9_79 : decode prog_7_method_6_code 79 = .ok (.return_, 1) := by decide +kernel
def own_y9 : MethodName := ⟨"com/example/ringloom/ringloom/DraftPlan", "append", "(III)V"⟩
theorem own_pn9 : plainName "com/example/ringloom/ringloom/DraftPlan" = true := by first | (simp [plainName, overriddenIn]; done) | decide +kernel
theorem d10_0 : decode prog_7_method_2_code 0 = .ok (.aload_n 0, 1) := by decide +kernel
theorem d10_1 : decode prog_7_method_2_code 1 = .ok (.getfield 54, 3) := by decide +kernel
theorem d10_4 : decode prog_7_method_2_code 4 = .ok (.aload_n 0, 1) := by decide +kernel
theorem d10_5 : decode prog_7_method_2_code 5 = .ok (.getfield 13, 3) := by decide +kernel
theorem d10_8 : decode prog_7_method_2_code 8 = .ok (.arraylength, 1) := by decide +kernel
theorem d10_9 : decode prog_7_method_2_code 9 = .ok (.if_icmp .ne 55, 3) := by decide +kernel
theorem d10_64 : decode prog_7_method_2_code 64 = .ok (.aload_n 0, 1) := by decide +kernel
theorem d10_65 : decode prog_7_method_2_code 65 = .ok (.dup, 1) := by decide +kernel
theorem d10_66 : decode prog_7_method_2_code 66 = .ok (.getfield 54, 3) := by decide +kernel
theorem d10_69 : decode prog_7_method_2_code 69 = .ok (.dup_x1, 1) := by decide +kernel
theorem d10_70 : decode prog_7_method_2_code 70 = .ok (.iconst 1, 1) := by decide +kernel
theorem d10_71 : decode prog_7_method_2_code 71 = .ok (.iadd, 1) := by decide +kernel
theorem d10_72 : decode prog_7_method_2_code 72 = .ok (.putfield 54, 3) := by decide +kernel
theorem d10_75 : decode prog_7_method_2_code 75 = .ok (.istore_n 2, 1) := by decide +kernel
theorem d10_76 : decode prog_7_method_2_code 76 = .ok (.iconst 0, 1) := by decide +kernel
theorem d10_77 : decode prog_7_method_2_code 77 = .ok (.istore_n 3, 1) := by decide +kernel
theorem d10_78 : decode prog_7_method_2_code 78 = .ok (.iload_n 3, 1) := by decide +kernel
theorem d10_79 : decode prog_7_method_2_code 79 = .ok (.aload_n 1, 1) := by decide +kernel
theorem d10_80 : decode prog_7_method_2_code 80 = .ok (.arraylength, 1) := by decide +kernel
theorem d10_81 : decode prog_7_method_2_code 81 = .ok (.if_icmp .ge 22, 3) := by decide +kernel
theorem d10_84 : decode prog_7_method_2_code 84 = .ok (.aload_n 0, 1) := by decide +kernel
theorem d10_85 : decode prog_7_method_2_code 85 = .ok (.iload_n 2, 1) := by decide +kernel
theorem d10_86 : decode prog_7_method_2_code 86 = .ok (.aload_n 1, 1) := by decide +kernel
theorem d10_87 : decode prog_7_method_2_code 87 = .ok (.iload_n 3, 1) := by decide +kernel
theorem d10_88 : decode prog_7_method_2_code 88 = .ok (.iaload, 1) := by decide +kernel
theorem d10_89 : decode prog_7_method_2_code 89 = .ok (.aload_n 1, 1) := by decide +kernel
theorem d10_90 : decode prog_7_method_2_code 90 = .ok (.iload_n 3, 1) := by decide +kernel
theorem d10_91 : decode prog_7_method_2_code 91 = .ok (.iconst 1, 1) := by decide +kernel
theorem d10_92 : decode prog_7_method_2_code 92 = .ok (.iadd, 1) := by decide +kernel
theorem d10_93 : decode prog_7_method_2_code 93 = .ok (.iaload, 1) := by decide +kernel
theorem d10_94 : decode prog_7_method_2_code 94 = .ok (.invokevirtual 66, 3) := by decide +kernel
theorem d10_97 : decode prog_7_method_2_code 97 = .ok (.iinc 3 2, 3) := by decide +kernel
theorem d10_100 : decode prog_7_method_2_code 100 = .ok (.goto (-22), 3) := by decide +kernel
theorem d10_103 : decode prog_7_method_2_code 103 = .ok (.iload_n 2, 1) := by decide +kernel
theorem d10_104 : decode prog_7_method_2_code 104 = .ok (.ireturn, 1) := by decide +kernel
def own_y10 : MethodName := ⟨"com/example/ringloom/ringloom/DraftPlan", "add", "([I)I"⟩
theorem own_pn10 : plainName "com/example/ringloom/ringloom/DraftPlan" = true := by first | (simp [plainName, overriddenIn]; done) | decide +kernel
theorem d11_0 : decode prog_7_method_7_code 0 = .ok (.aload_n 0, 1) := by decide +kernel
theorem d11_1 : decode prog_7_method_7_code 1 = .ok (.getfield 13, 3) := by decide +kernel
theorem d11_4 : decode prog_7_method_7_code 4 = .ok (.iload_n 1, 1) := by decide +kernel
theorem d11_5 : decode prog_7_method_7_code 5 = .ok (.dup2, 1) := by decide +kernel
theorem d11_6 : decode prog_7_method_7_code 6 = .ok (.baload, 1) := by decide +kernel
theorem d11_7 : decode prog_7_method_7_code 7 = .ok (.iconst 1, 1) := by decide +kernel
theorem d11_8 : decode prog_7_method_7_code 8 = .ok (.isub, 1) := by decide +kernel
theorem d11_9 : decode prog_7_method_7_code 9 = .ok (.i2b, 1) := by decide +kernel
theorem d11_10 : decode prog_7_method_7_code 10 = .ok (.bastore, 1) := by decide +kernel
theorem d11_11 : decode prog_7_method_7_code 11 = .ok (.bipush 8, 2) := by decide +kernel
theorem d11_13 : decode prog_7_method_7_code 13 = .ok (.iload_n 1, 1) := by decide +kernel
theorem d11_14 : decode prog_7_method_7_code 14 = .ok (.imul, 1) := by decide +kernel
theorem d11_15 : decode prog_7_method_7_code 15 = .ok (.iconst 2, 1) := by decide +kernel
theorem d11_16 : decode prog_7_method_7_code 16 = .ok (.aload_n 0, 1) := by decide +kernel
theorem d11_17 : decode prog_7_method_7_code 17 = .ok (.getfield 13, 3) := by decide +kernel
theorem d11_20 : decode prog_7_method_7_code 20 = .ok (.iload_n 1, 1) := by decide +kernel
theorem d11_21 : decode prog_7_method_7_code 21 = .ok (.baload, 1) := by decide +kernel
theorem d11_22 : decode prog_7_method_7_code 22 = .ok (.imul, 1) := by decide +kernel
theorem d11_23 : decode prog_7_method_7_code 23 = .ok (.iadd, 1) := by decide +kernel
theorem d11_24 : decode prog_7_method_7_code 24 = .ok (.istore_n 2, 1) := by decide +kernel
theorem d11_25 : decode prog_7_method_7_code 25 = .ok (.iconst 2, 1) := by decide +kernel
theorem d11_26 : decode prog_7_method_7_code 26 = .ok (.newarray .int, 2) := by decide +kernel
theorem d11_28 : decode prog_7_method_7_code 28 = .ok (.dup, 1) := by decide +kernel
theorem d11_29 : decode prog_7_method_7_code 29 = .ok (.iconst 0, 1) := by decide +kernel
theorem d11_30 : decode prog_7_method_7_code 30 = .ok (.aload_n 0, 1) := by decide +kernel
theorem d11_31 : decode prog_7_method_7_code 31 = .ok (.getfield 9, 3) := by decide +kernel
theorem d11_34 : decode prog_7_method_7_code 34 = .ok (.iload_n 2, 1) := by decide +kernel
theorem d11_35 : decode prog_7_method_7_code 35 = .ok (.iaload, 1) := by decide +kernel
theorem d11_36 : decode prog_7_method_7_code 36 = .ok (.iastore, 1) := by decide +kernel
theorem d11_37 : decode prog_7_method_7_code 37 = .ok (.dup, 1) := by decide +kernel
theorem d11_38 : decode prog_7_method_7_code 38 = .ok (.iconst 1, 1) := by decide +kernel
theorem d11_39 : decode prog_7_method_7_code 39 = .ok (.aload_n 0, 1) := by decide +kernel
theorem d11_40 : decode prog_7_method_7_code 40 = .ok (.getfield 9, 3) := by decide +kernel
theorem d11_43 : decode prog_7_method_7_code 43 = .ok (.iload_n 2, 1) := by decide +kernel
theorem d11_44 : decode prog_7_method_7_code 44 = .ok (.iconst 1, 1) := by decide +kernel
theorem d11_45 : decode prog_7_method_7_code 45 = .ok (.iadd, 1) := by decide +kernel
theorem d11_46 : decode prog_7_method_7_code 46 = .ok (.iaload, 1) := by decide +kernel
theorem d11_47 : decode prog_7_method_7_code 47 = .ok (.iastore, 1) := by decide +kernel
theorem d11_48 : decode prog_7_method_7_code 48 = .ok (.areturn, 1) := by decide +kernel
def own_y11 : MethodName := ⟨"com/example/ringloom/ringloom/DraftPlan", "removeLast", "(I)[I"⟩
theorem own_pn11 : plainName "com/example/ringloom/ringloom/DraftPlan" = true := by first | (simp [plainName, overriddenIn]; done) | decide +kernel
theorem d12_0 : decode prog_7_method_9_code 0 = .ok (.aload_n 0, 1) := by decide +kernel
theorem d12_1 : decode prog_7_method_9_code 1 = .ok (.getfield 13, 3) := by decide +kernel
theorem d12_4 : decode prog_7_method_9_code 4 = .ok (.iload_n 1, 1) := by decide +kernel
theorem d12_5 : decode prog_7_method_9_code 5 = .ok (.baload, 1) := by decide +kernel
theorem d12_6 : decode prog_7_method_9_code 6 = .ok (.ireturn, 1) := by decide +kernel
def own_y12 : MethodName := ⟨"com/example/ringloom/ringloom/DraftPlan", "size", "(I)I"⟩
theorem own_pn12 : plainName "com/example/ringloom/ringloom/DraftPlan" = true := by first | (simp [plainName, overriddenIn]; done) | decide +kernel
theorem d13_0 : decode prog_7_method_10_code 0 = .ok (.aload_n 0, 1) := by decide +kernel
theorem d13_1 : decode prog_7_method_10_code 1 = .ok (.getfield 9, 3) := by decide +kernel
theorem d13_4 : decode prog_7_method_10_code 4 = .ok (.bipush 8, 2) := by decide +kernel
theorem d13_6 : decode prog_7_method_10_code 6 = .ok (.iload_n 1, 1) := by decide +kernel
theorem d13_7 : decode prog_7_method_10_code 7 = .ok (.imul, 1) := by decide +kernel
theorem d13_8 : decode prog_7_method_10_code 8 = .ok (.iconst 2, 1) := by decide +kernel
theorem d13_9 : decode prog_7_method_10_code 9 = .ok (.iload_n 2, 1) := by decide +kernel
theorem d13_10 : decode prog_7_method_10_code 10 = .ok (.imul, 1) := by decide +kernel
theorem d13_11 : decode prog_7_method_10_code 11 = .ok (.iadd, 1) := by decide +kernel
theorem d13_12 : decode prog_7_method_10_code 12 = .ok (.iaload, 1) := by decide +kernel
theorem d13_13 : decode prog_7_method_10_code 13 = .ok (.ireturn, 1) := by decide +kernel
def own_y13 : MethodName := ⟨"com/example/ringloom/ringloom/DraftPlan", "firstNode", "(II)I"⟩
theorem own_pn13 : plainName "com/example/ringloom/ringloom/DraftPlan" = true := by first | (simp [plainName, overriddenIn]; done) | decide +kernel
theorem d14_0 : decode prog_7_method_11_code 0 = .ok (.aload_n 0, 1) := by decide +kernel
theorem d14_1 : decode prog_7_method_11_code 1 = .ok (.getfield 9, 3) := by decide +kernel
theorem d14_4 : decode prog_7_method_11_code 4 = .ok (.bipush 8, 2) := by decide +kernel
theorem d14_6 : decode prog_7_method_11_code 6 = .ok (.iload_n 1, 1) := by decide +kernel
theorem d14_7 : decode prog_7_method_11_code 7 = .ok (.imul, 1) := by decide +kernel
theorem d14_8 : decode prog_7_method_11_code 8 = .ok (.iconst 2, 1) := by decide +kernel
theorem d14_9 : decode prog_7_method_11_code 9 = .ok (.iload_n 2, 1) := by decide +kernel
theorem d14_10 : decode prog_7_method_11_code 10 = .ok (.imul, 1) := by decide +kernel
theorem d14_11 : decode prog_7_method_11_code 11 = .ok (.iadd, 1) := by decide +kernel
theorem d14_12 : decode prog_7_method_11_code 12 = .ok (.iconst 1, 1) := by decide +kernel
theorem d14_13 : decode prog_7_method_11_code 13 = .ok (.iadd, 1) := by decide +kernel
theorem d14_14 : decode prog_7_method_11_code 14 = .ok (.iaload, 1) := by decide +kernel
theorem d14_15 : decode prog_7_method_11_code 15 = .ok (.ireturn, 1) := by decide +kernel
def own_y14 : MethodName := ⟨"com/example/ringloom/ringloom/DraftPlan", "secondNode", "(II)I"⟩
theorem own_pn14 : plainName "com/example/ringloom/ringloom/DraftPlan" = true := by first | (simp [plainName, overriddenIn]; done) | decide +kernel
theorem d15_0 : decode method_2_code 0 = .ok (.iload_n 1, 1) := by decide +kernel
theorem d15_1 : decode method_2_code 1 = .ok (.iconst 1, 1) := by decide +kernel
theorem d15_2 : decode method_2_code 2 = .ok (.if_icmp .ne 19, 3) := by decide +kernel
theorem d15_5 : decode method_2_code 5 = .ok (.aload_n 0, 1) := by decide +kernel
theorem d15_6 : decode method_2_code 6 = .ok (.iconst 2, 1) := by decide +kernel
theorem d15_7 : decode method_2_code 7 = .ok (.newarray .int, 2) := by decide +kernel
theorem d15_9 : decode method_2_code 9 = .ok (.dup, 1) := by decide +kernel
theorem d15_10 : decode method_2_code 10 = .ok (.iconst 0, 1) := by decide +kernel
theorem d15_11 : decode method_2_code 11 = .ok (.iload_n 2, 1) := by decide +kernel
theorem d15_12 : decode method_2_code 12 = .ok (.iastore, 1) := by decide +kernel
theorem d15_13 : decode method_2_code 13 = .ok (.dup, 1) := by decide +kernel
theorem d15_14 : decode method_2_code 14 = .ok (.iconst 1, 1) := by decide +kernel
theorem d15_15 : decode method_2_code 15 = .ok (.iload_n 3, 1) := by decide +kernel
theorem d15_16 : decode method_2_code 16 = .ok (.iastore, 1) := by decide +kernel
theorem d15_17 : decode method_2_code 17 = .ok (.invokevirtual 7, 3) := by decide +kernel
theorem d15_20 : decode method_2_code 20 = .ok (.ireturn, 1) := by decide +kernel
theorem d15_21 : decode method_2_code 21 = .ok (.iload_n 1, 1) := by decide +kernel
theorem d15_22 : decode method_2_code 22 = .ok (.iconst 2, 1) := by decide +kernel
theorem d15_23 : decode method_2_code 23 = .ok (.if_icmp .ne 29, 3) := by decide +kernel
theorem d15_26 : decode method_2_code 26 = .ok (.aload_n 0, 1) := by decide +kernel
theorem d15_27 : decode method_2_code 27 = .ok (.iconst 4, 1) := by decide +kernel
theorem d15_28 : decode method_2_code 28 = .ok (.newarray .int, 2) := by decide +kernel
theorem d15_30 : decode method_2_code 30 = .ok (.dup, 1) := by decide +kernel
theorem d15_31 : decode method_2_code 31 = .ok (.iconst 0, 1) := by decide +kernel
theorem d15_32 : decode method_2_code 32 = .ok (.iload 4, 2) := by decide +kernel
theorem d15_34 : decode method_2_code 34 = .ok (.iastore, 1) := by decide +kernel
theorem d15_35 : decode method_2_code 35 = .ok (.dup, 1) := by decide +kernel
theorem d15_36 : decode method_2_code 36 = .ok (.iconst 1, 1) := by decide +kernel
theorem d15_37 : decode method_2_code 37 = .ok (.iload 5, 2) := by decide +kernel
theorem d15_39 : decode method_2_code 39 = .ok (.iastore, 1) := by decide +kernel
theorem d15_40 : decode method_2_code 40 = .ok (.dup, 1) := by decide +kernel
theorem d15_41 : decode method_2_code 41 = .ok (.iconst 2, 1) := by decide +kernel
theorem d15_42 : decode method_2_code 42 = .ok (.iload_n 2, 1) := by decide +kernel
theorem d15_43 : decode method_2_code 43 = .ok (.iastore, 1) := by decide +kernel
theorem d15_44 : decode method_2_code 44 = .ok (.dup, 1) := by decide +kernel
theorem d15_45 : decode method_2_code 45 = .ok (.iconst 3, 1) := by decide +kernel
theorem d15_46 : decode method_2_code 46 = .ok (.iload_n 3, 1) := by decide +kernel
theorem d15_47 : decode method_2_code 47 = .ok (.iastore, 1) := by decide +kernel
theorem d15_48 : decode method_2_code 48 = .ok (.invokevirtual 7, 3) := by decide +kernel
theorem d15_51 : decode method_2_code 51 = .ok (.ireturn, 1) := by decide +kernel
theorem d15_52 : decode method_2_code 52 = .ok (.iload_n 1, 1) := by decide +kernel
theorem d15_53 : decode method_2_code 53 = .ok (.iconst 3, 1) := by decide +kernel
theorem d15_54 : decode method_2_code 54 = .ok (.if_icmp .ne 40, 3) := by decide +kernel
theorem d15_57 : decode method_2_code 57 = .ok (.aload_n 0, 1) := by decide +kernel
theorem d15_58 : decode method_2_code 58 = .ok (.bipush 6, 2) := by decide +kernel
theorem d15_60 : decode method_2_code 60 = .ok (.newarray .int, 2) := by decide +kernel
theorem d15_62 : decode method_2_code 62 = .ok (.dup, 1) := by decide +kernel
theorem d15_63 : decode method_2_code 63 = .ok (.iconst 0, 1) := by decide +kernel
theorem d15_64 : decode method_2_code 64 = .ok (.iload 4, 2) := by decide +kernel
theorem d15_66 : decode method_2_code 66 = .ok (.iastore, 1) := by decide +kernel
theorem d15_67 : decode method_2_code 67 = .ok (.dup, 1) := by decide +kernel
theorem d15_68 : decode method_2_code 68 = .ok (.iconst 1, 1) := by decide +kernel
theorem d15_69 : decode method_2_code 69 = .ok (.iload 5, 2) := by decide +kernel
theorem d15_71 : decode method_2_code 71 = .ok (.iastore, 1) := by decide +kernel
theorem d15_72 : decode method_2_code 72 = .ok (.dup, 1) := by decide +kernel
theorem d15_73 : decode method_2_code 73 = .ok (.iconst 2, 1) := by decide +kernel
theorem d15_74 : decode method_2_code 74 = .ok (.iload 5, 2) := by decide +kernel
theorem d15_76 : decode method_2_code 76 = .ok (.iastore, 1) := by decide +kernel
theorem d15_77 : decode method_2_code 77 = .ok (.dup, 1) := by decide +kernel
theorem d15_78 : decode method_2_code 78 = .ok (.iconst 3, 1) := by decide +kernel
theorem d15_79 : decode method_2_code 79 = .ok (.iload 4, 2) := by decide +kernel
theorem d15_81 : decode method_2_code 81 = .ok (.iastore, 1) := by decide +kernel
theorem d15_82 : decode method_2_code 82 = .ok (.dup, 1) := by decide +kernel
theorem d15_83 : decode method_2_code 83 = .ok (.iconst 4, 1) := by decide +kernel
theorem d15_84 : decode method_2_code 84 = .ok (.iload_n 2, 1) := by decide +kernel
theorem d15_85 : decode method_2_code 85 = .ok (.iastore, 1) := by decide +kernel
theorem d15_86 : decode method_2_code 86 = .ok (.dup, 1) := by decide +kernel
theorem d15_87 : decode method_2_code 87 = .ok (.iconst 5, 1) := by decide +kernel
theorem d15_88 : decode method_2_code 88 = .ok (.iload_n 3, 1) := by decide +kernel
theorem d15_89 : decode method_2_code 89 = .ok (.iastore, 1) := by decide +kernel
theorem d15_90 : decode method_2_code 90 = .ok (.invokevirtual 7, 3) := by decide +kernel
theorem d15_93 : decode method_2_code 93 = .ok (.ireturn, 1) := by decide +kernel
theorem d15_94 : decode method_2_code 94 = .ok (.aload_n 0, 1) := by decide +kernel
theorem d15_95 : decode method_2_code 95 = .ok (.bipush 8, 2) := by decide +kernel
theorem d15_97 : decode method_2_code 97 = .ok (.newarray .int, 2) := by decide +kernel
theorem d15_99 : decode method_2_code 99 = .ok (.dup, 1) := by decide +kernel
theorem d15_100 : decode method_2_code 100 = .ok (.iconst 0, 1) := by decide +kernel
theorem d15_101 : decode method_2_code 101 = .ok (.iload 4, 2) := by decide +kernel
theorem d15_103 : decode method_2_code 103 = .ok (.iastore, 1) := by decide +kernel
theorem d15_104 : decode method_2_code 104 = .ok (.dup, 1) := by decide +kernel
theorem d15_105 : decode method_2_code 105 = .ok (.iconst 1, 1) := by decide +kernel
theorem d15_106 : decode method_2_code 106 = .ok (.iload 5, 2) := by decide +kernel
theorem d15_108 : decode method_2_code 108 = .ok (.iastore, 1) := by decide +kernel
theorem d15_109 : decode method_2_code 109 = .ok (.dup, 1) := by decide +kernel
theorem d15_110 : decode method_2_code 110 = .ok (.iconst 2, 1) := by decide +kernel
theorem d15_111 : decode method_2_code 111 = .ok (.iload 5, 2) := by decide +kernel
theorem d15_113 : decode method_2_code 113 = .ok (.iastore, 1) := by decide +kernel
theorem d15_114 : decode method_2_code 114 = .ok (.dup, 1) := by decide +kernel
theorem d15_115 : decode method_2_code 115 = .ok (.iconst 3, 1) := by decide +kernel
theorem d15_116 : decode method_2_code 116 = .ok (.iload 4, 2) := by decide +kernel
theorem d15_118 : decode method_2_code 118 = .ok (.iastore, 1) := by decide +kernel
theorem d15_119 : decode method_2_code 119 = .ok (.dup, 1) := by decide +kernel
theorem d15_120 : decode method_2_code 120 = .ok (.iconst 4, 1) := by decide +kernel
theorem d15_121 : decode method_2_code 121 = .ok (.iload 6, 2) := by decide +kernel
theorem d15_123 : decode method_2_code 123 = .ok (.iastore, 1) := by decide +kernel
theorem d15_124 : decode method_2_code 124 = .ok (.dup, 1) := by decide +kernel
theorem d15_125 : decode method_2_code 125 = .ok (.iconst 5, 1) := by decide +kernel
theorem d15_126 : decode method_2_code 126 = .ok (.iload 5, 2) := by decide +kernel
theorem d15_128 : decode method_2_code 128 = .ok (.iastore, 1) := by decide +kernel
theorem d15_129 : decode method_2_code 129 = .ok (.dup, 1) := by decide +kernel
theorem d15_130 : decode method_2_code 130 = .ok (.bipush 6, 2) := by decide +kernel
theorem d15_132 : decode method_2_code 132 = .ok (.iload_n 2, 1) := by decide +kernel
theorem d15_133 : decode method_2_code 133 = .ok (.iastore, 1) := by decide +kernel
theorem d15_134 : decode method_2_code 134 = .ok (.dup, 1) := by decide +kernel
theorem d15_135 : decode method_2_code 135 = .ok (.bipush 7, 2) := by decide +kernel
theorem d15_137 : decode method_2_code 137 = .ok (.iload_n 3, 1) := by decide +kernel
theorem d15_138 : decode method_2_code 138 = .ok (.iastore, 1) := by decide +kernel
theorem d15_139 : decode method_2_code 139 = .ok (.invokevirtual 7, 3) := by decide +kernel
theorem d15_142 : decode method_2_code 142 = .ok (.ireturn, 1) := by decide +kernel
def own_y15 : MethodName := ⟨"com/example/ringloom/ringloom/DraftPlanRemoveLastPinLaw", "addTarget", "(Lcom/example/ringloom/ringloom/DraftPlan;IIIIII)I"⟩
theorem own_pn15 : plainName "com/example/ringloom/ringloom/DraftPlanRemoveLastPinLaw" = true := by first | (simp [plainName, overriddenIn]; done) | decide +kernel
theorem own_tn {i : Nat} (h : i < 2147483648) : (Int32.ofNat i).toInt = i := Int32.toInt_ofNat_of_lt (by omega)
theorem own_one (i : Nat) : Int32.ofNat i + (1 : Int32) = Int32.ofNat (i + 1) := (Int32.ofNat_add i 1).symm
theorem own_addN (a b : Nat) : Int32.ofNat a + Int32.ofNat b = Int32.ofNat (a + b) := (Int32.ofNat_add a b).symm
theorem own_mulN (a b : Nat) : Int32.ofNat a * Int32.ofNat b = Int32.ofNat (a * b) := (Int32.ofNat_mul a b).symm
theorem own_two (a : Nat) : (2 : Int32) * Int32.ofNat a = Int32.ofNat (2 * a) := own_mulN 2 a
theorem own_subN {a b : Nat} (ha : a < 2147483648) (hab : b ≤ a) : Int32.ofNat a - Int32.ofNat b = Int32.ofNat (a - b) := by
  apply Int32.toInt_inj.mp
  have h1 := c_isub (Int32.ofNat a) (Int32.ofNat b)
  have h2 := rng32 (Int32.ofNat a - Int32.ofNat b)
  rw [own_tn ha, own_tn (i := b) (by omega)] at h1
  rw [own_tn (i := a - b) (by omega)]
  omega
theorem own_sub1 {a : Nat} (ha : a < 2147483648) (hab : 1 ≤ a) : Int32.ofNat a - (1 : Int32) = Int32.ofNat (a - 1) := own_subN ha hab
theorem own_modN {a b : Nat} (ha : a < 2147483648) (hb : b < 2147483648) : Int32.ofNat a % Int32.ofNat b = Int32.ofNat (a % b) := by
  apply Int32.toInt_inj.mp
  rw [Int32.toInt_mod, own_tn ha, own_tn hb, own_tn (i := a % b) (Nat.lt_of_le_of_lt (Nat.mod_le a b) ha)]
  rfl
theorem own_divN {a b : Nat} (ha : a < 2147483648) (hb : b < 2147483648) : Int32.ofNat a / Int32.ofNat b = Int32.ofNat (a / b) := by
  apply Int32.toInt_inj.mp
  rw [Int32.toInt_div_of_ne_right _ _ (fun q => by have := congrArg Int32.toInt q; rw [own_tn hb] at this; have e : (-1 : Int32).toInt = -1 := rfl; omega), own_tn ha, own_tn hb, own_tn (i := a / b) (Nat.lt_of_le_of_lt (Nat.div_le_self a b) ha)]
  rfl
theorem own_nz {a : Nat} (ha : a < 2147483648) (h : a ≠ 0) : Int32.ofNat a ≠ 0 := fun q => by
  have := congrArg Int32.toInt q
  rw [own_tn ha] at this
  have e : (0 : Int32).toInt = 0 := rfl
  omega
theorem own_nat {y : Int32} (h : 0 ≤ y.toInt) : y = Int32.ofNat y.toInt.toNat := by
  apply Int32.toInt_inj.mp
  have := y.toInt_lt
  rw [own_tn (by omega)]
  omega
theorem own_mask (x m : Int32) (h : 0 ≤ m.toInt) : ∃ k : Nat, (k : Int) ≤ m.toInt ∧ x &&& m = Int32.ofNat k := by
  have r := c_and x m h
  exact ⟨(x &&& m).toInt.toNat, by omega, own_nat r.1⟩
theorem own_ef1 (m : MethodId) (z0 : Int32) : entryFrame m #[(.int z0)] 1 = mkF m 0 #[.val (.int z0)] [] := by first | (simp [entryFrame, mkF, argsToLocals, Value.category]; done) | rfl
set_option maxRecDepth 65536 in
set_option maxHeartbeats 40000000 in
theorem own_m1 (l : Launch) (Z : State) (a0 : Array Value) (hw : ∀ d ∈ tables_1, d.before a0 Z = true) (h0 : Heap) (n0 : Nat) (hn : n0 ≤ h0.size) (v : Int32) :
    own_Met l Z h0 n0 own_y1 jdk_92_method_1_code 1 (some .int) [] ({ frames := 0, cells := 0, slots := 0, locals := 0 } : Room) #[(.int v)] (own_V fun w h => w = .int (v >>> ((6 : Int32) &&& 31)) ∧ h0 = h) := by
  refine own_met (ls := #[.val (.int v)]) own_pn1 (fun m => own_ef1 m _) hn hw fun p e s m below meth c T S => ?_
  refine own_iloadN (pc' := 1) S rfl d1_0 rfl ?_
  refine own_bipush (6 : Int32) (pc' := 3) S rfl d1_1 rfl ?_
  refine own_ishr (pc' := 4) S rfl d1_3 ?_
  exact own_retI  S d1_4 (by decide) (by decide) ⟨_, rfl, rfl, rfl⟩
theorem own_ef2 (m : MethodId) (z0 : Addr) (z1 : Int32) : entryFrame m #[(.ref z0), (.int z1)] 2 = mkF m 0 #[.val (.ref z0), .val (.int z1)] [] := by first | (simp [entryFrame, mkF, argsToLocals, Value.category]; done) | rfl
set_option maxRecDepth 65536 in
set_option maxHeartbeats 40000000 in
theorem own_m2 (l : Launch) (Z : State) (a0 : Array Value) (hw : ∀ d ∈ tables_1, d.before a0 Z = true) (h0 : Heap) (n0 : Nat) (hn : n0 ≤ h0.size) (a : Addr) (ha0 : n0 ≤ a) (E : Exa Z h0 a "java/util/BitSet") (U : own_U h0 a) (Fw : Fld Z h0 a "java/util/BitSet" "wordsInUse" "I" (.int 0)) :
    own_Met l Z h0 n0 own_y2 jdk_92_method_6_code 2 none [] ({ frames := 1, cells := 1, slots := 1, locals := 13 } : Room) #[(.ref a), (.int (64 : Int32))] (own_N fun h => Fld Z h a "java/util/BitSet" "wordsInUse" "I" (.int 0) ∧ Keep h0 h [a]) := by
  refine own_met (ls := #[.val (.ref a), .val (.int (64 : Int32))]) own_pn2 (fun m => own_ef2 m _ _) hn hw fun p e s m below meth c T S => ?_
  have alt := Exa.lt E
  refine own_aloadN (pc' := 1) S rfl d2_0 rfl rfl ?_
  refine own_iloadN (pc' := 2) S rfl d2_1 rfl ?_
  refine own_iconst (1 : Int32) (pc' := 3) S rfl d2_2 rfl ?_
  refine own_isub (pc' := 4) S rfl d2_3 ?_
  refine own_callS (pc' := 7) (yy := own_y1) (rm := ({ frames := 0, cells := 0, slots := 0, locals := 0 } : Room)) (W := 1) [(.int ((64 : Int32) - (1 : Int32)))] [(.ref a)] S (List.mem_of_getElem? (i := 31) rfl) (List.mem_of_getElem? (i := 32) rfl) (List.mem_of_getElem? (i := 17) rfl) (List.mem_of_getElem? (i := 33) rfl) (by decide) (own_m1 l Z a0 hw _ n0 (own_size S) ((64 : Int32) - (1 : Int32))) (ps := [.int]) (r' := some .int) (by decide +kernel) rfl rfl rfl (Nat.le_of_ble_eq_true rfl) (by decide) (by decide) (by decide) (by decide) rfl d2_4 ?_
  rintro T h2 _ S ⟨_, rfl, rfl, rfl⟩
  refine own_iconst (1 : Int32) (pc' := 8) S rfl d2_7 rfl ?_
  refine own_iadd (pc' := 9) S rfl d2_8 ?_
  refine own_newarray (pc' := 11) 1 S (List.mem_of_getElem? (i := 34) rfl) (n := 1) rfl (by decide) (by decide) (by decide) (by decide) rfl d2_9 ?_
  intro T h b hb hb0 S Ex A
  have K := (Keep.refl h0 [a]).ext Ex
  replace E := E.ext Ex
  replace U := own_Uext U Ex
  replace Fw := Fw.ext Ex
  obtain ⟨_, Fold⟩ := fld_laid E U (hw _ (List.mem_of_getElem? (i := 16) rfl)) (Or.inl (hw _ (List.mem_of_getElem? (i := 36) rfl)))
  refine own_putfield (pc' := 14) (ty := (.array .long)) S (List.mem_of_getElem? (i := 35) rfl) Fold E (Or.inl (List.mem_of_getElem? (i := 36) rfl)) (List.mem_of_getElem? (i := 16) rfl) (by decide +kernel) rfl rfl ha0 rfl d2_11 ?_
  clear Fold
  intro T h S W F_
  replace K := K.wr W (Or.inl (List.mem_of_getElem? (i := 0) rfl))
  replace Fw := Fld.other W Fw (Or.inr (slot_ne (t := .int) (t' := (.array .long)) (Or.inl (hw _ (List.mem_of_getElem? (i := 23) rfl))) (Or.inl (hw _ (List.mem_of_getElem? (i := 36) rfl))) (by decide) (by decide +kernel) (by decide +kernel)))
  exact own_ret  S d2_14 (by decide) (by decide) ⟨rfl, Fw, K⟩
theorem own_ef3 (m : MethodId) (z0 : Addr) : entryFrame m #[(.ref z0)] 1 = mkF m 0 #[.val (.ref z0)] [] := by first | (simp [entryFrame, mkF, argsToLocals, Value.category]; done) | rfl
set_option maxRecDepth 65536 in
set_option maxHeartbeats 40000000 in
theorem own_m3 (l : Launch) (Z : State) (a0 : Array Value) (hw : ∀ d ∈ tables_1, d.before a0 Z = true) (h0 : Heap) (n0 : Nat) (hn : n0 ≤ h0.size) (a : Addr) (ha0 : n0 ≤ a) (E : Exa Z h0 a "java/util/BitSet") (U : own_U h0 a) :
    own_Met l Z h0 n0 own_y3 jdk_92_method_4_code 1 none [] ({ frames := 2, cells := 1, slots := 1, locals := 26 } : Room) #[(.ref a)] (own_N fun h => Fld Z h a "java/util/BitSet" "wordsInUse" "I" (.int 0) ∧ Exa Z h a "java/util/BitSet" ∧ Keep h0 h [a]) := by
  refine own_met (ls := #[.val (.ref a)]) own_pn3 (fun m => own_ef3 m _) hn hw fun p e s m below meth c T S => ?_
  have K := Keep.refl h0 [a]
  refine own_aloadN (pc' := 1) S rfl d3_0 rfl rfl ?_
  refine own_initO (pc' := 4) (W := 0) S (List.mem_of_getElem? (i := 21) rfl) (List.mem_of_getElem? (i := 7) rfl) (List.mem_of_getElem? (i := 8) rfl) rfl (by decide) (Nat.le_of_ble_eq_true rfl) (by decide) rfl d3_1 fun T S => ?_
  refine own_aloadN (pc' := 5) S rfl d3_4 rfl rfl ?_
  refine own_iconst (0 : Int32) (pc' := 6) S rfl d3_5 rfl ?_
  obtain ⟨_, Fold⟩ := fld_laid E U (hw _ (List.mem_of_getElem? (i := 16) rfl)) (Or.inl (hw _ (List.mem_of_getElem? (i := 23) rfl)))
  refine own_putfield (pc' := 9) (ty := .int) S (List.mem_of_getElem? (i := 22) rfl) Fold E (Or.inl (List.mem_of_getElem? (i := 23) rfl)) (List.mem_of_getElem? (i := 16) rfl) (by decide +kernel) rfl rfl ha0 rfl d3_6 ?_
  clear Fold
  intro T h S W Fw
  replace K := K.wr W (Or.inl (List.mem_of_getElem? (i := 0) rfl))
  replace E := Exa.wr W E
  replace U := own_Uwr U W
  refine own_aloadN (pc' := 10) S rfl d3_9 rfl rfl ?_
  refine own_iconst (0 : Int32) (pc' := 11) S rfl d3_10 rfl ?_
  obtain ⟨_, Fold⟩ := fld_laid E U (hw _ (List.mem_of_getElem? (i := 16) rfl)) (Or.inl (hw _ (List.mem_of_getElem? (i := 25) rfl)))
  refine own_putfield (pc' := 14) (ty := .boolean) S (List.mem_of_getElem? (i := 24) rfl) Fold E (Or.inl (List.mem_of_getElem? (i := 25) rfl)) (List.mem_of_getElem? (i := 16) rfl) (by decide +kernel) rfl rfl ha0 rfl d3_11 ?_
  clear Fold
  intro T h S W F_
  replace K := K.wr W (Or.inl (List.mem_of_getElem? (i := 0) rfl))
  replace E := Exa.wr W E
  replace U := own_Uwr U W
  replace Fw := Fld.other W Fw (Or.inr (slot_ne (t := .int) (t' := .boolean) (Or.inl (hw _ (List.mem_of_getElem? (i := 23) rfl))) (Or.inl (hw _ (List.mem_of_getElem? (i := 25) rfl))) (by decide) (by decide +kernel) (by decide +kernel)))
  refine own_aloadN (pc' := 15) S rfl d3_14 rfl rfl ?_
  refine own_bipush (64 : Int32) (pc' := 17) S rfl d3_15 rfl ?_
  refine own_callP (pc' := 20) (yy := own_y2) (rm := ({ frames := 1, cells := 1, slots := 1, locals := 13 } : Room)) (W := 0) [(.int (64 : Int32))] [] (b := a) S (List.mem_of_getElem? (i := 26) rfl) (List.mem_of_getElem? (i := 27) rfl) (List.mem_of_getElem? (i := 28) rfl) (List.mem_of_getElem? (i := 16) rfl) (List.mem_of_getElem? (i := 17) rfl) (List.mem_of_getElem? (i := 30) rfl) (by decide) E (own_m2 l Z a0 hw _ n0 (own_size S) a ha0 E U Fw) (ps := [.int]) (r' := none) (by decide +kernel) rfl rfl rfl (Nat.le_of_ble_eq_true rfl) (by decide) (by decide) (by decide) (by decide) rfl d3_17 ?_
  rintro T h _ S ⟨rfl, Fw, K2⟩
  replace K := K.trans K2 (fun x hx => Or.inl hx)
  replace E := E.keep K2
  replace U := own_Ukeep U K2
  clear K2
  refine own_aloadN (pc' := 21) S rfl d3_20 rfl rfl ?_
  refine own_iconst (0 : Int32) (pc' := 22) S rfl d3_21 rfl ?_
  obtain ⟨_, Fold⟩ := fld_laid E U (hw _ (List.mem_of_getElem? (i := 16) rfl)) (Or.inl (hw _ (List.mem_of_getElem? (i := 25) rfl)))
  refine own_putfield (pc' := 25) (ty := .boolean) S (List.mem_of_getElem? (i := 24) rfl) Fold E (Or.inl (List.mem_of_getElem? (i := 25) rfl)) (List.mem_of_getElem? (i := 16) rfl) (by decide +kernel) rfl rfl ha0 rfl d3_22 ?_
  clear Fold
  intro T h S W F_
  replace K := K.wr W (Or.inl (List.mem_of_getElem? (i := 0) rfl))
  replace E := Exa.wr W E
  replace U := own_Uwr U W
  replace Fw := Fld.other W Fw (Or.inr (slot_ne (t := .int) (t' := .boolean) (Or.inl (hw _ (List.mem_of_getElem? (i := 23) rfl))) (Or.inl (hw _ (List.mem_of_getElem? (i := 25) rfl))) (by decide) (by decide +kernel) (by decide +kernel)))
  exact own_ret  S d3_25 (by decide) (by decide) ⟨rfl, Fw, E, K⟩
theorem own_ef4 (m : MethodId) (z0 : Addr) : entryFrame m #[(.ref z0)] 1 = mkF m 0 #[.val (.ref z0)] [] := by first | (simp [entryFrame, mkF, argsToLocals, Value.category]; done) | rfl
set_option maxRecDepth 65536 in
set_option maxHeartbeats 40000000 in
theorem own_m4 (l : Launch) (Z : State) (a0 : Array Value) (hw : ∀ d ∈ tables_1, d.before a0 Z = true) (h0 : Heap) (n0 : Nat) (hn : n0 ≤ h0.size) (a : Addr) (ha0 : n0 ≤ a) (E : Exa Z h0 a "com/example/ringloom/ringloom/IntList") (U : own_U h0 a) :
    own_Met l Z h0 n0 own_y4 prog_14_method_1_code 1 none [] ({ frames := 1, cells := 1, slots := 16, locals := 12 } : Room) #[(.ref a)] (own_N fun h => Keep h0 h [a]) := by
  refine own_met (ls := #[.val (.ref a)]) own_pn4 (fun m => own_ef4 m _) hn hw fun p e s m below meth c T S => ?_
  refine own_aloadN (pc' := 1) S rfl d4_0 rfl rfl ?_
  refine own_initO (pc' := 4) (W := 0) S (List.mem_of_getElem? (i := 45) rfl) (List.mem_of_getElem? (i := 7) rfl) (List.mem_of_getElem? (i := 8) rfl) rfl (by decide) (Nat.le_of_ble_eq_true rfl) (by decide) rfl d4_1 fun T S => ?_
  refine own_aloadN (pc' := 5) S rfl d4_4 rfl rfl ?_
  refine own_bipush (16 : Int32) (pc' := 7) S rfl d4_5 rfl ?_
  refine own_newarray (pc' := 9) 16 S (List.mem_of_getElem? (i := 9) rfl) (n := 16) rfl (by decide) (by decide) (by decide) (by decide) rfl d4_7 ?_
  intro T h b hb hb0 S Ex A
  have K := (Keep.refl h0 [a]).ext Ex
  replace E := E.ext Ex
  replace U := own_Uext U Ex
  obtain ⟨_, Fold⟩ := fld_laid E U (hw _ (List.mem_of_getElem? (i := 40) rfl)) (Or.inl (hw _ (List.mem_of_getElem? (i := 47) rfl)))
  refine own_putfield (pc' := 12) (ty := (.array .int)) S (List.mem_of_getElem? (i := 46) rfl) Fold E (Or.inl (List.mem_of_getElem? (i := 47) rfl)) (List.mem_of_getElem? (i := 40) rfl) (by decide +kernel) rfl rfl ha0 rfl d4_9 ?_
  clear Fold
  intro T h S W F_
  replace K := K.wr W (Or.inl (List.mem_of_getElem? (i := 0) rfl))
  exact own_ret  S d4_12 (by decide) (by decide) ⟨rfl, K⟩
theorem own_ef5 (m : MethodId) (z0 : Addr) : entryFrame m #[(.ref z0)] 1 = mkF m 0 #[.val (.ref z0)] [] := by first | (simp [entryFrame, mkF, argsToLocals, Value.category]; done) | rfl
set_option maxRecDepth 65536 in
set_option maxHeartbeats 40000000 in
theorem own_m5 (l : Launch) (Z : State) (a0 : Array Value) (hw : ∀ d ∈ tables_1, d.before a0 Z = true) (h0 : Heap) (n0 : Nat) (hn : n0 ≤ h0.size) (a : Addr) :
    own_Met l Z h0 n0 own_y5 jdk_22_method_1_code 1 none [] ({ frames := 1, cells := 0, slots := 0, locals := 12 } : Room) #[(.ref a)] (own_N fun h => h0 = h) := by
  refine own_met (ls := #[.val (.ref a)]) own_pn5 (fun m => own_ef5 m _) hn hw fun p e s m below meth c T S => ?_
  refine own_aloadN (pc' := 1) S rfl d5_0 rfl rfl ?_
  refine own_initO (pc' := 4) (W := 0) S (List.mem_of_getElem? (i := 68) rfl) (List.mem_of_getElem? (i := 7) rfl) (List.mem_of_getElem? (i := 8) rfl) rfl (by decide) (Nat.le_of_ble_eq_true rfl) (by decide) rfl d5_1 fun T S => ?_
  exact own_ret  S d5_4 (by decide) (by decide) ⟨rfl, rfl⟩
theorem own_ef6 (m : MethodId) (z0 : Addr) : entryFrame m #[(.ref z0)] 1 = mkF m 0 #[.val (.ref z0)] [] := by first | (simp [entryFrame, mkF, argsToLocals, Value.category]; done) | rfl
set_option maxRecDepth 65536 in
set_option maxHeartbeats 40000000 in
theorem own_m6 (l : Launch) (Z : State) (a0 : Array Value) (hw : ∀ d ∈ tables_1, d.before a0 Z = true) (h0 : Heap) (n0 : Nat) (hn : n0 ≤ h0.size) (a : Addr) (ha0 : n0 ≤ a) (E : Exa Z h0 a "java/util/ArrayDeque") (U : own_U h0 a) :
    own_Met l Z h0 n0 own_y6 jdk_21_method_3_code 1 none [] ({ frames := 2, cells := 1, slots := 17, locals := 24 } : Room) #[(.ref a)] (own_N fun h => Keep h0 h [a]) := by
  refine own_met (ls := #[.val (.ref a)]) own_pn6 (fun m => own_ef6 m _) hn hw fun p e s m below meth c T S => ?_
  refine own_aloadN (pc' := 1) S rfl d6_0 rfl rfl ?_
  refine own_callI (pc' := 4) (yy := own_y5) (rm := ({ frames := 1, cells := 0, slots := 0, locals := 12 } : Room)) (W := 0) [] [] (b := a) S (List.mem_of_getElem? (i := 62) rfl) (List.mem_of_getElem? (i := 63) rfl) (List.mem_of_getElem? (i := 66) rfl) (List.mem_of_getElem? (i := 67) rfl) rfl (by decide) (own_m5 l Z a0 hw _ n0 (own_size S) a) (ps := []) (r' := none) (by decide +kernel) rfl rfl rfl (Nat.le_of_ble_eq_true rfl) (by decide) (by decide) (by decide) (by decide) rfl d6_1 ?_
  rintro T h2 _ S ⟨rfl, rfl⟩
  refine own_aloadN (pc' := 5) S rfl d6_4 rfl rfl ?_
  refine own_bipush (17 : Int32) (pc' := 7) S rfl d6_5 rfl ?_
  refine own_anewarray (pc' := 10) 17 S (List.mem_of_getElem? (i := 69) rfl) (List.mem_of_getElem? (i := 70) rfl) (n := 17) rfl (by decide) (by decide) (by decide) (by decide) rfl d6_7 ?_
  intro T h b hb hb0 S Ex
  have K := (Keep.refl _ [a]).ext Ex
  replace E := E.ext Ex
  replace U := own_Uext U Ex
  obtain ⟨_, Fold⟩ := fld_laid E U (hw _ (List.mem_of_getElem? (i := 57) rfl)) (Or.inl (hw _ (List.mem_of_getElem? (i := 72) rfl)))
  refine own_putfield (pc' := 13) (ty := (.array (.object "java/lang/Object"))) S (List.mem_of_getElem? (i := 71) rfl) Fold E (Or.inl (List.mem_of_getElem? (i := 72) rfl)) (List.mem_of_getElem? (i := 57) rfl) (by decide +kernel) rfl rfl ha0 rfl d6_10 ?_
  clear Fold
  intro T h S W F_
  replace K := K.wr W (Or.inl (List.mem_of_getElem? (i := 0) rfl))
  exact own_ret  S d6_13 (by decide) (by decide) ⟨rfl, K⟩
def own_P (Z : State) (h : Heap) (b ea sa oa : Addr) (cnt : Nat) : Prop := Exa Z h b "com/example/ringloom/ringloom/DraftPlan" ∧ Fld Z h b "com/example/ringloom/ringloom/DraftPlan" "ends" "[I" (.ref ea) ∧ Fld Z h b "com/example/ringloom/ringloom/DraftPlan" "sizes" "[B" (.ref sa) ∧ Fld Z h b "com/example/ringloom/ringloom/DraftPlan" "open" "Ljava/util/BitSet;" (.ref oa) ∧ Fld Z h b "com/example/ringloom/ringloom/DraftPlan" "count" "I" (.int (Int32.ofNat cnt)) ∧ Exa Z h oa "java/util/BitSet" ∧ Fld Z h oa "java/util/BitSet" "wordsInUse" "I" (.int 0)
def own_Sep (n0 : Nat) (b ea sa oa : Addr) : Prop := n0 ≤ b ∧ n0 ≤ ea ∧ n0 ≤ sa ∧ ea ≠ b ∧ sa ≠ b ∧ oa ≠ b ∧ ea ≠ sa ∧ ea ≠ oa ∧ sa ≠ oa
theorem own_Pwr {Z : State} {h h' : Heap} {b ea sa oa a : Addr} {cnt sl : Nat} {v : Value} (P : own_P Z h b ea sa oa cnt) (W : Wr h h' a sl v) (n1 : b ≠ a) (n2 : oa ≠ a) : own_P Z h' b ea sa oa cnt :=
  ⟨Exa.wr W P.1, Fld.other W P.2.1 (Or.inl n1), Fld.other W P.2.2.1 (Or.inl n1), Fld.other W P.2.2.2.1 (Or.inl n1), Fld.other W P.2.2.2.2.1 (Or.inl n1), Exa.wr W P.2.2.2.2.2.1, Fld.other W P.2.2.2.2.2.2 (Or.inl n2)⟩
theorem own_Pext {Z : State} {h h' : Heap} {b ea sa oa : Addr} {cnt : Nat} (P : own_P Z h b ea sa oa cnt) (E : Ext h h') : own_P Z h' b ea sa oa cnt :=
  ⟨P.1.ext E, P.2.1.ext E, P.2.2.1.ext E, P.2.2.2.1.ext E, P.2.2.2.2.1.ext E, P.2.2.2.2.2.1.ext E, P.2.2.2.2.2.2.ext E⟩
/-- two places from k on hold x, y -/
def own_u2 (f : Nat → Int32) (k : Nat) (x y : Int32) : Nat → Int32 := fun j => if j = k + 1 then y else if j = k then x else f j
def own_zs (f : Nat → Nat) (w z : Nat) : Nat → Nat := fun j => if j = w then z else f j
/-- the first k pairs of f stand from 8 w on -/
def own_e8f (f : Nat → Int32) (w k : Nat) (g : Nat → Int32) : Nat → Int32 := fun j => if 8 * w ≤ j ∧ j < 8 * w + 2 * k then g (j - 8 * w) else f j
theorem own_e8fz (f : Nat → Int32) (w : Nat) (g : Nat → Int32) : own_e8f f w 0 g = f := by funext j; unfold own_e8f; rw [if_neg (by omega)]
theorem own_e8fs (f : Nat → Int32) (w k : Nat) (g : Nat → Int32) : own_u2 (own_e8f f w k g) (8 * w + 2 * k) (g (2 * k)) (g (2 * k + 1)) = own_e8f f w (k + 1) g := by
  funext j
  unfold own_u2 own_e8f
  by_cases q1 : j = 8 * w + 2 * k + 1
  · rw [if_pos q1, if_pos (by omega), show j - 8 * w = 2 * k + 1 by omega]
  · rw [if_neg q1]
    by_cases q2 : j = 8 * w + 2 * k
    · rw [if_pos q2, if_pos (by omega), show j - 8 * w = 2 * k by omega]
    · rw [if_neg q2]
      by_cases q3 : 8 * w ≤ j ∧ j < 8 * w + 2 * k
      · rw [if_pos q3, if_pos (by omega)]
      · rw [if_neg q3, if_neg (by omega)]
theorem own_zss (f : Nat → Nat) (w k : Nat) : own_zs (own_zs f w k) w (k + 1) = own_zs f w (k + 1) := by
  funext j; unfold own_zs; by_cases q : j = w
  · rw [if_pos q, if_pos q]
  · rw [if_neg q, if_neg q, if_neg q]
theorem own_zsz {f : Nat → Nat} {w : Nat} (h : f w = 0) : own_zs f w 0 = f := by
  funext j; unfold own_zs; by_cases q : j = w
  · rw [if_pos q, q, h]
  · rw [if_neg q]
theorem own_up2 (f : Nat → Int32) (k : Nat) (x y : Int32) : ∀ j, j < 512 → own_upd (own_upd (fun j => .int (f j)) k (.int x)) (k + 1) (.int y) j = .int (own_u2 f k x y j) := fun j _ => by
  unfold own_upd own_u2
  by_cases q1 : j = k + 1
  · rw [if_pos q1, if_pos q1]
  · rw [if_neg q1, if_neg q1]
    by_cases q2 : j = k
    · rw [if_pos q2, if_pos q2]
    · rw [if_neg q2, if_neg q2]
theorem own_upz (f : Nat → Nat) (w z : Nat) : ∀ j, j < 64 → own_upd (fun j => .int (Int32.ofNat (f j))) w (.int (Int32.ofNat z)) j = .int (Int32.ofNat (own_zs f w z j)) := fun j _ => by
  unfold own_upd own_zs
  by_cases q : j = w
  · rw [if_pos q, if_pos q]
  · rw [if_neg q, if_neg q]
theorem own_b8 : ∀ z, z < 5 → nar .byte (Int32.ofNat z + 1).toInt8.toInt32 = Int32.ofNat (z + 1) := by decide +kernel
theorem own_b8m : ∀ z, z < 5 → 1 ≤ z → nar .byte (Int32.ofNat z - 1).toInt8.toInt32 = Int32.ofNat (z - 1) := by decide +kernel
theorem own_Pcnt {Z : State} {a0 : Array Value} (hw : ∀ d ∈ tables_1, d.before a0 Z = true) {h h' : Heap} {b ea sa oa : Addr} {cnt c2 : Nat} (P : own_P Z h b ea sa oa cnt) (ne : oa ≠ b) (W : Wr h h' b (RoadKit.slotOf Z "com/example/ringloom/ringloom/DraftPlan" "count" "I") (.int (Int32.ofNat c2))) : own_P Z h' b ea sa oa c2 :=
  ⟨Exa.wr W P.1, Fld.other W P.2.1 (Or.inr (slot_ne (t := (.array .int)) (t' := .int) (Or.inl (hw _ (List.mem_of_getElem? (i := 11) rfl))) (Or.inl (hw _ (List.mem_of_getElem? (i := 85) rfl))) (by decide) (by decide +kernel) (by decide +kernel))), Fld.other W P.2.2.1 (Or.inr (slot_ne (t := (.array .byte)) (t' := .int) (Or.inl (hw _ (List.mem_of_getElem? (i := 14) rfl))) (Or.inl (hw _ (List.mem_of_getElem? (i := 85) rfl))) (by decide) (by decide +kernel) (by decide +kernel))), Fld.other W P.2.2.2.1 (Or.inr (slot_ne (t := (.object "java/util/BitSet")) (t' := .int) (Or.inr (hw _ (List.mem_of_getElem? (i := 38) rfl))) (Or.inl (hw _ (List.mem_of_getElem? (i := 85) rfl))) (by decide) (by decide +kernel) (by decide +kernel))), Fld.same W P.2.2.2.2.1, Exa.wr W P.2.2.2.2.2.1, Fld.other W P.2.2.2.2.2.2 (Or.inl ne)⟩
theorem own_ef7 (m : MethodId) (z0 : Addr) (z1 : Int32) (z2 : Int32) : entryFrame m #[(.ref z0), (.int z1), (.int z2)] 3 = mkF m 0 #[.val (.ref z0), .val (.int z1), .val (.int z2)] [] := by first | (simp [entryFrame, mkF, argsToLocals, Value.category]; done) | rfl
set_option maxRecDepth 65536 in
set_option maxHeartbeats 40000000 in
theorem own_m7 (l : Launch) (Z : State) (a0 : Array Value) (hw : ∀ d ∈ tables_1, d.before a0 Z = true) (h0 : Heap) (n0 : Nat) (hn : n0 ≤ h0.size) (b : Addr) (z1 z2 : Int32) (hb0 : n0 ≤ b) (E : Exa Z h0 b "com/example/ringloom/ringloom/DraftPlan") (U : own_U h0 b) (Fc : Fld Z h0 b "com/example/ringloom/ringloom/DraftPlan" "count" "I" (.int 0)) :
    own_Met l Z h0 n0 own_y7 prog_7_method_1_code 3 none [] ({ frames := 3, cells := 13, slots := 720, locals := 60 } : Room) #[(.ref b), (.int z1), (.int z2)] (own_N fun h => ∃ ea sa oa, own_P Z h b ea sa oa 0 ∧ own_Sep n0 b ea sa oa ∧ own_A Z h ea .int 512 (fun j => .int ((fun _ => 0 : Nat → Int32) j)) ∧ own_A Z h sa .byte 64 (fun j => .int (Int32.ofNat ((fun _ => 0 : Nat → Nat) j)))) := by
  refine own_met (ls := #[.val (.ref b), .val (.int z1), .val (.int z2)]) own_pn7 (fun m => own_ef7 m _ _ _) hn hw fun p e s m below meth c T S => ?_
  refine own_aloadN (pc' := 1) S rfl d7_0 rfl rfl ?_
  refine own_initO (pc' := 4) (W := 0) S (List.mem_of_getElem? (i := 6) rfl) (List.mem_of_getElem? (i := 7) rfl) (List.mem_of_getElem? (i := 8) rfl) rfl (by decide) (Nat.le_of_ble_eq_true rfl) (by decide) rfl d7_1 fun T S => ?_
  refine own_aloadN (pc' := 5) S rfl d7_4 rfl rfl ?_
  refine own_sipush (512 : Int32) (pc' := 8) S rfl d7_5 rfl ?_
  have blt := Exa.lt E
  refine own_newarray (pc' := 10) 512 S (List.mem_of_getElem? (i := 9) rfl) (n := 512) rfl (by decide) (by decide) (by decide) (by decide) rfl d7_8 ?_
  intro T h ea hea ea0 S Ex Ae
  have nb_ea : b ≠ ea := by rw [hea]; exact Nat.ne_of_lt blt
  replace E := E.ext Ex
  replace U := own_Uext U Ex
  replace Fc := Fc.ext Ex
  have nea := nb_ea.symm
  obtain ⟨_, Fold⟩ := fld_laid E U (hw _ (List.mem_of_getElem? (i := 1) rfl)) (Or.inl (hw _ (List.mem_of_getElem? (i := 11) rfl)))
  refine own_putfield (pc' := 13) (ty := (.array .int)) S (List.mem_of_getElem? (i := 10) rfl) Fold E (Or.inl (List.mem_of_getElem? (i := 11) rfl)) (List.mem_of_getElem? (i := 1) rfl) (by decide +kernel) rfl rfl hb0 rfl d7_10 ?_
  clear Fold
  intro T h S W Fe
  replace E := Exa.wr W E
  replace U := own_Uwr U W
  replace Fc := Fld.other W Fc (Or.inr (slot_ne (t := .int) (t' := (.array .int)) (Or.inl (hw _ (List.mem_of_getElem? (i := 85) rfl))) (Or.inl (hw _ (List.mem_of_getElem? (i := 11) rfl))) (by decide) (by decide +kernel) (by decide +kernel)))
  replace Ae := own_Awr Ae W nea
  refine own_aloadN (pc' := 14) S rfl d7_13 rfl rfl ?_
  refine own_bipush (64 : Int32) (pc' := 16) S rfl d7_14 rfl ?_
  have blt := Exa.lt E
  have elt := own_Alt Ae
  refine own_newarray (pc' := 18) 64 S (List.mem_of_getElem? (i := 12) rfl) (n := 64) rfl (by decide) (by decide) (by decide) (by decide) rfl d7_16 ?_
  intro T h sa hsa sa0 S Ex As
  have nb_sa : b ≠ sa := by rw [hsa]; exact Nat.ne_of_lt blt
  have nea_sa : ea ≠ sa := by rw [hsa]; exact Nat.ne_of_lt elt
  replace E := E.ext Ex
  replace U := own_Uext U Ex
  replace Fc := Fc.ext Ex
  replace Ae := own_Aext Ae Ex
  replace Fe := Fe.ext Ex
  have nsa := nb_sa.symm
  obtain ⟨_, Fold⟩ := fld_laid E U (hw _ (List.mem_of_getElem? (i := 1) rfl)) (Or.inl (hw _ (List.mem_of_getElem? (i := 14) rfl)))
  refine own_putfield (pc' := 21) (ty := (.array .byte)) S (List.mem_of_getElem? (i := 13) rfl) Fold E (Or.inl (List.mem_of_getElem? (i := 14) rfl)) (List.mem_of_getElem? (i := 1) rfl) (by decide +kernel) rfl rfl hb0 rfl d7_18 ?_
  clear Fold
  intro T h S W Fs
  replace E := Exa.wr W E
  replace U := own_Uwr U W
  replace Fc := Fld.other W Fc (Or.inr (slot_ne (t := .int) (t' := (.array .byte)) (Or.inl (hw _ (List.mem_of_getElem? (i := 85) rfl))) (Or.inl (hw _ (List.mem_of_getElem? (i := 14) rfl))) (by decide) (by decide +kernel) (by decide +kernel)))
  replace Ae := own_Awr Ae W nea
  replace Fe := Fld.other W Fe (Or.inr (slot_ne (t := (.array .int)) (t' := (.array .byte)) (Or.inl (hw _ (List.mem_of_getElem? (i := 11) rfl))) (Or.inl (hw _ (List.mem_of_getElem? (i := 14) rfl))) (by decide) (by decide +kernel) (by decide +kernel)))
  replace As := own_Awr As W nsa
  refine own_aloadN (pc' := 22) S rfl d7_21 rfl rfl ?_
  have blt := Exa.lt E
  have elt := own_Alt Ae
  have slt := own_Alt As
  refine own_new (pc' := 25) S (List.mem_of_getElem? (i := 15) rfl) (List.mem_of_getElem? (i := 16) rfl) (List.mem_of_getElem? (i := 17) rfl) (by decide) (by decide) rfl d7_22 ?_
  intro T h oa hoa oa0 S Ex Ex_oa D_
  have nb_oa : b ≠ oa := by rw [hoa]; exact Nat.ne_of_lt blt
  have nea_oa : ea ≠ oa := by rw [hoa]; exact Nat.ne_of_lt elt
  have nsa_oa : sa ≠ oa := by rw [hoa]; exact Nat.ne_of_lt slt
  replace E := E.ext Ex
  replace U := own_Uext U Ex
  replace Fc := Fc.ext Ex
  replace Ae := own_Aext Ae Ex
  replace Fe := Fe.ext Ex
  replace As := own_Aext As Ex
  replace Fs := Fs.ext Ex
  have U_oa := own_Uof (D_ (Or.inl (List.mem_of_getElem? (i := 23) rfl)) (ty := .int) (by decide +kernel))
  refine own_dup (pc' := 26) S rfl d7_25 rfl ?_
  refine own_callI (pc' := 29) (yy := own_y3) (rm := ({ frames := 2, cells := 1, slots := 1, locals := 26 } : Room)) (W := 2) [] [(.ref oa), (.ref b)] (b := oa) S (List.mem_of_getElem? (i := 18) rfl) (List.mem_of_getElem? (i := 19) rfl) (List.mem_of_getElem? (i := 17) rfl) (List.mem_of_getElem? (i := 20) rfl) rfl (by decide) (own_m3 l Z a0 hw _ n0 (own_size S) oa oa0 Ex_oa U_oa) (ps := []) (r' := none) (by decide +kernel) rfl rfl rfl (Nat.le_of_ble_eq_true rfl) (by decide) (by decide) (by decide) (by decide) rfl d7_26 ?_
  rintro T h _ S ⟨rfl, Fo, Eo, K2⟩
  replace E := E.keep K2
  replace U := own_Ukeep U K2
  replace Fc := Fc.keep K2 (ninS nb_oa nin0)
  replace Ae := own_Akeep Ae K2 (ninS nea_oa nin0)
  replace Fe := Fe.keep K2 (ninS nb_oa nin0)
  replace As := own_Akeep As K2 (ninS nsa_oa nin0)
  replace Fs := Fs.keep K2 (ninS nb_oa nin0)
  clear K2 U_oa D_
  have noa := nb_oa.symm
  obtain ⟨_, Fold⟩ := fld_laid E U (hw _ (List.mem_of_getElem? (i := 1) rfl)) (Or.inr (hw _ (List.mem_of_getElem? (i := 38) rfl)))
  refine own_putfield (pc' := 32) (ty := (.object "java/util/BitSet")) S (List.mem_of_getElem? (i := 37) rfl) Fold E (Or.inr ⟨(List.mem_of_getElem? (i := 38) rfl), rfl, rfl⟩) (List.mem_of_getElem? (i := 1) rfl) (by decide +kernel) rfl rfl hb0 rfl d7_29 ?_
  clear Fold
  intro T h S W Fp
  replace E := Exa.wr W E
  replace U := own_Uwr U W
  replace Fc := Fld.other W Fc (Or.inr (slot_ne (t := .int) (t' := (.object "java/util/BitSet")) (Or.inl (hw _ (List.mem_of_getElem? (i := 85) rfl))) (Or.inr (hw _ (List.mem_of_getElem? (i := 38) rfl))) (by decide) (by decide +kernel) (by decide +kernel)))
  replace Ae := own_Awr Ae W nea
  replace Fe := Fld.other W Fe (Or.inr (slot_ne (t := (.array .int)) (t' := (.object "java/util/BitSet")) (Or.inl (hw _ (List.mem_of_getElem? (i := 11) rfl))) (Or.inr (hw _ (List.mem_of_getElem? (i := 38) rfl))) (by decide) (by decide +kernel) (by decide +kernel)))
  replace As := own_Awr As W nsa
  replace Fs := Fld.other W Fs (Or.inr (slot_ne (t := (.array .byte)) (t' := (.object "java/util/BitSet")) (Or.inl (hw _ (List.mem_of_getElem? (i := 14) rfl))) (Or.inr (hw _ (List.mem_of_getElem? (i := 38) rfl))) (by decide) (by decide +kernel) (by decide +kernel)))
  replace Fo := Fld.other W Fo (Or.inl noa)
  replace Eo := Exa.wr W Eo
  refine own_aloadN (pc' := 33) S rfl d7_32 rfl rfl ?_
  have blt := Exa.lt E
  have elt := own_Alt Ae
  have slt := own_Alt As
  have olt := Exa.lt Eo
  refine own_new (pc' := 36) S (List.mem_of_getElem? (i := 39) rfl) (List.mem_of_getElem? (i := 40) rfl) (List.mem_of_getElem? (i := 41) rfl) (by decide) (by decide) rfl d7_33 ?_
  intro T h x1 hx1 x10 S Ex Ex_x1 D_
  have nb_x1 : b ≠ x1 := by rw [hx1]; exact Nat.ne_of_lt blt
  have nea_x1 : ea ≠ x1 := by rw [hx1]; exact Nat.ne_of_lt elt
  have nsa_x1 : sa ≠ x1 := by rw [hx1]; exact Nat.ne_of_lt slt
  have noa_x1 : oa ≠ x1 := by rw [hx1]; exact Nat.ne_of_lt olt
  replace E := E.ext Ex
  replace U := own_Uext U Ex
  replace Fc := Fc.ext Ex
  replace Ae := own_Aext Ae Ex
  replace Fe := Fe.ext Ex
  replace As := own_Aext As Ex
  replace Fs := Fs.ext Ex
  replace Fo := Fo.ext Ex
  replace Eo := Eo.ext Ex
  replace Fp := Fp.ext Ex
  have U_x1 := own_Uof (D_ (Or.inl (List.mem_of_getElem? (i := 47) rfl)) (ty := (.array .int)) (by decide +kernel))
  refine own_dup (pc' := 37) S rfl d7_36 rfl ?_
  refine own_callI (pc' := 40) (yy := own_y4) (rm := ({ frames := 1, cells := 1, slots := 16, locals := 12 } : Room)) (W := 2) [] [(.ref x1), (.ref b)] (b := x1) S (List.mem_of_getElem? (i := 42) rfl) (List.mem_of_getElem? (i := 43) rfl) (List.mem_of_getElem? (i := 41) rfl) (List.mem_of_getElem? (i := 44) rfl) rfl (by decide) (own_m4 l Z a0 hw _ n0 (own_size S) x1 x10 Ex_x1 U_x1) (ps := []) (r' := none) (by decide +kernel) rfl rfl rfl (Nat.le_of_ble_eq_true rfl) (by decide) (by decide) (by decide) (by decide) rfl d7_37 ?_
  rintro T h _ S ⟨rfl, K2⟩
  replace E := E.keep K2
  replace U := own_Ukeep U K2
  replace Fc := Fc.keep K2 (ninS nb_x1 nin0)
  replace Ae := own_Akeep Ae K2 (ninS nea_x1 nin0)
  replace Fe := Fe.keep K2 (ninS nb_x1 nin0)
  replace As := own_Akeep As K2 (ninS nsa_x1 nin0)
  replace Fs := Fs.keep K2 (ninS nb_x1 nin0)
  replace Fo := Fo.keep K2 (ninS noa_x1 nin0)
  replace Eo := Eo.keep K2
  replace Fp := Fp.keep K2 (ninS nb_x1 nin0)
  clear K2 U_x1 Ex_x1 D_
  obtain ⟨_, Fold⟩ := fld_laid E U (hw _ (List.mem_of_getElem? (i := 1) rfl)) (Or.inr (hw _ (List.mem_of_getElem? (i := 49) rfl)))
  refine own_putfield (pc' := 43) (ty := (.object "com/example/ringloom/ringloom/IntList")) S (List.mem_of_getElem? (i := 48) rfl) Fold E (Or.inr ⟨(List.mem_of_getElem? (i := 49) rfl), rfl, rfl⟩) (List.mem_of_getElem? (i := 1) rfl) (by decide +kernel) rfl rfl hb0 rfl d7_40 ?_
  clear Fold
  intro T h S W F_
  replace E := Exa.wr W E
  replace U := own_Uwr U W
  replace Fc := Fld.other W Fc (Or.inr (slot_ne (t := .int) (t' := (.object "com/example/ringloom/ringloom/IntList")) (Or.inl (hw _ (List.mem_of_getElem? (i := 85) rfl))) (Or.inr (hw _ (List.mem_of_getElem? (i := 49) rfl))) (by decide) (by decide +kernel) (by decide +kernel)))
  replace Ae := own_Awr Ae W nea
  replace Fe := Fld.other W Fe (Or.inr (slot_ne (t := (.array .int)) (t' := (.object "com/example/ringloom/ringloom/IntList")) (Or.inl (hw _ (List.mem_of_getElem? (i := 11) rfl))) (Or.inr (hw _ (List.mem_of_getElem? (i := 49) rfl))) (by decide) (by decide +kernel) (by decide +kernel)))
  replace As := own_Awr As W nsa
  replace Fs := Fld.other W Fs (Or.inr (slot_ne (t := (.array .byte)) (t' := (.object "com/example/ringloom/ringloom/IntList")) (Or.inl (hw _ (List.mem_of_getElem? (i := 14) rfl))) (Or.inr (hw _ (List.mem_of_getElem? (i := 49) rfl))) (by decide) (by decide +kernel) (by decide +kernel)))
  replace Fo := Fld.other W Fo (Or.inl noa)
  replace Eo := Exa.wr W Eo
  replace Fp := Fld.other W Fp (Or.inr (slot_ne (t := (.object "java/util/BitSet")) (t' := (.object "com/example/ringloom/ringloom/IntList")) (Or.inr (hw _ (List.mem_of_getElem? (i := 38) rfl))) (Or.inr (hw _ (List.mem_of_getElem? (i := 49) rfl))) (by decide) (by decide +kernel) (by decide +kernel)))
  clear F_
  refine own_aloadN (pc' := 44) S rfl d7_43 rfl rfl ?_
  have blt := Exa.lt E
  have elt := own_Alt Ae
  have slt := own_Alt As
  have olt := Exa.lt Eo
  refine own_new (pc' := 47) S (List.mem_of_getElem? (i := 39) rfl) (List.mem_of_getElem? (i := 40) rfl) (List.mem_of_getElem? (i := 41) rfl) (by decide) (by decide) rfl d7_44 ?_
  intro T h x2 hx2 x20 S Ex Ex_x2 D_
  have nb_x2 : b ≠ x2 := by rw [hx2]; exact Nat.ne_of_lt blt
  have nea_x2 : ea ≠ x2 := by rw [hx2]; exact Nat.ne_of_lt elt
  have nsa_x2 : sa ≠ x2 := by rw [hx2]; exact Nat.ne_of_lt slt
  have noa_x2 : oa ≠ x2 := by rw [hx2]; exact Nat.ne_of_lt olt
  replace E := E.ext Ex
  replace U := own_Uext U Ex
  replace Fc := Fc.ext Ex
  replace Ae := own_Aext Ae Ex
  replace Fe := Fe.ext Ex
  replace As := own_Aext As Ex
  replace Fs := Fs.ext Ex
  replace Fo := Fo.ext Ex
  replace Eo := Eo.ext Ex
  replace Fp := Fp.ext Ex
  have U_x2 := own_Uof (D_ (Or.inl (List.mem_of_getElem? (i := 47) rfl)) (ty := (.array .int)) (by decide +kernel))
  refine own_dup (pc' := 48) S rfl d7_47 rfl ?_
  refine own_callI (pc' := 51) (yy := own_y4) (rm := ({ frames := 1, cells := 1, slots := 16, locals := 12 } : Room)) (W := 2) [] [(.ref x2), (.ref b)] (b := x2) S (List.mem_of_getElem? (i := 42) rfl) (List.mem_of_getElem? (i := 43) rfl) (List.mem_of_getElem? (i := 41) rfl) (List.mem_of_getElem? (i := 44) rfl) rfl (by decide) (own_m4 l Z a0 hw _ n0 (own_size S) x2 x20 Ex_x2 U_x2) (ps := []) (r' := none) (by decide +kernel) rfl rfl rfl (Nat.le_of_ble_eq_true rfl) (by decide) (by decide) (by decide) (by decide) rfl d7_48 ?_
  rintro T h _ S ⟨rfl, K2⟩
  replace E := E.keep K2
  replace U := own_Ukeep U K2
  replace Fc := Fc.keep K2 (ninS nb_x2 nin0)
  replace Ae := own_Akeep Ae K2 (ninS nea_x2 nin0)
  replace Fe := Fe.keep K2 (ninS nb_x2 nin0)
  replace As := own_Akeep As K2 (ninS nsa_x2 nin0)
  replace Fs := Fs.keep K2 (ninS nb_x2 nin0)
  replace Fo := Fo.keep K2 (ninS noa_x2 nin0)
  replace Eo := Eo.keep K2
  replace Fp := Fp.keep K2 (ninS nb_x2 nin0)
  clear K2 U_x2 Ex_x2 D_
  obtain ⟨_, Fold⟩ := fld_laid E U (hw _ (List.mem_of_getElem? (i := 1) rfl)) (Or.inr (hw _ (List.mem_of_getElem? (i := 51) rfl)))
  refine own_putfield (pc' := 54) (ty := (.object "com/example/ringloom/ringloom/IntList")) S (List.mem_of_getElem? (i := 50) rfl) Fold E (Or.inr ⟨(List.mem_of_getElem? (i := 51) rfl), rfl, rfl⟩) (List.mem_of_getElem? (i := 1) rfl) (by decide +kernel) rfl rfl hb0 rfl d7_51 ?_
  clear Fold
  intro T h S W F_
  replace E := Exa.wr W E
  replace U := own_Uwr U W
  replace Fc := Fld.other W Fc (Or.inr (slot_ne (t := .int) (t' := (.object "com/example/ringloom/ringloom/IntList")) (Or.inl (hw _ (List.mem_of_getElem? (i := 85) rfl))) (Or.inr (hw _ (List.mem_of_getElem? (i := 51) rfl))) (by decide) (by decide +kernel) (by decide +kernel)))
  replace Ae := own_Awr Ae W nea
  replace Fe := Fld.other W Fe (Or.inr (slot_ne (t := (.array .int)) (t' := (.object "com/example/ringloom/ringloom/IntList")) (Or.inl (hw _ (List.mem_of_getElem? (i := 11) rfl))) (Or.inr (hw _ (List.mem_of_getElem? (i := 51) rfl))) (by decide) (by decide +kernel) (by decide +kernel)))
  replace As := own_Awr As W nsa
  replace Fs := Fld.other W Fs (Or.inr (slot_ne (t := (.array .byte)) (t' := (.object "com/example/ringloom/ringloom/IntList")) (Or.inl (hw _ (List.mem_of_getElem? (i := 14) rfl))) (Or.inr (hw _ (List.mem_of_getElem? (i := 51) rfl))) (by decide) (by decide +kernel) (by decide +kernel)))
  replace Fo := Fld.other W Fo (Or.inl noa)
  replace Eo := Exa.wr W Eo
  replace Fp := Fld.other W Fp (Or.inr (slot_ne (t := (.object "java/util/BitSet")) (t' := (.object "com/example/ringloom/ringloom/IntList")) (Or.inr (hw _ (List.mem_of_getElem? (i := 38) rfl))) (Or.inr (hw _ (List.mem_of_getElem? (i := 51) rfl))) (by decide) (by decide +kernel) (by decide +kernel)))
  clear F_
  refine own_aloadN (pc' := 55) S rfl d7_54 rfl rfl ?_
  refine own_bipush (64 : Int32) (pc' := 57) S rfl d7_55 rfl ?_
  have blt := Exa.lt E
  have elt := own_Alt Ae
  have slt := own_Alt As
  have olt := Exa.lt Eo
  refine own_newarray (pc' := 59) 64 S (List.mem_of_getElem? (i := 9) rfl) (n := 64) rfl (by decide) (by decide) (by decide) (by decide) rfl d7_57 ?_
  intro T h x3 hx3 x30 S Ex A_
  have nb_x3 : b ≠ x3 := by rw [hx3]; exact Nat.ne_of_lt blt
  have nea_x3 : ea ≠ x3 := by rw [hx3]; exact Nat.ne_of_lt elt
  have nsa_x3 : sa ≠ x3 := by rw [hx3]; exact Nat.ne_of_lt slt
  have noa_x3 : oa ≠ x3 := by rw [hx3]; exact Nat.ne_of_lt olt
  replace E := E.ext Ex
  replace U := own_Uext U Ex
  replace Fc := Fc.ext Ex
  replace Ae := own_Aext Ae Ex
  replace Fe := Fe.ext Ex
  replace As := own_Aext As Ex
  replace Fs := Fs.ext Ex
  replace Fo := Fo.ext Ex
  replace Eo := Eo.ext Ex
  replace Fp := Fp.ext Ex
  obtain ⟨_, Fold⟩ := fld_laid E U (hw _ (List.mem_of_getElem? (i := 1) rfl)) (Or.inl (hw _ (List.mem_of_getElem? (i := 53) rfl)))
  refine own_putfield (pc' := 62) (ty := (.array .int)) S (List.mem_of_getElem? (i := 52) rfl) Fold E (Or.inl (List.mem_of_getElem? (i := 53) rfl)) (List.mem_of_getElem? (i := 1) rfl) (by decide +kernel) rfl rfl hb0 rfl d7_59 ?_
  clear Fold
  intro T h S W F_
  replace E := Exa.wr W E
  replace U := own_Uwr U W
  replace Fc := Fld.other W Fc (Or.inr (slot_ne (t := .int) (t' := (.array .int)) (Or.inl (hw _ (List.mem_of_getElem? (i := 85) rfl))) (Or.inl (hw _ (List.mem_of_getElem? (i := 53) rfl))) (by decide) (by decide +kernel) (by decide +kernel)))
  replace Ae := own_Awr Ae W nea
  replace Fe := Fld.other W Fe (Or.inr (slot_ne (t := (.array .int)) (t' := (.array .int)) (Or.inl (hw _ (List.mem_of_getElem? (i := 11) rfl))) (Or.inl (hw _ (List.mem_of_getElem? (i := 53) rfl))) (by decide) (by decide +kernel) (by decide +kernel)))
  replace As := own_Awr As W nsa
  replace Fs := Fld.other W Fs (Or.inr (slot_ne (t := (.array .byte)) (t' := (.array .int)) (Or.inl (hw _ (List.mem_of_getElem? (i := 14) rfl))) (Or.inl (hw _ (List.mem_of_getElem? (i := 53) rfl))) (by decide) (by decide +kernel) (by decide +kernel)))
  replace Fo := Fld.other W Fo (Or.inl noa)
  replace Eo := Exa.wr W Eo
  replace Fp := Fld.other W Fp (Or.inr (slot_ne (t := (.object "java/util/BitSet")) (t' := (.array .int)) (Or.inr (hw _ (List.mem_of_getElem? (i := 38) rfl))) (Or.inl (hw _ (List.mem_of_getElem? (i := 53) rfl))) (by decide) (by decide +kernel) (by decide +kernel)))
  clear F_
  refine own_aloadN (pc' := 63) S rfl d7_62 rfl rfl ?_
  have blt := Exa.lt E
  have elt := own_Alt Ae
  have slt := own_Alt As
  have olt := Exa.lt Eo
  refine own_new (pc' := 66) S (List.mem_of_getElem? (i := 15) rfl) (List.mem_of_getElem? (i := 16) rfl) (List.mem_of_getElem? (i := 17) rfl) (by decide) (by decide) rfl d7_63 ?_
  intro T h x4 hx4 x40 S Ex Ex_x4 D_
  have nb_x4 : b ≠ x4 := by rw [hx4]; exact Nat.ne_of_lt blt
  have nea_x4 : ea ≠ x4 := by rw [hx4]; exact Nat.ne_of_lt elt
  have nsa_x4 : sa ≠ x4 := by rw [hx4]; exact Nat.ne_of_lt slt
  have noa_x4 : oa ≠ x4 := by rw [hx4]; exact Nat.ne_of_lt olt
  replace E := E.ext Ex
  replace U := own_Uext U Ex
  replace Fc := Fc.ext Ex
  replace Ae := own_Aext Ae Ex
  replace Fe := Fe.ext Ex
  replace As := own_Aext As Ex
  replace Fs := Fs.ext Ex
  replace Fo := Fo.ext Ex
  replace Eo := Eo.ext Ex
  replace Fp := Fp.ext Ex
  have U_x4 := own_Uof (D_ (Or.inl (List.mem_of_getElem? (i := 23) rfl)) (ty := .int) (by decide +kernel))
  refine own_dup (pc' := 67) S rfl d7_66 rfl ?_
  refine own_callI (pc' := 70) (yy := own_y3) (rm := ({ frames := 2, cells := 1, slots := 1, locals := 26 } : Room)) (W := 2) [] [(.ref x4), (.ref b)] (b := x4) S (List.mem_of_getElem? (i := 18) rfl) (List.mem_of_getElem? (i := 19) rfl) (List.mem_of_getElem? (i := 17) rfl) (List.mem_of_getElem? (i := 20) rfl) rfl (by decide) (own_m3 l Z a0 hw _ n0 (own_size S) x4 x40 Ex_x4 U_x4) (ps := []) (r' := none) (by decide +kernel) rfl rfl rfl (Nat.le_of_ble_eq_true rfl) (by decide) (by decide) (by decide) (by decide) rfl d7_67 ?_
  rintro T h _ S ⟨rfl, Fx4, Ex4, K2⟩
  replace E := E.keep K2
  replace U := own_Ukeep U K2
  replace Fc := Fc.keep K2 (ninS nb_x4 nin0)
  replace Ae := own_Akeep Ae K2 (ninS nea_x4 nin0)
  replace Fe := Fe.keep K2 (ninS nb_x4 nin0)
  replace As := own_Akeep As K2 (ninS nsa_x4 nin0)
  replace Fs := Fs.keep K2 (ninS nb_x4 nin0)
  replace Fo := Fo.keep K2 (ninS noa_x4 nin0)
  replace Eo := Eo.keep K2
  replace Fp := Fp.keep K2 (ninS nb_x4 nin0)
  clear K2 U_x4 D_
  obtain ⟨_, Fold⟩ := fld_laid E U (hw _ (List.mem_of_getElem? (i := 1) rfl)) (Or.inr (hw _ (List.mem_of_getElem? (i := 55) rfl)))
  refine own_putfield (pc' := 73) (ty := (.object "java/util/BitSet")) S (List.mem_of_getElem? (i := 54) rfl) Fold E (Or.inr ⟨(List.mem_of_getElem? (i := 55) rfl), rfl, rfl⟩) (List.mem_of_getElem? (i := 1) rfl) (by decide +kernel) rfl rfl hb0 rfl d7_70 ?_
  clear Fold
  intro T h S W F_
  replace E := Exa.wr W E
  replace U := own_Uwr U W
  replace Fc := Fld.other W Fc (Or.inr (slot_ne (t := .int) (t' := (.object "java/util/BitSet")) (Or.inl (hw _ (List.mem_of_getElem? (i := 85) rfl))) (Or.inr (hw _ (List.mem_of_getElem? (i := 55) rfl))) (by decide) (by decide +kernel) (by decide +kernel)))
  replace Ae := own_Awr Ae W nea
  replace Fe := Fld.other W Fe (Or.inr (slot_ne (t := (.array .int)) (t' := (.object "java/util/BitSet")) (Or.inl (hw _ (List.mem_of_getElem? (i := 11) rfl))) (Or.inr (hw _ (List.mem_of_getElem? (i := 55) rfl))) (by decide) (by decide +kernel) (by decide +kernel)))
  replace As := own_Awr As W nsa
  replace Fs := Fld.other W Fs (Or.inr (slot_ne (t := (.array .byte)) (t' := (.object "java/util/BitSet")) (Or.inl (hw _ (List.mem_of_getElem? (i := 14) rfl))) (Or.inr (hw _ (List.mem_of_getElem? (i := 55) rfl))) (by decide) (by decide +kernel) (by decide +kernel)))
  replace Fo := Fld.other W Fo (Or.inl noa)
  replace Eo := Exa.wr W Eo
  replace Fp := Fld.other W Fp (Or.inr (slot_ne (t := (.object "java/util/BitSet")) (t' := (.object "java/util/BitSet")) (Or.inr (hw _ (List.mem_of_getElem? (i := 38) rfl))) (Or.inr (hw _ (List.mem_of_getElem? (i := 55) rfl))) (by decide) (by decide +kernel) (by decide +kernel)))
  clear F_
  refine own_aloadN (pc' := 74) S rfl d7_73 rfl rfl ?_
  have blt := Exa.lt E
  have elt := own_Alt Ae
  have slt := own_Alt As
  have olt := Exa.lt Eo
  refine own_new (pc' := 77) S (List.mem_of_getElem? (i := 56) rfl) (List.mem_of_getElem? (i := 57) rfl) (List.mem_of_getElem? (i := 58) rfl) (by decide) (by decide) rfl d7_74 ?_
  intro T h x5 hx5 x50 S Ex Ex_x5 D_
  have nb_x5 : b ≠ x5 := by rw [hx5]; exact Nat.ne_of_lt blt
  have nea_x5 : ea ≠ x5 := by rw [hx5]; exact Nat.ne_of_lt elt
  have nsa_x5 : sa ≠ x5 := by rw [hx5]; exact Nat.ne_of_lt slt
  have noa_x5 : oa ≠ x5 := by rw [hx5]; exact Nat.ne_of_lt olt
  replace E := E.ext Ex
  replace U := own_Uext U Ex
  replace Fc := Fc.ext Ex
  replace Ae := own_Aext Ae Ex
  replace Fe := Fe.ext Ex
  replace As := own_Aext As Ex
  replace Fs := Fs.ext Ex
  replace Fo := Fo.ext Ex
  replace Eo := Eo.ext Ex
  replace Fp := Fp.ext Ex
  have U_x5 := own_Uof (D_ (Or.inl (List.mem_of_getElem? (i := 72) rfl)) (ty := (.array (.object "java/lang/Object"))) (by decide +kernel))
  refine own_dup (pc' := 78) S rfl d7_77 rfl ?_
  refine own_callI (pc' := 81) (yy := own_y6) (rm := ({ frames := 2, cells := 1, slots := 17, locals := 24 } : Room)) (W := 2) [] [(.ref x5), (.ref b)] (b := x5) S (List.mem_of_getElem? (i := 59) rfl) (List.mem_of_getElem? (i := 60) rfl) (List.mem_of_getElem? (i := 58) rfl) (List.mem_of_getElem? (i := 61) rfl) rfl (by decide) (own_m6 l Z a0 hw _ n0 (own_size S) x5 x50 Ex_x5 U_x5) (ps := []) (r' := none) (by decide +kernel) rfl rfl rfl (Nat.le_of_ble_eq_true rfl) (by decide) (by decide) (by decide) (by decide) rfl d7_78 ?_
  rintro T h _ S ⟨rfl, K2⟩
  replace E := E.keep K2
  replace U := own_Ukeep U K2
  replace Fc := Fc.keep K2 (ninS nb_x5 nin0)
  replace Ae := own_Akeep Ae K2 (ninS nea_x5 nin0)
  replace Fe := Fe.keep K2 (ninS nb_x5 nin0)
  replace As := own_Akeep As K2 (ninS nsa_x5 nin0)
  replace Fs := Fs.keep K2 (ninS nb_x5 nin0)
  replace Fo := Fo.keep K2 (ninS noa_x5 nin0)
  replace Eo := Eo.keep K2
  replace Fp := Fp.keep K2 (ninS nb_x5 nin0)
  clear K2 U_x5 Ex_x5 D_
  obtain ⟨_, Fold⟩ := fld_laid E U (hw _ (List.mem_of_getElem? (i := 1) rfl)) (Or.inr (hw _ (List.mem_of_getElem? (i := 74) rfl)))
  refine own_putfield (pc' := 84) (ty := (.object "java/util/ArrayDeque")) S (List.mem_of_getElem? (i := 73) rfl) Fold E (Or.inr ⟨(List.mem_of_getElem? (i := 74) rfl), rfl, rfl⟩) (List.mem_of_getElem? (i := 1) rfl) (by decide +kernel) rfl rfl hb0 rfl d7_81 ?_
  clear Fold
  intro T h S W F_
  replace E := Exa.wr W E
  replace U := own_Uwr U W
  replace Fc := Fld.other W Fc (Or.inr (slot_ne (t := .int) (t' := (.object "java/util/ArrayDeque")) (Or.inl (hw _ (List.mem_of_getElem? (i := 85) rfl))) (Or.inr (hw _ (List.mem_of_getElem? (i := 74) rfl))) (by decide) (by decide +kernel) (by decide +kernel)))
  replace Ae := own_Awr Ae W nea
  replace Fe := Fld.other W Fe (Or.inr (slot_ne (t := (.array .int)) (t' := (.object "java/util/ArrayDeque")) (Or.inl (hw _ (List.mem_of_getElem? (i := 11) rfl))) (Or.inr (hw _ (List.mem_of_getElem? (i := 74) rfl))) (by decide) (by decide +kernel) (by decide +kernel)))
  replace As := own_Awr As W nsa
  replace Fs := Fld.other W Fs (Or.inr (slot_ne (t := (.array .byte)) (t' := (.object "java/util/ArrayDeque")) (Or.inl (hw _ (List.mem_of_getElem? (i := 14) rfl))) (Or.inr (hw _ (List.mem_of_getElem? (i := 74) rfl))) (by decide) (by decide +kernel) (by decide +kernel)))
  replace Fo := Fld.other W Fo (Or.inl noa)
  replace Eo := Exa.wr W Eo
  replace Fp := Fld.other W Fp (Or.inr (slot_ne (t := (.object "java/util/BitSet")) (t' := (.object "java/util/ArrayDeque")) (Or.inr (hw _ (List.mem_of_getElem? (i := 38) rfl))) (Or.inr (hw _ (List.mem_of_getElem? (i := 74) rfl))) (by decide) (by decide +kernel) (by decide +kernel)))
  clear F_
  refine own_aloadN (pc' := 85) S rfl d7_84 rfl rfl ?_
  refine own_iloadN (pc' := 86) S rfl d7_85 rfl ?_
  obtain ⟨_, Fold⟩ := fld_laid E U (hw _ (List.mem_of_getElem? (i := 1) rfl)) (Or.inr (hw _ (List.mem_of_getElem? (i := 76) rfl)))
  refine own_putfield (pc' := 89) (ty := .int) S (List.mem_of_getElem? (i := 75) rfl) Fold E (Or.inr ⟨(List.mem_of_getElem? (i := 76) rfl), rfl, rfl⟩) (List.mem_of_getElem? (i := 1) rfl) (by decide +kernel) rfl rfl hb0 rfl d7_86 ?_
  clear Fold
  intro T h S W F_
  replace E := Exa.wr W E
  replace U := own_Uwr U W
  replace Fc := Fld.other W Fc (Or.inr (slot_ne (t := .int) (t' := .int) (Or.inl (hw _ (List.mem_of_getElem? (i := 85) rfl))) (Or.inr (hw _ (List.mem_of_getElem? (i := 76) rfl))) (by decide) (by decide +kernel) (by decide +kernel)))
  replace Ae := own_Awr Ae W nea
  replace Fe := Fld.other W Fe (Or.inr (slot_ne (t := (.array .int)) (t' := .int) (Or.inl (hw _ (List.mem_of_getElem? (i := 11) rfl))) (Or.inr (hw _ (List.mem_of_getElem? (i := 76) rfl))) (by decide) (by decide +kernel) (by decide +kernel)))
  replace As := own_Awr As W nsa
  replace Fs := Fld.other W Fs (Or.inr (slot_ne (t := (.array .byte)) (t' := .int) (Or.inl (hw _ (List.mem_of_getElem? (i := 14) rfl))) (Or.inr (hw _ (List.mem_of_getElem? (i := 76) rfl))) (by decide) (by decide +kernel) (by decide +kernel)))
  replace Fo := Fld.other W Fo (Or.inl noa)
  replace Eo := Exa.wr W Eo
  replace Fp := Fld.other W Fp (Or.inr (slot_ne (t := (.object "java/util/BitSet")) (t' := .int) (Or.inr (hw _ (List.mem_of_getElem? (i := 38) rfl))) (Or.inr (hw _ (List.mem_of_getElem? (i := 76) rfl))) (by decide) (by decide +kernel) (by decide +kernel)))
  clear F_
  refine own_aloadN (pc' := 90) S rfl d7_89 rfl rfl ?_
  refine own_iloadN (pc' := 91) S rfl d7_90 rfl ?_
  obtain ⟨_, Fold⟩ := fld_laid E U (hw _ (List.mem_of_getElem? (i := 1) rfl)) (Or.inr (hw _ (List.mem_of_getElem? (i := 78) rfl)))
  refine own_putfield (pc' := 94) (ty := .int) S (List.mem_of_getElem? (i := 77) rfl) Fold E (Or.inr ⟨(List.mem_of_getElem? (i := 78) rfl), rfl, rfl⟩) (List.mem_of_getElem? (i := 1) rfl) (by decide +kernel) rfl rfl hb0 rfl d7_91 ?_
  clear Fold
  intro T h S W F_
  replace E := Exa.wr W E
  replace U := own_Uwr U W
  replace Fc := Fld.other W Fc (Or.inr (slot_ne (t := .int) (t' := .int) (Or.inl (hw _ (List.mem_of_getElem? (i := 85) rfl))) (Or.inr (hw _ (List.mem_of_getElem? (i := 78) rfl))) (by decide) (by decide +kernel) (by decide +kernel)))
  replace Ae := own_Awr Ae W nea
  replace Fe := Fld.other W Fe (Or.inr (slot_ne (t := (.array .int)) (t' := .int) (Or.inl (hw _ (List.mem_of_getElem? (i := 11) rfl))) (Or.inr (hw _ (List.mem_of_getElem? (i := 78) rfl))) (by decide) (by decide +kernel) (by decide +kernel)))
  replace As := own_Awr As W nsa
  replace Fs := Fld.other W Fs (Or.inr (slot_ne (t := (.array .byte)) (t' := .int) (Or.inl (hw _ (List.mem_of_getElem? (i := 14) rfl))) (Or.inr (hw _ (List.mem_of_getElem? (i := 78) rfl))) (by decide) (by decide +kernel) (by decide +kernel)))
  replace Fo := Fld.other W Fo (Or.inl noa)
  replace Eo := Exa.wr W Eo
  replace Fp := Fld.other W Fp (Or.inr (slot_ne (t := (.object "java/util/BitSet")) (t' := .int) (Or.inr (hw _ (List.mem_of_getElem? (i := 38) rfl))) (Or.inr (hw _ (List.mem_of_getElem? (i := 78) rfl))) (by decide) (by decide +kernel) (by decide +kernel)))
  clear F_
  exact own_ret  S d7_94 (by decide) (by decide) ⟨rfl, ea, sa, oa, ⟨E, Fe, Fs, Fp, Fc, Eo, Fo⟩, ⟨hb0, ea0, sa0, nea, nsa, noa, nea_sa, nea_oa, nsa_oa⟩, Ae, As⟩
theorem own_ef8 (m : MethodId) (z0 : Addr) (z1 : Int32) : entryFrame m #[(.ref z0), (.int z1)] 3 = mkF m 0 #[.val (.ref z0), .val (.int z1), .unset] [] := by first | (simp [entryFrame, mkF, argsToLocals, Value.category]; done) | rfl
set_option maxRecDepth 65536 in
set_option maxHeartbeats 40000000 in
theorem own_m8 (l : Launch) (Z : State) (a0 : Array Value) (hw : ∀ d ∈ tables_1, d.before a0 Z = true) (h0 : Heap) (n0 : Nat) (hn : n0 ≤ h0.size) (oa : Addr) (w : Nat) (hw2 : w < 2) (Fo : Fld Z h0 oa "java/util/BitSet" "wordsInUse" "I" (.int 0)) :
    own_Met l Z h0 n0 own_y8 jdk_92_method_23_code 3 none [] ({ frames := 1, cells := 0, slots := 0, locals := 13 } : Room) #[(.ref oa), (.int (Int32.ofNat w))] (own_N fun h => h0 = h) := by
  refine own_met (ls := #[.val (.ref oa), .val (.int (Int32.ofNat w)), .unset]) own_pn8 (fun m => own_ef8 m _ _) hn hw fun p e s m below meth c T S => ?_
  have tw := own_tn (i := w) (by omega)
  have hsh : ∀ v, v < 2 → (0 : Int32).toInt ≤ (Int32.ofNat v >>> ((6 : Int32) &&& 31)).toInt := by decide +kernel
  have k0 : (0 : Int32).toInt = 0 := rfl
  refine own_iloadN (pc' := 1) S rfl d8_0 rfl ?_
  refine own_ifY (pc' := 31) S (by decide) rfl d8_1 ((if0 _ _).trans (own_t_ge (by omega))) ?_
  refine own_iloadN (pc' := 32) S rfl d8_31 rfl ?_
  refine own_callS (pc' := 35) (yy := own_y1) (rm := ({ frames := 0, cells := 0, slots := 0, locals := 0 } : Room)) (W := 1) [(.int (Int32.ofNat w))] [] S (List.mem_of_getElem? (i := 31) rfl) (List.mem_of_getElem? (i := 32) rfl) (List.mem_of_getElem? (i := 17) rfl) (List.mem_of_getElem? (i := 33) rfl) (by decide) (own_m1 l Z a0 hw _ n0 (own_size S) (Int32.ofNat w)) (ps := [.int]) (r' := some .int) (by decide +kernel) rfl rfl rfl (Nat.le_of_ble_eq_true rfl) (by decide) (by decide) (by decide) (by decide) rfl d8_32 ?_
  rintro T h2 _ S ⟨_, rfl, rfl, rfl⟩
  refine own_istoreN (ls' := #[.val (.ref oa), .val (.int (Int32.ofNat w)), .val (.int ((Int32.ofNat w) >>> ((6 : Int32) &&& 31)))]) (pc' := 36) S rfl d8_35 rfl ?_
  refine own_iloadN (pc' := 37) S rfl d8_36 rfl ?_
  refine own_aloadN (pc' := 38) S rfl d8_37 rfl rfl ?_
  refine own_getfield (pc' := 41) S (List.mem_of_getElem? (i := 22) rfl) Fo rfl d8_38 fun T S => ?_
  refine own_icN (pc' := 44) S rfl d8_41 (own_f_lt (hsh w hw2)) ?_
  exact own_ret  S d8_44 (by decide) (by decide) ⟨rfl, rfl⟩
theorem own_ef9 (m : MethodId) (z0 : Addr) (z1 : Int32) (z2 : Int32) (z3 : Int32) : entryFrame m #[(.ref z0), (.int z1), (.int z2), (.int z3)] 5 = mkF m 0 #[.val (.ref z0), .val (.int z1), .val (.int z2), .val (.int z3), .unset] [] := by first | (simp [entryFrame, mkF, argsToLocals, Value.category]; done) | rfl
set_option maxRecDepth 65536 in
set_option maxHeartbeats 40000000 in
theorem own_m9 (l : Launch) (Z : State) (a0 : Array Value) (hw : ∀ d ∈ tables_1, d.before a0 Z = true) (h0 : Heap) (n0 : Nat) (hn : n0 ≤ h0.size) (b ea sa oa : Addr) (cnt : Nat) (Ef : Nat → Int32) (Sf : Nat → Nat) (hsep : own_Sep n0 b ea sa oa) (P : own_P Z h0 b ea sa oa cnt) (Ae : own_A Z h0 ea .int 512 (fun j => .int (Ef j))) (As : own_A Z h0 sa .byte 64 (fun j => .int (Int32.ofNat (Sf j)))) (w : Nat) (x1 y1 : Int32) (hw2 : w < 2) (hz : Sf w < 4) :
    own_Met l Z h0 n0 own_y9 prog_7_method_6_code 5 none [] ({ frames := 2, cells := 0, slots := 0, locals := 27 } : Room) #[(.ref b), (.int (Int32.ofNat w)), (.int x1), (.int y1)] (own_N fun h => own_P Z h b ea sa oa cnt ∧ own_A Z h ea .int 512 (fun j => .int ((own_u2 Ef (8 * w + 2 * Sf w) x1 y1) j)) ∧ own_A Z h sa .byte 64 (fun j => .int (Int32.ofNat ((own_zs Sf w (Sf w + 1)) j))) ∧ Keep h0 h [ea, sa]) := by
  refine own_met (ls := #[.val (.ref b), .val (.int (Int32.ofNat w)), .val (.int x1), .val (.int y1), .unset]) own_pn9 (fun m => own_ef9 m _ _ _ _) hn hw fun p e s m below meth c T S => ?_
  obtain ⟨s1, s2, s3, s4, s5, s6, s7, s8, s9⟩ := hsep
  have tw := own_tn (i := w) (by omega)
  have tz := own_tn (i := Sf w) (by omega)
  have K := Keep.refl h0 [ea, sa]
  refine own_aloadN (pc' := 1) S rfl d9_0 rfl rfl ?_
  refine own_getfield (pc' := 4) S (List.mem_of_getElem? (i := 13) rfl) P.2.2.1 rfl d9_1 fun T S => ?_
  refine own_iloadN (pc' := 5) S rfl d9_4 rfl ?_
  refine own_baloadB (pc' := 6) (w := (Int32.ofNat (Sf w))) S As (k := w) tw (by omega) rfl rfl d9_5 ?_
  refine own_istore (ls' := #[.val (.ref b), .val (.int (Int32.ofNat w)), .val (.int x1), .val (.int y1), .val (.int (Int32.ofNat (Sf w)))]) (pc' := 8) S rfl d9_6 rfl ?_
  refine own_iload (pc' := 10) S rfl d9_8 rfl ?_
  refine own_iconst (4 : Int32) (pc' := 11) S rfl d9_10 rfl ?_
  refine own_icY (pc' := 28) S (by decide) rfl d9_11 (own_t_ne (fun q => by have := congrArg Int32.toInt q; have k4 : (4 : Int32).toInt = 4 := rfl; omega)) ?_
  refine own_aloadN (pc' := 29) S rfl d9_28 rfl rfl ?_
  refine own_getfield (pc' := 32) S (List.mem_of_getElem? (i := 10) rfl) P.2.1 rfl d9_29 fun T S => ?_
  refine own_bipush (8 : Int32) (pc' := 34) S rfl d9_32 rfl ?_
  refine own_iloadN (pc' := 35) S rfl d9_34 rfl ?_
  refine own_imul (pc' := 36) S rfl d9_35 ?_
  rw [show (8 : Int32) * Int32.ofNat w = Int32.ofNat (8 * w) from own_mulN 8 w]
  refine own_iconst (2 : Int32) (pc' := 37) S rfl d9_36 rfl ?_
  refine own_iload (pc' := 39) S rfl d9_37 rfl ?_
  refine own_imul (pc' := 40) S rfl d9_39 ?_
  rw [own_two]
  refine own_iadd (pc' := 41) S rfl d9_40 ?_
  rw [own_addN]
  refine own_iloadN (pc' := 42) S rfl d9_41 rfl ?_
  refine own_iastore (pc' := 43) S Ae (k := 8 * w + 2 * Sf w) (own_tn (by omega)) (by omega) s2 rfl d9_42 ?_
  clear Ae
  intro T h S W Ae
  replace P := own_Pwr P W s4.symm s8.symm
  replace As := own_Awr As W s7.symm
  replace K := K.wr W (Or.inl (List.mem_of_getElem? (i := 0) rfl))
  refine own_aloadN (pc' := 44) S rfl d9_43 rfl rfl ?_
  refine own_getfield (pc' := 47) S (List.mem_of_getElem? (i := 10) rfl) P.2.1 rfl d9_44 fun T S => ?_
  refine own_bipush (8 : Int32) (pc' := 49) S rfl d9_47 rfl ?_
  refine own_iloadN (pc' := 50) S rfl d9_49 rfl ?_
  refine own_imul (pc' := 51) S rfl d9_50 ?_
  rw [show (8 : Int32) * Int32.ofNat w = Int32.ofNat (8 * w) from own_mulN 8 w]
  refine own_iconst (2 : Int32) (pc' := 52) S rfl d9_51 rfl ?_
  refine own_iload (pc' := 54) S rfl d9_52 rfl ?_
  refine own_imul (pc' := 55) S rfl d9_54 ?_
  rw [own_two]
  refine own_iadd (pc' := 56) S rfl d9_55 ?_
  rw [own_addN]
  refine own_iconst (1 : Int32) (pc' := 57) S rfl d9_56 rfl ?_
  refine own_iadd (pc' := 58) S rfl d9_57 ?_
  rw [own_one]
  refine own_iloadN (pc' := 59) S rfl d9_58 rfl ?_
  refine own_iastore (pc' := 60) S Ae (k := 8 * w + 2 * Sf w + 1) (own_tn (by omega)) (by omega) s2 rfl d9_59 ?_
  clear Ae
  intro T h S W Ae
  replace Ae := own_Aof Ae (own_up2 _ _ _ _)
  replace P := own_Pwr P W s4.symm s8.symm
  replace As := own_Awr As W s7.symm
  replace K := K.wr W (Or.inl (List.mem_of_getElem? (i := 0) rfl))
  refine own_aloadN (pc' := 61) S rfl d9_60 rfl rfl ?_
  refine own_getfield (pc' := 64) S (List.mem_of_getElem? (i := 13) rfl) P.2.2.1 rfl d9_61 fun T S => ?_
  refine own_iloadN (pc' := 65) S rfl d9_64 rfl ?_
  refine own_dup2 (pc' := 66) S rfl d9_65 rfl rfl ?_
  refine own_baloadB (pc' := 67) (w := (Int32.ofNat (Sf w))) S As (k := w) tw (by omega) rfl rfl d9_66 ?_
  refine own_iconst (1 : Int32) (pc' := 68) S rfl d9_67 rfl ?_
  refine own_iadd (pc' := 69) S rfl d9_68 ?_
  refine own_i2b (pc' := 70) S rfl d9_69 ?_
  refine own_bastoreB (pc' := 71) S As (k := w) tw (by omega) s3 rfl d9_70 ?_
  clear As
  intro T h S W As
  rw [own_b8 _ (by omega)] at As W
  replace As := own_Aof As (own_upz _ _ _)
  replace P := own_Pwr P W s5.symm s9.symm
  replace Ae := own_Awr Ae W s7
  replace K := K.wr W (Or.inl (List.mem_of_getElem? (i := 1) rfl))
  refine own_aloadN (pc' := 72) S rfl d9_71 rfl rfl ?_
  refine own_getfield (pc' := 75) S (List.mem_of_getElem? (i := 37) rfl) P.2.2.2.1 rfl d9_72 fun T S => ?_
  refine own_iloadN (pc' := 76) S rfl d9_75 rfl ?_
  refine own_callV (pc' := 79) (yy := own_y8) (rm := ({ frames := 1, cells := 0, slots := 0, locals := 13 } : Room)) (W := 0) [(.int (Int32.ofNat w))] [] (b := oa) S (List.mem_of_getElem? (i := 91) rfl) (List.mem_of_getElem? (i := 92) rfl) (List.mem_of_getElem? (i := 94) rfl) (List.mem_of_getElem? (i := 93) rfl) (List.mem_of_getElem? (i := 17) rfl) (List.mem_of_getElem? (i := 95) rfl) (by decide) P.2.2.2.2.2.1 (own_m8 l Z a0 hw _ n0 (own_size S) oa w hw2 P.2.2.2.2.2.2) (ps := [.int]) (r' := none) (by decide +kernel) rfl rfl rfl (Nat.le_of_ble_eq_true rfl) (by decide) (by decide) (by decide) (by decide) rfl d9_76 ?_
  rintro T h2 _ S ⟨rfl, rfl⟩
  exact own_ret  S d9_79 (by decide) (by decide) ⟨rfl, P, Ae, As, K⟩
set_option maxRecDepth 65536 in
set_option maxHeartbeats 40000000 in
theorem own_lpA {p : Program} {l : Launch} {e : Env} {s : State} {m : MethodId} {args : Array Value} {below : List Frame} {meth : Method} {c : Code} {Z : State} {a0 : Array Value} {n0 : Nat} {b ea sa oa ar : Addr} {cnt k : Nat} {Ef f : Nat → Int32} {Sf : Nat → Nat} (hsep : own_Sep n0 b ea sa oa) (hk : k < 5) (hc2 : cnt < 2) (nae : ar ≠ ea) (nas : ar ≠ sa) :
    ∀ q i T h, i + q = k → own_S p l e s m args below meth c Z a0 n0 own_y10 prog_7_method_2_code 4 (some .int) ({ frames := 3, cells := 0, slots := 0, locals := 50 } : Room) T h 0 0 → own_P Z h b ea sa oa (cnt + 1) → own_A Z h ar .int (2 * k) (fun j => .int (f j)) → own_A Z h ea .int 512 (fun j => .int ((own_e8f Ef cnt i f) j)) → own_A Z h sa .byte 64 (fun j => .int (Int32.ofNat ((own_zs Sf cnt i) j))) → own_G p e s below ({ frames := 3, cells := 0, slots := 0, locals := 50 } : Room) n0 (own_V fun w h => w = .int (Int32.ofNat cnt) ∧ own_P Z h b ea sa oa (cnt + 1) ∧ own_A Z h ea .int 512 (fun j => .int ((own_e8f Ef cnt k f) j)) ∧ own_A Z h sa .byte 64 (fun j => .int (Int32.ofNat ((own_zs Sf cnt k) j)))) T (mkF m 78 #[.val (.ref b), .val (.ref ar), .val (.int (Int32.ofNat cnt)), .val (.int (Int32.ofNat (2 * i)))] []) := by
  intro q
  induction q with
  | zero =>
    intro i T h hi S P Ar Ae As
    have hw := own_word S
    have ti := own_tn (i := 2 * i) (by omega)
    have tk := own_tn (i := 2 * k) (by omega)
    refine own_iloadN (pc' := 79) S rfl d10_78 rfl ?_
    refine own_aloadN (pc' := 80) S rfl d10_79 rfl rfl ?_
    refine own_alen (pc' := 81) (w := (Int32.ofNat (2 * k))) S Ar tk rfl d10_80 ?_
    refine own_icY (pc' := 103) S (by decide) rfl d10_81 (own_t_ge (by omega)) ?_
    refine own_iloadN (pc' := 104) S rfl d10_103 rfl ?_
    exact own_retI  S d10_104 (by decide) (by decide) ⟨_, rfl, rfl, P, (by have e : i = k := (by omega); subst e; exact ⟨Ae, As⟩)⟩
  | succ q ih =>
    intro i T h hi S P Ar Ae As
    have hw := own_word S
    have ti := own_tn (i := 2 * i) (by omega)
    have tk := own_tn (i := 2 * k) (by omega)
    have ti1 := own_tn (i := 2 * i + 1) (by omega)
    have zi : own_zs Sf cnt i cnt = i := by unfold own_zs; rw [if_pos rfl]
    refine own_iloadN (pc' := 79) S rfl d10_78 rfl ?_
    refine own_aloadN (pc' := 80) S rfl d10_79 rfl rfl ?_
    refine own_alen (pc' := 81) (w := (Int32.ofNat (2 * k))) S Ar tk rfl d10_80 ?_
    refine own_icN (pc' := 84) S rfl d10_81 (own_f_ge (by omega)) ?_
    refine own_aloadN (pc' := 85) S rfl d10_84 rfl rfl ?_
    refine own_iloadN (pc' := 86) S rfl d10_85 rfl ?_
    refine own_aloadN (pc' := 87) S rfl d10_86 rfl rfl ?_
    refine own_iloadN (pc' := 88) S rfl d10_87 rfl ?_
    refine own_iaload (pc' := 89) (w := (f (2 * i))) S Ar (k := 2 * i) ti (by omega) rfl rfl d10_88 ?_
    refine own_aloadN (pc' := 90) S rfl d10_89 rfl rfl ?_
    refine own_iloadN (pc' := 91) S rfl d10_90 rfl ?_
    refine own_iconst (1 : Int32) (pc' := 92) S rfl d10_91 rfl ?_
    refine own_iadd (pc' := 93) S rfl d10_92 ?_
    rw [own_one]
    refine own_iaload (pc' := 94) (w := (f (2 * i + 1))) S Ar (k := 2 * i + 1) ti1 (by omega) rfl rfl d10_93 ?_
    refine own_callV (pc' := 97) (yy := own_y9) (rm := ({ frames := 2, cells := 0, slots := 0, locals := 27 } : Room)) (W := 0) [(.int (Int32.ofNat cnt)), (.int (f (2 * i))), (.int (f (2 * i + 1)))] [] (b := b) S (List.mem_of_getElem? (i := 86) rfl) (List.mem_of_getElem? (i := 87) rfl) (List.mem_of_getElem? (i := 89) rfl) (List.mem_of_getElem? (i := 88) rfl) (List.mem_of_getElem? (i := 2) rfl) (List.mem_of_getElem? (i := 90) rfl) (by decide) P.1 (own_m9 l Z a0 hw _ n0 (own_size S) b ea sa oa (cnt + 1) _ _ hsep P Ae As cnt (f (2 * i)) (f (2 * i + 1)) hc2 (by rw [zi]; omega)) (ps := [.int, .int, .int]) (r' := none) (by decide +kernel) rfl rfl rfl (Nat.le_of_ble_eq_true rfl) (by decide) (by decide) (by decide) (by decide) rfl d10_94 ?_
    rintro T h _ S ⟨rfl, P, Ae, As, K⟩
    rw [zi, own_e8fs] at Ae
    rw [zi, own_zss] at As
    replace Ar := own_Akeep Ar K (ninS nae (ninS nas nin0))
    refine own_iinc (2 : Int32) (ls' := #[.val (.ref b), .val (.ref ar), .val (.int (Int32.ofNat cnt)), .val (.int ((Int32.ofNat (2 * i)) + (2 : Int32)))]) (pc' := 100) S rfl d10_97 rfl rfl rfl ?_
    refine own_goto (pc' := 78) S (by decide) rfl d10_100 ?_
    rw [show Int32.ofNat (2 * i) + (2 : Int32) = Int32.ofNat (2 * (i + 1)) from own_addN (2 * i) 2]
    exact ih (i + 1) T h (by omega) S P Ar Ae As
theorem own_ef10 (m : MethodId) (z0 : Addr) (z1 : Addr) : entryFrame m #[(.ref z0), (.ref z1)] 4 = mkF m 0 #[.val (.ref z0), .val (.ref z1), .unset, .unset] [] := by first | (simp [entryFrame, mkF, argsToLocals, Value.category]; done) | rfl
set_option maxRecDepth 65536 in
set_option maxHeartbeats 40000000 in
theorem own_m10 (l : Launch) (Z : State) (a0 : Array Value) (hw : ∀ d ∈ tables_1, d.before a0 Z = true) (h0 : Heap) (n0 : Nat) (hn : n0 ≤ h0.size) (b ea sa oa : Addr) (cnt : Nat) (Ef : Nat → Int32) (Sf : Nat → Nat) (hsep : own_Sep n0 b ea sa oa) (P : own_P Z h0 b ea sa oa cnt) (Ae : own_A Z h0 ea .int 512 (fun j => .int (Ef j))) (As : own_A Z h0 sa .byte 64 (fun j => .int (Int32.ofNat (Sf j)))) (ar : Addr) (k : Nat) (f : Nat → Int32) (hk : k < 5) (hc2 : cnt < 2) (hS0 : Sf cnt = 0) (nab : ar ≠ b) (nae : ar ≠ ea) (nas : ar ≠ sa) (Ar : own_A Z h0 ar .int (2 * k) (fun j => .int (f j))) :
    own_Met l Z h0 n0 own_y10 prog_7_method_2_code 4 (some .int) [] ({ frames := 3, cells := 0, slots := 0, locals := 50 } : Room) #[(.ref b), (.ref ar)] (own_V fun w h => w = .int (Int32.ofNat cnt) ∧ own_P Z h b ea sa oa (cnt + 1) ∧ own_A Z h ea .int 512 (fun j => .int ((own_e8f Ef cnt k f) j)) ∧ own_A Z h sa .byte 64 (fun j => .int (Int32.ofNat ((own_zs Sf cnt k) j)))) := by
  refine own_met (ls := #[.val (.ref b), .val (.ref ar), .unset, .unset]) own_pn10 (fun m => own_ef10 m _ _) hn hw fun p e s m below meth c T S => ?_
  have tc := own_tn (i := cnt) (by omega)
  have hsep' := hsep
  obtain ⟨s1, s2, s3, s4, s5, s6, s7, s8, s9⟩ := hsep
  refine own_aloadN (pc' := 1) S rfl d10_0 rfl rfl ?_
  refine own_getfield (pc' := 4) S (List.mem_of_getElem? (i := 84) rfl) P.2.2.2.2.1 rfl d10_1 fun T S => ?_
  refine own_aloadN (pc' := 5) S rfl d10_4 rfl rfl ?_
  refine own_getfield (pc' := 8) S (List.mem_of_getElem? (i := 13) rfl) P.2.2.1 rfl d10_5 fun T S => ?_
  refine own_alen (pc' := 9) (w := (64 : Int32)) S As rfl rfl d10_8 ?_
  refine own_icY (pc' := 64) S (by decide) rfl d10_9 (own_t_ne (fun q => by have := congrArg Int32.toInt q; have k4 : (64 : Int32).toInt = 64 := rfl; omega)) ?_
  refine own_aloadN (pc' := 65) S rfl d10_64 rfl rfl ?_
  refine own_dup (pc' := 66) S rfl d10_65 rfl ?_
  refine own_getfield (pc' := 69) S (List.mem_of_getElem? (i := 84) rfl) P.2.2.2.2.1 rfl d10_66 fun T S => ?_
  refine own_dupx1 (pc' := 70) S rfl d10_69 rfl rfl ?_
  refine own_iconst (1 : Int32) (pc' := 71) S rfl d10_70 rfl ?_
  refine own_iadd (pc' := 72) S rfl d10_71 ?_
  rw [own_one]
  refine own_putfield (pc' := 75) (ty := .int) S (List.mem_of_getElem? (i := 84) rfl) P.2.2.2.2.1 P.1 (Or.inl (List.mem_of_getElem? (i := 85) rfl)) (List.mem_of_getElem? (i := 1) rfl) (by decide +kernel) rfl rfl s1 rfl d10_72 ?_
  intro T h S W F_
  replace P := own_Pcnt hw P s6 W
  replace Ae := own_Awr Ae W s4
  replace As := own_Awr As W s5
  replace Ar := own_Awr Ar W nab
  refine own_istoreN (ls' := #[.val (.ref b), .val (.ref ar), .val (.int (Int32.ofNat cnt)), .unset]) (pc' := 76) S rfl d10_75 rfl ?_
  refine own_iconst (0 : Int32) (pc' := 77) S rfl d10_76 rfl ?_
  refine own_istoreN (ls' := #[.val (.ref b), .val (.ref ar), .val (.int (Int32.ofNat cnt)), .val (.int (0 : Int32))]) (pc' := 78) S rfl d10_77 rfl ?_
  refine own_lpA hsep' hk hc2 nae nas k 0 T h (by omega) S P Ar ?_ ?_
  · rw [own_e8fz]; exact Ae
  · rw [own_zsz hS0]; exact As
def own_F (k : Nat) (a b c e u : Int32) (j : Nat) : Int32 := if j = 2 * (k - 1) then a else if j = 2 * (k - 1) + 1 then b else if j = 0 then c else if j = 1 then e else if j = 2 then e else if j = 3 then c else if j = 4 then u else e
theorem own_ef15 (m : MethodId) (z0 : Addr) (z1 : Int32) (z2 : Int32) (z3 : Int32) (z4 : Int32) (z5 : Int32) (z6 : Int32) : entryFrame m #[(.ref z0), (.int z1), (.int z2), (.int z3), (.int z4), (.int z5), (.int z6)] 7 = mkF m 0 #[.val (.ref z0), .val (.int z1), .val (.int z2), .val (.int z3), .val (.int z4), .val (.int z5), .val (.int z6)] [] := by first | (simp [entryFrame, mkF, argsToLocals, Value.category]; done) | rfl
set_option maxRecDepth 65536 in
set_option maxHeartbeats 40000000 in
theorem own_m15 (l : Launch) (Z : State) (a0 : Array Value) (hw : ∀ d ∈ tables_1, d.before a0 Z = true) (h0 : Heap) (n0 : Nat) (hn : n0 ≤ h0.size) (b ea sa oa : Addr) (cnt : Nat) (Ef : Nat → Int32) (Sf : Nat → Nat) (hsep : own_Sep n0 b ea sa oa) (P : own_P Z h0 b ea sa oa cnt) (Ae : own_A Z h0 ea .int 512 (fun j => .int (Ef j))) (As : own_A Z h0 sa .byte 64 (fun j => .int (Int32.ofNat (Sf j)))) (k : Nat) (xa xb xc xe xu : Int32) (hk : k < 5) (hk1 : 1 ≤ k) (hc2 : cnt < 2) (hS0 : Sf cnt = 0) :
    own_Met l Z h0 n0 own_y15 method_2_code 7 (some .int) [] ({ frames := 4, cells := 1, slots := 8, locals := 70 } : Room) #[(.ref b), (.int (Int32.ofNat k)), (.int xa), (.int xb), (.int xc), (.int xe), (.int xu)] (own_V fun w h => w = .int (Int32.ofNat cnt) ∧ own_P Z h b ea sa oa (cnt + 1) ∧ own_A Z h ea .int 512 (fun j => .int ((own_e8f Ef cnt k (own_F k xa xb xc xe xu)) j)) ∧ own_A Z h sa .byte 64 (fun j => .int (Int32.ofNat ((own_zs Sf cnt k) j)))) := by
  refine own_met (ls := #[.val (.ref b), .val (.int (Int32.ofNat k)), .val (.int xa), .val (.int xb), .val (.int xc), .val (.int xe), .val (.int xu)]) own_pn15 (fun m => own_ef15 m _ _ _ _ _ _ _) hn hw fun p e s m below meth c T S => ?_
  have tk := own_tn (i := k) (by omega)
  have hsep' := hsep
  obtain ⟨s1, s2, s3, s4, s5, s6, s7, s8, s9⟩ := hsep
  have blt := Exa.lt P.1
  have elt := own_Alt Ae
  have slt := own_Alt As
  have olt := Exa.lt P.2.2.2.2.2.1
  refine own_iloadN (pc' := 1) S rfl d15_0 rfl ?_
  refine own_iconst (1 : Int32) (pc' := 2) S rfl d15_1 rfl ?_
  refine own_ic (pt := 21) (pc' := 5) S (by decide) rfl rfl d15_2 ?_ ?_
  · intro c2
    replace c2 := own_ne_t c2
    have e2 := own_ten c2
    have k2 : (1 : Int32).toInt = 1 := rfl
    refine own_iloadN (pc' := 22) S rfl d15_21 rfl ?_
    refine own_iconst (2 : Int32) (pc' := 23) S rfl d15_22 rfl ?_
    refine own_ic (pt := 52) (pc' := 26) S (by decide) rfl rfl d15_23 ?_ ?_
    · intro c23
      replace c23 := own_ne_t c23
      have e23 := own_ten c23
      have k23 : (2 : Int32).toInt = 2 := rfl
      refine own_iloadN (pc' := 53) S rfl d15_52 rfl ?_
      refine own_iconst (3 : Int32) (pc' := 54) S rfl d15_53 rfl ?_
      refine own_ic (pt := 94) (pc' := 57) S (by decide) rfl rfl d15_54 ?_ ?_
      · intro c54
        replace c54 := own_ne_t c54
        have e54 := own_ten c54
        have k54 : (3 : Int32).toInt = 3 := rfl
        refine own_aloadN (pc' := 95) S rfl d15_94 rfl rfl ?_
        refine own_bipush (8 : Int32) (pc' := 97) S rfl d15_95 rfl ?_
        refine own_newarray (pc' := 99) 8 S (List.mem_of_getElem? (i := 9) rfl) (n := 8) rfl (by decide) (by decide) (by decide) (by decide) rfl d15_97 ?_
        intro T h ar har ar0 S Ex Ar
        have nab : ar ≠ b := by rw [har]; exact (Nat.ne_of_lt blt).symm
        have nae : ar ≠ ea := by rw [har]; exact (Nat.ne_of_lt elt).symm
        have nas : ar ≠ sa := by rw [har]; exact (Nat.ne_of_lt slt).symm
        have nao : ar ≠ oa := by rw [har]; exact (Nat.ne_of_lt olt).symm
        replace P := own_Pext P Ex
        replace Ae := own_Aext Ae Ex
        replace As := own_Aext As Ex
        refine own_dup (pc' := 100) S rfl d15_99 rfl ?_
        refine own_iconst (0 : Int32) (pc' := 101) S rfl d15_100 rfl ?_
        refine own_iload (pc' := 103) S rfl d15_101 rfl ?_
        refine own_iastore (pc' := 104) S Ar (k := 0) rfl (by decide) ar0 rfl d15_103 ?_
        clear Ar
        intro T h S W Ar
        replace P := own_Pwr P W nab.symm nao.symm
        replace Ae := own_Awr Ae W nae.symm
        replace As := own_Awr As W nas.symm
        refine own_dup (pc' := 105) S rfl d15_104 rfl ?_
        refine own_iconst (1 : Int32) (pc' := 106) S rfl d15_105 rfl ?_
        refine own_iload (pc' := 108) S rfl d15_106 rfl ?_
        refine own_iastore (pc' := 109) S Ar (k := 1) rfl (by decide) ar0 rfl d15_108 ?_
        clear Ar
        intro T h S W Ar
        replace P := own_Pwr P W nab.symm nao.symm
        replace Ae := own_Awr Ae W nae.symm
        replace As := own_Awr As W nas.symm
        refine own_dup (pc' := 110) S rfl d15_109 rfl ?_
        refine own_iconst (2 : Int32) (pc' := 111) S rfl d15_110 rfl ?_
        refine own_iload (pc' := 113) S rfl d15_111 rfl ?_
        refine own_iastore (pc' := 114) S Ar (k := 2) rfl (by decide) ar0 rfl d15_113 ?_
        clear Ar
        intro T h S W Ar
        replace P := own_Pwr P W nab.symm nao.symm
        replace Ae := own_Awr Ae W nae.symm
        replace As := own_Awr As W nas.symm
        refine own_dup (pc' := 115) S rfl d15_114 rfl ?_
        refine own_iconst (3 : Int32) (pc' := 116) S rfl d15_115 rfl ?_
        refine own_iload (pc' := 118) S rfl d15_116 rfl ?_
        refine own_iastore (pc' := 119) S Ar (k := 3) rfl (by decide) ar0 rfl d15_118 ?_
        clear Ar
        intro T h S W Ar
        replace P := own_Pwr P W nab.symm nao.symm
        replace Ae := own_Awr Ae W nae.symm
        replace As := own_Awr As W nas.symm
        refine own_dup (pc' := 120) S rfl d15_119 rfl ?_
        refine own_iconst (4 : Int32) (pc' := 121) S rfl d15_120 rfl ?_
        refine own_iload (pc' := 123) S rfl d15_121 rfl ?_
        refine own_iastore (pc' := 124) S Ar (k := 4) rfl (by decide) ar0 rfl d15_123 ?_
        clear Ar
        intro T h S W Ar
        replace P := own_Pwr P W nab.symm nao.symm
        replace Ae := own_Awr Ae W nae.symm
        replace As := own_Awr As W nas.symm
        refine own_dup (pc' := 125) S rfl d15_124 rfl ?_
        refine own_iconst (5 : Int32) (pc' := 126) S rfl d15_125 rfl ?_
        refine own_iload (pc' := 128) S rfl d15_126 rfl ?_
        refine own_iastore (pc' := 129) S Ar (k := 5) rfl (by decide) ar0 rfl d15_128 ?_
        clear Ar
        intro T h S W Ar
        replace P := own_Pwr P W nab.symm nao.symm
        replace Ae := own_Awr Ae W nae.symm
        replace As := own_Awr As W nas.symm
        refine own_dup (pc' := 130) S rfl d15_129 rfl ?_
        refine own_bipush (6 : Int32) (pc' := 132) S rfl d15_130 rfl ?_
        refine own_iloadN (pc' := 133) S rfl d15_132 rfl ?_
        refine own_iastore (pc' := 134) S Ar (k := 6) rfl (by decide) ar0 rfl d15_133 ?_
        clear Ar
        intro T h S W Ar
        replace P := own_Pwr P W nab.symm nao.symm
        replace Ae := own_Awr Ae W nae.symm
        replace As := own_Awr As W nas.symm
        refine own_dup (pc' := 135) S rfl d15_134 rfl ?_
        refine own_bipush (7 : Int32) (pc' := 137) S rfl d15_135 rfl ?_
        refine own_iloadN (pc' := 138) S rfl d15_137 rfl ?_
        refine own_iastore (pc' := 139) S Ar (k := 7) rfl (by decide) ar0 rfl d15_138 ?_
        clear Ar
        intro T h S W Ar
        replace P := own_Pwr P W nab.symm nao.symm
        replace Ae := own_Awr Ae W nae.symm
        replace As := own_Awr As W nas.symm
        have ek : k = 4 := by omega
        subst ek
        replace Ar : own_A Z _ ar .int (2 * 4) (fun j => .int (own_F 4 xa xb xc xe xu j)) := own_Aof Ar (fun j hj => by
          have : j = 0 ∨ j = 1 ∨ j = 2 ∨ j = 3 ∨ j = 4 ∨ j = 5 ∨ j = 6 ∨ j = 7 := by omega
          rcases this with rfl | rfl | rfl | rfl | rfl | rfl | rfl | rfl <;> rfl)
        refine own_callV (pc' := 142) (yy := own_y10) (rm := ({ frames := 3, cells := 0, slots := 0, locals := 50 } : Room)) (W := 0) [(.ref ar)] [] (b := b) S (List.mem_of_getElem? (i := 79) rfl) (List.mem_of_getElem? (i := 80) rfl) (List.mem_of_getElem? (i := 82) rfl) (List.mem_of_getElem? (i := 81) rfl) (List.mem_of_getElem? (i := 2) rfl) (List.mem_of_getElem? (i := 83) rfl) (by decide) P.1 (own_m10 l Z a0 hw _ n0 (own_size S) b ea sa oa cnt Ef Sf hsep' P Ae As ar 4 (own_F 4 xa xb xc xe xu) (by decide) hc2 hS0 nab nae nas Ar) (ps := [(.array .int)]) (r' := some .int) (by decide +kernel) rfl rfl rfl (Nat.le_of_ble_eq_true rfl) (by decide) (by decide) (by decide) (by decide) rfl d15_139 ?_
        rintro T h _ S ⟨_, rfl, rfl, P, Ae, As⟩
        exact own_retI  S d15_142 (by decide) (by decide) ⟨_, rfl, rfl, P, Ae, As⟩
      · intro c54
        replace c54 := own_ne_f c54
        have e54 := congrArg Int32.toInt c54
        have k54 : (3 : Int32).toInt = 3 := rfl
        refine own_aloadN (pc' := 58) S rfl d15_57 rfl rfl ?_
        refine own_bipush (6 : Int32) (pc' := 60) S rfl d15_58 rfl ?_
        refine own_newarray (pc' := 62) 8 S (List.mem_of_getElem? (i := 9) rfl) (n := 6) rfl (by decide) (by decide) (by decide) (by decide) rfl d15_60 ?_
        intro T h ar har ar0 S Ex Ar
        have nab : ar ≠ b := by rw [har]; exact (Nat.ne_of_lt blt).symm
        have nae : ar ≠ ea := by rw [har]; exact (Nat.ne_of_lt elt).symm
        have nas : ar ≠ sa := by rw [har]; exact (Nat.ne_of_lt slt).symm
        have nao : ar ≠ oa := by rw [har]; exact (Nat.ne_of_lt olt).symm
        replace P := own_Pext P Ex
        replace Ae := own_Aext Ae Ex
        replace As := own_Aext As Ex
        refine own_dup (pc' := 63) S rfl d15_62 rfl ?_
        refine own_iconst (0 : Int32) (pc' := 64) S rfl d15_63 rfl ?_
        refine own_iload (pc' := 66) S rfl d15_64 rfl ?_
        refine own_iastore (pc' := 67) S Ar (k := 0) rfl (by decide) ar0 rfl d15_66 ?_
        clear Ar
        intro T h S W Ar
        replace P := own_Pwr P W nab.symm nao.symm
        replace Ae := own_Awr Ae W nae.symm
        replace As := own_Awr As W nas.symm
        refine own_dup (pc' := 68) S rfl d15_67 rfl ?_
        refine own_iconst (1 : Int32) (pc' := 69) S rfl d15_68 rfl ?_
        refine own_iload (pc' := 71) S rfl d15_69 rfl ?_
        refine own_iastore (pc' := 72) S Ar (k := 1) rfl (by decide) ar0 rfl d15_71 ?_
        clear Ar
        intro T h S W Ar
        replace P := own_Pwr P W nab.symm nao.symm
        replace Ae := own_Awr Ae W nae.symm
        replace As := own_Awr As W nas.symm
        refine own_dup (pc' := 73) S rfl d15_72 rfl ?_
        refine own_iconst (2 : Int32) (pc' := 74) S rfl d15_73 rfl ?_
        refine own_iload (pc' := 76) S rfl d15_74 rfl ?_
        refine own_iastore (pc' := 77) S Ar (k := 2) rfl (by decide) ar0 rfl d15_76 ?_
        clear Ar
        intro T h S W Ar
        replace P := own_Pwr P W nab.symm nao.symm
        replace Ae := own_Awr Ae W nae.symm
        replace As := own_Awr As W nas.symm
        refine own_dup (pc' := 78) S rfl d15_77 rfl ?_
        refine own_iconst (3 : Int32) (pc' := 79) S rfl d15_78 rfl ?_
        refine own_iload (pc' := 81) S rfl d15_79 rfl ?_
        refine own_iastore (pc' := 82) S Ar (k := 3) rfl (by decide) ar0 rfl d15_81 ?_
        clear Ar
        intro T h S W Ar
        replace P := own_Pwr P W nab.symm nao.symm
        replace Ae := own_Awr Ae W nae.symm
        replace As := own_Awr As W nas.symm
        refine own_dup (pc' := 83) S rfl d15_82 rfl ?_
        refine own_iconst (4 : Int32) (pc' := 84) S rfl d15_83 rfl ?_
        refine own_iloadN (pc' := 85) S rfl d15_84 rfl ?_
        refine own_iastore (pc' := 86) S Ar (k := 4) rfl (by decide) ar0 rfl d15_85 ?_
        clear Ar
        intro T h S W Ar
        replace P := own_Pwr P W nab.symm nao.symm
        replace Ae := own_Awr Ae W nae.symm
        replace As := own_Awr As W nas.symm
        refine own_dup (pc' := 87) S rfl d15_86 rfl ?_
        refine own_iconst (5 : Int32) (pc' := 88) S rfl d15_87 rfl ?_
        refine own_iloadN (pc' := 89) S rfl d15_88 rfl ?_
        refine own_iastore (pc' := 90) S Ar (k := 5) rfl (by decide) ar0 rfl d15_89 ?_
        clear Ar
        intro T h S W Ar
        replace P := own_Pwr P W nab.symm nao.symm
        replace Ae := own_Awr Ae W nae.symm
        replace As := own_Awr As W nas.symm
        have ek : k = 3 := by omega
        subst ek
        replace Ar : own_A Z _ ar .int (2 * 3) (fun j => .int (own_F 3 xa xb xc xe xu j)) := own_Aof Ar (fun j hj => by
          have : j = 0 ∨ j = 1 ∨ j = 2 ∨ j = 3 ∨ j = 4 ∨ j = 5 := by omega
          rcases this with rfl | rfl | rfl | rfl | rfl | rfl <;> rfl)
        refine own_callV (pc' := 93) (yy := own_y10) (rm := ({ frames := 3, cells := 0, slots := 0, locals := 50 } : Room)) (W := 0) [(.ref ar)] [] (b := b) S (List.mem_of_getElem? (i := 79) rfl) (List.mem_of_getElem? (i := 80) rfl) (List.mem_of_getElem? (i := 82) rfl) (List.mem_of_getElem? (i := 81) rfl) (List.mem_of_getElem? (i := 2) rfl) (List.mem_of_getElem? (i := 83) rfl) (by decide) P.1 (own_m10 l Z a0 hw _ n0 (own_size S) b ea sa oa cnt Ef Sf hsep' P Ae As ar 3 (own_F 3 xa xb xc xe xu) (by decide) hc2 hS0 nab nae nas Ar) (ps := [(.array .int)]) (r' := some .int) (by decide +kernel) rfl rfl rfl (Nat.le_of_ble_eq_true rfl) (by decide) (by decide) (by decide) (by decide) rfl d15_90 ?_
        rintro T h _ S ⟨_, rfl, rfl, P, Ae, As⟩
        exact own_retI  S d15_93 (by decide) (by decide) ⟨_, rfl, rfl, P, Ae, As⟩
    · intro c23
      replace c23 := own_ne_f c23
      have e23 := congrArg Int32.toInt c23
      have k23 : (2 : Int32).toInt = 2 := rfl
      refine own_aloadN (pc' := 27) S rfl d15_26 rfl rfl ?_
      refine own_iconst (4 : Int32) (pc' := 28) S rfl d15_27 rfl ?_
      refine own_newarray (pc' := 30) 8 S (List.mem_of_getElem? (i := 9) rfl) (n := 4) rfl (by decide) (by decide) (by decide) (by decide) rfl d15_28 ?_
      intro T h ar har ar0 S Ex Ar
      have nab : ar ≠ b := by rw [har]; exact (Nat.ne_of_lt blt).symm
      have nae : ar ≠ ea := by rw [har]; exact (Nat.ne_of_lt elt).symm
      have nas : ar ≠ sa := by rw [har]; exact (Nat.ne_of_lt slt).symm
      have nao : ar ≠ oa := by rw [har]; exact (Nat.ne_of_lt olt).symm
      replace P := own_Pext P Ex
      replace Ae := own_Aext Ae Ex
      replace As := own_Aext As Ex
      refine own_dup (pc' := 31) S rfl d15_30 rfl ?_
      refine own_iconst (0 : Int32) (pc' := 32) S rfl d15_31 rfl ?_
      refine own_iload (pc' := 34) S rfl d15_32 rfl ?_
      refine own_iastore (pc' := 35) S Ar (k := 0) rfl (by decide) ar0 rfl d15_34 ?_
      clear Ar
      intro T h S W Ar
      replace P := own_Pwr P W nab.symm nao.symm
      replace Ae := own_Awr Ae W nae.symm
      replace As := own_Awr As W nas.symm
      refine own_dup (pc' := 36) S rfl d15_35 rfl ?_
      refine own_iconst (1 : Int32) (pc' := 37) S rfl d15_36 rfl ?_
      refine own_iload (pc' := 39) S rfl d15_37 rfl ?_
      refine own_iastore (pc' := 40) S Ar (k := 1) rfl (by decide) ar0 rfl d15_39 ?_
      clear Ar
      intro T h S W Ar
      replace P := own_Pwr P W nab.symm nao.symm
      replace Ae := own_Awr Ae W nae.symm
      replace As := own_Awr As W nas.symm
      refine own_dup (pc' := 41) S rfl d15_40 rfl ?_
      refine own_iconst (2 : Int32) (pc' := 42) S rfl d15_41 rfl ?_
      refine own_iloadN (pc' := 43) S rfl d15_42 rfl ?_
      refine own_iastore (pc' := 44) S Ar (k := 2) rfl (by decide) ar0 rfl d15_43 ?_
      clear Ar
      intro T h S W Ar
      replace P := own_Pwr P W nab.symm nao.symm
      replace Ae := own_Awr Ae W nae.symm
      replace As := own_Awr As W nas.symm
      refine own_dup (pc' := 45) S rfl d15_44 rfl ?_
      refine own_iconst (3 : Int32) (pc' := 46) S rfl d15_45 rfl ?_
      refine own_iloadN (pc' := 47) S rfl d15_46 rfl ?_
      refine own_iastore (pc' := 48) S Ar (k := 3) rfl (by decide) ar0 rfl d15_47 ?_
      clear Ar
      intro T h S W Ar
      replace P := own_Pwr P W nab.symm nao.symm
      replace Ae := own_Awr Ae W nae.symm
      replace As := own_Awr As W nas.symm
      have ek : k = 2 := by omega
      subst ek
      replace Ar : own_A Z _ ar .int (2 * 2) (fun j => .int (own_F 2 xa xb xc xe xu j)) := own_Aof Ar (fun j hj => by
        have : j = 0 ∨ j = 1 ∨ j = 2 ∨ j = 3 := by omega
        rcases this with rfl | rfl | rfl | rfl <;> rfl)
      refine own_callV (pc' := 51) (yy := own_y10) (rm := ({ frames := 3, cells := 0, slots := 0, locals := 50 } : Room)) (W := 0) [(.ref ar)] [] (b := b) S (List.mem_of_getElem? (i := 79) rfl) (List.mem_of_getElem? (i := 80) rfl) (List.mem_of_getElem? (i := 82) rfl) (List.mem_of_getElem? (i := 81) rfl) (List.mem_of_getElem? (i := 2) rfl) (List.mem_of_getElem? (i := 83) rfl) (by decide) P.1 (own_m10 l Z a0 hw _ n0 (own_size S) b ea sa oa cnt Ef Sf hsep' P Ae As ar 2 (own_F 2 xa xb xc xe xu) (by decide) hc2 hS0 nab nae nas Ar) (ps := [(.array .int)]) (r' := some .int) (by decide +kernel) rfl rfl rfl (Nat.le_of_ble_eq_true rfl) (by decide) (by decide) (by decide) (by decide) rfl d15_48 ?_
      rintro T h _ S ⟨_, rfl, rfl, P, Ae, As⟩
      exact own_retI  S d15_51 (by decide) (by decide) ⟨_, rfl, rfl, P, Ae, As⟩
  · intro c2
    replace c2 := own_ne_f c2
    have e2 := congrArg Int32.toInt c2
    have k2 : (1 : Int32).toInt = 1 := rfl
    refine own_aloadN (pc' := 6) S rfl d15_5 rfl rfl ?_
    refine own_iconst (2 : Int32) (pc' := 7) S rfl d15_6 rfl ?_
    refine own_newarray (pc' := 9) 8 S (List.mem_of_getElem? (i := 9) rfl) (n := 2) rfl (by decide) (by decide) (by decide) (by decide) rfl d15_7 ?_
    intro T h ar har ar0 S Ex Ar
    have nab : ar ≠ b := by rw [har]; exact (Nat.ne_of_lt blt).symm
    have nae : ar ≠ ea := by rw [har]; exact (Nat.ne_of_lt elt).symm
    have nas : ar ≠ sa := by rw [har]; exact (Nat.ne_of_lt slt).symm
    have nao : ar ≠ oa := by rw [har]; exact (Nat.ne_of_lt olt).symm
    replace P := own_Pext P Ex
    replace Ae := own_Aext Ae Ex
    replace As := own_Aext As Ex
    refine own_dup (pc' := 10) S rfl d15_9 rfl ?_
    refine own_iconst (0 : Int32) (pc' := 11) S rfl d15_10 rfl ?_
    refine own_iloadN (pc' := 12) S rfl d15_11 rfl ?_
    refine own_iastore (pc' := 13) S Ar (k := 0) rfl (by decide) ar0 rfl d15_12 ?_
    clear Ar
    intro T h S W Ar
    replace P := own_Pwr P W nab.symm nao.symm
    replace Ae := own_Awr Ae W nae.symm
    replace As := own_Awr As W nas.symm
    refine own_dup (pc' := 14) S rfl d15_13 rfl ?_
    refine own_iconst (1 : Int32) (pc' := 15) S rfl d15_14 rfl ?_
    refine own_iloadN (pc' := 16) S rfl d15_15 rfl ?_
    refine own_iastore (pc' := 17) S Ar (k := 1) rfl (by decide) ar0 rfl d15_16 ?_
    clear Ar
    intro T h S W Ar
    replace P := own_Pwr P W nab.symm nao.symm
    replace Ae := own_Awr Ae W nae.symm
    replace As := own_Awr As W nas.symm
    have ek : k = 1 := by omega
    subst ek
    replace Ar : own_A Z _ ar .int (2 * 1) (fun j => .int (own_F 1 xa xb xc xe xu j)) := own_Aof Ar (fun j hj => by
      have : j = 0 ∨ j = 1 := by omega
      rcases this with rfl | rfl <;> rfl)
    refine own_callV (pc' := 20) (yy := own_y10) (rm := ({ frames := 3, cells := 0, slots := 0, locals := 50 } : Room)) (W := 0) [(.ref ar)] [] (b := b) S (List.mem_of_getElem? (i := 79) rfl) (List.mem_of_getElem? (i := 80) rfl) (List.mem_of_getElem? (i := 82) rfl) (List.mem_of_getElem? (i := 81) rfl) (List.mem_of_getElem? (i := 2) rfl) (List.mem_of_getElem? (i := 83) rfl) (by decide) P.1 (own_m10 l Z a0 hw _ n0 (own_size S) b ea sa oa cnt Ef Sf hsep' P Ae As ar 1 (own_F 1 xa xb xc xe xu) (by decide) hc2 hS0 nab nae nas Ar) (ps := [(.array .int)]) (r' := some .int) (by decide +kernel) rfl rfl rfl (Nat.le_of_ble_eq_true rfl) (by decide) (by decide) (by decide) (by decide) rfl d15_17 ?_
    rintro T h _ S ⟨_, rfl, rfl, P, Ae, As⟩
    exact own_retI  S d15_20 (by decide) (by decide) ⟨_, rfl, rfl, P, Ae, As⟩
theorem own_ef11 (m : MethodId) (z0 : Addr) (z1 : Int32) : entryFrame m #[(.ref z0), (.int z1)] 3 = mkF m 0 #[.val (.ref z0), .val (.int z1), .unset] [] := by first | (simp [entryFrame, mkF, argsToLocals, Value.category]; done) | rfl
set_option maxRecDepth 65536 in
set_option maxHeartbeats 40000000 in
theorem own_m11 (l : Launch) (Z : State) (a0 : Array Value) (hw : ∀ d ∈ tables_1, d.before a0 Z = true) (h0 : Heap) (n0 : Nat) (hn : n0 ≤ h0.size) (b ea sa oa : Addr) (cnt : Nat) (Ef : Nat → Int32) (Sf : Nat → Nat) (hsep : own_Sep n0 b ea sa oa) (P : own_P Z h0 b ea sa oa cnt) (Ae : own_A Z h0 ea .int 512 (fun j => .int (Ef j))) (As : own_A Z h0 sa .byte 64 (fun j => .int (Int32.ofNat (Sf j)))) (t : Nat) (ht : t < 2) (hz : Sf t < 5) (hz1 : 1 ≤ Sf t) :
    own_Met l Z h0 n0 own_y11 prog_7_method_7_code 3 (some (.array .int)) [] ({ frames := 0, cells := 1, slots := 2, locals := 0 } : Room) #[(.ref b), (.int (Int32.ofNat t))] (own_V fun w h => ∃ r, w = .ref r ∧ own_A Z h r .int 2 (fun j => .int (Ef (8 * t + 2 * (Sf t - 1) + j))) ∧ own_P Z h b ea sa oa cnt ∧ own_A Z h ea .int 512 (fun j => .int (Ef j)) ∧ own_A Z h sa .byte 64 (fun j => .int (Int32.ofNat ((own_zs Sf t (Sf t - 1)) j)))) := by
  refine own_met (ls := #[.val (.ref b), .val (.int (Int32.ofNat t)), .unset]) own_pn11 (fun m => own_ef11 m _ _) hn hw fun p e s m below meth c T S => ?_
  have tt := own_tn (i := t) (by omega)
  have hsep' := hsep
  obtain ⟨s1, s2, s3, s4, s5, s6, s7, s8, s9⟩ := hsep
  have zt : own_zs Sf t (Sf t - 1) t = Sf t - 1 := by unfold own_zs; rw [if_pos rfl]
  refine own_aloadN (pc' := 1) S rfl d11_0 rfl rfl ?_
  refine own_getfield (pc' := 4) S (List.mem_of_getElem? (i := 13) rfl) P.2.2.1 rfl d11_1 fun T S => ?_
  refine own_iloadN (pc' := 5) S rfl d11_4 rfl ?_
  refine own_dup2 (pc' := 6) S rfl d11_5 rfl rfl ?_
  refine own_baloadB (pc' := 7) (w := (Int32.ofNat (Sf t))) S As (k := t) tt (by omega) rfl rfl d11_6 ?_
  refine own_iconst (1 : Int32) (pc' := 8) S rfl d11_7 rfl ?_
  refine own_isub (pc' := 9) S rfl d11_8 ?_
  refine own_i2b (pc' := 10) S rfl d11_9 ?_
  refine own_bastoreB (pc' := 11) S As (k := t) tt (by omega) s3 rfl d11_10 ?_
  clear As
  intro T h S W As
  rw [own_b8m _ hz hz1] at As W
  replace As := own_Aof As (own_upz _ _ _)
  replace P := own_Pwr P W s5.symm s9.symm
  replace Ae := own_Awr Ae W s7
  refine own_bipush (8 : Int32) (pc' := 13) S rfl d11_11 rfl ?_
  refine own_iloadN (pc' := 14) S rfl d11_13 rfl ?_
  refine own_imul (pc' := 15) S rfl d11_14 ?_
  rw [show (8 : Int32) * Int32.ofNat t = Int32.ofNat (8 * t) from own_mulN 8 t]
  refine own_iconst (2 : Int32) (pc' := 16) S rfl d11_15 rfl ?_
  refine own_aloadN (pc' := 17) S rfl d11_16 rfl rfl ?_
  refine own_getfield (pc' := 20) S (List.mem_of_getElem? (i := 13) rfl) P.2.2.1 rfl d11_17 fun T S => ?_
  refine own_iloadN (pc' := 21) S rfl d11_20 rfl ?_
  refine own_baloadB (pc' := 22) (w := (Int32.ofNat (Sf t - 1))) S As (k := t) tt (by omega) (by rw [zt]) rfl d11_21 ?_
  refine own_imul (pc' := 23) S rfl d11_22 ?_
  rw [own_two]
  refine own_iadd (pc' := 24) S rfl d11_23 ?_
  rw [own_addN]
  refine own_istoreN (ls' := #[.val (.ref b), .val (.int (Int32.ofNat t)), .val (.int (Int32.ofNat (8 * t + 2 * (Sf t - 1))))]) (pc' := 25) S rfl d11_24 rfl ?_
  refine own_iconst (2 : Int32) (pc' := 26) S rfl d11_25 rfl ?_
  have blt := Exa.lt P.1
  have elt := own_Alt Ae
  have slt := own_Alt As
  have olt := Exa.lt P.2.2.2.2.2.1
  refine own_newarray (pc' := 28) 2 S (List.mem_of_getElem? (i := 9) rfl) (n := 2) rfl (by decide) (by decide) (by decide) (by decide) rfl d11_26 ?_
  intro T h r hr r0 S Ex Ar
  have nrb : b ≠ r := by rw [hr]; exact Nat.ne_of_lt blt
  have nre : ea ≠ r := by rw [hr]; exact Nat.ne_of_lt elt
  have nrs : sa ≠ r := by rw [hr]; exact Nat.ne_of_lt slt
  have nro : oa ≠ r := by rw [hr]; exact Nat.ne_of_lt olt
  replace P := own_Pext P Ex
  replace Ae := own_Aext Ae Ex
  replace As := own_Aext As Ex
  refine own_dup (pc' := 29) S rfl d11_28 rfl ?_
  refine own_iconst (0 : Int32) (pc' := 30) S rfl d11_29 rfl ?_
  refine own_aloadN (pc' := 31) S rfl d11_30 rfl rfl ?_
  refine own_getfield (pc' := 34) S (List.mem_of_getElem? (i := 10) rfl) P.2.1 rfl d11_31 fun T S => ?_
  refine own_iloadN (pc' := 35) S rfl d11_34 rfl ?_
  refine own_iaload (pc' := 36) (w := (Ef (8 * t + 2 * (Sf t - 1)))) S Ae (k := 8 * t + 2 * (Sf t - 1)) (own_tn (by omega)) (by omega) rfl rfl d11_35 ?_
  refine own_iastore (pc' := 37) S Ar (k := 0) rfl (by decide) r0 rfl d11_36 ?_
  clear Ar
  intro T h S W Ar
  replace P := own_Pwr P W nrb nro
  replace Ae := own_Awr Ae W nre
  replace As := own_Awr As W nrs
  refine own_dup (pc' := 38) S rfl d11_37 rfl ?_
  refine own_iconst (1 : Int32) (pc' := 39) S rfl d11_38 rfl ?_
  refine own_aloadN (pc' := 40) S rfl d11_39 rfl rfl ?_
  refine own_getfield (pc' := 43) S (List.mem_of_getElem? (i := 10) rfl) P.2.1 rfl d11_40 fun T S => ?_
  refine own_iloadN (pc' := 44) S rfl d11_43 rfl ?_
  refine own_iconst (1 : Int32) (pc' := 45) S rfl d11_44 rfl ?_
  refine own_iadd (pc' := 46) S rfl d11_45 ?_
  rw [own_one]
  refine own_iaload (pc' := 47) (w := (Ef (8 * t + 2 * (Sf t - 1) + 1))) S Ae (k := 8 * t + 2 * (Sf t - 1) + 1) (own_tn (by omega)) (by omega) rfl rfl d11_46 ?_
  refine own_iastore (pc' := 48) S Ar (k := 1) rfl (by decide) r0 rfl d11_47 ?_
  clear Ar
  intro T h S W Ar
  replace P := own_Pwr P W nrb nro
  replace Ae := own_Awr Ae W nre
  replace As := own_Awr As W nrs
  refine own_retA (t := .array .int) rfl rfl S d11_48 (by decide) (by decide) ⟨_, rfl, r, rfl, own_Aof Ar (fun j hj => ?_), P, Ae, As⟩
  have : j = 0 ∨ j = 1 := by omega
  rcases this with rfl | rfl <;> rfl
theorem own_ef12 (m : MethodId) (z0 : Addr) (z1 : Int32) : entryFrame m #[(.ref z0), (.int z1)] 2 = mkF m 0 #[.val (.ref z0), .val (.int z1)] [] := by first | (simp [entryFrame, mkF, argsToLocals, Value.category]; done) | rfl
set_option maxRecDepth 65536 in
set_option maxHeartbeats 40000000 in
theorem own_m12 (l : Launch) (Z : State) (a0 : Array Value) (hw : ∀ d ∈ tables_1, d.before a0 Z = true) (h0 : Heap) (n0 : Nat) (hn : n0 ≤ h0.size) (b ea sa oa : Addr) (cnt : Nat) (Ef : Nat → Int32) (Sf : Nat → Nat) (hsep : own_Sep n0 b ea sa oa) (P : own_P Z h0 b ea sa oa cnt) (Ae : own_A Z h0 ea .int 512 (fun j => .int (Ef j))) (As : own_A Z h0 sa .byte 64 (fun j => .int (Int32.ofNat (Sf j)))) (t : Nat) (ht : t < 2) :
    own_Met l Z h0 n0 own_y12 prog_7_method_9_code 2 (some .int) [] ({ frames := 0, cells := 0, slots := 0, locals := 0 } : Room) #[(.ref b), (.int (Int32.ofNat t))] (own_V fun w h => w = .int (Int32.ofNat (Sf t)) ∧ h0 = h) := by
  refine own_met (ls := #[.val (.ref b), .val (.int (Int32.ofNat t))]) own_pn12 (fun m => own_ef12 m _ _) hn hw fun p e s m below meth c T S => ?_
  refine own_aloadN (pc' := 1) S rfl d12_0 rfl rfl ?_
  refine own_getfield (pc' := 4) S (List.mem_of_getElem? (i := 13) rfl) P.2.2.1 rfl d12_1 fun T S => ?_
  refine own_iloadN (pc' := 5) S rfl d12_4 rfl ?_
  refine own_baloadB (pc' := 6) (w := (Int32.ofNat (Sf t))) S As (k := t) (own_tn (by omega)) (by omega) rfl rfl d12_5 ?_
  exact own_retI  S d12_6 (by decide) (by decide) ⟨_, rfl, rfl, rfl⟩
theorem own_ef13 (m : MethodId) (z0 : Addr) (z1 : Int32) (z2 : Int32) : entryFrame m #[(.ref z0), (.int z1), (.int z2)] 3 = mkF m 0 #[.val (.ref z0), .val (.int z1), .val (.int z2)] [] := by first | (simp [entryFrame, mkF, argsToLocals, Value.category]; done) | rfl
set_option maxRecDepth 65536 in
set_option maxHeartbeats 40000000 in
theorem own_m13 (l : Launch) (Z : State) (a0 : Array Value) (hw : ∀ d ∈ tables_1, d.before a0 Z = true) (h0 : Heap) (n0 : Nat) (hn : n0 ≤ h0.size) (b ea sa oa : Addr) (cnt : Nat) (Ef : Nat → Int32) (Sf : Nat → Nat) (hsep : own_Sep n0 b ea sa oa) (P : own_P Z h0 b ea sa oa cnt) (Ae : own_A Z h0 ea .int 512 (fun j => .int (Ef j))) (As : own_A Z h0 sa .byte 64 (fun j => .int (Int32.ofNat (Sf j)))) (t i : Nat) (ht : t < 2) (hi : i < 4) :
    own_Met l Z h0 n0 own_y13 prog_7_method_10_code 3 (some .int) [] ({ frames := 0, cells := 0, slots := 0, locals := 0 } : Room) #[(.ref b), (.int (Int32.ofNat t)), (.int (Int32.ofNat i))] (own_V fun w h => w = .int (Ef (8 * t + 2 * i)) ∧ h0 = h) := by
  refine own_met (ls := #[.val (.ref b), .val (.int (Int32.ofNat t)), .val (.int (Int32.ofNat i))]) own_pn13 (fun m => own_ef13 m _ _ _) hn hw fun p e s m below meth c T S => ?_
  refine own_aloadN (pc' := 1) S rfl d13_0 rfl rfl ?_
  refine own_getfield (pc' := 4) S (List.mem_of_getElem? (i := 10) rfl) P.2.1 rfl d13_1 fun T S => ?_
  refine own_bipush (8 : Int32) (pc' := 6) S rfl d13_4 rfl ?_
  refine own_iloadN (pc' := 7) S rfl d13_6 rfl ?_
  refine own_imul (pc' := 8) S rfl d13_7 ?_
  rw [show (8 : Int32) * Int32.ofNat t = Int32.ofNat (8 * t) from own_mulN 8 t]
  refine own_iconst (2 : Int32) (pc' := 9) S rfl d13_8 rfl ?_
  refine own_iloadN (pc' := 10) S rfl d13_9 rfl ?_
  refine own_imul (pc' := 11) S rfl d13_10 ?_
  rw [own_two]
  refine own_iadd (pc' := 12) S rfl d13_11 ?_
  rw [own_addN]
  refine own_iaload (pc' := 13) (w := (Ef (8 * t + 2 * i))) S Ae (k := 8 * t + 2 * i) (own_tn (by omega)) (by omega) rfl rfl d13_12 ?_
  exact own_retI  S d13_13 (by decide) (by decide) ⟨_, rfl, rfl, rfl⟩
theorem own_ef14 (m : MethodId) (z0 : Addr) (z1 : Int32) (z2 : Int32) : entryFrame m #[(.ref z0), (.int z1), (.int z2)] 3 = mkF m 0 #[.val (.ref z0), .val (.int z1), .val (.int z2)] [] := by first | (simp [entryFrame, mkF, argsToLocals, Value.category]; done) | rfl
set_option maxRecDepth 65536 in
set_option maxHeartbeats 40000000 in
theorem own_m14 (l : Launch) (Z : State) (a0 : Array Value) (hw : ∀ d ∈ tables_1, d.before a0 Z = true) (h0 : Heap) (n0 : Nat) (hn : n0 ≤ h0.size) (b ea sa oa : Addr) (cnt : Nat) (Ef : Nat → Int32) (Sf : Nat → Nat) (hsep : own_Sep n0 b ea sa oa) (P : own_P Z h0 b ea sa oa cnt) (Ae : own_A Z h0 ea .int 512 (fun j => .int (Ef j))) (As : own_A Z h0 sa .byte 64 (fun j => .int (Int32.ofNat (Sf j)))) (t i : Nat) (ht : t < 2) (hi : i < 4) :
    own_Met l Z h0 n0 own_y14 prog_7_method_11_code 3 (some .int) [] ({ frames := 0, cells := 0, slots := 0, locals := 0 } : Room) #[(.ref b), (.int (Int32.ofNat t)), (.int (Int32.ofNat i))] (own_V fun w h => w = .int (Ef (8 * t + 2 * i + 1)) ∧ h0 = h) := by
  refine own_met (ls := #[.val (.ref b), .val (.int (Int32.ofNat t)), .val (.int (Int32.ofNat i))]) own_pn14 (fun m => own_ef14 m _ _ _) hn hw fun p e s m below meth c T S => ?_
  refine own_aloadN (pc' := 1) S rfl d14_0 rfl rfl ?_
  refine own_getfield (pc' := 4) S (List.mem_of_getElem? (i := 10) rfl) P.2.1 rfl d14_1 fun T S => ?_
  refine own_bipush (8 : Int32) (pc' := 6) S rfl d14_4 rfl ?_
  refine own_iloadN (pc' := 7) S rfl d14_6 rfl ?_
  refine own_imul (pc' := 8) S rfl d14_7 ?_
  rw [show (8 : Int32) * Int32.ofNat t = Int32.ofNat (8 * t) from own_mulN 8 t]
  refine own_iconst (2 : Int32) (pc' := 9) S rfl d14_8 rfl ?_
  refine own_iloadN (pc' := 10) S rfl d14_9 rfl ?_
  refine own_imul (pc' := 11) S rfl d14_10 ?_
  rw [own_two]
  refine own_iadd (pc' := 12) S rfl d14_11 ?_
  rw [own_addN]
  refine own_iconst (1 : Int32) (pc' := 13) S rfl d14_12 rfl ?_
  refine own_iadd (pc' := 14) S rfl d14_13 ?_
  rw [own_one]
  refine own_iaload (pc' := 15) (w := (Ef (8 * t + 2 * i + 1))) S Ae (k := 8 * t + 2 * i + 1) (own_tn (by omega)) (by omega) rfl rfl d14_14 ?_
  exact own_retI  S d14_15 (by decide) (by decide) ⟨_, rfl, rfl, rfl⟩
set_option maxRecDepth 65536 in
set_option maxHeartbeats 40000000 in
theorem own_k113 {p : Program} {l : Launch} {e : Env} {s : State} {m : MethodId} {args : Array Value} {below : List Frame} {meth : Method} {c : Code} {Z : State} {a0 : Array Value} {n0 : Nat} {T : State} {h : Heap} {b ea sa oa : Addr} {s7 : Slot} {cells slots : Nat} (x0 xa xb xc xe xu : Int32) (k t o_ cnt : Nat) (Ef : Nat → Int32) (Sf : Nat → Nat) (hcl : cells ≤ 20) (hsl : slots ≤ 800) (hk : k < 5) (hk1 : 1 ≤ k) (ht : t < 2) (ho : o_ < 2) (hto : t ≠ o_) (S : own_S p l e s m args below meth c Z a0 n0 x code maxLocals ret room_1 T h cells slots) (hsep : own_Sep n0 b ea sa oa) (P : own_P Z h b ea sa oa cnt) (Ae : own_A Z h ea .int 512 (fun j => .int (Ef j))) (As : own_A Z h sa .byte 64 (fun j => .int (Int32.ofNat (Sf j)))) (hSt : Sf t = k) (hSo : Sf o_ = 1) (hEt : ∀ j, j < 2 * k → Ef (8 * t + j) = own_F k xa xb xc xe xu j) (hEo0 : Ef (8 * o_) = xu) (hEo1 : Ef (8 * o_ + 1) = xc ^^^ -1) : own_G p e s below room_1 n0 (own_V fun w h => w = .int 1) T (mkF m 113 #[.val (.int x0), .val (.int xa), .val (.int xb), .val (.int xc), .val (.int xe), .val (.int xu), .val (.int (Int32.ofNat k)), s7, .val (.ref b), .val (.int (Int32.ofNat t)), .val (.int (Int32.ofNat o_)), .unset, .unset, .unset, .unset] []) := by
  have hw := own_word S
  have kc : room_1.cells = 48 := rfl
  have ks : room_1.slots = 1536 := rfl
  have tk := own_tn (i := k) (by omega)
  have zt : own_zs Sf t (k - 1) t = k - 1 := by unfold own_zs; rw [if_pos rfl]
  have zo : own_zs Sf t (k - 1) o_ = 1 := by unfold own_zs; rw [if_neg hto.symm]; exact hSo
  refine own_aload (pc' := 115) S rfl at_113 rfl rfl ?_
  refine own_iload (pc' := 117) S rfl at_115 rfl ?_
  refine own_callV (pc' := 120) (yy := own_y11) (rm := ({ frames := 0, cells := 1, slots := 2, locals := 0 } : Room)) (W := 2) [(.int (Int32.ofNat t))] [] (b := b) S (List.mem_of_getElem? (i := 100) rfl) (List.mem_of_getElem? (i := 101) rfl) (List.mem_of_getElem? (i := 103) rfl) (List.mem_of_getElem? (i := 102) rfl) (List.mem_of_getElem? (i := 2) rfl) (List.mem_of_getElem? (i := 104) rfl) (by decide) P.1 (own_m11 l Z a0 hw _ n0 (own_size S) b ea sa oa cnt Ef Sf hsep P Ae As t ht (by omega) (by omega)) (ps := [.int]) (r' := some (.array .int)) (by decide +kernel) rfl rfl rfl (Nat.le_of_ble_eq_true rfl) (by decide) (by decide) (by rw [kc]; show cells + 1 ≤ 48; omega) (by rw [ks]; show slots + 2 ≤ 1536; omega) rfl at_117 ?_
  rintro T h _ S ⟨_, rfl, r, rfl, Ar, P, Ae, As⟩
  rw [hSt] at Ar As
  refine own_astore (ls' := #[.val (.int x0), .val (.int xa), .val (.int xb), .val (.int xc), .val (.int xe), .val (.int xu), .val (.int (Int32.ofNat k)), s7, .val (.ref b), .val (.int (Int32.ofNat t)), .val (.int (Int32.ofNat o_)), .val (.ref r), .unset, .unset, .unset]) (pc' := 122) S rfl at_120 rfl rfl ?_
  refine own_aload (pc' := 124) S rfl at_122 rfl rfl ?_
  refine own_nullN (pc' := 127) S rfl at_124 ?_
  refine own_aload (pc' := 129) S rfl at_127 rfl rfl ?_
  refine own_alen (pc' := 130) (w := (2 : Int32)) S Ar rfl rfl at_129 ?_
  refine own_iconst (2 : Int32) (pc' := 131) S rfl at_130 rfl ?_
  refine own_icN (pc' := 134) S rfl at_131 (own_f_ne rfl) ?_
  refine own_aload (pc' := 136) S rfl at_134 rfl rfl ?_
  refine own_iconst (0 : Int32) (pc' := 137) S rfl at_136 rfl ?_
  refine own_iaload (pc' := 138) (w := xa) S Ar (k := 0) rfl (by decide) (by rw [Nat.add_zero, hEt _ (by omega)]; unfold own_F; rw [if_pos rfl]) rfl at_137 ?_
  refine own_iloadN (pc' := 139) S rfl at_138 rfl ?_
  refine own_icN (pc' := 142) S rfl at_139 (own_f_ne rfl) ?_
  refine own_aload (pc' := 144) S rfl at_142 rfl rfl ?_
  refine own_iconst (1 : Int32) (pc' := 145) S rfl at_144 rfl ?_
  refine own_iaload (pc' := 146) (w := xb) S Ar (k := 1) rfl (by decide) (by rw [show 8 * t + 2 * (k - 1) + 1 = 8 * t + (2 * (k - 1) + 1) by omega, hEt _ (by omega)]; unfold own_F; rw [if_neg (by omega), if_pos rfl]) rfl at_145 ?_
  refine own_iloadN (pc' := 147) S rfl at_146 rfl ?_
  refine own_icN (pc' := 150) S rfl at_147 (own_f_ne rfl) ?_
  refine own_iconst (1 : Int32) (pc' := 151) S rfl at_150 rfl ?_
  refine own_goto (pc' := 155) S (by decide) rfl at_151 ?_
  refine own_istore (ls' := #[.val (.int x0), .val (.int xa), .val (.int xb), .val (.int xc), .val (.int xe), .val (.int xu), .val (.int (Int32.ofNat k)), s7, .val (.ref b), .val (.int (Int32.ofNat t)), .val (.int (Int32.ofNat o_)), .val (.ref r), .val (.int (1 : Int32)), .unset, .unset]) (pc' := 157) S rfl at_155 rfl ?_
  refine own_iload (pc' := 159) S rfl at_157 rfl ?_
  refine own_ifN (pc' := 162) S rfl at_159 ((if0 _ _).trans (own_f_eq (by decide))) ?_
  refine own_aload (pc' := 164) S rfl at_162 rfl rfl ?_
  refine own_iload (pc' := 166) S rfl at_164 rfl ?_
  refine own_callV (pc' := 169) (yy := own_y12) (rm := ({ frames := 0, cells := 0, slots := 0, locals := 0 } : Room)) (W := 2) [(.int (Int32.ofNat t))] [] (b := b) S (List.mem_of_getElem? (i := 105) rfl) (List.mem_of_getElem? (i := 106) rfl) (List.mem_of_getElem? (i := 108) rfl) (List.mem_of_getElem? (i := 107) rfl) (List.mem_of_getElem? (i := 2) rfl) (List.mem_of_getElem? (i := 109) rfl) (by decide) P.1 (own_m12 l Z a0 hw _ n0 (own_size S) b ea sa oa cnt Ef _ hsep P Ae As t ht) (ps := [.int]) (r' := some .int) (by decide +kernel) rfl rfl rfl (Nat.le_of_ble_eq_true rfl) (by decide) (by decide) (by rw [kc]; show cells + 1 + 0 ≤ 48; omega) (by rw [ks]; show slots + 2 + 0 ≤ 1536; omega) rfl at_166 ?_
  rintro T h2 _ S ⟨_, rfl, rfl, rfl⟩
  rw [zt]
  refine own_iload (pc' := 171) S rfl at_169 rfl ?_
  refine own_iconst (1 : Int32) (pc' := 172) S rfl at_171 rfl ?_
  refine own_isub (pc' := 173) S rfl at_172 ?_
  rw [own_sub1 (by omega) hk1]
  refine own_icN (pc' := 176) S rfl at_173 (own_f_ne rfl) ?_
  refine own_iconst (1 : Int32) (pc' := 177) S rfl at_176 rfl ?_
  refine own_goto (pc' := 181) S (by decide) rfl at_177 ?_
  refine own_istore (ls' := #[.val (.int x0), .val (.int xa), .val (.int xb), .val (.int xc), .val (.int xe), .val (.int xu), .val (.int (Int32.ofNat k)), s7, .val (.ref b), .val (.int (Int32.ofNat t)), .val (.int (Int32.ofNat o_)), .val (.ref r), .val (.int (1 : Int32)), .unset, .unset]) (pc' := 183) S rfl at_181 rfl ?_
  refine own_iload (pc' := 185) S rfl at_183 rfl ?_
  refine own_ifN (pc' := 188) S rfl at_185 ((if0 _ _).trans (own_f_eq (by decide))) ?_
  refine own_aload (pc' := 190) S rfl at_188 rfl rfl ?_
  refine own_iload (pc' := 192) S rfl at_190 rfl ?_
  refine own_callV (pc' := 195) (yy := own_y12) (rm := ({ frames := 0, cells := 0, slots := 0, locals := 0 } : Room)) (W := 2) [(.int (Int32.ofNat o_))] [] (b := b) S (List.mem_of_getElem? (i := 105) rfl) (List.mem_of_getElem? (i := 106) rfl) (List.mem_of_getElem? (i := 108) rfl) (List.mem_of_getElem? (i := 107) rfl) (List.mem_of_getElem? (i := 2) rfl) (List.mem_of_getElem? (i := 109) rfl) (by decide) P.1 (own_m12 l Z a0 hw _ n0 (own_size S) b ea sa oa cnt Ef _ hsep P Ae As o_ ho) (ps := [.int]) (r' := some .int) (by decide +kernel) rfl rfl rfl (Nat.le_of_ble_eq_true rfl) (by decide) (by decide) (by rw [kc]; show cells + 1 + 0 ≤ 48; omega) (by rw [ks]; show slots + 2 + 0 ≤ 1536; omega) rfl at_192 ?_
  rintro T h2 _ S ⟨_, rfl, rfl, rfl⟩
  rw [zo]
  refine own_iconst (1 : Int32) (pc' := 196) S rfl at_195 rfl ?_
  refine own_icN (pc' := 199) S rfl at_196 (own_f_ne rfl) ?_
  refine own_aload (pc' := 201) S rfl at_199 rfl rfl ?_
  refine own_iload (pc' := 203) S rfl at_201 rfl ?_
  refine own_iconst (0 : Int32) (pc' := 204) S rfl at_203 rfl ?_
  refine own_callV (pc' := 207) (yy := own_y13) (rm := ({ frames := 0, cells := 0, slots := 0, locals := 0 } : Room)) (W := 2) [(.int (Int32.ofNat o_)), (.int (0 : Int32))] [] (b := b) S (List.mem_of_getElem? (i := 110) rfl) (List.mem_of_getElem? (i := 111) rfl) (List.mem_of_getElem? (i := 113) rfl) (List.mem_of_getElem? (i := 112) rfl) (List.mem_of_getElem? (i := 2) rfl) (List.mem_of_getElem? (i := 114) rfl) (by decide) P.1 (own_m13 l Z a0 hw _ n0 (own_size S) b ea sa oa cnt Ef _ hsep P Ae As o_ 0 ho (by decide)) (ps := [.int, .int]) (r' := some .int) (by decide +kernel) rfl rfl rfl (Nat.le_of_ble_eq_true rfl) (by decide) (by decide) (by rw [kc]; show cells + 1 + 0 ≤ 48; omega) (by rw [ks]; show slots + 2 + 0 ≤ 1536; omega) rfl at_204 ?_
  rintro T h2 _ S ⟨_, rfl, rfl, rfl⟩
  rw [show 8 * o_ + 2 * 0 = 8 * o_ from rfl, hEo0]
  refine own_iload (pc' := 209) S rfl at_207 rfl ?_
  refine own_icN (pc' := 212) S rfl at_209 (own_f_ne rfl) ?_
  refine own_aload (pc' := 214) S rfl at_212 rfl rfl ?_
  refine own_iload (pc' := 216) S rfl at_214 rfl ?_
  refine own_iconst (0 : Int32) (pc' := 217) S rfl at_216 rfl ?_
  refine own_callV (pc' := 220) (yy := own_y14) (rm := ({ frames := 0, cells := 0, slots := 0, locals := 0 } : Room)) (W := 2) [(.int (Int32.ofNat o_)), (.int (0 : Int32))] [] (b := b) S (List.mem_of_getElem? (i := 115) rfl) (List.mem_of_getElem? (i := 116) rfl) (List.mem_of_getElem? (i := 118) rfl) (List.mem_of_getElem? (i := 117) rfl) (List.mem_of_getElem? (i := 2) rfl) (List.mem_of_getElem? (i := 119) rfl) (by decide) P.1 (own_m14 l Z a0 hw _ n0 (own_size S) b ea sa oa cnt Ef _ hsep P Ae As o_ 0 ho (by decide)) (ps := [.int, .int]) (r' := some .int) (by decide +kernel) rfl rfl rfl (Nat.le_of_ble_eq_true rfl) (by decide) (by decide) (by rw [kc]; show cells + 1 + 0 ≤ 48; omega) (by rw [ks]; show slots + 2 + 0 ≤ 1536; omega) rfl at_217 ?_
  rintro T h2 _ S ⟨_, rfl, rfl, rfl⟩
  rw [show 8 * o_ + 2 * 0 + 1 = 8 * o_ + 1 from rfl, hEo1]
  refine own_iloadN (pc' := 221) S rfl at_220 rfl ?_
  refine own_iconst (-1 : Int32) (pc' := 222) S rfl at_221 rfl ?_
  refine own_ixor (pc' := 223) S rfl at_222 ?_
  refine own_icN (pc' := 226) S rfl at_223 (own_f_ne rfl) ?_
  refine own_iconst (1 : Int32) (pc' := 227) S rfl at_226 rfl ?_
  refine own_goto (pc' := 231) S (by decide) rfl at_227 ?_
  refine own_istore (ls' := #[.val (.int x0), .val (.int xa), .val (.int xb), .val (.int xc), .val (.int xe), .val (.int xu), .val (.int (Int32.ofNat k)), s7, .val (.ref b), .val (.int (Int32.ofNat t)), .val (.int (Int32.ofNat o_)), .val (.ref r), .val (.int (1 : Int32)), .unset, .unset]) (pc' := 233) S rfl at_231 rfl ?_
  refine own_iload (pc' := 235) S rfl at_233 rfl ?_
  refine own_iconst (2 : Int32) (pc' := 236) S rfl at_235 rfl ?_
  refine own_ic (pt := 323) (pc' := 239) S (by decide) rfl rfl at_236 ?_ ?_
  · intro c236
    replace c236 := own_lt_t c236
    have k236 : (2 : Int32).toInt = 2 := rfl
    refine own_iload (pc' := 325) S rfl at_323 rfl ?_
    exact own_retZ (Or.inr rfl) S at_325 (by rw [kc]; show cells + 1 ≤ 48; omega) (by rw [ks]; show slots + 2 ≤ 1536; omega) ⟨_, rfl, rfl⟩
  · intro c236
    replace c236 := own_lt_f c236
    have k236 : (2 : Int32).toInt = 2 := rfl
    refine own_iload (pc' := 241) S rfl at_239 rfl ?_
    refine own_iconst (2 : Int32) (pc' := 242) S rfl at_241 rfl ?_
    refine own_ic (pt := 255) (pc' := 245) S (by decide) rfl rfl at_242 ?_ ?_
    · intro c242
      replace c242 := own_ne_t c242
      have e242 := own_ten c242
      have k242 : (2 : Int32).toInt = 2 := rfl
      refine own_iload (pc' := 257) S rfl at_255 rfl ?_
      refine own_iconst (3 : Int32) (pc' := 258) S rfl at_257 rfl ?_
      refine own_ic (pt := 271) (pc' := 261) S (by decide) rfl rfl at_258 ?_ ?_
      · intro c258
        replace c258 := own_ne_t c258
        have e258 := own_ten c258
        have k258 : (3 : Int32).toInt = 3 := rfl
        refine own_iload (pc' := 273) S rfl at_271 rfl ?_
        refine own_istore (ls' := #[.val (.int x0), .val (.int xa), .val (.int xb), .val (.int xc), .val (.int xe), .val (.int xu), .val (.int (Int32.ofNat k)), s7, .val (.ref b), .val (.int (Int32.ofNat t)), .val (.int (Int32.ofNat o_)), .val (.ref r), .val (.int (1 : Int32)), .val (.int xu), .unset]) (pc' := 275) S rfl at_273 rfl ?_
        refine own_iload (pc' := 277) S rfl at_275 rfl ?_
        refine own_istore (ls' := #[.val (.int x0), .val (.int xa), .val (.int xb), .val (.int xc), .val (.int xe), .val (.int xu), .val (.int (Int32.ofNat k)), s7, .val (.ref b), .val (.int (Int32.ofNat t)), .val (.int (Int32.ofNat o_)), .val (.ref r), .val (.int (1 : Int32)), .val (.int xu), .val (.int xe)]) (pc' := 279) S rfl at_277 rfl ?_
        have ek : k = 4 := by omega
        subst ek
        have f1 : Ef (8 * t + 2 * (4 - 2)) = xu := by rw [hEt _ (by omega)]; rfl
        have f2 : Ef (8 * t + 2 * (4 - 2) + 1) = xe := by rw [show 8 * t + 2 * (4 - 2) + 1 = 8 * t + (2 * (4 - 2) + 1) by omega, hEt _ (by omega)]; rfl
        refine own_iload (pc' := 281) S rfl at_279 rfl ?_
        refine own_ifN (pc' := 284) S rfl at_281 ((if0 _ _).trans (own_f_eq (by decide))) ?_
        refine own_aload (pc' := 286) S rfl at_284 rfl rfl ?_
        refine own_iload (pc' := 288) S rfl at_286 rfl ?_
        refine own_iload (pc' := 290) S rfl at_288 rfl ?_
        refine own_iconst (2 : Int32) (pc' := 291) S rfl at_290 rfl ?_
        refine own_isub (pc' := 292) S rfl at_291 ?_
        rw [show Int32.ofNat 4 - (2 : Int32) = Int32.ofNat (4 - 2) from rfl]
        refine own_callV (pc' := 295) (yy := own_y13) (rm := ({ frames := 0, cells := 0, slots := 0, locals := 0 } : Room)) (W := 2) [(.int (Int32.ofNat t)), (.int (Int32.ofNat (4 - 2)))] [] (b := b) S (List.mem_of_getElem? (i := 110) rfl) (List.mem_of_getElem? (i := 111) rfl) (List.mem_of_getElem? (i := 113) rfl) (List.mem_of_getElem? (i := 112) rfl) (List.mem_of_getElem? (i := 2) rfl) (List.mem_of_getElem? (i := 114) rfl) (by decide) P.1 (own_m13 l Z a0 hw _ n0 (own_size S) b ea sa oa cnt Ef _ hsep P Ae As t (4 - 2) ht (by decide)) (ps := [.int, .int]) (r' := some .int) (by decide +kernel) rfl rfl rfl (Nat.le_of_ble_eq_true rfl) (by decide) (by decide) (by rw [kc]; show cells + 1 + 0 ≤ 48; omega) (by rw [ks]; show slots + 2 + 0 ≤ 1536; omega) rfl at_292 ?_
        rintro T h2 _ S ⟨_, rfl, rfl, rfl⟩
        rw [f1]
        refine own_iload (pc' := 297) S rfl at_295 rfl ?_
        refine own_icN (pc' := 300) S rfl at_297 (own_f_ne rfl) ?_
        refine own_aload (pc' := 302) S rfl at_300 rfl rfl ?_
        refine own_iload (pc' := 304) S rfl at_302 rfl ?_
        refine own_iload (pc' := 306) S rfl at_304 rfl ?_
        refine own_iconst (2 : Int32) (pc' := 307) S rfl at_306 rfl ?_
        refine own_isub (pc' := 308) S rfl at_307 ?_
        rw [show Int32.ofNat 4 - (2 : Int32) = Int32.ofNat (4 - 2) from rfl]
        refine own_callV (pc' := 311) (yy := own_y14) (rm := ({ frames := 0, cells := 0, slots := 0, locals := 0 } : Room)) (W := 2) [(.int (Int32.ofNat t)), (.int (Int32.ofNat (4 - 2)))] [] (b := b) S (List.mem_of_getElem? (i := 115) rfl) (List.mem_of_getElem? (i := 116) rfl) (List.mem_of_getElem? (i := 118) rfl) (List.mem_of_getElem? (i := 117) rfl) (List.mem_of_getElem? (i := 2) rfl) (List.mem_of_getElem? (i := 119) rfl) (by decide) P.1 (own_m14 l Z a0 hw _ n0 (own_size S) b ea sa oa cnt Ef _ hsep P Ae As t (4 - 2) ht (by decide)) (ps := [.int, .int]) (r' := some .int) (by decide +kernel) rfl rfl rfl (Nat.le_of_ble_eq_true rfl) (by decide) (by decide) (by rw [kc]; show cells + 1 + 0 ≤ 48; omega) (by rw [ks]; show slots + 2 + 0 ≤ 1536; omega) rfl at_308 ?_
        rintro T h2 _ S ⟨_, rfl, rfl, rfl⟩
        rw [f2]
        refine own_iload (pc' := 313) S rfl at_311 rfl ?_
        refine own_icN (pc' := 316) S rfl at_313 (own_f_ne rfl) ?_
        refine own_iconst (1 : Int32) (pc' := 317) S rfl at_316 rfl ?_
        refine own_goto (pc' := 321) S (by decide) rfl at_317 ?_
        refine own_istore (ls' := #[.val (.int x0), .val (.int xa), .val (.int xb), .val (.int xc), .val (.int xe), .val (.int xu), .val (.int (Int32.ofNat 4)), s7, .val (.ref b), .val (.int (Int32.ofNat t)), .val (.int (Int32.ofNat o_)), .val (.ref r), .val (.int (1 : Int32)), .val (.int xu), .val (.int xe)]) (pc' := 323) S rfl at_321 rfl ?_
        refine own_iload (pc' := 325) S rfl at_323 rfl ?_
        exact own_retZ (Or.inr rfl) S at_325 (by rw [kc]; show cells + 1 ≤ 48; omega) (by rw [ks]; show slots + 2 ≤ 1536; omega) ⟨_, rfl, rfl⟩
      · intro c258
        replace c258 := own_ne_f c258
        have e258 := congrArg Int32.toInt c258
        have k258 : (3 : Int32).toInt = 3 := rfl
        refine own_iload (pc' := 263) S rfl at_261 rfl ?_
        refine own_istore (ls' := #[.val (.int x0), .val (.int xa), .val (.int xb), .val (.int xc), .val (.int xe), .val (.int xu), .val (.int (Int32.ofNat k)), s7, .val (.ref b), .val (.int (Int32.ofNat t)), .val (.int (Int32.ofNat o_)), .val (.ref r), .val (.int (1 : Int32)), .val (.int xe), .unset]) (pc' := 265) S rfl at_263 rfl ?_
        refine own_iloadN (pc' := 266) S rfl at_265 rfl ?_
        refine own_istore (ls' := #[.val (.int x0), .val (.int xa), .val (.int xb), .val (.int xc), .val (.int xe), .val (.int xu), .val (.int (Int32.ofNat k)), s7, .val (.ref b), .val (.int (Int32.ofNat t)), .val (.int (Int32.ofNat o_)), .val (.ref r), .val (.int (1 : Int32)), .val (.int xe), .val (.int xc)]) (pc' := 268) S rfl at_266 rfl ?_
        refine own_goto (pc' := 279) S (by decide) rfl at_268 ?_
        have ek : k = 3 := by omega
        subst ek
        have f1 : Ef (8 * t + 2 * (3 - 2)) = xe := by rw [hEt _ (by omega)]; rfl
        have f2 : Ef (8 * t + 2 * (3 - 2) + 1) = xc := by rw [show 8 * t + 2 * (3 - 2) + 1 = 8 * t + (2 * (3 - 2) + 1) by omega, hEt _ (by omega)]; rfl
        refine own_iload (pc' := 281) S rfl at_279 rfl ?_
        refine own_ifN (pc' := 284) S rfl at_281 ((if0 _ _).trans (own_f_eq (by decide))) ?_
        refine own_aload (pc' := 286) S rfl at_284 rfl rfl ?_
        refine own_iload (pc' := 288) S rfl at_286 rfl ?_
        refine own_iload (pc' := 290) S rfl at_288 rfl ?_
        refine own_iconst (2 : Int32) (pc' := 291) S rfl at_290 rfl ?_
        refine own_isub (pc' := 292) S rfl at_291 ?_
        rw [show Int32.ofNat 3 - (2 : Int32) = Int32.ofNat (3 - 2) from rfl]
        refine own_callV (pc' := 295) (yy := own_y13) (rm := ({ frames := 0, cells := 0, slots := 0, locals := 0 } : Room)) (W := 2) [(.int (Int32.ofNat t)), (.int (Int32.ofNat (3 - 2)))] [] (b := b) S (List.mem_of_getElem? (i := 110) rfl) (List.mem_of_getElem? (i := 111) rfl) (List.mem_of_getElem? (i := 113) rfl) (List.mem_of_getElem? (i := 112) rfl) (List.mem_of_getElem? (i := 2) rfl) (List.mem_of_getElem? (i := 114) rfl) (by decide) P.1 (own_m13 l Z a0 hw _ n0 (own_size S) b ea sa oa cnt Ef _ hsep P Ae As t (3 - 2) ht (by decide)) (ps := [.int, .int]) (r' := some .int) (by decide +kernel) rfl rfl rfl (Nat.le_of_ble_eq_true rfl) (by decide) (by decide) (by rw [kc]; show cells + 1 + 0 ≤ 48; omega) (by rw [ks]; show slots + 2 + 0 ≤ 1536; omega) rfl at_292 ?_
        rintro T h2 _ S ⟨_, rfl, rfl, rfl⟩
        rw [f1]
        refine own_iload (pc' := 297) S rfl at_295 rfl ?_
        refine own_icN (pc' := 300) S rfl at_297 (own_f_ne rfl) ?_
        refine own_aload (pc' := 302) S rfl at_300 rfl rfl ?_
        refine own_iload (pc' := 304) S rfl at_302 rfl ?_
        refine own_iload (pc' := 306) S rfl at_304 rfl ?_
        refine own_iconst (2 : Int32) (pc' := 307) S rfl at_306 rfl ?_
        refine own_isub (pc' := 308) S rfl at_307 ?_
        rw [show Int32.ofNat 3 - (2 : Int32) = Int32.ofNat (3 - 2) from rfl]
        refine own_callV (pc' := 311) (yy := own_y14) (rm := ({ frames := 0, cells := 0, slots := 0, locals := 0 } : Room)) (W := 2) [(.int (Int32.ofNat t)), (.int (Int32.ofNat (3 - 2)))] [] (b := b) S (List.mem_of_getElem? (i := 115) rfl) (List.mem_of_getElem? (i := 116) rfl) (List.mem_of_getElem? (i := 118) rfl) (List.mem_of_getElem? (i := 117) rfl) (List.mem_of_getElem? (i := 2) rfl) (List.mem_of_getElem? (i := 119) rfl) (by decide) P.1 (own_m14 l Z a0 hw _ n0 (own_size S) b ea sa oa cnt Ef _ hsep P Ae As t (3 - 2) ht (by decide)) (ps := [.int, .int]) (r' := some .int) (by decide +kernel) rfl rfl rfl (Nat.le_of_ble_eq_true rfl) (by decide) (by decide) (by rw [kc]; show cells + 1 + 0 ≤ 48; omega) (by rw [ks]; show slots + 2 + 0 ≤ 1536; omega) rfl at_308 ?_
        rintro T h2 _ S ⟨_, rfl, rfl, rfl⟩
        rw [f2]
        refine own_iload (pc' := 313) S rfl at_311 rfl ?_
        refine own_icN (pc' := 316) S rfl at_313 (own_f_ne rfl) ?_
        refine own_iconst (1 : Int32) (pc' := 317) S rfl at_316 rfl ?_
        refine own_goto (pc' := 321) S (by decide) rfl at_317 ?_
        refine own_istore (ls' := #[.val (.int x0), .val (.int xa), .val (.int xb), .val (.int xc), .val (.int xe), .val (.int xu), .val (.int (Int32.ofNat 3)), s7, .val (.ref b), .val (.int (Int32.ofNat t)), .val (.int (Int32.ofNat o_)), .val (.ref r), .val (.int (1 : Int32)), .val (.int xe), .val (.int xc)]) (pc' := 323) S rfl at_321 rfl ?_
        refine own_iload (pc' := 325) S rfl at_323 rfl ?_
        exact own_retZ (Or.inr rfl) S at_325 (by rw [kc]; show cells + 1 ≤ 48; omega) (by rw [ks]; show slots + 2 ≤ 1536; omega) ⟨_, rfl, rfl⟩
    · intro c242
      replace c242 := own_ne_f c242
      have e242 := congrArg Int32.toInt c242
      have k242 : (2 : Int32).toInt = 2 := rfl
      refine own_iloadN (pc' := 246) S rfl at_245 rfl ?_
      refine own_istore (ls' := #[.val (.int x0), .val (.int xa), .val (.int xb), .val (.int xc), .val (.int xe), .val (.int xu), .val (.int (Int32.ofNat k)), s7, .val (.ref b), .val (.int (Int32.ofNat t)), .val (.int (Int32.ofNat o_)), .val (.ref r), .val (.int (1 : Int32)), .val (.int xc), .unset]) (pc' := 248) S rfl at_246 rfl ?_
      refine own_iload (pc' := 250) S rfl at_248 rfl ?_
      refine own_istore (ls' := #[.val (.int x0), .val (.int xa), .val (.int xb), .val (.int xc), .val (.int xe), .val (.int xu), .val (.int (Int32.ofNat k)), s7, .val (.ref b), .val (.int (Int32.ofNat t)), .val (.int (Int32.ofNat o_)), .val (.ref r), .val (.int (1 : Int32)), .val (.int xc), .val (.int xe)]) (pc' := 252) S rfl at_250 rfl ?_
      refine own_goto (pc' := 279) S (by decide) rfl at_252 ?_
      have ek : k = 2 := by omega
      subst ek
      have f1 : Ef (8 * t + 2 * (2 - 2)) = xc := by rw [hEt _ (by omega)]; rfl
      have f2 : Ef (8 * t + 2 * (2 - 2) + 1) = xe := by rw [show 8 * t + 2 * (2 - 2) + 1 = 8 * t + (2 * (2 - 2) + 1) by omega, hEt _ (by omega)]; rfl
      refine own_iload (pc' := 281) S rfl at_279 rfl ?_
      refine own_ifN (pc' := 284) S rfl at_281 ((if0 _ _).trans (own_f_eq (by decide))) ?_
      refine own_aload (pc' := 286) S rfl at_284 rfl rfl ?_
      refine own_iload (pc' := 288) S rfl at_286 rfl ?_
      refine own_iload (pc' := 290) S rfl at_288 rfl ?_
      refine own_iconst (2 : Int32) (pc' := 291) S rfl at_290 rfl ?_
      refine own_isub (pc' := 292) S rfl at_291 ?_
      rw [show Int32.ofNat 2 - (2 : Int32) = Int32.ofNat (2 - 2) from rfl]
      refine own_callV (pc' := 295) (yy := own_y13) (rm := ({ frames := 0, cells := 0, slots := 0, locals := 0 } : Room)) (W := 2) [(.int (Int32.ofNat t)), (.int (Int32.ofNat (2 - 2)))] [] (b := b) S (List.mem_of_getElem? (i := 110) rfl) (List.mem_of_getElem? (i := 111) rfl) (List.mem_of_getElem? (i := 113) rfl) (List.mem_of_getElem? (i := 112) rfl) (List.mem_of_getElem? (i := 2) rfl) (List.mem_of_getElem? (i := 114) rfl) (by decide) P.1 (own_m13 l Z a0 hw _ n0 (own_size S) b ea sa oa cnt Ef _ hsep P Ae As t (2 - 2) ht (by decide)) (ps := [.int, .int]) (r' := some .int) (by decide +kernel) rfl rfl rfl (Nat.le_of_ble_eq_true rfl) (by decide) (by decide) (by rw [kc]; show cells + 1 + 0 ≤ 48; omega) (by rw [ks]; show slots + 2 + 0 ≤ 1536; omega) rfl at_292 ?_
      rintro T h2 _ S ⟨_, rfl, rfl, rfl⟩
      rw [f1]
      refine own_iload (pc' := 297) S rfl at_295 rfl ?_
      refine own_icN (pc' := 300) S rfl at_297 (own_f_ne rfl) ?_
      refine own_aload (pc' := 302) S rfl at_300 rfl rfl ?_
      refine own_iload (pc' := 304) S rfl at_302 rfl ?_
      refine own_iload (pc' := 306) S rfl at_304 rfl ?_
      refine own_iconst (2 : Int32) (pc' := 307) S rfl at_306 rfl ?_
      refine own_isub (pc' := 308) S rfl at_307 ?_
      rw [show Int32.ofNat 2 - (2 : Int32) = Int32.ofNat (2 - 2) from rfl]
      refine own_callV (pc' := 311) (yy := own_y14) (rm := ({ frames := 0, cells := 0, slots := 0, locals := 0 } : Room)) (W := 2) [(.int (Int32.ofNat t)), (.int (Int32.ofNat (2 - 2)))] [] (b := b) S (List.mem_of_getElem? (i := 115) rfl) (List.mem_of_getElem? (i := 116) rfl) (List.mem_of_getElem? (i := 118) rfl) (List.mem_of_getElem? (i := 117) rfl) (List.mem_of_getElem? (i := 2) rfl) (List.mem_of_getElem? (i := 119) rfl) (by decide) P.1 (own_m14 l Z a0 hw _ n0 (own_size S) b ea sa oa cnt Ef _ hsep P Ae As t (2 - 2) ht (by decide)) (ps := [.int, .int]) (r' := some .int) (by decide +kernel) rfl rfl rfl (Nat.le_of_ble_eq_true rfl) (by decide) (by decide) (by rw [kc]; show cells + 1 + 0 ≤ 48; omega) (by rw [ks]; show slots + 2 + 0 ≤ 1536; omega) rfl at_308 ?_
      rintro T h2 _ S ⟨_, rfl, rfl, rfl⟩
      rw [f2]
      refine own_iload (pc' := 313) S rfl at_311 rfl ?_
      refine own_icN (pc' := 316) S rfl at_313 (own_f_ne rfl) ?_
      refine own_iconst (1 : Int32) (pc' := 317) S rfl at_316 rfl ?_
      refine own_goto (pc' := 321) S (by decide) rfl at_317 ?_
      refine own_istore (ls' := #[.val (.int x0), .val (.int xa), .val (.int xb), .val (.int xc), .val (.int xe), .val (.int xu), .val (.int (Int32.ofNat 2)), s7, .val (.ref b), .val (.int (Int32.ofNat t)), .val (.int (Int32.ofNat o_)), .val (.ref r), .val (.int (1 : Int32)), .val (.int xc), .val (.int xe)]) (pc' := 323) S rfl at_321 rfl ?_
      refine own_iload (pc' := 325) S rfl at_323 rfl ?_
      exact own_retZ (Or.inr rfl) S at_325 (by rw [kc]; show cells + 1 ≤ 48; omega) (by rw [ks]; show slots + 2 ≤ 1536; omega) ⟨_, rfl, rfl⟩
theorem own_pn0 : plainName "com/example/ringloom/ringloom/DraftPlanRemoveLastPinLaw" = true := by first | (simp [plainName, overriddenIn]; done) | decide +kernel
theorem own_ef0 (m : MethodId) (x0 : Int32) (xa : Int32) (xb : Int32) (xc : Int32) (xe : Int32) (xu : Int32) : entryFrame m #[(.int x0), (.int xa), (.int xb), (.int xc), (.int xe), (.int xu)] maxLocals = mkF m 0 #[.val (.int x0), .val (.int xa), .val (.int xb), .val (.int xc), .val (.int xe), .val (.int xu), .unset, .unset, .unset, .unset, .unset, .unset, .unset, .unset, .unset] [] := by first | (simp [entryFrame, mkF, argsToLocals, Value.category, maxLocals]; done) | rfl
set_option maxRecDepth 65536 in
set_option maxHeartbeats 40000000 in
theorem own_m0 (l : Launch) (Z : State) (a0 : Array Value) (hw : ∀ d ∈ tables_1, d.before a0 Z = true) (x0 : Int32) (xa : Int32) (xb : Int32) (xc : Int32) (xe : Int32) (xu : Int32) (h0 : Heap) (n0 : Nat) (hn : n0 ≤ h0.size) :
    own_Met l Z h0 n0 x code maxLocals ret tables_1 room_1 #[(.int x0), (.int xa), (.int xb), (.int xc), (.int xe), (.int xu)] (own_V fun w h => w = .int 1) := by
  refine own_met (ls := #[.val (.int x0), .val (.int xa), .val (.int xb), .val (.int xc), .val (.int xe), .val (.int xu), .unset, .unset, .unset, .unset, .unset, .unset, .unset, .unset, .unset]) own_pn0 (fun m => own_ef0 m x0 xa xb xc xe xu) hn hw fun p e s m below meth c T S => ?_
  obtain ⟨k, hk, hk1, ek⟩ : ∃ k : Nat, k < 5 ∧ 1 ≤ k ∧ (1 : Int32) + (x0 &&& 3) = Int32.ofNat k := by
    obtain ⟨k, hk, ek⟩ := own_mask x0 3 (by decide)
    have : (3 : Int32).toInt = 3 := rfl
    exact ⟨1 + k, by omega, by omega, by rw [ek]; exact own_addN 1 k⟩
  refine own_iconst (1 : Int32) (pc' := 1) S rfl at_0 rfl ?_
  refine own_iloadN (pc' := 2) S rfl at_1 rfl ?_
  refine own_iconst (3 : Int32) (pc' := 3) S rfl at_2 rfl ?_
  refine own_iand (pc' := 4) S rfl at_3 ?_
  refine own_iadd (pc' := 5) S rfl at_4 ?_
  rw [ek]
  refine own_istore (ls' := #[.val (.int x0), .val (.int xa), .val (.int xb), .val (.int xc), .val (.int xe), .val (.int xu), .val (.int (Int32.ofNat k)), .unset, .unset, .unset, .unset, .unset, .unset, .unset, .unset]) (pc' := 7) S rfl at_5 rfl ?_
  refine own_iloadN (pc' := 8) S rfl at_7 rfl ?_
  refine own_iconst (4 : Int32) (pc' := 9) S rfl at_8 rfl ?_
  refine own_iand (pc' := 10) S rfl at_9 ?_
  refine own_if (pt := 17) (pc' := 13) S (by decide) rfl rfl at_10 ?_ ?_
  · intro c10
    replace c10 := own_eq_t ((if0 _ _).symm.trans c10)
    have e10 := congrArg Int32.toInt c10
    have k10 : (0 : Int32).toInt = 0 := rfl
    refine own_iconst (0 : Int32) (pc' := 18) S rfl at_17 rfl ?_
    refine own_istore (ls' := #[.val (.int x0), .val (.int xa), .val (.int xb), .val (.int xc), .val (.int xe), .val (.int xu), .val (.int (Int32.ofNat k)), .val (.int (0 : Int32)), .unset, .unset, .unset, .unset, .unset, .unset, .unset]) (pc' := 20) S rfl at_18 rfl ?_
    refine own_new (pc' := 23) S (List.mem_of_getElem? (i := 0) rfl) (List.mem_of_getElem? (i := 1) rfl) (List.mem_of_getElem? (i := 2) rfl) (by decide) (by decide) rfl at_20 ?_
    intro T h b hb hb0 S Ex E D
    have Fc : Fld Z h b "com/example/ringloom/ringloom/DraftPlan" "count" "I" (.int 0) := D (Or.inl (List.mem_of_getElem? (i := 85) rfl)) (ty := .int) (by decide +kernel)
    refine own_dup (pc' := 24) S rfl at_23 rfl ?_
    refine own_iconst (2 : Int32) (pc' := 25) S rfl at_24 rfl ?_
    refine own_iconst (1 : Int32) (pc' := 26) S rfl at_25 rfl ?_
    refine own_callI (pc' := 29) (yy := own_y7) (rm := ({ frames := 3, cells := 13, slots := 720, locals := 60 } : Room)) (W := 2) [(.int (2 : Int32)), (.int (1 : Int32))] [(.ref b)] (b := b) S (List.mem_of_getElem? (i := 3) rfl) (List.mem_of_getElem? (i := 4) rfl) (List.mem_of_getElem? (i := 2) rfl) (List.mem_of_getElem? (i := 5) rfl) rfl (by decide) (own_m7 l Z a0 hw _ n0 (own_size S) b (2 : Int32) (1 : Int32) hb0 E (own_Uof Fc) Fc) (ps := [.int, .int]) (r' := none) (by decide +kernel) rfl rfl rfl (Nat.le_of_ble_eq_true rfl) (by decide) (by decide) (by decide) (by decide) rfl at_26 ?_
    rintro T h _ S ⟨rfl, ea, sa, oa, P, hsep, Ae, As⟩
    clear E Fc D
    refine own_astore (ls' := #[.val (.int x0), .val (.int xa), .val (.int xb), .val (.int xc), .val (.int xe), .val (.int xu), .val (.int (Int32.ofNat k)), .val (.int (0 : Int32)), .val (.ref b), .unset, .unset, .unset, .unset, .unset, .unset]) (pc' := 31) S rfl at_29 rfl rfl ?_
    refine own_iload (pc' := 33) S rfl at_31 rfl ?_
    refine own_ifY (pc' := 76) S (by decide) rfl at_33 ((if0 _ _).trans (own_t_eq rfl)) ?_
    refine own_aload (pc' := 78) S rfl at_76 rfl rfl ?_
    refine own_iconst (2 : Int32) (pc' := 79) S rfl at_78 rfl ?_
    have blt := Exa.lt P.1
    have elt := own_Alt Ae
    have slt := own_Alt As
    have olt := Exa.lt P.2.2.2.2.2.1
    refine own_newarray (pc' := 81) 2 S (List.mem_of_getElem? (i := 9) rfl) (n := 2) rfl (by decide) (by decide) (by decide) (by decide) rfl at_79 ?_
    intro T h ar har ar0 S Ex Ar
    have nab : ar ≠ b := by rw [har]; exact (Nat.ne_of_lt blt).symm
    have nae : ar ≠ ea := by rw [har]; exact (Nat.ne_of_lt elt).symm
    have nas : ar ≠ sa := by rw [har]; exact (Nat.ne_of_lt slt).symm
    have nao : ar ≠ oa := by rw [har]; exact (Nat.ne_of_lt olt).symm
    replace P := own_Pext P Ex
    replace Ae := own_Aext Ae Ex
    replace As := own_Aext As Ex
    refine own_dup (pc' := 82) S rfl at_81 rfl ?_
    refine own_iconst (0 : Int32) (pc' := 83) S rfl at_82 rfl ?_
    refine own_iload (pc' := 85) S rfl at_83 rfl ?_
    refine own_iastore (pc' := 86) S Ar (k := 0) rfl (by decide) ar0 rfl at_85 ?_
    clear Ar
    intro T h S W Ar
    replace P := own_Pwr P W nab.symm nao.symm
    replace Ae := own_Awr Ae W nae.symm
    replace As := own_Awr As W nas.symm
    refine own_dup (pc' := 87) S rfl at_86 rfl ?_
    refine own_iconst (1 : Int32) (pc' := 88) S rfl at_87 rfl ?_
    refine own_iloadN (pc' := 89) S rfl at_88 rfl ?_
    refine own_iconst (-1 : Int32) (pc' := 90) S rfl at_89 rfl ?_
    refine own_ixor (pc' := 91) S rfl at_90 ?_
    refine own_iastore (pc' := 92) S Ar (k := 1) rfl (by decide) ar0 rfl at_91 ?_
    clear Ar
    intro T h S W Ar
    replace P := own_Pwr P W nab.symm nao.symm
    replace Ae := own_Awr Ae W nae.symm
    replace As := own_Awr As W nas.symm
    replace Ar : own_A Z _ ar .int (2 * 1) (fun j => .int (own_F 1 xu (xc ^^^ -1) 0 0 0 j)) := own_Aof Ar (fun j hj => by
      have : j = 0 ∨ j = 1 := by omega
      rcases this with rfl | rfl <;> rfl)
    refine own_callV (pc' := 95) (yy := own_y10) (rm := ({ frames := 3, cells := 0, slots := 0, locals := 50 } : Room)) (W := 2) [(.ref ar)] [] (b := b) S (List.mem_of_getElem? (i := 79) rfl) (List.mem_of_getElem? (i := 80) rfl) (List.mem_of_getElem? (i := 82) rfl) (List.mem_of_getElem? (i := 81) rfl) (List.mem_of_getElem? (i := 2) rfl) (List.mem_of_getElem? (i := 83) rfl) (by decide) P.1 (own_m10 l Z a0 hw _ n0 (own_size S) b ea sa oa 0 (fun _ => 0) (fun _ => 0) hsep P Ae As ar 1 (own_F 1 xu (xc ^^^ -1) 0 0 0) (by decide) (by decide) rfl nab nae nas Ar) (ps := [(.array .int)]) (r' := some .int) (by decide +kernel) rfl rfl rfl (Nat.le_of_ble_eq_true rfl) (by decide) (by decide) (by decide) (by decide) rfl at_92 ?_
    rintro T h _ S ⟨_, rfl, rfl, P, Ae, As⟩
    refine own_istore (ls' := #[.val (.int x0), .val (.int xa), .val (.int xb), .val (.int xc), .val (.int xe), .val (.int xu), .val (.int (Int32.ofNat k)), .val (.int (0 : Int32)), .val (.ref b), .unset, .val (.int (Int32.ofNat 0)), .unset, .unset, .unset, .unset]) (pc' := 97) S rfl at_95 rfl ?_
    refine own_aload (pc' := 99) S rfl at_97 rfl rfl ?_
    refine own_iload (pc' := 101) S rfl at_99 rfl ?_
    refine own_iloadN (pc' := 102) S rfl at_101 rfl ?_
    refine own_iloadN (pc' := 103) S rfl at_102 rfl ?_
    refine own_iloadN (pc' := 104) S rfl at_103 rfl ?_
    refine own_iload (pc' := 106) S rfl at_104 rfl ?_
    refine own_iload (pc' := 108) S rfl at_106 rfl ?_
    refine own_callS (pc' := 111) (yy := own_y15) (rm := ({ frames := 4, cells := 1, slots := 8, locals := 70 } : Room)) (W := 2) [(.ref b), (.int (Int32.ofNat k)), (.int xa), (.int xb), (.int xc), (.int xe), (.int xu)] [] S (List.mem_of_getElem? (i := 96) rfl) (List.mem_of_getElem? (i := 97) rfl) (List.mem_of_getElem? (i := 98) rfl) (List.mem_of_getElem? (i := 99) rfl) (by decide) (own_m15 l Z a0 hw _ n0 (own_size S) b ea sa oa 1 (own_e8f (fun _ => 0) 0 1 (own_F 1 xu (xc ^^^ -1) 0 0 0)) (own_zs (fun _ => 0) 0 1) hsep P Ae As k xa xb xc xe xu hk hk1 (by decide) (by simp [own_zs])) (ps := [(.object "com/example/ringloom/ringloom/DraftPlan"), .int, .int, .int, .int, .int, .int]) (r' := some .int) (by decide +kernel) rfl rfl rfl (Nat.le_of_ble_eq_true rfl) (by decide) (by decide) (by decide) (by decide) rfl at_108 ?_
    rintro T h _ S ⟨_, rfl, rfl, P, Ae, As⟩
    refine own_istore (ls' := #[.val (.int x0), .val (.int xa), .val (.int xb), .val (.int xc), .val (.int xe), .val (.int xu), .val (.int (Int32.ofNat k)), .val (.int (0 : Int32)), .val (.ref b), .val (.int (Int32.ofNat 1)), .val (.int (Int32.ofNat 0)), .unset, .unset, .unset, .unset]) (pc' := 113) S rfl at_111 rfl ?_
    refine own_k113 x0 xa xb xc xe xu k 1 0 2 (own_e8f (own_e8f (fun _ => 0) 0 1 (own_F 1 xu (xc ^^^ -1) 0 0 0)) 1 k (own_F k xa xb xc xe xu)) (own_zs (own_zs (fun _ => 0) 0 1) 1 k) (by decide) (by decide) hk hk1 (by decide) (by decide) (by decide) S hsep P Ae As (by simp [own_zs]) (by simp [own_zs]) (fun j hj => ?_) ?_ ?_
    · unfold own_e8f; rw [if_pos (by omega), show 8 * 1 + j - 8 * 1 = j by omega]
    · unfold own_e8f; rw [if_neg (by omega), if_pos (by omega)]; rfl
    · unfold own_e8f; rw [if_neg (by omega), if_pos (by omega)]; rfl
  · intro c10
    replace c10 := own_eq_f ((if0 _ _).symm.trans c10)
    have e10 := own_ten c10
    have k10 : (0 : Int32).toInt = 0 := rfl
    refine own_iconst (1 : Int32) (pc' := 14) S rfl at_13 rfl ?_
    refine own_goto (pc' := 18) S (by decide) rfl at_14 ?_
    refine own_istore (ls' := #[.val (.int x0), .val (.int xa), .val (.int xb), .val (.int xc), .val (.int xe), .val (.int xu), .val (.int (Int32.ofNat k)), .val (.int (1 : Int32)), .unset, .unset, .unset, .unset, .unset, .unset, .unset]) (pc' := 20) S rfl at_18 rfl ?_
    refine own_new (pc' := 23) S (List.mem_of_getElem? (i := 0) rfl) (List.mem_of_getElem? (i := 1) rfl) (List.mem_of_getElem? (i := 2) rfl) (by decide) (by decide) rfl at_20 ?_
    intro T h b hb hb0 S Ex E D
    have Fc : Fld Z h b "com/example/ringloom/ringloom/DraftPlan" "count" "I" (.int 0) := D (Or.inl (List.mem_of_getElem? (i := 85) rfl)) (ty := .int) (by decide +kernel)
    refine own_dup (pc' := 24) S rfl at_23 rfl ?_
    refine own_iconst (2 : Int32) (pc' := 25) S rfl at_24 rfl ?_
    refine own_iconst (1 : Int32) (pc' := 26) S rfl at_25 rfl ?_
    refine own_callI (pc' := 29) (yy := own_y7) (rm := ({ frames := 3, cells := 13, slots := 720, locals := 60 } : Room)) (W := 2) [(.int (2 : Int32)), (.int (1 : Int32))] [(.ref b)] (b := b) S (List.mem_of_getElem? (i := 3) rfl) (List.mem_of_getElem? (i := 4) rfl) (List.mem_of_getElem? (i := 2) rfl) (List.mem_of_getElem? (i := 5) rfl) rfl (by decide) (own_m7 l Z a0 hw _ n0 (own_size S) b (2 : Int32) (1 : Int32) hb0 E (own_Uof Fc) Fc) (ps := [.int, .int]) (r' := none) (by decide +kernel) rfl rfl rfl (Nat.le_of_ble_eq_true rfl) (by decide) (by decide) (by decide) (by decide) rfl at_26 ?_
    rintro T h _ S ⟨rfl, ea, sa, oa, P, hsep, Ae, As⟩
    clear E Fc D
    refine own_astore (ls' := #[.val (.int x0), .val (.int xa), .val (.int xb), .val (.int xc), .val (.int xe), .val (.int xu), .val (.int (Int32.ofNat k)), .val (.int (1 : Int32)), .val (.ref b), .unset, .unset, .unset, .unset, .unset, .unset]) (pc' := 31) S rfl at_29 rfl rfl ?_
    refine own_iload (pc' := 33) S rfl at_31 rfl ?_
    refine own_ifN (pc' := 36) S rfl at_33 ((if0 _ _).trans (own_f_eq (by decide))) ?_
    refine own_aload (pc' := 38) S rfl at_36 rfl rfl ?_
    refine own_iload (pc' := 40) S rfl at_38 rfl ?_
    refine own_iloadN (pc' := 41) S rfl at_40 rfl ?_
    refine own_iloadN (pc' := 42) S rfl at_41 rfl ?_
    refine own_iloadN (pc' := 43) S rfl at_42 rfl ?_
    refine own_iload (pc' := 45) S rfl at_43 rfl ?_
    refine own_iload (pc' := 47) S rfl at_45 rfl ?_
    refine own_callS (pc' := 50) (yy := own_y15) (rm := ({ frames := 4, cells := 1, slots := 8, locals := 70 } : Room)) (W := 2) [(.ref b), (.int (Int32.ofNat k)), (.int xa), (.int xb), (.int xc), (.int xe), (.int xu)] [] S (List.mem_of_getElem? (i := 96) rfl) (List.mem_of_getElem? (i := 97) rfl) (List.mem_of_getElem? (i := 98) rfl) (List.mem_of_getElem? (i := 99) rfl) (by decide) (own_m15 l Z a0 hw _ n0 (own_size S) b ea sa oa 0 (fun _ => 0) (fun _ => 0) hsep P Ae As k xa xb xc xe xu hk hk1 (by decide) rfl) (ps := [(.object "com/example/ringloom/ringloom/DraftPlan"), .int, .int, .int, .int, .int, .int]) (r' := some .int) (by decide +kernel) rfl rfl rfl (Nat.le_of_ble_eq_true rfl) (by decide) (by decide) (by decide) (by decide) rfl at_47 ?_
    rintro T h _ S ⟨_, rfl, rfl, P, Ae, As⟩
    refine own_istore (ls' := #[.val (.int x0), .val (.int xa), .val (.int xb), .val (.int xc), .val (.int xe), .val (.int xu), .val (.int (Int32.ofNat k)), .val (.int (1 : Int32)), .val (.ref b), .val (.int (Int32.ofNat 0)), .unset, .unset, .unset, .unset, .unset]) (pc' := 52) S rfl at_50 rfl ?_
    refine own_aload (pc' := 54) S rfl at_52 rfl rfl ?_
    refine own_iconst (2 : Int32) (pc' := 55) S rfl at_54 rfl ?_
    have blt := Exa.lt P.1
    have elt := own_Alt Ae
    have slt := own_Alt As
    have olt := Exa.lt P.2.2.2.2.2.1
    refine own_newarray (pc' := 57) 2 S (List.mem_of_getElem? (i := 9) rfl) (n := 2) rfl (by decide) (by decide) (by decide) (by decide) rfl at_55 ?_
    intro T h ar har ar0 S Ex Ar
    have nab : ar ≠ b := by rw [har]; exact (Nat.ne_of_lt blt).symm
    have nae : ar ≠ ea := by rw [har]; exact (Nat.ne_of_lt elt).symm
    have nas : ar ≠ sa := by rw [har]; exact (Nat.ne_of_lt slt).symm
    have nao : ar ≠ oa := by rw [har]; exact (Nat.ne_of_lt olt).symm
    replace P := own_Pext P Ex
    replace Ae := own_Aext Ae Ex
    replace As := own_Aext As Ex
    refine own_dup (pc' := 58) S rfl at_57 rfl ?_
    refine own_iconst (0 : Int32) (pc' := 59) S rfl at_58 rfl ?_
    refine own_iload (pc' := 61) S rfl at_59 rfl ?_
    refine own_iastore (pc' := 62) S Ar (k := 0) rfl (by decide) ar0 rfl at_61 ?_
    clear Ar
    intro T h S W Ar
    replace P := own_Pwr P W nab.symm nao.symm
    replace Ae := own_Awr Ae W nae.symm
    replace As := own_Awr As W nas.symm
    refine own_dup (pc' := 63) S rfl at_62 rfl ?_
    refine own_iconst (1 : Int32) (pc' := 64) S rfl at_63 rfl ?_
    refine own_iloadN (pc' := 65) S rfl at_64 rfl ?_
    refine own_iconst (-1 : Int32) (pc' := 66) S rfl at_65 rfl ?_
    refine own_ixor (pc' := 67) S rfl at_66 ?_
    refine own_iastore (pc' := 68) S Ar (k := 1) rfl (by decide) ar0 rfl at_67 ?_
    clear Ar
    intro T h S W Ar
    replace P := own_Pwr P W nab.symm nao.symm
    replace Ae := own_Awr Ae W nae.symm
    replace As := own_Awr As W nas.symm
    replace Ar : own_A Z _ ar .int (2 * 1) (fun j => .int (own_F 1 xu (xc ^^^ -1) 0 0 0 j)) := own_Aof Ar (fun j hj => by
      have : j = 0 ∨ j = 1 := by omega
      rcases this with rfl | rfl <;> rfl)
    refine own_callV (pc' := 71) (yy := own_y10) (rm := ({ frames := 3, cells := 0, slots := 0, locals := 50 } : Room)) (W := 2) [(.ref ar)] [] (b := b) S (List.mem_of_getElem? (i := 79) rfl) (List.mem_of_getElem? (i := 80) rfl) (List.mem_of_getElem? (i := 82) rfl) (List.mem_of_getElem? (i := 81) rfl) (List.mem_of_getElem? (i := 2) rfl) (List.mem_of_getElem? (i := 83) rfl) (by decide) P.1 (own_m10 l Z a0 hw _ n0 (own_size S) b ea sa oa 1 (own_e8f (fun _ => 0) 0 k (own_F k xa xb xc xe xu)) (own_zs (fun _ => 0) 0 k) hsep P Ae As ar 1 (own_F 1 xu (xc ^^^ -1) 0 0 0) (by decide) (by decide) (by simp [own_zs]) nab nae nas Ar) (ps := [(.array .int)]) (r' := some .int) (by decide +kernel) rfl rfl rfl (Nat.le_of_ble_eq_true rfl) (by decide) (by decide) (by decide) (by decide) rfl at_68 ?_
    rintro T h _ S ⟨_, rfl, rfl, P, Ae, As⟩
    refine own_istore (ls' := #[.val (.int x0), .val (.int xa), .val (.int xb), .val (.int xc), .val (.int xe), .val (.int xu), .val (.int (Int32.ofNat k)), .val (.int (1 : Int32)), .val (.ref b), .val (.int (Int32.ofNat 0)), .val (.int (Int32.ofNat 1)), .unset, .unset, .unset, .unset]) (pc' := 73) S rfl at_71 rfl ?_
    refine own_goto (pc' := 113) S (by decide) rfl at_73 ?_
    refine own_k113 x0 xa xb xc xe xu k 0 1 2 (own_e8f (own_e8f (fun _ => 0) 0 k (own_F k xa xb xc xe xu)) 1 1 (own_F 1 xu (xc ^^^ -1) 0 0 0)) (own_zs (own_zs (fun _ => 0) 0 k) 1 1) (by decide) (by decide) hk hk1 (by decide) (by decide) (by decide) S hsep P Ae As (by simp [own_zs]) (by simp [own_zs]) (fun j hj => ?_) ?_ ?_
    · unfold own_e8f; rw [if_neg (by omega), if_pos (by omega), show 8 * 0 + j - 8 * 0 = j by omega]
    · unfold own_e8f; rw [if_pos (by omega)]; rfl
    · unfold own_e8f; rw [if_pos (by omega)]; rfl
set_option maxRecDepth 65536 in
set_option maxHeartbeats 40000000 in
theorem own_comes {Post : Tables → Env → Array Value → State → Outcome → State → Prop} (hpost : ∀ tb e args s v u, (limb_1_1.after args s (.returned v) u = true ∧ limb_1_2.after args s (.returned v) u = true ∧ True) → FrameEnd s (.returned v) u (Jvm.fieldLocs frame_1_writes args s ++ Jvm.arrayLocs frame_1_arrays args s ++ Jvm.staticLocs frame_1_statics s) 48 1536 → Post tb e args s (.returned v) u) :
    ArmFor flags0 classFile x code maxLocals ret World_1 tables_1 room_1 Calls_1 rest_1 Pre_1 Post := by
  intro l hfl _ _ p e ha hc hk s m args below hf hA hF happ hP
  obtain ⟨hcalls, hrest, hpre⟩ := hP
  obtain ⟨-, -, -, hnamed, -, -, -, hat⟩ := (Spec.applies_iff hf).mp happ
  obtain ⟨hg, hn⟩ := and_e (Cond.before_iff.mp (show (Jvm.Cond.and given_1 narrow_1).before args s = true from hpre))
  obtain ⟨g0, r0⟩ := and_e hg
  obtain ⟨b0, r1⟩ := and_e r0
  obtain ⟨b1, r2⟩ := and_e r1
  obtain ⟨b2, r3⟩ := and_e r2
  obtain ⟨b3, r4⟩ := and_e r3
  obtain ⟨b4, r5⟩ := and_e r4
  have b5 := r5
  obtain ⟨w0, w1, w2, w3, w4, w5, rfl⟩ : ∃ w0 w1 w2 w3 w4 w5 : Value, args = #[w0, w1, w2, w3, w4, w5] := by
    have hs : args.size = 6 := by simpa [Cond.value, given_1] using g0
    obtain ⟨L⟩ := args
    match L, hs with
    | [w0, w1, w2, w3, w4, w5], _ => exact ⟨w0, w1, w2, w3, w4, w5, rfl⟩
  have hw := fun d (hd : d ∈ tables_1) => atoms_spec (ws := Jvm.Cond.code x code maxLocals ret :: tables_1) hat d (List.mem_cons_of_mem _ hd)
  obtain ⟨i0, ei0⟩ := is_v b0
  obtain rfl : w0 = (.int i0) := Option.some.inj ei0
  obtain ⟨i1, ei1⟩ := is_v b1
  obtain rfl : w1 = (.int i1) := Option.some.inj ei1
  obtain ⟨i2, ei2⟩ := is_v b2
  obtain rfl : w2 = (.int i2) := Option.some.inj ei2
  obtain ⟨i3, ei3⟩ := is_v b3
  obtain rfl : w3 = (.int i3) := Option.some.inj ei3
  obtain ⟨i4, ei4⟩ := is_v b4
  obtain rfl : w4 = (.int i4) := Option.some.inj ei4
  obtain ⟨i5, ei5⟩ := is_v b5
  obtain rfl : w5 = (.int i5) := Option.some.inj ei5
  obtain ⟨n, o, h1, h2, h3, _, L, rfl, ⟨⟨_, rfl, rfl⟩, N⟩, hq⟩ := own_m0 l s _ hw i0 i1 i2 i3 i4 i5 s.heap s.heap.size (Nat.le_refl _) p e ha hc hk s m _ below hf ((Spec.applies_iff_loose hf).mp happ).1 ⟨rfl, State.Warmed39.refl s, rfl⟩ trivial
  exact ⟨n, _, h1, h2, h3, hpost _ _ _ _ _ _ ⟨Cond.after_iff.mpr rfl, Cond.after_iff.mpr (eq_i res_at (Term.int_eval (1)) rfl), trivial⟩ ⟨hq.1, hq.2.1, (hq.2.2.sift fun y hy => Or.inr (N y hy)).mono (by decide) (by decide)⟩⟩
theorem main_1_1 : Claimed_1_1 := own_comes fun _ _ _ _ _ _ h hF => ⟨h.1, hF⟩
theorem main_1_2 : Claimed_1_2 := own_comes fun _ _ _ _ _ _ h hF => ⟨h.2.1, hF⟩
end Jvm.Pilot.@@N@@
namespace Jvm.Pilot.@@N@@
open Jvm Jvm.ClassFile Sem Op Lib Jvm.Free Jvm.Stand Jvm.Pilot.@@N@@.Jvm.D
/-! MADE BY PROGRAM (witnessworld.py) out of the Statement's table words and the real class files: 21 classes; the members and pool entries that the words name. The judged class is class 1, her method 2. -/
namespace start1
open Jvm.ClassFile
def u (s : String) : CpInfo := .utf8 (stringToUtf16 s)
/-- a pool by its gaps: so many unusable entries, then the entry; so many at the end -/
def gap : Nat → List CpInfo → List CpInfo
  | 0, r => r
  | n + 1, r => .unusable :: gap n r
def poolList (es : List (Nat × CpInfo)) (last : Nat) : List CpInfo := es.foldr (fun e r => gap e.1 (e.2 :: r)) (gap last [])
def pool (es : List (Nat × CpInfo)) (last : Nat) : Array CpInfo := ⟨poolList es last⟩
def fileOf (pool : Array CpInfo) (this : Nat) (attrs : Array Attribute := #[]) (ms : Array MethodInfo := #[]) (fl : Nat := 33) (sup : Nat := 0) (ifs : Array Nat := #[]) (fds : Array FieldInfo := #[]) : ClassFile where
  minorVersion := 0
  majorVersion := 65
  constantPool := pool
  accessFlags := fl
  thisClass := this
  superClass := sup
  interfaces := ifs
  fields := fds
  methods := ms
  attributes := attrs
def plain (name : String) (sup : Option ClassId) : Class where
  name := name
  kind := .ordinary
  loader := none
  accessFlags := 33
  super := sup
  interfaces := #[]
  cf := none
  fields := #[]
  methods := #[]
  instanceTypes := #[]
  staticTypes := #[]
  resolved := #[]
  callSites := []
  init := .initialized
  statics := none
  mirror := none

def pool0 : Array CpInfo := pool [(5, u "<init>"), (0, u "()V"), (1, .class_ 10), (1, u "java/lang/Object")] 113

def k0c0 : Code := { maxStack := 0, maxLocals := 1, code := object_method_1_code, exceptionTable := #[], attributes := #[] }
def k0m0 : Method := { name := "<init>", desc := "()V", sig := { parameters := [], returnType := none }, accessFlags := 1, code := some k0c0 }
/-- java/lang/Object -/
def k0 : Class := { plain "java/lang/Object" none with
  accessFlags := 33
  interfaces := #[]
  cf := some (fileOf pool0 8 #[] #[{ accessFlags := 1, nameIndex := 5, descriptorIndex := 6, attributes := #[] }] 33 0 #[] #[])
  fields := #[]
  methods := #[k0m0]
  instanceTypes := #[]
  staticTypes := #[]
  resolved := Array.replicate 124 none
  statics := none }

def pool1 : Array CpInfo := pool [(2, .class_ 4), (1, u "java/lang/Object"), (0, u "<init>"), (0, u "()V"), (0, .methodref 8 9), (0, .class_ 10), (0, .nameAndType 11 12), (0, u "com/example/ringloom/ringloom/DraftPlan"), (0, u "add"), (0, u "([I)I"), (0, .methodref 8 14), (0, .nameAndType 5 15), (0, u "(II)V"), (0, .methodref 17 18), (0, .class_ 19), (0, .nameAndType 20 21), (0, u "com/example/ringloom/ringloom/DraftPlanRemoveLastPinLaw"), (0, u "addTarget"), (0, u "(Lcom/example/ringloom/ringloom/DraftPlan;IIIIII)I"), (0, .methodref 8 23), (0, .nameAndType 24 25), (0, u "removeLast"), (0, u "(I)[I"), (0, .methodref 8 27), (0, .nameAndType 28 29), (0, u "size"), (0, u "(I)I"), (0, .methodref 8 31), (0, .nameAndType 32 33), (0, u "firstNode"), (0, u "(II)I"), (0, .methodref 8 35), (0, .nameAndType 36 33), (0, u "secondNode"), (3, u "law"), (0, u "(IIIIII)Z")] 4

def k1m0 : Method := { name := "<init>", desc := "()V", sig := { parameters := [], returnType := none }, accessFlags := 1, code := none }
def k1c1 : Code := { maxStack := 5, maxLocals := 7, code := method_2_code, exceptionTable := #[], attributes := #[] }
def k1m1 : Method := { name := "addTarget", desc := "(Lcom/example/ringloom/ringloom/DraftPlan;IIIIII)I", sig := { parameters := [(.object "com/example/ringloom/ringloom/DraftPlan"), .int, .int, .int, .int, .int, .int], returnType := some .int }, accessFlags := 10, code := some k1c1 }
def k1c2 : Code := { maxStack := 7, maxLocals := 15, code := code, exceptionTable := #[], attributes := #[] }
def k1m2 : Method := { name := "law", desc := "(IIIIII)Z", sig := { parameters := [.int, .int, .int, .int, .int, .int], returnType := some .boolean }, accessFlags := 9, code := some k1c2 }
/-- com/example/ringloom/ringloom/DraftPlanRemoveLastPinLaw -/
def k1 : Class := { plain "com/example/ringloom/ringloom/DraftPlanRemoveLastPinLaw" (some 0) with
  accessFlags := 49
  interfaces := #[]
  cf := some (fileOf pool1 17 #[] #[{ accessFlags := 1, nameIndex := 5, descriptorIndex := 6, attributes := #[] }, { accessFlags := 10, nameIndex := 20, descriptorIndex := 21, attributes := #[] }, { accessFlags := 9, nameIndex := 40, descriptorIndex := 41, attributes := #[] }] 49 2 #[] #[])
  fields := #[]
  methods := #[k1m0, k1m1, k1m2]
  instanceTypes := #[]
  staticTypes := #[]
  resolved := Array.replicate 46 none
  statics := none }

def pool2 : Array CpInfo := pool [(1, .methodref 2 3), (0, .class_ 4), (0, .nameAndType 5 6), (0, u "java/lang/Object"), (0, u "<init>"), (0, u "()V"), (0, .class_ 8), (0, u "com/example/ringloom/ringloom/DraftPlan"), (0, .fieldref 7 10), (0, .nameAndType 11 12), (0, u "ends"), (0, u "[I"), (0, .fieldref 7 14), (0, .nameAndType 15 16), (0, u "sizes"), (0, u "[B"), (0, .class_ 18), (0, u "java/util/BitSet"), (0, .methodref 17 3), (0, .fieldref 7 21), (0, .nameAndType 22 23), (0, u "open"), (0, u "Ljava/util/BitSet;"), (0, .class_ 25), (0, u "com/example/ringloom/ringloom/IntList"), (0, .methodref 24 3), (0, .fieldref 7 28), (0, .nameAndType 29 30), (0, u "pendants"), (0, u "Lcom/example/ringloom/ringloom/IntList;"), (0, .fieldref 7 32), (0, .nameAndType 33 30), (0, u "pendantTriangle"), (0, .fieldref 7 35), (0, .nameAndType 36 12), (0, u "pendantOn"), (0, .fieldref 7 38), (0, .nameAndType 39 23), (0, u "dissolved"), (0, .class_ 41), (0, u "java/util/ArrayDeque"), (0, .methodref 40 3), (0, .fieldref 7 44), (0, .nameAndType 45 46), (0, u "queue"), (0, u "Ljava/util/ArrayDeque;"), (0, .fieldref 7 48), (0, .nameAndType 49 50), (0, u "secondNodes"), (0, u "I"), (0, .fieldref 7 52), (0, .nameAndType 53 50), (0, u "secondRatio"), (0, .fieldref 7 55), (0, .nameAndType 56 50), (0, u "count"), (9, .methodref 7 67), (0, .nameAndType 68 69), (0, u "append"), (0, u "(III)V"), (2, u "add"), (0, u "([I)I"), (7, u "(I)V"), (9, u "(I)I"), (5, u "firstNode"), (2, u "secondNode"), (9, .methodref 17 111), (0, .nameAndType 112 81), (0, u "clear"), (2, u "(II)I"), (34, u "size"), (13, u "(II)V"), (3, u "(I)[I"), (2, u "firstFree"), (2, u "removeLast"), (2, u "openAt"), (0, u "[[I"), (6, u "seen"), (2, u "cameFrom"), (16, u "stamp"), (42, u "MOST")] 37

def k2c0 : Code := { maxStack := 3, maxLocals := 3, code := prog_7_method_1_code, exceptionTable := #[], attributes := #[] }
def k2m0 : Method := { name := "<init>", desc := "(II)V", sig := { parameters := [.int, .int], returnType := none }, accessFlags := 0, code := some k2c0 }
def k2c1 : Code := { maxStack := 6, maxLocals := 4, code := prog_7_method_2_code, exceptionTable := #[], attributes := #[] }
def k2m1 : Method := { name := "add", desc := "([I)I", sig := { parameters := [(.array .int)], returnType := some .int }, accessFlags := 128, code := some k2c1 }
def k2c2 : Code := { maxStack := 4, maxLocals := 5, code := prog_7_method_6_code, exceptionTable := #[], attributes := #[] }
def k2m2 : Method := { name := "append", desc := "(III)V", sig := { parameters := [.int, .int, .int], returnType := none }, accessFlags := 0, code := some k2c2 }
def k2c3 : Code := { maxStack := 6, maxLocals := 3, code := prog_7_method_7_code, exceptionTable := #[], attributes := #[] }
def k2m3 : Method := { name := "removeLast", desc := "(I)[I", sig := { parameters := [.int], returnType := some (.array .int) }, accessFlags := 0, code := some k2c3 }
def k2c4 : Code := { maxStack := 2, maxLocals := 2, code := prog_7_method_9_code, exceptionTable := #[], attributes := #[] }
def k2m4 : Method := { name := "size", desc := "(I)I", sig := { parameters := [.int], returnType := some .int }, accessFlags := 0, code := some k2c4 }
def k2c5 : Code := { maxStack := 4, maxLocals := 3, code := prog_7_method_10_code, exceptionTable := #[], attributes := #[] }
def k2m5 : Method := { name := "firstNode", desc := "(II)I", sig := { parameters := [.int, .int], returnType := some .int }, accessFlags := 0, code := some k2c5 }
def k2c6 : Code := { maxStack := 4, maxLocals := 3, code := prog_7_method_11_code, exceptionTable := #[], attributes := #[] }
def k2m6 : Method := { name := "secondNode", desc := "(II)I", sig := { parameters := [.int, .int], returnType := some .int }, accessFlags := 0, code := some k2c6 }
/-- com/example/ringloom/ringloom/DraftPlan -/
def k2 : Class := { plain "com/example/ringloom/ringloom/DraftPlan" (some 0) with
  accessFlags := 48
  interfaces := #[]
  cf := some (fileOf pool2 7 #[] #[{ accessFlags := 0, nameIndex := 5, descriptorIndex := 164, attributes := #[] }, { accessFlags := 128, nameIndex := 72, descriptorIndex := 73, attributes := #[] }, { accessFlags := 0, nameIndex := 68, descriptorIndex := 69, attributes := #[] }, { accessFlags := 0, nameIndex := 174, descriptorIndex := 168, attributes := #[] }, { accessFlags := 0, nameIndex := 150, descriptorIndex := 91, attributes := #[] }, { accessFlags := 0, nameIndex := 97, descriptorIndex := 115, attributes := #[] }, { accessFlags := 0, nameIndex := 100, descriptorIndex := 115, attributes := #[] }] 48 2 #[] #[{ accessFlags := 24, nameIndex := 248, descriptorIndex := 50, attributes := #[] }, { accessFlags := 18, nameIndex := 49, descriptorIndex := 50, attributes := #[] }, { accessFlags := 18, nameIndex := 53, descriptorIndex := 50, attributes := #[] }, { accessFlags := 2, nameIndex := 11, descriptorIndex := 12, attributes := #[] }, { accessFlags := 2, nameIndex := 15, descriptorIndex := 16, attributes := #[] }, { accessFlags := 2, nameIndex := 56, descriptorIndex := 50, attributes := #[] }, { accessFlags := 18, nameIndex := 22, descriptorIndex := 23, attributes := #[] }, { accessFlags := 18, nameIndex := 29, descriptorIndex := 30, attributes := #[] }, { accessFlags := 18, nameIndex := 33, descriptorIndex := 30, attributes := #[] }, { accessFlags := 2, nameIndex := 36, descriptorIndex := 12, attributes := #[] }, { accessFlags := 18, nameIndex := 39, descriptorIndex := 23, attributes := #[] }, { accessFlags := 2, nameIndex := 177, descriptorIndex := 178, attributes := #[] }, { accessFlags := 2, nameIndex := 171, descriptorIndex := 12, attributes := #[] }, { accessFlags := 2, nameIndex := 185, descriptorIndex := 12, attributes := #[] }, { accessFlags := 2, nameIndex := 188, descriptorIndex := 12, attributes := #[] }, { accessFlags := 2, nameIndex := 205, descriptorIndex := 50, attributes := #[] }, { accessFlags := 18, nameIndex := 45, descriptorIndex := 46, attributes := #[] }])
  fields := #[{ name := "MOST", type := .int, accessFlags := 24, slot := 0, constantValue := 0 }, { name := "secondNodes", type := .int, accessFlags := 18, slot := 0, constantValue := 0 }, { name := "secondRatio", type := .int, accessFlags := 18, slot := 1, constantValue := 0 }, { name := "ends", type := (.array .int), accessFlags := 2, slot := 2, constantValue := 0 }, { name := "sizes", type := (.array .byte), accessFlags := 2, slot := 3, constantValue := 0 }, { name := "count", type := .int, accessFlags := 2, slot := 4, constantValue := 0 }, { name := "open", type := (.object "java/util/BitSet"), accessFlags := 18, slot := 5, constantValue := 0 }, { name := "pendants", type := (.object "com/example/ringloom/ringloom/IntList"), accessFlags := 18, slot := 6, constantValue := 0 }, { name := "pendantTriangle", type := (.object "com/example/ringloom/ringloom/IntList"), accessFlags := 18, slot := 7, constantValue := 0 }, { name := "pendantOn", type := (.array .int), accessFlags := 2, slot := 8, constantValue := 0 }, { name := "dissolved", type := (.object "java/util/BitSet"), accessFlags := 18, slot := 9, constantValue := 0 }, { name := "openAt", type := (.array (.array .int)), accessFlags := 2, slot := 10, constantValue := 0 }, { name := "firstFree", type := (.array .int), accessFlags := 2, slot := 11, constantValue := 0 }, { name := "seen", type := (.array .int), accessFlags := 2, slot := 12, constantValue := 0 }, { name := "cameFrom", type := (.array .int), accessFlags := 2, slot := 13, constantValue := 0 }, { name := "stamp", type := .int, accessFlags := 2, slot := 14, constantValue := 0 }, { name := "queue", type := (.object "java/util/ArrayDeque"), accessFlags := 18, slot := 15, constantValue := 0 }]
  methods := #[k2m0, k2m1, k2m2, k2m3, k2m4, k2m5, k2m6]
  instanceTypes := #[.int, .int, (.array .int), (.array .byte), .int, (.object "java/util/BitSet"), (.object "com/example/ringloom/ringloom/IntList"), (.object "com/example/ringloom/ringloom/IntList"), (.array .int), (.object "java/util/BitSet"), (.array (.array .int)), (.array .int), (.array .int), (.array .int), .int, (.object "java/util/ArrayDeque")]
  staticTypes := #[.int]
  resolved := Array.replicate 286 none
  statics := none }

def pool3 : Array CpInfo := pool [(1, .class_ 2), (0, u "java/lang/Cloneable"), (0, .class_ 4), (0, u "java/lang/Object")] 2

/-- java/lang/Cloneable -/
def k3 : Class := { plain "java/lang/Cloneable" (some 0) with
  accessFlags := 1537
  interfaces := #[]
  cf := some (fileOf pool3 1 #[] #[] 1537 3 #[] #[])
  fields := #[]
  methods := #[]
  instanceTypes := #[]
  staticTypes := #[]
  resolved := Array.replicate 7 none
  statics := none }

def pool4 : Array CpInfo := pool [(1, .class_ 2), (0, u "java/io/Serializable"), (0, .class_ 4), (0, u "java/lang/Object")] 2

/-- java/io/Serializable -/
def k4 : Class := { plain "java/io/Serializable" (some 0) with
  accessFlags := 1537
  interfaces := #[]
  cf := some (fileOf pool4 1 #[] #[] 1537 3 #[] #[])
  fields := #[]
  methods := #[]
  instanceTypes := #[]
  staticTypes := #[]
  resolved := Array.replicate 7 none
  statics := none }

def pool5 : Array CpInfo := pool [(1, .class_ 2), (0, u "java/util/BitSet"), (2, u "$assertionsDisabled"), (0, u "Z"), (0, .fieldref 1 8), (0, .nameAndType 9 10), (0, u "wordsInUse"), (0, u "I"), (0, .fieldref 1 12), (0, .nameAndType 13 14), (0, u "words"), (0, u "[J"), (3, .nameAndType 19 20), (0, u "<init>"), (0, u "()V"), (0, .methodref 22 18), (0, .class_ 23), (0, u "java/lang/Object"), (0, .fieldref 1 25), (0, .nameAndType 26 6), (0, u "sizeIsSticky"), (0, .methodref 1 28), (0, .nameAndType 29 30), (0, u "initWords"), (0, u "(I)V"), (21, .methodref 1 53), (0, .nameAndType 54 55), (0, u "wordIndex"), (0, u "(I)I"), (116, u "clear"), (96, .class_ 270), (0, u "java/util/BitSet$1BitSetSpliterator"), (22, u "serialPersistentFields"), (0, u "[Ljava/io/ObjectStreamField;"), (0, .class_ 296), (0, u "java/lang/Cloneable"), (0, .class_ 298), (0, u "java/io/Serializable"), (0, u "ADDRESS_BITS_PER_WORD"), (2, u "BITS_PER_WORD"), (1, u "BIT_INDEX_MASK"), (1, u "WORD_MASK"), (0, u "J"), (0, u "serialVersionUID")] 108

def k5c0 : Code := { maxStack := 2, maxLocals := 1, code := jdk_92_method_1_code, exceptionTable := #[], attributes := #[] }
def k5m0 : Method := { name := "wordIndex", desc := "(I)I", sig := { parameters := [.int], returnType := some .int }, accessFlags := 10, code := some k5c0 }
def k5c1 : Code := { maxStack := 2, maxLocals := 1, code := jdk_92_method_4_code, exceptionTable := #[], attributes := #[] }
def k5m1 : Method := { name := "<init>", desc := "()V", sig := { parameters := [], returnType := none }, accessFlags := 1, code := some k5c1 }
def k5c2 : Code := { maxStack := 3, maxLocals := 2, code := jdk_92_method_6_code, exceptionTable := #[], attributes := #[] }
def k5m2 : Method := { name := "initWords", desc := "(I)V", sig := { parameters := [.int], returnType := none }, accessFlags := 2, code := some k5c2 }
def k5c3 : Code := { maxStack := 8, maxLocals := 3, code := jdk_92_method_23_code, exceptionTable := #[], attributes := #[] }
def k5m3 : Method := { name := "clear", desc := "(I)V", sig := { parameters := [.int], returnType := none }, accessFlags := 1, code := some k5c3 }
/-- java/util/BitSet -/
def k5 : Class := { plain "java/util/BitSet" (some 0) with
  accessFlags := 33
  interfaces := #[3, 4]
  cf := some (fileOf pool5 1 #[.nestMembers #[269]] #[{ accessFlags := 10, nameIndex := 54, descriptorIndex := 55, attributes := #[] }, { accessFlags := 1, nameIndex := 19, descriptorIndex := 20, attributes := #[] }, { accessFlags := 2, nameIndex := 29, descriptorIndex := 30, attributes := #[] }, { accessFlags := 1, nameIndex := 172, descriptorIndex := 30, attributes := #[] }] 33 22 #[295, 297] #[{ accessFlags := 26, nameIndex := 299, descriptorIndex := 10, attributes := #[] }, { accessFlags := 26, nameIndex := 302, descriptorIndex := 10, attributes := #[] }, { accessFlags := 26, nameIndex := 304, descriptorIndex := 10, attributes := #[] }, { accessFlags := 26, nameIndex := 306, descriptorIndex := 307, attributes := #[] }, { accessFlags := 26, nameIndex := 293, descriptorIndex := 294, attributes := #[] }, { accessFlags := 2, nameIndex := 13, descriptorIndex := 14, attributes := #[] }, { accessFlags := 130, nameIndex := 9, descriptorIndex := 10, attributes := #[] }, { accessFlags := 130, nameIndex := 26, descriptorIndex := 6, attributes := #[] }, { accessFlags := 26, nameIndex := 308, descriptorIndex := 307, attributes := #[] }, { accessFlags := 4120, nameIndex := 5, descriptorIndex := 6, attributes := #[] }])
  fields := #[{ name := "ADDRESS_BITS_PER_WORD", type := .int, accessFlags := 26, slot := 0, constantValue := 0 }, { name := "BITS_PER_WORD", type := .int, accessFlags := 26, slot := 1, constantValue := 0 }, { name := "BIT_INDEX_MASK", type := .int, accessFlags := 26, slot := 2, constantValue := 0 }, { name := "WORD_MASK", type := .long, accessFlags := 26, slot := 3, constantValue := 0 }, { name := "serialPersistentFields", type := (.array (.object "java/io/ObjectStreamField")), accessFlags := 26, slot := 4, constantValue := 0 }, { name := "words", type := (.array .long), accessFlags := 2, slot := 0, constantValue := 0 }, { name := "wordsInUse", type := .int, accessFlags := 130, slot := 1, constantValue := 0 }, { name := "sizeIsSticky", type := .boolean, accessFlags := 130, slot := 2, constantValue := 0 }, { name := "serialVersionUID", type := .long, accessFlags := 26, slot := 5, constantValue := 0 }, { name := "$assertionsDisabled", type := .boolean, accessFlags := 4120, slot := 6, constantValue := 0 }]
  methods := #[k5m0, k5m1, k5m2, k5m3]
  instanceTypes := #[(.array .long), .int, .boolean]
  staticTypes := #[.int, .int, .int, .long, (.array (.object "java/io/ObjectStreamField")), .long, .boolean]
  resolved := Array.replicate 417 none
  statics := none }

def pool6 : Array CpInfo := pool [(1, .methodref 2 3), (0, .class_ 4), (0, .nameAndType 5 6), (0, u "java/lang/Object"), (0, u "<init>"), (0, u "()V"), (0, .fieldref 8 9), (0, .class_ 10), (0, .nameAndType 11 12), (0, u "com/example/ringloom/ringloom/IntList"), (0, u "values"), (0, u "[I"), (2, u "size"), (0, u "I")] 37

def k6c0 : Code := { maxStack := 2, maxLocals := 1, code := prog_14_method_1_code, exceptionTable := #[], attributes := #[] }
def k6m0 : Method := { name := "<init>", desc := "()V", sig := { parameters := [], returnType := none }, accessFlags := 0, code := some k6c0 }
/-- com/example/ringloom/ringloom/IntList -/
def k6 : Class := { plain "com/example/ringloom/ringloom/IntList" (some 0) with
  accessFlags := 48
  interfaces := #[]
  cf := some (fileOf pool6 8 #[] #[{ accessFlags := 0, nameIndex := 5, descriptorIndex := 6, attributes := #[] }] 48 2 #[] #[{ accessFlags := 2, nameIndex := 11, descriptorIndex := 12, attributes := #[] }, { accessFlags := 2, nameIndex := 15, descriptorIndex := 16, attributes := #[] }])
  fields := #[{ name := "values", type := (.array .int), accessFlags := 2, slot := 0, constantValue := 0 }, { name := "size", type := .int, accessFlags := 2, slot := 1, constantValue := 0 }]
  methods := #[k6m0]
  instanceTypes := #[(.array .int), .int]
  staticTypes := #[]
  resolved := Array.replicate 54 none
  statics := none }

def pool7 : Array CpInfo := pool [(8, .class_ 10), (1, u "java/lang/Iterable"), (24, .class_ 36), (0, u "java/lang/Object")] 25

/-- java/lang/Iterable -/
def k7 : Class := { plain "java/lang/Iterable" (some 0) with
  accessFlags := 1537
  interfaces := #[]
  cf := some (fileOf pool7 8 #[] #[] 1537 35 #[] #[])
  fields := #[]
  methods := #[]
  instanceTypes := #[]
  staticTypes := #[]
  resolved := Array.replicate 62 none
  statics := none }

def pool8 : Array CpInfo := pool [(10, .class_ 12), (1, u "java/util/Collection"), (47, .class_ 61), (0, u "java/lang/Object"), (0, .class_ 63), (0, u "java/lang/Iterable")] 51

/-- java/util/Collection -/
def k8 : Class := { plain "java/util/Collection" (some 0) with
  accessFlags := 1537
  interfaces := #[7]
  cf := some (fileOf pool8 10 #[] #[] 1537 60 #[62] #[])
  fields := #[]
  methods := #[]
  instanceTypes := #[]
  staticTypes := #[]
  resolved := Array.replicate 115 none
  statics := none }

def pool9 : Array CpInfo := pool [(1, .methodref 2 3), (0, .class_ 4), (0, .nameAndType 5 6), (0, u "java/lang/Object"), (0, u "<init>"), (0, u "()V"), (1, .class_ 10), (1, u "java/util/AbstractCollection"), (66, .class_ 78), (0, u "java/util/Collection")] 81

def k9c0 : Code := { maxStack := 1, maxLocals := 1, code := jdk_22_method_1_code, exceptionTable := #[], attributes := #[] }
def k9m0 : Method := { name := "<init>", desc := "()V", sig := { parameters := [], returnType := none }, accessFlags := 4, code := some k9c0 }
/-- java/util/AbstractCollection -/
def k9 : Class := { plain "java/util/AbstractCollection" (some 0) with
  accessFlags := 1057
  interfaces := #[8]
  cf := some (fileOf pool9 8 #[] #[{ accessFlags := 4, nameIndex := 5, descriptorIndex := 6, attributes := #[] }] 1057 2 #[77] #[])
  fields := #[]
  methods := #[k9m0]
  instanceTypes := #[]
  staticTypes := #[]
  resolved := Array.replicate 160 none
  statics := none }

def pool10 : Array CpInfo := pool [(1, .class_ 2), (0, u "java/util/Queue"), (0, .class_ 4), (0, u "java/lang/Object"), (0, .class_ 6), (0, u "java/util/Collection")] 14

/-- java/util/Queue -/
def k10 : Class := { plain "java/util/Queue" (some 0) with
  accessFlags := 1537
  interfaces := #[8]
  cf := some (fileOf pool10 1 #[] #[] 1537 3 #[5] #[])
  fields := #[]
  methods := #[]
  instanceTypes := #[]
  staticTypes := #[]
  resolved := Array.replicate 21 none
  statics := none }

def pool11 : Array CpInfo := pool [(8, .class_ 10), (1, u "java/util/SequencedCollection"), (15, .class_ 27), (0, u "java/lang/Object"), (0, .class_ 29), (0, u "java/util/Collection")] 27

/-- java/util/SequencedCollection -/
def k11 : Class := { plain "java/util/SequencedCollection" (some 0) with
  accessFlags := 1537
  interfaces := #[8]
  cf := some (fileOf pool11 8 #[] #[] 1537 26 #[28] #[])
  fields := #[]
  methods := #[]
  instanceTypes := #[]
  staticTypes := #[]
  resolved := Array.replicate 57 none
  statics := none }

def pool12 : Array CpInfo := pool [(8, .class_ 10), (1, u "java/util/Deque"), (2, .class_ 14), (0, u "java/lang/Object"), (0, .class_ 16), (0, u "java/util/Queue"), (0, .class_ 18), (0, u "java/util/SequencedCollection")] 51

/-- java/util/Deque -/
def k12 : Class := { plain "java/util/Deque" (some 0) with
  accessFlags := 1537
  interfaces := #[10, 11]
  cf := some (fileOf pool12 8 #[] #[] 1537 13 #[15, 17] #[])
  fields := #[]
  methods := #[]
  instanceTypes := #[]
  staticTypes := #[]
  resolved := Array.replicate 70 none
  statics := none }

def pool13 : Array CpInfo := pool [(3, .fieldref 4 5), (0, .class_ 6), (0, .nameAndType 7 8), (0, u "java/util/ArrayDeque"), (0, u "elements"), (0, u "[Ljava/lang/Object;"), (13, u "tail"), (0, u "I"), (2, u "head"), (12, u "<init>"), (2, .methodref 43 44), (0, .class_ 45), (0, .nameAndType 39 46), (0, u "java/util/AbstractCollection"), (0, u "()V"), (0, .class_ 48), (0, u "java/lang/Object"), (82, .class_ 132), (0, u "java/util/ArrayDeque$DeqIterator"), (3, .class_ 137), (0, u "java/util/ArrayDeque$DescendingIterator"), (1, .class_ 140), (0, u "java/util/ArrayDeque$DeqSpliterator"), (137, .class_ 279), (0, u "java/util/Deque"), (0, .class_ 281), (0, u "java/lang/Cloneable"), (0, .class_ 283), (0, u "java/io/Serializable"), (0, u "MAX_ARRAY_SIZE"), (1, u "serialVersionUID"), (0, u "J")] 150

def k13c0 : Code := { maxStack := 2, maxLocals := 1, code := jdk_21_method_3_code, exceptionTable := #[], attributes := #[] }
def k13m0 : Method := { name := "<init>", desc := "()V", sig := { parameters := [], returnType := none }, accessFlags := 1, code := some k13c0 }
/-- java/util/ArrayDeque -/
def k13 : Class := { plain "java/util/ArrayDeque" (some 9) with
  accessFlags := 33
  interfaces := #[12, 3, 4]
  cf := some (fileOf pool13 4 #[.nestMembers #[139, 136, 131]] #[{ accessFlags := 1, nameIndex := 39, descriptorIndex := 46, attributes := #[] }] 33 43 #[278, 280, 282] #[{ accessFlags := 128, nameIndex := 7, descriptorIndex := 8, attributes := #[] }, { accessFlags := 128, nameIndex := 26, descriptorIndex := 23, attributes := #[] }, { accessFlags := 128, nameIndex := 22, descriptorIndex := 23, attributes := #[] }, { accessFlags := 26, nameIndex := 284, descriptorIndex := 23, attributes := #[] }, { accessFlags := 26, nameIndex := 286, descriptorIndex := 287, attributes := #[] }])
  fields := #[{ name := "elements", type := (.array (.object "java/lang/Object")), accessFlags := 128, slot := 0, constantValue := 0 }, { name := "head", type := .int, accessFlags := 128, slot := 1, constantValue := 0 }, { name := "tail", type := .int, accessFlags := 128, slot := 2, constantValue := 0 }, { name := "MAX_ARRAY_SIZE", type := .int, accessFlags := 26, slot := 0, constantValue := 0 }, { name := "serialVersionUID", type := .long, accessFlags := 26, slot := 1, constantValue := 0 }]
  methods := #[k13m0]
  instanceTypes := #[(.array (.object "java/lang/Object")), .int, .int]
  staticTypes := #[.int, .long]
  resolved := Array.replicate 438 none
  statics := none }

/-- the primitive byte -/
def k14 : Class := { plain "byte" none with kind := .primitive 'B', accessFlags := 0x411 }
/-- [B -/
def k15 : Class := { plain "[B" (some 0) with kind := .array 14 .byte, interfaces := #[3, 4], accessFlags := 1041 }

/-- the primitive int -/
def k16 : Class := { plain "int" none with kind := .primitive 'I', accessFlags := 0x411 }
/-- [I -/
def k17 : Class := { plain "[I" (some 0) with kind := .array 16 .int, interfaces := #[3, 4], accessFlags := 1041 }

/-- the primitive long -/
def k18 : Class := { plain "long" none with kind := .primitive 'J', accessFlags := 0x411 }
/-- [J -/
def k19 : Class := { plain "[J" (some 0) with kind := .array 18 .long, interfaces := #[3, 4], accessFlags := 1041 }

/-- [Ljava/lang/Object; -/
def k20 : Class := { plain "[Ljava/lang/Object;" (some 0) with kind := .array 0 (.object "java/lang/Object"), interfaces := #[3, 4], accessFlags := 1041 }

def heap : Heap := #[]
def classes : Array Class := #[k0, k1, k2, k3, k4, k5, k6, k7, k8, k9, k10, k11, k12, k13, k14, k15, k16, k17, k18, k19, k20]
def interned : List (Array UInt16 × Addr) := []
def slotsUsed : Nat := 0
def theMethod : MethodId := ⟨1, 2⟩
def args0 : Array Value := #[.int 1, .int 2, .int 3, .int 4, .int 5, .int 6]
def aboutOver (below : List Frame) : State where
  vm := { classes := classes, interned := interned.toArray }
  heap := heap
  slotsUsed := slotsUsed
  threads := #[{ frames := .invoking theMethod args0 :: below }]
def below0 : List Frame := [.native { method := ⟨0, 0⟩, args := #[] }]
def about1 : State := aboutOver below0
def p0 : Program := .bare "" "" ""
def e0 : Env := launch0.env 0 0 0
theorem w_frames : about1.frames = Frame.invoking theMethod args0 :: below0 := rfl
set_option maxRecDepth 65536 in
theorem w_args : argsFit about1.vm theMethod args0 = true := by decide +kernel
set_option maxRecDepth 65536 in
theorem w_heap : heapFits about1 = true := by decide +kernel
set_option maxRecDepth 65536 in
theorem w_runnable : about1.curStatus? = some .runnable := by decide +kernel
set_option maxRecDepth 65536 in
theorem w_alone : about1.alone = true := by decide +kernel
set_option maxRecDepth 65536 in
theorem w_named : about1.methodNamed? x = some theMethod := by decide +kernel
set_option maxRecDepth 65536 in
theorem w_hears : about1.hears theMethod below0 = true := by decide +kernel
set_option maxRecDepth 65536 in
theorem w_ripe : about1.ripe theMethod args0 below0 = true := by decide +kernel
theorem w_running : about1.status = .running := rfl
set_option maxRecDepth 65536 in
theorem w_room : about1.hasRoom e0.platform room_1 = true :=
  launch0.hasRoom_least _ room_1 (by decide +kernel) (by decide +kernel) (by decide +kernel) (by decide +kernel) (by decide +kernel) (by decide +kernel)
theorem allAtoms_all (ts : List Jvm.Cond) (a : Array Jvm.Value) (st : Jvm.State) : (allAtoms ts).before a st = ts.all (fun c => c.before a st) := by
  induction ts with
  | nil => rfl
  | cons c t ih =>
    show (Jvm.Cond.and c (allAtoms t)).before a st = _
    rw [Jvm.Cond.before_and, ih, List.all_cons]
def words1 : List Jvm.Cond := Jvm.Cond.code x code maxLocals ret :: tables_1
/-- a 'code' word, met by the world's own term for the bytes: nothing is compared byte by byte -/
theorem code_word {y : MethodName} {bytes : ByteArray} {mx : Nat} {rt : Option FieldType} {a : Array Value} {s : State} {m : MethodId} {meth : Method} {c : Code} (h1 : s.methodNamed? y = some m) (h2 : s.vm.method? m = some meth) (h3 : meth.code = some c) (h4 : c.code = bytes)
    (h5 : (c.maxLocals == mx && c.exceptionTable.isEmpty && decide (c.maxStack ≤ mostOperands) && decide (meth.sig.returnType = rt) && !meth.locks && decide (parseMethodDescriptor y.desc = some meth.sig)) = true) : (Jvm.Cond.code y bytes mx rt).before a s = true := by
  simp only [Bool.and_eq_true, beq_iff_eq, Bool.not_eq_true', decide_eq_true_eq] at h5
  obtain ⟨⟨⟨⟨⟨g1, g2⟩, g3⟩, g4⟩, g5⟩, g6⟩ := h5
  simp [Cond.before, Cond.holds, Cond.value, h1, h2, h3, h4, g1, g2, g3, g4, g5, g6]
def isCode : Jvm.Cond → Bool
  | .code _ _ _ _ => true
  | _ => false
theorem all_split {L : List Jvm.Cond} {P : Jvm.Cond → Bool} (h1 : L.all (fun c => isCode c || P c) = true) (h2 : ∀ c ∈ L.filter isCode, P c = true) : L.all P = true := by
  refine List.all_eq_true.mpr fun c hc => ?_
  have h := List.all_eq_true.mp h1 c hc
  rcases Bool.eq_false_or_eq_true (isCode c) with hi | hi
  · exact h2 c (List.mem_filter.mpr ⟨hc, hi⟩)
  · simpa [hi] using h
set_option maxRecDepth 65536 in
theorem w_c0 : (Jvm.Cond.code x code maxLocals ret).before args0 about1 = true := code_word (m := ⟨1, 2⟩) (meth := k1m2) (c := k1c2) (by decide +kernel) rfl rfl rfl (by decide +kernel)
set_option maxRecDepth 65536 in
theorem w_c1 : (Jvm.Cond.code ({ cls := "com/example/ringloom/ringloom/DraftPlan", name := "<init>", desc := "(II)V" } : Jvm.MethodName) prog_7_method_1_code (3 : Nat) (Option.none : Option Jvm.ClassFile.FieldType)).before args0 about1 = true := code_word (m := ⟨2, 0⟩) (meth := k2m0) (c := k2c0) (by decide +kernel) rfl rfl rfl (by decide +kernel)
set_option maxRecDepth 65536 in
theorem w_c2 : (Jvm.Cond.code ({ cls := "java/lang/Object", name := "<init>", desc := "()V" } : Jvm.MethodName) object_method_1_code (1 : Nat) (Option.none : Option Jvm.ClassFile.FieldType)).before args0 about1 = true := code_word (m := ⟨0, 0⟩) (meth := k0m0) (c := k0c0) (by decide +kernel) rfl rfl rfl (by decide +kernel)
set_option maxRecDepth 65536 in
theorem w_c3 : (Jvm.Cond.code ({ cls := "java/util/BitSet", name := "<init>", desc := "()V" } : Jvm.MethodName) jdk_92_method_4_code (1 : Nat) (Option.none : Option Jvm.ClassFile.FieldType)).before args0 about1 = true := code_word (m := ⟨5, 1⟩) (meth := k5m1) (c := k5c1) (by decide +kernel) rfl rfl rfl (by decide +kernel)
set_option maxRecDepth 65536 in
theorem w_c4 : (Jvm.Cond.code ({ cls := "java/util/BitSet", name := "initWords", desc := "(I)V" } : Jvm.MethodName) jdk_92_method_6_code (2 : Nat) (Option.none : Option Jvm.ClassFile.FieldType)).before args0 about1 = true := code_word (m := ⟨5, 2⟩) (meth := k5m2) (c := k5c2) (by decide +kernel) rfl rfl rfl (by decide +kernel)
set_option maxRecDepth 65536 in
theorem w_c5 : (Jvm.Cond.code ({ cls := "java/util/BitSet", name := "wordIndex", desc := "(I)I" } : Jvm.MethodName) jdk_92_method_1_code (1 : Nat) (Option.some Jvm.ClassFile.FieldType.int)).before args0 about1 = true := code_word (m := ⟨5, 0⟩) (meth := k5m0) (c := k5c0) (by decide +kernel) rfl rfl rfl (by decide +kernel)
set_option maxRecDepth 65536 in
theorem w_c6 : (Jvm.Cond.code ({ cls := "com/example/ringloom/ringloom/IntList", name := "<init>", desc := "()V" } : Jvm.MethodName) prog_14_method_1_code (1 : Nat) (Option.none : Option Jvm.ClassFile.FieldType)).before args0 about1 = true := code_word (m := ⟨6, 0⟩) (meth := k6m0) (c := k6c0) (by decide +kernel) rfl rfl rfl (by decide +kernel)
set_option maxRecDepth 65536 in
theorem w_c7 : (Jvm.Cond.code ({ cls := "java/util/ArrayDeque", name := "<init>", desc := "()V" } : Jvm.MethodName) jdk_21_method_3_code (1 : Nat) (Option.none : Option Jvm.ClassFile.FieldType)).before args0 about1 = true := code_word (m := ⟨13, 0⟩) (meth := k13m0) (c := k13c0) (by decide +kernel) rfl rfl rfl (by decide +kernel)
set_option maxRecDepth 65536 in
theorem w_c8 : (Jvm.Cond.code ({ cls := "java/util/AbstractCollection", name := "<init>", desc := "()V" } : Jvm.MethodName) jdk_22_method_1_code (1 : Nat) (Option.none : Option Jvm.ClassFile.FieldType)).before args0 about1 = true := code_word (m := ⟨9, 0⟩) (meth := k9m0) (c := k9c0) (by decide +kernel) rfl rfl rfl (by decide +kernel)
set_option maxRecDepth 65536 in
theorem w_c9 : (Jvm.Cond.code ({ cls := "com/example/ringloom/ringloom/DraftPlan", name := "add", desc := "([I)I" } : Jvm.MethodName) prog_7_method_2_code (4 : Nat) (Option.some Jvm.ClassFile.FieldType.int)).before args0 about1 = true := code_word (m := ⟨2, 1⟩) (meth := k2m1) (c := k2c1) (by decide +kernel) rfl rfl rfl (by decide +kernel)
set_option maxRecDepth 65536 in
theorem w_c10 : (Jvm.Cond.code ({ cls := "com/example/ringloom/ringloom/DraftPlan", name := "append", desc := "(III)V" } : Jvm.MethodName) prog_7_method_6_code (5 : Nat) (Option.none : Option Jvm.ClassFile.FieldType)).before args0 about1 = true := code_word (m := ⟨2, 2⟩) (meth := k2m2) (c := k2c2) (by decide +kernel) rfl rfl rfl (by decide +kernel)
set_option maxRecDepth 65536 in
theorem w_c11 : (Jvm.Cond.code ({ cls := "java/util/BitSet", name := "clear", desc := "(I)V" } : Jvm.MethodName) jdk_92_method_23_code (3 : Nat) (Option.none : Option Jvm.ClassFile.FieldType)).before args0 about1 = true := code_word (m := ⟨5, 3⟩) (meth := k5m3) (c := k5c3) (by decide +kernel) rfl rfl rfl (by decide +kernel)
set_option maxRecDepth 65536 in
theorem w_c12 : (Jvm.Cond.code ({ cls := "com/example/ringloom/ringloom/DraftPlanRemoveLastPinLaw", name := "addTarget", desc := "(Lcom/example/ringloom/ringloom/DraftPlan;IIIIII)I" } : Jvm.MethodName) method_2_code (7 : Nat) (Option.some Jvm.ClassFile.FieldType.int)).before args0 about1 = true := code_word (m := ⟨1, 1⟩) (meth := k1m1) (c := k1c1) (by decide +kernel) rfl rfl rfl (by decide +kernel)
set_option maxRecDepth 65536 in
theorem w_c13 : (Jvm.Cond.code ({ cls := "com/example/ringloom/ringloom/DraftPlan", name := "removeLast", desc := "(I)[I" } : Jvm.MethodName) prog_7_method_7_code (3 : Nat) (Option.some (Jvm.ClassFile.FieldType.array Jvm.ClassFile.FieldType.int))).before args0 about1 = true := code_word (m := ⟨2, 3⟩) (meth := k2m3) (c := k2c3) (by decide +kernel) rfl rfl rfl (by decide +kernel)
set_option maxRecDepth 65536 in
theorem w_c14 : (Jvm.Cond.code ({ cls := "com/example/ringloom/ringloom/DraftPlan", name := "size", desc := "(I)I" } : Jvm.MethodName) prog_7_method_9_code (2 : Nat) (Option.some Jvm.ClassFile.FieldType.int)).before args0 about1 = true := code_word (m := ⟨2, 4⟩) (meth := k2m4) (c := k2c4) (by decide +kernel) rfl rfl rfl (by decide +kernel)
set_option maxRecDepth 65536 in
theorem w_c15 : (Jvm.Cond.code ({ cls := "com/example/ringloom/ringloom/DraftPlan", name := "firstNode", desc := "(II)I" } : Jvm.MethodName) prog_7_method_10_code (3 : Nat) (Option.some Jvm.ClassFile.FieldType.int)).before args0 about1 = true := code_word (m := ⟨2, 5⟩) (meth := k2m5) (c := k2c5) (by decide +kernel) rfl rfl rfl (by decide +kernel)
set_option maxRecDepth 65536 in
theorem w_c16 : (Jvm.Cond.code ({ cls := "com/example/ringloom/ringloom/DraftPlan", name := "secondNode", desc := "(II)I" } : Jvm.MethodName) prog_7_method_11_code (3 : Nat) (Option.some Jvm.ClassFile.FieldType.int)).before args0 about1 = true := code_word (m := ⟨2, 6⟩) (meth := k2m6) (c := k2c6) (by decide +kernel) rfl rfl rfl (by decide +kernel)
def codes1 : List Jvm.Cond := [Jvm.Cond.code x code maxLocals ret, Jvm.Cond.code ({ cls := "com/example/ringloom/ringloom/DraftPlan", name := "<init>", desc := "(II)V" } : Jvm.MethodName) prog_7_method_1_code (3 : Nat) (Option.none : Option Jvm.ClassFile.FieldType), Jvm.Cond.code ({ cls := "java/lang/Object", name := "<init>", desc := "()V" } : Jvm.MethodName) object_method_1_code (1 : Nat) (Option.none : Option Jvm.ClassFile.FieldType), Jvm.Cond.code ({ cls := "java/util/BitSet", name := "<init>", desc := "()V" } : Jvm.MethodName) jdk_92_method_4_code (1 : Nat) (Option.none : Option Jvm.ClassFile.FieldType), Jvm.Cond.code ({ cls := "java/util/BitSet", name := "initWords", desc := "(I)V" } : Jvm.MethodName) jdk_92_method_6_code (2 : Nat) (Option.none : Option Jvm.ClassFile.FieldType), Jvm.Cond.code ({ cls := "java/util/BitSet", name := "wordIndex", desc := "(I)I" } : Jvm.MethodName) jdk_92_method_1_code (1 : Nat) (Option.some Jvm.ClassFile.FieldType.int), Jvm.Cond.code ({ cls := "com/example/ringloom/ringloom/IntList", name := "<init>", desc := "()V" } : Jvm.MethodName) prog_14_method_1_code (1 : Nat) (Option.none : Option Jvm.ClassFile.FieldType), Jvm.Cond.code ({ cls := "java/util/ArrayDeque", name := "<init>", desc := "()V" } : Jvm.MethodName) jdk_21_method_3_code (1 : Nat) (Option.none : Option Jvm.ClassFile.FieldType), Jvm.Cond.code ({ cls := "java/util/AbstractCollection", name := "<init>", desc := "()V" } : Jvm.MethodName) jdk_22_method_1_code (1 : Nat) (Option.none : Option Jvm.ClassFile.FieldType), Jvm.Cond.code ({ cls := "com/example/ringloom/ringloom/DraftPlan", name := "add", desc := "([I)I" } : Jvm.MethodName) prog_7_method_2_code (4 : Nat) (Option.some Jvm.ClassFile.FieldType.int), Jvm.Cond.code ({ cls := "com/example/ringloom/ringloom/DraftPlan", name := "append", desc := "(III)V" } : Jvm.MethodName) prog_7_method_6_code (5 : Nat) (Option.none : Option Jvm.ClassFile.FieldType), Jvm.Cond.code ({ cls := "java/util/BitSet", name := "clear", desc := "(I)V" } : Jvm.MethodName) jdk_92_method_23_code (3 : Nat) (Option.none : Option Jvm.ClassFile.FieldType), Jvm.Cond.code ({ cls := "com/example/ringloom/ringloom/DraftPlanRemoveLastPinLaw", name := "addTarget", desc := "(Lcom/example/ringloom/ringloom/DraftPlan;IIIIII)I" } : Jvm.MethodName) method_2_code (7 : Nat) (Option.some Jvm.ClassFile.FieldType.int), Jvm.Cond.code ({ cls := "com/example/ringloom/ringloom/DraftPlan", name := "removeLast", desc := "(I)[I" } : Jvm.MethodName) prog_7_method_7_code (3 : Nat) (Option.some (Jvm.ClassFile.FieldType.array Jvm.ClassFile.FieldType.int)), Jvm.Cond.code ({ cls := "com/example/ringloom/ringloom/DraftPlan", name := "size", desc := "(I)I" } : Jvm.MethodName) prog_7_method_9_code (2 : Nat) (Option.some Jvm.ClassFile.FieldType.int), Jvm.Cond.code ({ cls := "com/example/ringloom/ringloom/DraftPlan", name := "firstNode", desc := "(II)I" } : Jvm.MethodName) prog_7_method_10_code (3 : Nat) (Option.some Jvm.ClassFile.FieldType.int), Jvm.Cond.code ({ cls := "com/example/ringloom/ringloom/DraftPlan", name := "secondNode", desc := "(II)I" } : Jvm.MethodName) prog_7_method_11_code (3 : Nat) (Option.some Jvm.ClassFile.FieldType.int)]
set_option maxRecDepth 65536 in
theorem codes_eq : words1.filter isCode = codes1 := rfl
theorem w_codes : ∀ c ∈ words1.filter isCode, c.before args0 about1 = true := by
  rw [codes_eq]
  intro c hc
  simp only [codes1, List.mem_cons, List.not_mem_nil, or_false] at hc
  rcases hc with rfl | rfl | rfl | rfl | rfl | rfl | rfl | rfl | rfl | rfl | rfl | rfl | rfl | rfl | rfl | rfl | rfl
  · exact w_c0
  · exact w_c1
  · exact w_c2
  · exact w_c3
  · exact w_c4
  · exact w_c5
  · exact w_c6
  · exact w_c7
  · exact w_c8
  · exact w_c9
  · exact w_c10
  · exact w_c11
  · exact w_c12
  · exact w_c13
  · exact w_c14
  · exact w_c15
  · exact w_c16
set_option maxRecDepth 65536 in
theorem w_t1 : (words1.take 24).all (fun c => isCode c || c.before args0 about1) = true := by decide +kernel
set_option maxRecDepth 65536 in
theorem w_t2 : ((words1.drop 24).take 24).all (fun c => isCode c || c.before args0 about1) = true := by decide +kernel
set_option maxRecDepth 65536 in
theorem w_t3 : (((words1.drop 24).drop 24).take 24).all (fun c => isCode c || c.before args0 about1) = true := by decide +kernel
set_option maxRecDepth 65536 in
theorem w_t4 : ((((words1.drop 24).drop 24).drop 24).take 24).all (fun c => isCode c || c.before args0 about1) = true := by decide +kernel
set_option maxRecDepth 65536 in
theorem w_t5 : (((((words1.drop 24).drop 24).drop 24).drop 24).take 24).all (fun c => isCode c || c.before args0 about1) = true := by decide +kernel
set_option maxRecDepth 65536 in
theorem w_t6 : (((((words1.drop 24).drop 24).drop 24).drop 24).drop 24).all (fun c => isCode c || c.before args0 about1) = true := by decide +kernel
theorem w_tables : (allAtoms (Jvm.Cond.code x code maxLocals ret :: tables_1)).before args0 about1 = true := by
  rw [allAtoms_all]
  show words1.all (fun c => c.before args0 about1) = true
  refine all_split ?_ w_codes
  rw [← List.take_append_drop 24 words1, List.all_append, w_t1, ← List.take_append_drop 24 (words1.drop 24), List.all_append, w_t2, ← List.take_append_drop 24 ((words1.drop 24).drop 24), List.all_append, w_t3, ← List.take_append_drop 24 (((words1.drop 24).drop 24).drop 24), List.all_append, w_t4, ← List.take_append_drop 24 ((((words1.drop 24).drop 24).drop 24).drop 24), List.all_append, w_t5, w_t6]
  rfl
set_option maxRecDepth 65536 in
theorem w_case : (Jvm.Cond.and given_1 narrow_1).before args0 about1 = true := by decide +kernel
theorem w_applies : (headSpec (Jvm.Cond.code x code maxLocals ret :: tables_1) room_1).applies x e0.platform about1 = true :=
  (Spec.applies_iff w_frames).mpr ⟨w_running, w_runnable, w_alone, w_named, w_hears, w_ripe, w_room, w_tables⟩
theorem atStart : AtStart classFile x code maxLocals ret World_1 tables_1 room_1 Calls_1 rest_1 Pre_1 launch0 p0 e0 about1 theMethod args0 below0 :=
  ⟨lists_1, trivial, launch0.admits_env _ _ _, launch0.least_env, fairChoices_fair.cas, fairChoices_fair.clock, w_frames, w_args, w_heap, w_applies, trivial, trivial, w_case⟩
end start1
theorem witness_1 : WitnessClaimed_1 := ⟨start1.p0, start1.e0, start1.about1, start1.theMethod, start1.args0, start1.below0, start1.atStart⟩
end Jvm.Pilot.@@N@@
