import JvmDerived
import JvmDerived.Pilot.@@N@@Statement
import JvmDerived.Pilot.@@N@@Code
set_option linter.unusedVariables false
set_option linter.unusedSimpArgs false
namespace Jvm.Pilot.@@N@@
open Jvm Jvm.ClassFile Sem Op Lib Jvm.Free Jvm.Free.Fl Jvm.Stand Jvm.LawKit Jvm.RoadKit Bundle Jvm.Pilot.@@N@@.Jvm.D
section own_go
/-- where the walk stands, with the two facts that every step asks -/
def Ax (p : Program) (l : Launch) (e : Env) (R : Room) (s : State) (m : MethodId) (args : Array Value) (below : List Frame) (meth : Method) (c : Code) (T : State) (locs : List Loc) (cells slots : Nat) (B : ByteArray) : Prop := Stand p l e R s m args below meth c T locs cells slots ∧ p.tables.exec = Jvm.exec ∧ c.code = B
/-- from this frame the run ends, and P holds of its end -/
def Go (p : Program) (e : Env) (below : List Frame) (P : State → Outcome → Prop) (T : State) (g : JFrame) : Prop := ∃ U o, Steps p.tables e below (T.setTop g) U ∧ U.status = .running ∧ Ended U below o ∧ P U o
variable {p : Program} {l : Launch} {e : Env} {R : Room} {s : State} {m : MethodId} {args : Array Value} {below : List Frame} {meth : Method} {c : Code} {T : State} {locs : List Loc} {cells slots : Nat} {P : State → Outcome → Prop} {B : ByteArray} {pc pc' : Nat} {ls ls' : Array Slot} {st : List Value}
theorem Go.of {T' : State} {g g' : JFrame} (k : ∀ t, Steps p.tables e below (T'.setTop g') t → Steps p.tables e below (T.setTop g) t) (h : Go p e below P T' g') : Go p e below P T g := by
  obtain ⟨U, o, h1, h2⟩ := h
  exact ⟨U, o, k _ h1, h2⟩
theorem Go.tr {T' : State} {g g' : JFrame} (k : Steps p.tables e below (T.setTop g) (T'.setTop g')) (h : Go p e below P T' g') : Go p e below P T g := Go.of (fun _ h => k.trans h) h
theorem Go.cast {g g' : JFrame} (q : g = g') (h : Go p e below P T g') : Go p e below P T g := q ▸ h

theorem g_iadd (A : Ax p l e R s m args below meth c T locs cells slots B) {x : Int32} {y : Int32} (hd : decode B pc = .ok (.iadd, 1)) (hp : pc + 1 = pc') (k : Go p e below P T (mkF m pc' ls (.int (x + y) :: st))) : Go p e below P T (mkF m pc ls (.int y :: .int x :: st)) := by
  subst hp; exact Go.of (fun _ k' => XS.iadd A.1.here A.2.1 rfl (hb A.2.2 hd) rfl k') k
theorem g_isub (A : Ax p l e R s m args below meth c T locs cells slots B) {x : Int32} {y : Int32} (hd : decode B pc = .ok (.isub, 1)) (hp : pc + 1 = pc') (k : Go p e below P T (mkF m pc' ls (.int (x - y) :: st))) : Go p e below P T (mkF m pc ls (.int y :: .int x :: st)) := by
  subst hp; exact Go.of (fun _ k' => XS.isub A.1.here A.2.1 rfl (hb A.2.2 hd) rfl k') k
theorem g_iand (A : Ax p l e R s m args below meth c T locs cells slots B) {x : Int32} {y : Int32} (hd : decode B pc = .ok (.iand, 1)) (hp : pc + 1 = pc') (k : Go p e below P T (mkF m pc' ls (.int (x &&& y) :: st))) : Go p e below P T (mkF m pc ls (.int y :: .int x :: st)) := by
  subst hp; exact Go.of (fun _ k' => XS.iand A.1.here A.2.1 rfl (hb A.2.2 hd) rfl k') k
theorem g_imul (A : Ax p l e R s m args below meth c T locs cells slots B) {x : Int32} {y : Int32} (hd : decode B pc = .ok (.imul, 1)) (hp : pc + 1 = pc') (k : Go p e below P T (mkF m pc' ls (.int (x * y) :: st))) : Go p e below P T (mkF m pc ls (.int y :: .int x :: st)) := by
  subst hp; exact Go.of (fun _ k' => XS.imul A.1.here A.2.1 rfl (hb A.2.2 hd) rfl k') k
theorem g_ixor (A : Ax p l e R s m args below meth c T locs cells slots B) {x : Int32} {y : Int32} (hd : decode B pc = .ok (.ixor, 1)) (hp : pc + 1 = pc') (k : Go p e below P T (mkF m pc' ls (.int (x ^^^ y) :: st))) : Go p e below P T (mkF m pc ls (.int y :: .int x :: st)) := by
  subst hp; exact Go.of (fun _ k' => XT.ixor A.1.here A.2.1 rfl (hb A.2.2 hd) rfl k') k
theorem g_ior (A : Ax p l e R s m args below meth c T locs cells slots B) {x : Int32} {y : Int32} (hd : decode B pc = .ok (.ior, 1)) (hp : pc + 1 = pc') (k : Go p e below P T (mkF m pc' ls (.int (x ||| y) :: st))) : Go p e below P T (mkF m pc ls (.int y :: .int x :: st)) := by
  subst hp; exact Go.of (fun _ k' => XT.ior A.1.here A.2.1 rfl (hb A.2.2 hd) rfl k') k
theorem g_ishl (A : Ax p l e R s m args below meth c T locs cells slots B) {x : Int32} {y : Int32} (hd : decode B pc = .ok (.ishl, 1)) (hp : pc + 1 = pc') (k : Go p e below P T (mkF m pc' ls (.int (x <<< (y &&& 31)) :: st))) : Go p e below P T (mkF m pc ls (.int y :: .int x :: st)) := by
  subst hp; exact Go.of (fun _ k' => XT.ishl A.1.here A.2.1 rfl (hb A.2.2 hd) rfl k') k
theorem g_ishr (A : Ax p l e R s m args below meth c T locs cells slots B) {x : Int32} {y : Int32} (hd : decode B pc = .ok (.ishr, 1)) (hp : pc + 1 = pc') (k : Go p e below P T (mkF m pc' ls (.int (x >>> (y &&& 31)) :: st))) : Go p e below P T (mkF m pc ls (.int y :: .int x :: st)) := by
  subst hp; exact Go.of (fun _ k' => XT.ishr A.1.here A.2.1 rfl (hb A.2.2 hd) rfl k') k
theorem g_iushr (A : Ax p l e R s m args below meth c T locs cells slots B) {x : Int32} {y : Int32} (hd : decode B pc = .ok (.iushr, 1)) (hp : pc + 1 = pc') (k : Go p e below P T (mkF m pc' ls (.int (XT.ushr x y) :: st))) : Go p e below P T (mkF m pc ls (.int y :: .int x :: st)) := by
  subst hp; exact Go.of (fun _ k' => XT.iushr A.1.here A.2.1 rfl (hb A.2.2 hd) rfl k') k
theorem g_idiv (A : Ax p l e R s m args below meth c T locs cells slots B) {x : Int32} {y : Int32} (hd : decode B pc = .ok (.idiv, 1)) (hy : y ≠ 0) (hp : pc + 1 = pc') (k : Go p e below P T (mkF m pc' ls (.int (x / y) :: st))) : Go p e below P T (mkF m pc ls (.int y :: .int x :: st)) := by
  subst hp; exact Go.of (fun _ k' => XS.idiv A.1.here A.2.1 rfl (hb A.2.2 hd) rfl hy k') k
theorem g_ladd (A : Ax p l e R s m args below meth c T locs cells slots B) {x : Int64} {y : Int64} (hd : decode B pc = .ok (.ladd, 1)) (hp : pc + 1 = pc') (k : Go p e below P T (mkF m pc' ls (.long (x + y) :: st))) : Go p e below P T (mkF m pc ls (.long y :: .long x :: st)) := by
  subst hp; exact Go.of (fun _ k' => XT.ladd A.1.here A.2.1 rfl (hb A.2.2 hd) rfl k') k
theorem g_lsub (A : Ax p l e R s m args below meth c T locs cells slots B) {x : Int64} {y : Int64} (hd : decode B pc = .ok (.lsub, 1)) (hp : pc + 1 = pc') (k : Go p e below P T (mkF m pc' ls (.long (x - y) :: st))) : Go p e below P T (mkF m pc ls (.long y :: .long x :: st)) := by
  subst hp; exact Go.of (fun _ k' => XT.lsub A.1.here A.2.1 rfl (hb A.2.2 hd) rfl k') k
theorem g_lmul (A : Ax p l e R s m args below meth c T locs cells slots B) {x : Int64} {y : Int64} (hd : decode B pc = .ok (.lmul, 1)) (hp : pc + 1 = pc') (k : Go p e below P T (mkF m pc' ls (.long (x * y) :: st))) : Go p e below P T (mkF m pc ls (.long y :: .long x :: st)) := by
  subst hp; exact Go.of (fun _ k' => XT.lmul A.1.here A.2.1 rfl (hb A.2.2 hd) rfl k') k
theorem g_land (A : Ax p l e R s m args below meth c T locs cells slots B) {x : Int64} {y : Int64} (hd : decode B pc = .ok (.land, 1)) (hp : pc + 1 = pc') (k : Go p e below P T (mkF m pc' ls (.long (x &&& y) :: st))) : Go p e below P T (mkF m pc ls (.long y :: .long x :: st)) := by
  subst hp; exact Go.of (fun _ k' => XT.land A.1.here A.2.1 rfl (hb A.2.2 hd) rfl k') k
theorem g_lor (A : Ax p l e R s m args below meth c T locs cells slots B) {x : Int64} {y : Int64} (hd : decode B pc = .ok (.lor, 1)) (hp : pc + 1 = pc') (k : Go p e below P T (mkF m pc' ls (.long (x ||| y) :: st))) : Go p e below P T (mkF m pc ls (.long y :: .long x :: st)) := by
  subst hp; exact Go.of (fun _ k' => XT.lor A.1.here A.2.1 rfl (hb A.2.2 hd) rfl k') k
theorem g_lxor (A : Ax p l e R s m args below meth c T locs cells slots B) {x : Int64} {y : Int64} (hd : decode B pc = .ok (.lxor, 1)) (hp : pc + 1 = pc') (k : Go p e below P T (mkF m pc' ls (.long (x ^^^ y) :: st))) : Go p e below P T (mkF m pc ls (.long y :: .long x :: st)) := by
  subst hp; exact Go.of (fun _ k' => XT.lxor A.1.here A.2.1 rfl (hb A.2.2 hd) rfl k') k
theorem g_lshl (A : Ax p l e R s m args below meth c T locs cells slots B) {x : Int64} {y : Int32} (hd : decode B pc = .ok (.lshl, 1)) (hp : pc + 1 = pc') (k : Go p e below P T (mkF m pc' ls (.long (x <<< (y.toInt64 &&& 63)) :: st))) : Go p e below P T (mkF m pc ls (.int y :: .long x :: st)) := by
  subst hp; exact Go.of (fun _ k' => XT.lshl A.1.here A.2.1 rfl (hb A.2.2 hd) rfl k') k
theorem g_lshr (A : Ax p l e R s m args below meth c T locs cells slots B) {x : Int64} {y : Int32} (hd : decode B pc = .ok (.lshr, 1)) (hp : pc + 1 = pc') (k : Go p e below P T (mkF m pc' ls (.long (x >>> (y.toInt64 &&& 63)) :: st))) : Go p e below P T (mkF m pc ls (.int y :: .long x :: st)) := by
  subst hp; exact Go.of (fun _ k' => XT.lshr A.1.here A.2.1 rfl (hb A.2.2 hd) rfl k') k
theorem g_lushr (A : Ax p l e R s m args below meth c T locs cells slots B) {x : Int64} {y : Int32} (hd : decode B pc = .ok (.lushr, 1)) (hp : pc + 1 = pc') (k : Go p e below P T (mkF m pc' ls (.long (XT.ushrL x y) :: st))) : Go p e below P T (mkF m pc ls (.int y :: .long x :: st)) := by
  subst hp; exact Go.of (fun _ k' => XT.lushr A.1.here A.2.1 rfl (hb A.2.2 hd) rfl k') k
theorem g_ldiv (A : Ax p l e R s m args below meth c T locs cells slots B) {x : Int64} {y : Int64} (hd : decode B pc = .ok (.ldiv, 1)) (hy : y ≠ 0) (hp : pc + 1 = pc') (k : Go p e below P T (mkF m pc' ls (.long (x / y) :: st))) : Go p e below P T (mkF m pc ls (.long y :: .long x :: st)) := by
  subst hp; exact Go.of (fun _ k' => XT.ldiv A.1.here A.2.1 rfl (hb A.2.2 hd) rfl hy k') k
theorem g_lrem (A : Ax p l e R s m args below meth c T locs cells slots B) {x y : Int64} (hd : decode B pc = .ok (.lrem, 1)) (hy : y ≠ 0) (hp : pc + 1 = pc') (k : Go p e below P T (mkF m pc' ls (.long (x % y) :: st))) : Go p e below P T (mkF m pc ls (.long y :: .long x :: st)) := by
  subst hp; rw [← lrem_mod] at k; exact Go.of (fun _ k' => XT.lrem A.1.here A.2.1 rfl (hb A.2.2 hd) rfl hy k') k
theorem g_i2s (A : Ax p l e R s m args below meth c T locs cells slots B) {x : Int32} (hd : decode B pc = .ok (.i2s, 1)) (hp : pc + 1 = pc') (k : Go p e below P T (mkF m pc' ls (.int (x.toInt16.toInt32) :: st))) : Go p e below P T (mkF m pc ls (.int x :: st)) := by
  subst hp; exact Go.of (fun _ k' => XT.i2s A.1.here A.2.1 rfl (hb A.2.2 hd) rfl k') k
theorem g_i2b (A : Ax p l e R s m args below meth c T locs cells slots B) {x : Int32} (hd : decode B pc = .ok (.i2b, 1)) (hp : pc + 1 = pc') (k : Go p e below P T (mkF m pc' ls (.int (x.toInt8.toInt32) :: st))) : Go p e below P T (mkF m pc ls (.int x :: st)) := by
  subst hp; exact Go.of (fun _ k' => XT.i2b A.1.here A.2.1 rfl (hb A.2.2 hd) rfl k') k
theorem g_i2c (A : Ax p l e R s m args below meth c T locs cells slots B) {x : Int32} (hd : decode B pc = .ok (.i2c, 1)) (hp : pc + 1 = pc') (k : Go p e below P T (mkF m pc' ls (.int (x.toUInt32.toUInt16.toUInt32.toInt32) :: st))) : Go p e below P T (mkF m pc ls (.int x :: st)) := by
  subst hp; exact Go.of (fun _ k' => XT.i2c A.1.here A.2.1 rfl (hb A.2.2 hd) rfl k') k
theorem g_ineg (A : Ax p l e R s m args below meth c T locs cells slots B) {x : Int32} (hd : decode B pc = .ok (.ineg, 1)) (hp : pc + 1 = pc') (k : Go p e below P T (mkF m pc' ls (.int (-x) :: st))) : Go p e below P T (mkF m pc ls (.int x :: st)) := by
  subst hp; exact Go.of (fun _ k' => XS.ineg A.1.here A.2.1 rfl (hb A.2.2 hd) rfl k') k
theorem g_lneg (A : Ax p l e R s m args below meth c T locs cells slots B) {x : Int64} (hd : decode B pc = .ok (.lneg, 1)) (hp : pc + 1 = pc') (k : Go p e below P T (mkF m pc' ls (.long (-x) :: st))) : Go p e below P T (mkF m pc ls (.long x :: st)) := by
  subst hp; exact Go.of (fun _ k' => XT.lneg A.1.here A.2.1 rfl (hb A.2.2 hd) rfl k') k
theorem g_i2l (A : Ax p l e R s m args below meth c T locs cells slots B) {x : Int32} (hd : decode B pc = .ok (.i2l, 1)) (hp : pc + 1 = pc') (k : Go p e below P T (mkF m pc' ls (.long (x.toInt64) :: st))) : Go p e below P T (mkF m pc ls (.int x :: st)) := by
  subst hp; exact Go.of (fun _ k' => XT.i2l A.1.here A.2.1 rfl (hb A.2.2 hd) rfl k') k
theorem g_l2i (A : Ax p l e R s m args below meth c T locs cells slots B) {x : Int64} (hd : decode B pc = .ok (.l2i, 1)) (hp : pc + 1 = pc') (k : Go p e below P T (mkF m pc' ls (.int (x.toInt32) :: st))) : Go p e below P T (mkF m pc ls (.long x :: st)) := by
  subst hp; exact Go.of (fun _ k' => XT.l2i A.1.here A.2.1 rfl (hb A.2.2 hd) rfl k') k
theorem g_irem (A : Ax p l e R s m args below meth c T locs cells slots B) {x y : Int32} (hd : decode B pc = .ok (.irem, 1)) (hy : y ≠ 0) (hp : pc + 1 = pc') (k : Go p e below P T (mkF m pc' ls (.int (x % y) :: st))) : Go p e below P T (mkF m pc ls (.int y :: .int x :: st)) := by
  subst hp; exact Go.of (fun _ k' => iremM A.1 A.2.1 rfl (hb A.2.2 hd) rfl hy k') k
theorem g_iloadN (A : Ax p l e R s m args below meth c T locs cells slots B) {k : Fin 4} {v : Int32} (hd : decode B pc = .ok (.iload_n k, 1)) (hl : ls[k.val]? = some (.val (.int v))) (hp : pc + 1 = pc') (k : Go p e below P T (mkF m pc' ls (.int v :: st))) : Go p e below P T (mkF m pc ls st) := by
  subst hp; exact Go.of (fun _ k' => XS.iloadN A.1.here A.2.1 rfl (hb A.2.2 hd) hl k') k
theorem g_iload (A : Ax p l e R s m args below meth c T locs cells slots B) {k : Nat} {v : Int32} (hd : decode B pc = .ok (.iload k, 2)) (hl : ls[k]? = some (.val (.int v))) (hp : pc + 2 = pc') (k : Go p e below P T (mkF m pc' ls (.int v :: st))) : Go p e below P T (mkF m pc ls st) := by
  subst hp; exact Go.of (fun _ k' => XS.iload A.1.here A.2.1 rfl (hb A.2.2 hd) hl k') k
theorem g_lloadN (A : Ax p l e R s m args below meth c T locs cells slots B) {k : Fin 4} {v : Int64} (hd : decode B pc = .ok (.lload_n k, 1)) (hl : ls[k.val]? = some (.val (.long v))) (hp : pc + 1 = pc') (k : Go p e below P T (mkF m pc' ls (.long v :: st))) : Go p e below P T (mkF m pc ls st) := by
  subst hp; exact Go.of (fun _ k' => XT.lloadN A.1.here A.2.1 rfl (hb A.2.2 hd) hl k') k
theorem g_lload (A : Ax p l e R s m args below meth c T locs cells slots B) {k : Nat} {v : Int64} (hd : decode B pc = .ok (.lload k, 2)) (hl : ls[k]? = some (.val (.long v))) (hp : pc + 2 = pc') (k : Go p e below P T (mkF m pc' ls (.long v :: st))) : Go p e below P T (mkF m pc ls st) := by
  subst hp; exact Go.of (fun _ k' => XT.lload A.1.here A.2.1 rfl (hb A.2.2 hd) hl k') k
theorem g_aloadN (A : Ax p l e R s m args below meth c T locs cells slots B) {k : Fin 4} {v : Value} (hd : decode B pc = .ok (.aload_n k, 1)) (hl : ls[k.val]? = some (.val v)) (hv : v.isRef = true) (hp : pc + 1 = pc') (k : Go p e below P T (mkF m pc' ls (v :: st))) : Go p e below P T (mkF m pc ls st) := by
  subst hp; exact Go.of (fun _ k' => XS.aloadN A.1.here A.2.1 rfl (hb A.2.2 hd) hl hv k') k
theorem g_aload (A : Ax p l e R s m args below meth c T locs cells slots B) {k : Nat} {v : Value} (hd : decode B pc = .ok (.aload k, 2)) (hl : ls[k]? = some (.val v)) (hv : v.isRef = true) (hp : pc + 2 = pc') (k : Go p e below P T (mkF m pc' ls (v :: st))) : Go p e below P T (mkF m pc ls st) := by
  subst hp; exact Go.of (fun _ k' => XS.aload A.1.here A.2.1 rfl (hb A.2.2 hd) hl hv k') k
theorem g_dloadN (A : Ax p l e R s m args below meth c T locs cells slots B) {k : Fin 4} {v : UInt64} (hd : decode B pc = .ok (.dload_n k, 1)) (hl : ls[k.val]? = some (.val (.double v))) (hp : pc + 1 = pc') (k : Go p e below P T (mkF m pc' ls (.double v :: st))) : Go p e below P T (mkF m pc ls st) := by
  subst hp
  refine Go.of (fun t k' => ?_) k
  have h := A.1.here
  have hx := A.2.1
  have hd' := hb A.2.2 hd
  show Steps p.tables e below (T.setTop { method := m, pc := pc, locals := ls, stack := st, locked := none }) _
  jvm_step h [h.top, hx, hd', hl]
  exact k'
theorem g_dload (A : Ax p l e R s m args below meth c T locs cells slots B) {k : Nat} {v : UInt64} (hd : decode B pc = .ok (.dload k, 2)) (hl : ls[k]? = some (.val (.double v))) (hp : pc + 2 = pc') (k : Go p e below P T (mkF m pc' ls (.double v :: st))) : Go p e below P T (mkF m pc ls st) := by
  subst hp
  refine Go.of (fun t k' => ?_) k
  have h := A.1.here
  have hx := A.2.1
  have hd' := hb A.2.2 hd
  show Steps p.tables e below (T.setTop { method := m, pc := pc, locals := ls, stack := st, locked := none }) _
  jvm_step h [h.top, hx, hd', hl]
  exact k'
theorem g_istoreN (A : Ax p l e R s m args below meth c T locs cells slots B) {k : Fin 4} {x : Int32} (hd : decode B pc = .ok (.istore_n k, 1)) (hl : storeLocals ls k.val (.int x) = some ls') (hp : pc + 1 = pc') (k : Go p e below P T (mkF m pc' ls' st)) : Go p e below P T (mkF m pc ls (.int x :: st)) := by
  subst hp; exact Go.of (fun _ k' => XS.istoreN A.1.here A.2.1 rfl (hb A.2.2 hd) rfl hl k') k
theorem g_istore (A : Ax p l e R s m args below meth c T locs cells slots B) {k : Nat} {x : Int32} (hd : decode B pc = .ok (.istore k, 2)) (hl : storeLocals ls k (.int x) = some ls') (hp : pc + 2 = pc') (k : Go p e below P T (mkF m pc' ls' st)) : Go p e below P T (mkF m pc ls (.int x :: st)) := by
  subst hp; exact Go.of (fun _ k' => XS.istore A.1.here A.2.1 rfl (hb A.2.2 hd) rfl hl k') k
theorem g_lstoreN (A : Ax p l e R s m args below meth c T locs cells slots B) {k : Fin 4} {x : Int64} (hd : decode B pc = .ok (.lstore_n k, 1)) (hl : storeLocals ls k.val (.long x) = some ls') (hp : pc + 1 = pc') (k : Go p e below P T (mkF m pc' ls' st)) : Go p e below P T (mkF m pc ls (.long x :: st)) := by
  subst hp; exact Go.of (fun _ k' => XT.lstoreN A.1.here A.2.1 rfl (hb A.2.2 hd) rfl hl k') k
theorem g_lstore (A : Ax p l e R s m args below meth c T locs cells slots B) {k : Nat} {x : Int64} (hd : decode B pc = .ok (.lstore k, 2)) (hl : storeLocals ls k (.long x) = some ls') (hp : pc + 2 = pc') (k : Go p e below P T (mkF m pc' ls' st)) : Go p e below P T (mkF m pc ls (.long x :: st)) := by
  subst hp; exact Go.of (fun _ k' => XT.lstore A.1.here A.2.1 rfl (hb A.2.2 hd) rfl hl k') k
theorem g_astoreN (A : Ax p l e R s m args below meth c T locs cells slots B) {k : Fin 4} {x : Value} (hd : decode B pc = .ok (.astore_n k, 1)) (hv : x.isRef = true) (hl : storeLocals ls k.val x = some ls') (hp : pc + 1 = pc') (k : Go p e below P T (mkF m pc' ls' st)) : Go p e below P T (mkF m pc ls (x :: st)) := by
  subst hp; exact Go.of (fun _ k' => XS.astoreN A.1.here A.2.1 rfl (hb A.2.2 hd) rfl hv hl k') k
theorem g_astore (A : Ax p l e R s m args below meth c T locs cells slots B) {k : Nat} {x : Value} (hd : decode B pc = .ok (.astore k, 2)) (hv : x.isRef = true) (hl : storeLocals ls k x = some ls') (hp : pc + 2 = pc') (k : Go p e below P T (mkF m pc' ls' st)) : Go p e below P T (mkF m pc ls (x :: st)) := by
  subst hp; exact Go.of (fun _ k' => XS.astore A.1.here A.2.1 rfl (hb A.2.2 hd) rfl hv hl k') k
theorem g_dstoreN (A : Ax p l e R s m args below meth c T locs cells slots B) {k : Fin 4} {x : UInt64} (hd : decode B pc = .ok (.dstore_n k, 1)) (hl : storeLocals ls k.val (.double x) = some ls') (hp : pc + 1 = pc') (k : Go p e below P T (mkF m pc' ls' st)) : Go p e below P T (mkF m pc ls (.double x :: st)) := by
  subst hp
  refine Go.of (fun t k' => ?_) k
  have h := A.1.here
  have hx := A.2.1
  have hd' := hb A.2.2 hd
  show Steps p.tables e below (T.setTop { method := m, pc := pc, locals := ls, stack := .double x :: st, locked := none }) _
  jvm_step h [h.top, hx, hd']
  exact ⟨ls', hl, k'⟩
theorem g_dstore (A : Ax p l e R s m args below meth c T locs cells slots B) {k : Nat} {x : UInt64} (hd : decode B pc = .ok (.dstore k, 2)) (hl : storeLocals ls k (.double x) = some ls') (hp : pc + 2 = pc') (k : Go p e below P T (mkF m pc' ls' st)) : Go p e below P T (mkF m pc ls (.double x :: st)) := by
  subst hp
  refine Go.of (fun t k' => ?_) k
  have h := A.1.here
  have hx := A.2.1
  have hd' := hb A.2.2 hd
  show Steps p.tables e below (T.setTop { method := m, pc := pc, locals := ls, stack := .double x :: st, locked := none }) _
  jvm_step h [h.top, hx, hd']
  exact ⟨ls', hl, k'⟩
theorem g_iconst (A : Ax p l e R s m args below meth c T locs cells slots B) {i : Int} {v : Int32} (hd : decode B pc = .ok (.iconst i, 1)) (hv : Int32.ofInt i = v) (hp : pc + 1 = pc') (k : Go p e below P T (mkF m pc' ls (.int v :: st))) : Go p e below P T (mkF m pc ls st) := by
  subst hp hv; exact Go.of (fun _ k' => XS.iconst A.1.here A.2.1 rfl (hb A.2.2 hd) k') k
theorem g_bipush (A : Ax p l e R s m args below meth c T locs cells slots B) {i : Int} {v : Int32} (hd : decode B pc = .ok (.bipush i, 2)) (hv : (Int8.ofInt i).toInt32 = v) (hp : pc + 2 = pc') (k : Go p e below P T (mkF m pc' ls (.int v :: st))) : Go p e below P T (mkF m pc ls st) := by
  subst hp hv; exact Go.of (fun _ k' => XS.bipush A.1.here A.2.1 rfl (hb A.2.2 hd) k') k
theorem g_sipush (A : Ax p l e R s m args below meth c T locs cells slots B) {i : Int} {v : Int32} (hd : decode B pc = .ok (.sipush i, 3)) (hv : (Int16.ofInt i).toInt32 = v) (hp : pc + 3 = pc') (k : Go p e below P T (mkF m pc' ls (.int v :: st))) : Go p e below P T (mkF m pc ls st) := by
  subst hp hv; exact Go.of (fun _ k' => XS.sipush A.1.here A.2.1 rfl (hb A.2.2 hd) k') k
theorem g_aconst (A : Ax p l e R s m args below meth c T locs cells slots B) (hd : decode B pc = .ok (.aconst_null, 1)) (hp : pc + 1 = pc') (k : Go p e below P T (mkF m pc' ls (.null :: st))) : Go p e below P T (mkF m pc ls st) := by
  subst hp; exact Go.of (fun _ k' => XS.aconstNull A.1.here A.2.1 rfl (hb A.2.2 hd) k') k
theorem g_lconst (A : Ax p l e R s m args below meth c T locs cells slots B) {i : Fin 2} {v : Int64} (hd : decode B pc = .ok (.lconst i, 1)) (hv : Int64.ofNat i = v) (hp : pc + 1 = pc') (k : Go p e below P T (mkF m pc' ls (.long v :: st))) : Go p e below P T (mkF m pc ls st) := by
  subst hp hv; exact Go.of (fun _ k' => XT.lconst A.1.here A.2.1 rfl (hb A.2.2 hd) k') k
theorem g_dconst0 (A : Ax p l e R s m args below meth c T locs cells slots B) (hd : decode B pc = .ok (.dconst 0, 1)) (hp : pc + 1 = pc') (k : Go p e below P T (mkF m pc' ls (.double (0 : UInt64) :: st))) : Go p e below P T (mkF m pc ls st) := by
  subst hp
  refine Go.of (fun t k' => ?_) k
  have h := A.1.here
  have hx := A.2.1
  have hd' := hb A.2.2 hd
  show Steps p.tables e below (T.setTop { method := m, pc := pc, locals := ls, stack := st, locked := none }) _
  jvm_step h [h.top, hx, hd']
  exact k'
theorem g_dconst1 (A : Ax p l e R s m args below meth c T locs cells slots B) (hd : decode B pc = .ok (.dconst 1, 1)) (hp : pc + 1 = pc') (k : Go p e below P T (mkF m pc' ls (.double (4607182418800017408 : UInt64) :: st))) : Go p e below P T (mkF m pc ls st) := by
  subst hp
  refine Go.of (fun t k' => ?_) k
  have h := A.1.here
  have hx := A.2.1
  have hd' := hb A.2.2 hd
  show Steps p.tables e below (T.setTop { method := m, pc := pc, locals := ls, stack := st, locked := none }) _
  jvm_step h [h.top, hx, hd']
  exact k'
theorem g_dadd (A : Ax p l e R s m args below meth c T locs cells slots B) {x y : UInt64} (hd : decode B pc = .ok (.dadd, 1)) (hn : NoNaN64 (FP.dadd x y)) (hp : pc + 1 = pc') (k : Go p e below P T (mkF m pc' ls (.double (FP.dadd x y) :: st))) : Go p e below P T (mkF m pc ls (.double y :: .double x :: st)) := by
  subst hp
  refine Go.of (fun t k' => ?_) k
  have h := A.1.here
  have hx := A.2.1
  have hd' := hb A.2.2 hd
  show Steps p.tables e below (T.setTop { method := m, pc := pc, locals := ls, stack := .double y :: .double x :: st, locked := none }) _
  jvm_step h [h.top, hx, hd', Op.dadd.at_number h.top hn]
  exact k'
theorem g_dsub (A : Ax p l e R s m args below meth c T locs cells slots B) {x y : UInt64} (hd : decode B pc = .ok (.dsub, 1)) (hn : NoNaN64 (FP.dsub x y)) (hp : pc + 1 = pc') (k : Go p e below P T (mkF m pc' ls (.double (FP.dsub x y) :: st))) : Go p e below P T (mkF m pc ls (.double y :: .double x :: st)) := by
  subst hp
  refine Go.of (fun t k' => ?_) k
  have h := A.1.here
  have hx := A.2.1
  have hd' := hb A.2.2 hd
  show Steps p.tables e below (T.setTop { method := m, pc := pc, locals := ls, stack := .double y :: .double x :: st, locked := none }) _
  jvm_step h [h.top, hx, hd', Op.dsub.at_number h.top hn]
  exact k'
theorem g_dmul (A : Ax p l e R s m args below meth c T locs cells slots B) {x y : UInt64} (hd : decode B pc = .ok (.dmul, 1)) (hn : NoNaN64 (FP.dmul x y)) (hp : pc + 1 = pc') (k : Go p e below P T (mkF m pc' ls (.double (FP.dmul x y) :: st))) : Go p e below P T (mkF m pc ls (.double y :: .double x :: st)) := by
  subst hp
  refine Go.of (fun t k' => ?_) k
  have h := A.1.here
  have hx := A.2.1
  have hd' := hb A.2.2 hd
  show Steps p.tables e below (T.setTop { method := m, pc := pc, locals := ls, stack := .double y :: .double x :: st, locked := none }) _
  jvm_step h [h.top, hx, hd', Op.dmul.at_number h.top hn]
  exact k'
theorem g_ddiv (A : Ax p l e R s m args below meth c T locs cells slots B) {x y : UInt64} (hd : decode B pc = .ok (.ddiv, 1)) (hn : NoNaN64 (FP.ddiv x y)) (hp : pc + 1 = pc') (k : Go p e below P T (mkF m pc' ls (.double (FP.ddiv x y) :: st))) : Go p e below P T (mkF m pc ls (.double y :: .double x :: st)) := by
  subst hp
  refine Go.of (fun t k' => ?_) k
  have h := A.1.here
  have hx := A.2.1
  have hd' := hb A.2.2 hd
  show Steps p.tables e below (T.setTop { method := m, pc := pc, locals := ls, stack := .double y :: .double x :: st, locked := none }) _
  jvm_step h [h.top, hx, hd', Op.ddiv.at_number h.top hn]
  exact k'
theorem g_dneg (A : Ax p l e R s m args below meth c T locs cells slots B) {x : UInt64} (hd : decode B pc = .ok (.dneg, 1)) (hp : pc + 1 = pc') (k : Go p e below P T (mkF m pc' ls (.double (FP.dneg x) :: st))) : Go p e below P T (mkF m pc ls (.double x :: st)) := by
  subst hp
  refine Go.of (fun t k' => ?_) k
  have h := A.1.here
  have hx := A.2.1
  have hd' := hb A.2.2 hd
  show Steps p.tables e below (T.setTop { method := m, pc := pc, locals := ls, stack := .double x :: st, locked := none }) _
  jvm_step h [h.top, hx, hd']
  exact k'
theorem g_i2d (A : Ax p l e R s m args below meth c T locs cells slots B) {x : Int32} (hd : decode B pc = .ok (.i2d, 1)) (hp : pc + 1 = pc') (k : Go p e below P T (mkF m pc' ls (.double (FP.i2d x) :: st))) : Go p e below P T (mkF m pc ls (.int x :: st)) := by
  subst hp
  refine Go.of (fun t k' => ?_) k
  have h := A.1.here
  have hx := A.2.1
  have hd' := hb A.2.2 hd
  show Steps p.tables e below (T.setTop { method := m, pc := pc, locals := ls, stack := .int x :: st, locked := none }) _
  jvm_step h [h.top, hx, hd']
  exact k'
theorem g_l2d (A : Ax p l e R s m args below meth c T locs cells slots B) {x : Int64} (hd : decode B pc = .ok (.l2d, 1)) (hp : pc + 1 = pc') (k : Go p e below P T (mkF m pc' ls (.double (FP.l2d x) :: st))) : Go p e below P T (mkF m pc ls (.long x :: st)) := by
  subst hp
  refine Go.of (fun t k' => ?_) k
  have h := A.1.here
  have hx := A.2.1
  have hd' := hb A.2.2 hd
  show Steps p.tables e below (T.setTop { method := m, pc := pc, locals := ls, stack := .long x :: st, locked := none }) _
  jvm_step h [h.top, hx, hd']
  exact k'
theorem g_dcmp (A : Ax p l e R s m args below meth c T locs cells slots B) {x y : UInt64} {op : CmpOp} (hd : decode B pc = .ok (.dcmp op, 1)) (hp : pc + 1 = pc') (k : Go p e below P T (mkF m pc' ls (.int (cmpValue (FP.dcmp x y) op) :: st))) : Go p e below P T (mkF m pc ls (.double y :: .double x :: st)) := by
  subst hp
  refine Go.of (fun t k' => ?_) k
  have h := A.1.here
  have hx := A.2.1
  have hd' := hb A.2.2 hd
  show Steps p.tables e below (T.setTop { method := m, pc := pc, locals := ls, stack := .double y :: .double x :: st, locked := none }) _
  jvm_step h [h.top, hx, hd']
  exact k'
theorem g_lcmp (A : Ax p l e R s m args below meth c T locs cells slots B) {x y : Int64} (hd : decode B pc = .ok (.lcmp, 1)) (hp : pc + 1 = pc') (k : Go p e below P T (mkF m pc' ls (.int (XT.cmpL x y) :: st))) : Go p e below P T (mkF m pc ls (.long y :: .long x :: st)) := by
  subst hp; exact Go.of (fun _ k' => XT.lcmp A.1.here A.2.1 rfl (hb A.2.2 hd) rfl k') k
theorem g_dup (A : Ax p l e R s m args below meth c T locs cells slots B) {x : Value} (hd : decode B pc = .ok (.dup, 1)) (hc : x.category = 1) (hp : pc + 1 = pc') (k : Go p e below P T (mkF m pc' ls (x :: x :: st))) : Go p e below P T (mkF m pc ls (x :: st)) := by
  subst hp; exact Go.of (fun _ k' => XS.dup A.1.here A.2.1 rfl (hb A.2.2 hd) rfl hc k') k
theorem g_pop (A : Ax p l e R s m args below meth c T locs cells slots B) {x : Value} (hd : decode B pc = .ok (.pop, 1)) (hc : x.category = 1) (hp : pc + 1 = pc') (k : Go p e below P T (mkF m pc' ls st)) : Go p e below P T (mkF m pc ls (x :: st)) := by
  subst hp; exact Go.of (fun _ k' => XT.pop A.1.here A.2.1 rfl (hb A.2.2 hd) rfl hc k') k
theorem g_iinc (A : Ax p l e R s m args below meth c T locs cells slots B) {k : Nat} {i : Int} {x y : Int32} (hd : decode B pc = .ok (.iinc k i, 3)) (hl : ls[k]? = some (.val (.int x))) (hy : x + Int32.ofInt i = y) (hl' : storeLocals ls k (.int y) = some ls') (hp : pc + 3 = pc') (k : Go p e below P T (mkF m pc' ls' st)) : Go p e below P T (mkF m pc ls st) := by
  subst hp hy; exact Go.of (fun _ k' => XS.iinc A.1.here A.2.1 rfl (hb A.2.2 hd) hl hl' k') k
theorem own_off {pc pc' : Nat} {o : Int} (h : (pc : Int) + o = (pc' : Int)) : 0 ≤ (pc : Int) + o ∧ ((pc : Int) + o).toNat = pc' := by omega
theorem g_goto (A : Ax p l e R s m args below meth c T locs cells slots B) {o : Int} (hd : decode B pc = .ok (.goto o, 3)) (hp : (pc : Int) + o = (pc' : Int)) (k : Go p e below P T (mkF m pc' ls st)) : Go p e below P T (mkF m pc ls st) := Go.of (fun _ k' => XS.goto A.1.here A.2.1 rfl rfl (hb A.2.2 hd) (own_off hp).1 (own_off hp).2 k') k
theorem g_ifY (A : Ax p l e R s m args below meth c T locs cells slots B) {o : Int} {cd : ClassFile.Cond} {x : Int32} (hd : decode B pc = .ok (.ifCond cd o, 3)) (hc : ifCond.holds cd x = true) (hp : (pc : Int) + o = (pc' : Int)) (k : Go p e below P T (mkF m pc' ls st)) : Go p e below P T (mkF m pc ls (.int x :: st)) := Go.of (fun _ k' => XS.ifYes A.1.here A.2.1 rfl rfl (hb A.2.2 hd) rfl hc (own_off hp).1 (own_off hp).2 k') k
theorem g_ifN (A : Ax p l e R s m args below meth c T locs cells slots B) {o : Int} {cd : ClassFile.Cond} {x : Int32} (hd : decode B pc = .ok (.ifCond cd o, 3)) (hc : ifCond.holds cd x = false) (hp : pc + 3 = pc') (k : Go p e below P T (mkF m pc' ls st)) : Go p e below P T (mkF m pc ls (.int x :: st)) := by
  subst hp; exact Go.of (fun _ k' => XS.ifNo A.1.here A.2.1 rfl (hb A.2.2 hd) rfl hc k') k
theorem g_icY (A : Ax p l e R s m args below meth c T locs cells slots B) {o : Int} {cd : ClassFile.Cond} {x y : Int32} (hd : decode B pc = .ok (.if_icmp cd o, 3)) (hc : if_icmp.holds cd x y = true) (hp : (pc : Int) + o = (pc' : Int)) (k : Go p e below P T (mkF m pc' ls st)) : Go p e below P T (mkF m pc ls (.int y :: .int x :: st)) := Go.of (fun _ k' => XS.icmpYes A.1.here A.2.1 rfl rfl (hb A.2.2 hd) rfl hc (own_off hp).1 (own_off hp).2 k') k
theorem g_icN (A : Ax p l e R s m args below meth c T locs cells slots B) {o : Int} {cd : ClassFile.Cond} {x y : Int32} (hd : decode B pc = .ok (.if_icmp cd o, 3)) (hc : if_icmp.holds cd x y = false) (hp : pc + 3 = pc') (k : Go p e below P T (mkF m pc' ls st)) : Go p e below P T (mkF m pc ls (.int y :: .int x :: st)) := by
  subst hp; exact Go.of (fun _ k' => XS.icmpNo A.1.here A.2.1 rfl (hb A.2.2 hd) rfl hc k') k
theorem c0_eq_t {x : Int32} (h : x = 0) : ifCond.holds .eq x = true := (if0 _ _).trans (teq h).1
theorem c0_eq_f {x : Int32} (h : ¬ x = 0) : ifCond.holds .eq x = false := (if0 _ _).trans (feq h).1
theorem c0_ne_t {x : Int32} (h : ¬ x = 0) : ifCond.holds .ne x = true := (if0 _ _).trans (feq h).2
theorem c0_ne_f {x : Int32} (h : x = 0) : ifCond.holds .ne x = false := (if0 _ _).trans (teq h).2
theorem c0_lt_t {x : Int32} (h : x < 0) : ifCond.holds .lt x = true := (if0 _ _).trans (tlt h).1
theorem c0_lt_f {x : Int32} (h : ¬ x < 0) : ifCond.holds .lt x = false := (if0 _ _).trans (flt h).1
theorem c0_ge_t {x : Int32} (h : ¬ x < 0) : ifCond.holds .ge x = true := (if0 _ _).trans (flt h).2.1
theorem c0_ge_f {x : Int32} (h : x < 0) : ifCond.holds .ge x = false := (if0 _ _).trans (tlt h).2.1
theorem c0_gt_t {x : Int32} (h : 0 < x) : ifCond.holds .gt x = true := (if0 _ _).trans (tlt h).2.2.1
theorem c0_gt_f {x : Int32} (h : ¬ 0 < x) : ifCond.holds .gt x = false := (if0 _ _).trans (flt h).2.2.1
theorem c0_le_t {x : Int32} (h : ¬ 0 < x) : ifCond.holds .le x = true := (if0 _ _).trans (flt h).2.2.2
theorem c0_le_f {x : Int32} (h : 0 < x) : ifCond.holds .le x = false := (if0 _ _).trans (tlt h).2.2.2
theorem c2_eq_t {x y : Int32} (h : x = y) : if_icmp.holds .eq x y = true := (teq h).1
theorem c2_eq_f {x y : Int32} (h : ¬ x = y) : if_icmp.holds .eq x y = false := (feq h).1
theorem c2_ne_t {x y : Int32} (h : ¬ x = y) : if_icmp.holds .ne x y = true := (feq h).2
theorem c2_ne_f {x y : Int32} (h : x = y) : if_icmp.holds .ne x y = false := (teq h).2
theorem c2_lt_t {x y : Int32} (h : x < y) : if_icmp.holds .lt x y = true := (tlt h).1
theorem c2_lt_f {x y : Int32} (h : ¬ x < y) : if_icmp.holds .lt x y = false := (flt h).1
theorem c2_ge_t {x y : Int32} (h : ¬ x < y) : if_icmp.holds .ge x y = true := (flt h).2.1
theorem c2_ge_f {x y : Int32} (h : x < y) : if_icmp.holds .ge x y = false := (tlt h).2.1
theorem c2_gt_t {x y : Int32} (h : y < x) : if_icmp.holds .gt x y = true := (tlt h).2.2.1
theorem c2_gt_f {x y : Int32} (h : ¬ y < x) : if_icmp.holds .gt x y = false := (flt h).2.2.1
theorem c2_le_t {x y : Int32} (h : ¬ y < x) : if_icmp.holds .le x y = true := (flt h).2.2.2
theorem c2_le_f {x y : Int32} (h : y < x) : if_icmp.holds .le x y = false := (tlt h).2.2.2
theorem b0_eq_t {C : Prop} [Decidable C] {v : Int32} (e : v = if C then 1 else 0) (h : ¬ C) : ifCond.holds .eq v = true := c0_eq_t (by rw [e, if_neg h])
theorem b0_eq_f {C : Prop} [Decidable C] {v : Int32} (e : v = if C then 1 else 0) (h : C) : ifCond.holds .eq v = false := c0_eq_f (by rw [e, if_pos h]; decide)
theorem b0_ne_t {C : Prop} [Decidable C] {v : Int32} (e : v = if C then 1 else 0) (h : C) : ifCond.holds .ne v = true := c0_ne_t (by rw [e, if_pos h]; decide)
theorem b0_ne_f {C : Prop} [Decidable C] {v : Int32} (e : v = if C then 1 else 0) (h : ¬ C) : ifCond.holds .ne v = false := c0_ne_f (by rw [e, if_neg h])
theorem own_b01 {C : Prop} [Decidable C] {v : Int32} (e : v = if C then 1 else 0) : narrow .boolean (.int v) = .int v := by
  subst e; by_cases h : C
  · rw [if_pos h]; rfl
  · rw [if_neg h]; rfl
theorem own_fb {C : Prop} [Decidable C] {v : Int32} (e : v = if C then 1 else 0) : fits .boolean (.int v) = true := by
  subst e; by_cases h : C
  · rw [if_pos h]; rfl
  · rw [if_neg h]; rfl
theorem own_ndadd {x y : UInt64} (h1 : Fin64 x) (h2 : Fin64 y) : NoNaN64 (FP.dadd x y) := dadd_out h1.noNaN h2
theorem own_ndsub {x y : UInt64} (h1 : Fin64 x) (h2 : Fin64 y) : NoNaN64 (FP.dsub x y) := dsub_out h1.noNaN h2
theorem own_ndmul {x y : UInt64} (h1 : Fin64 x) (h2 : Fin64 y) : NoNaN64 (FP.dmul x y) := dmul_out h1 h2
theorem own_fin {x : UInt64} : Fin64 x ↔ FP.Core.DFin x := fin64_core
theorem own_fneg {x : UInt64} (h : Fin64 x) : Fin64 (FP.dneg x) := by
  obtain ⟨s, c, q, e⟩ := fin64_core.mp h
  exact fin64_core.mpr ⟨!s, c, q, (FP.val64_dneg x).trans (by rw [e]; rfl)⟩
theorem own_self {x : UInt64} (h : Fin64 x) : FP.dcmp x x = some .eq := FP.Core.dcmp_self (fin64_core.mp h).ne_nan
theorem own_sgt {x : UInt64} (h : Fin64 x) : ¬ FP.dcmp x x = some .gt := by rw [own_self h]; decide
theorem own_slt {x : UInt64} (h : Fin64 x) : ¬ FP.dcmp x x = some .lt := by rw [own_self h]; decide
theorem own_and {c d : Jvm.Cond} {a : Array Value} {s : State} (h1 : c.before a s = true) (h2 : d.before a s = true) : (Jvm.Cond.and c d).before a s = true := by rw [Cond.before_and, h1, h2]; rfl
theorem own_isfin {x : UInt64} (h : Fin64 x) : some (Value.int (if Jvm.Free.Fl.relLe (FP.dcmp (x &&& 0x7fffffffffffffff) Jvm.Free.Fl.maxD) = true then (1 : Int32) else 0)) = some (.int (1 : Int32)) := by rw [if_pos ((le_max_iff h.noNaN).mpr h)]
theorem own_isinf {x : UInt64} (h : Fin64 x) : some (Value.int (if Jvm.Free.Fl.relGt (FP.dcmp (x &&& 0x7fffffffffffffff) Jvm.Free.Fl.maxD) = true then (1 : Int32) else 0)) = some (.int (0 : Int32)) := by rw [if_neg (fun h4 => (gt_max_iff h.noNaN).mp h4 h)]
theorem own_dfin {i : Int} {x : UInt64} (h : FP.Core.DInt i x) : Fin64 x := by
  refine fin64_core.mpr ?_
  have q : FP.Core.Whole i (FP.Core.val64 x) := h
  cases e : FP.Core.val64 x with
  | nan => rw [e] at q; exact q.elim
  | inf s => rw [e] at q; exact q.elim
  | fin s c q => exact ⟨s, c, q, e⟩
theorem own_fn {v : Int32} (h : narrow .boolean (.int v) = .int v) : fits .boolean (.int v) = true := by
  have q : v &&& 1 = v := Value.int.inj h
  rcases and_one v with z | z <;> rw [z] at q <;> subst q <;> rfl
/-- a double less than, equal to .. another, as the code asks it -/
abbrev oGe (o : Option Ordering) : Prop := o = some .gt ∨ o = some .eq
abbrev oLe (o : Option Ordering) : Prop := o = some .lt ∨ o = some .eq
theorem d_l_eq_t {o : Option Ordering} (h : o = some .eq) : ifCond.holds .eq (cmpValue o .l) = true := by
  rcases o with _ | _ | _ | _ <;> first | rfl | decide | (exfalso; revert h; decide)
theorem d_l_eq_f {o : Option Ordering} (h : ¬ o = some .eq) : ifCond.holds .eq (cmpValue o .l) = false := by
  rcases o with _ | _ | _ | _ <;> first | rfl | decide | (exfalso; revert h; decide)
theorem d_l_ne_t {o : Option Ordering} (h : ¬ o = some .eq) : ifCond.holds .ne (cmpValue o .l) = true := by
  rcases o with _ | _ | _ | _ <;> first | rfl | decide | (exfalso; revert h; decide)
theorem d_l_ne_f {o : Option Ordering} (h : o = some .eq) : ifCond.holds .ne (cmpValue o .l) = false := by
  rcases o with _ | _ | _ | _ <;> first | rfl | decide | (exfalso; revert h; decide)
theorem d_g_eq_t {o : Option Ordering} (h : o = some .eq) : ifCond.holds .eq (cmpValue o .g) = true := by
  rcases o with _ | _ | _ | _ <;> first | rfl | decide | (exfalso; revert h; decide)
theorem d_g_eq_f {o : Option Ordering} (h : ¬ o = some .eq) : ifCond.holds .eq (cmpValue o .g) = false := by
  rcases o with _ | _ | _ | _ <;> first | rfl | decide | (exfalso; revert h; decide)
theorem d_g_ne_t {o : Option Ordering} (h : ¬ o = some .eq) : ifCond.holds .ne (cmpValue o .g) = true := by
  rcases o with _ | _ | _ | _ <;> first | rfl | decide | (exfalso; revert h; decide)
theorem d_g_ne_f {o : Option Ordering} (h : o = some .eq) : ifCond.holds .ne (cmpValue o .g) = false := by
  rcases o with _ | _ | _ | _ <;> first | rfl | decide | (exfalso; revert h; decide)
theorem d_l_lt_t {o : Option Ordering} (h : ¬ oGe o) : ifCond.holds .lt (cmpValue o .l) = true := by
  rcases o with _ | _ | _ | _ <;> first | rfl | decide | (exfalso; revert h; decide)
theorem d_l_lt_f {o : Option Ordering} (h : oGe o) : ifCond.holds .lt (cmpValue o .l) = false := by
  rcases o with _ | _ | _ | _ <;> first | rfl | decide | (exfalso; revert h; decide)
theorem d_l_ge_t {o : Option Ordering} (h : oGe o) : ifCond.holds .ge (cmpValue o .l) = true := by
  rcases o with _ | _ | _ | _ <;> first | rfl | decide | (exfalso; revert h; decide)
theorem d_l_ge_f {o : Option Ordering} (h : ¬ oGe o) : ifCond.holds .ge (cmpValue o .l) = false := by
  rcases o with _ | _ | _ | _ <;> first | rfl | decide | (exfalso; revert h; decide)
theorem d_l_gt_t {o : Option Ordering} (h : o = some .gt) : ifCond.holds .gt (cmpValue o .l) = true := by
  rcases o with _ | _ | _ | _ <;> first | rfl | decide | (exfalso; revert h; decide)
theorem d_l_gt_f {o : Option Ordering} (h : ¬ o = some .gt) : ifCond.holds .gt (cmpValue o .l) = false := by
  rcases o with _ | _ | _ | _ <;> first | rfl | decide | (exfalso; revert h; decide)
theorem d_l_le_t {o : Option Ordering} (h : ¬ o = some .gt) : ifCond.holds .le (cmpValue o .l) = true := by
  rcases o with _ | _ | _ | _ <;> first | rfl | decide | (exfalso; revert h; decide)
theorem d_l_le_f {o : Option Ordering} (h : o = some .gt) : ifCond.holds .le (cmpValue o .l) = false := by
  rcases o with _ | _ | _ | _ <;> first | rfl | decide | (exfalso; revert h; decide)
theorem d_g_lt_t {o : Option Ordering} (h : o = some .lt) : ifCond.holds .lt (cmpValue o .g) = true := by
  rcases o with _ | _ | _ | _ <;> first | rfl | decide | (exfalso; revert h; decide)
theorem d_g_lt_f {o : Option Ordering} (h : ¬ o = some .lt) : ifCond.holds .lt (cmpValue o .g) = false := by
  rcases o with _ | _ | _ | _ <;> first | rfl | decide | (exfalso; revert h; decide)
theorem d_g_ge_t {o : Option Ordering} (h : ¬ o = some .lt) : ifCond.holds .ge (cmpValue o .g) = true := by
  rcases o with _ | _ | _ | _ <;> first | rfl | decide | (exfalso; revert h; decide)
theorem d_g_ge_f {o : Option Ordering} (h : o = some .lt) : ifCond.holds .ge (cmpValue o .g) = false := by
  rcases o with _ | _ | _ | _ <;> first | rfl | decide | (exfalso; revert h; decide)
theorem d_g_gt_t {o : Option Ordering} (h : ¬ oLe o) : ifCond.holds .gt (cmpValue o .g) = true := by
  rcases o with _ | _ | _ | _ <;> first | rfl | decide | (exfalso; revert h; decide)
theorem d_g_gt_f {o : Option Ordering} (h : oLe o) : ifCond.holds .gt (cmpValue o .g) = false := by
  rcases o with _ | _ | _ | _ <;> first | rfl | decide | (exfalso; revert h; decide)
theorem d_g_le_t {o : Option Ordering} (h : oLe o) : ifCond.holds .le (cmpValue o .g) = true := by
  rcases o with _ | _ | _ | _ <;> first | rfl | decide | (exfalso; revert h; decide)
theorem d_g_le_f {o : Option Ordering} (h : ¬ oLe o) : ifCond.holds .le (cmpValue o .g) = false := by
  rcases o with _ | _ | _ | _ <;> first | rfl | decide | (exfalso; revert h; decide)
theorem l_eq (x y : Int64) : XT.cmpL x y = 0 ↔ x = y := lw_eq x y
theorem l_lt (x y : Int64) : XT.cmpL x y < 0 ↔ x < y := lw_lt x y
theorem l_gt (x y : Int64) : 0 < XT.cmpL x y ↔ y < x := lw_gt x y
theorem g_ret (A : Ax p l e R s m args below meth c T locs cells slots B) {w : Value} {t : FieldType} {i : Instr} {Q : Option Value → Heap → List Loc → Prop} {K S : Nat} (hd : decode B pc = .ok (i, 1)) (hlk : meth.locks = false) (hret : meth.sig.returnType = some t) (hn : narrow t w = w)
    (hi : (i = .ireturn ∧ (t = .int ∨ t = .boolean ∨ t = .byte ∨ t = .char ∨ t = .short) ∧ ∃ z, w = .int z) ∨ (i = .lreturn ∧ t = .long ∧ ∃ z, w = .long z) ∨ (i = .dreturn ∧ t = .double ∧ ∃ z, w = .double z) ∨ (i = .freturn ∧ t = .float ∧ ∃ z, w = .float z) ∨ (i = .areturn ∧ t.isReference = true ∧ w.isRef = true))
    (hK : cells ≤ K) (hS : slots ≤ S) (hQ : Q (some w) T.heap locs) : Go p e below (fun U o => ∃ v L, o = .returned v ∧ Q v U.heap L ∧ FrameEnd s o U L K S) T (mkF m pc ls (w :: st)) := by
  obtain ⟨fs, hr, hrun, hended, hW, hsame⟩ := A.1.leave (v := some w) (fun h => by rw [hret] at h; cases h) hlk
  exact ⟨_, _, retOut A.1 A.2.1 hret hn hi (hb A.2.2 hd) hr, hrun, hended, _, _, rfl, hQ, ⟨_, rfl⟩, hW, hsame.mono hK hS⟩
theorem g_retV (A : Ax p l e R s m args below meth c T locs cells slots B) {Q : Option Value → Heap → List Loc → Prop} {K S : Nat} (hd : decode B pc = .ok (.return_, 1)) (hlk : meth.locks = false) (hret : meth.sig.returnType = none)
    (hK : cells ≤ K) (hS : slots ≤ S) (hQ : Q none T.heap locs) : Go p e below (fun U o => ∃ v L, o = .returned v ∧ Q v U.heap L ∧ FrameEnd s o U L K S) T (mkF m pc ls []) := by
  obtain ⟨fs, hr, hrun, hended, hW, hsame⟩ := A.1.leave (v := none) (fun _ => rfl) hlk
  exact ⟨_, _, A.1.returnOut A.2.1 hret (hb A.2.2 hd) hr, hrun, hended, _, _, rfl, hQ, ⟨_, rfl⟩, hW, hsame.mono hK hS⟩
theorem g_ldcI (A : Ax p l e R s m args below meth c T locs cells slots B) {Z : State} {a0 : Array Value} {own : String} {i : Nat} {v : Int32} (hZ : Z.Warmed39 s.vm) (hown : s.vm.findClass own = some m.cls) (w : (Jvm.Cond.constant own i v).before a0 Z = true) (hd : decode B pc = .ok (.ldc i, 2)) (hp : pc + 2 = pc') (k : Go p e below P T (mkF m pc' ls (.int v :: st))) : Go p e below P T (mkF m pc ls st) := by
  subst hp; exact Go.of (A.1.ldcInt A.2.1 hown (mvT hZ w) (g := mkF m pc ls st) rfl (hb A.2.2 hd)) k
theorem g_ldcD (A : Ax p l e R s m args below meth c T locs cells slots B) {Z : State} {a0 : Array Value} {own : String} {i : Nat} {v : UInt64} (hZ : Z.Warmed39 s.vm) (hown : s.vm.findClass own = some m.cls) (w : (Jvm.Cond.constantDouble own i v).before a0 Z = true) (hd : decode B pc = .ok (.ldc2_w i, 3)) (hp : pc + 3 = pc') (k : Go p e below P T (mkF m pc' ls (.double v :: st))) : Go p e below P T (mkF m pc ls st) := by
  subst hp; exact Go.of (A.1.ldc2DoubleC A.2.1 hown (mvT hZ w) (g := mkF m pc ls st) rfl (hb A.2.2 hd)) k
theorem g_ldcL (A : Ax p l e R s m args below meth c T locs cells slots B) {Z : State} {a0 : Array Value} {own : String} {i : Nat} {v : Int64} (hZ : Z.Warmed39 s.vm) (hown : s.vm.findClass own = some m.cls) (w : (Jvm.Cond.constantLong own i v).before a0 Z = true) (hd : decode B pc = .ok (.ldc2_w i, 3)) (hp : pc + 3 = pc') (k : Go p e below P T (mkF m pc' ls (.long v :: st))) : Go p e below P T (mkF m pc ls st) := by
  subst hp; exact Go.of (A.1.ldc2Long A.2.1 hown (mvT hZ w) (g := mkF m pc ls st) rfl (hb A.2.2 hd)) k
theorem g_nnY (A : Ax p l e R s m args below meth c T locs cells slots B) {o : Int} {b : Addr} (hd : decode B pc = .ok (.ifnonnull o, 3)) (hp : (pc : Int) + o = (pc' : Int)) (k : Go p e below P T (mkF m pc' ls st)) : Go p e below P T (mkF m pc ls (.ref b :: st)) := Go.of (fun _ k' => XT.ifnonnullYes A.1.here A.2.1 rfl rfl (hb A.2.2 hd) rfl (own_off hp).1 (own_off hp).2 k') k
theorem g_nnN (A : Ax p l e R s m args below meth c T locs cells slots B) {o : Int} (hd : decode B pc = .ok (.ifnonnull o, 3)) (hp : pc + 3 = pc') (k : Go p e below P T (mkF m pc' ls st)) : Go p e below P T (mkF m pc ls (.null :: st)) := by
  subst hp; exact Go.of (fun _ k' => XT.ifnonnullNo A.1.here A.2.1 rfl (hb A.2.2 hd) rfl k') k
theorem g_nuY (A : Ax p l e R s m args below meth c T locs cells slots B) {o : Int} (hd : decode B pc = .ok (.ifnull o, 3)) (hp : (pc : Int) + o = (pc' : Int)) (k : Go p e below P T (mkF m pc' ls st)) : Go p e below P T (mkF m pc ls (.null :: st)) := Go.of (fun _ k' => XS.ifnullYes A.1.here A.2.1 rfl rfl (hb A.2.2 hd) rfl (own_off hp).1 (own_off hp).2 k') k
theorem g_nuN (A : Ax p l e R s m args below meth c T locs cells slots B) {o : Int} {b : Addr} (hd : decode B pc = .ok (.ifnull o, 3)) (hp : pc + 3 = pc') (k : Go p e below P T (mkF m pc' ls st)) : Go p e below P T (mkF m pc ls (.ref b :: st)) := by
  subst hp; exact Go.of (fun _ k' => XS.ifnullNo A.1.here A.2.1 rfl (hb A.2.2 hd) rfl k') k
theorem g_acY (A : Ax p l e R s m args below meth c T locs cells slots B) {o : Int} {cd : ClassFile.ACond} {x y : Value} (hd : decode B pc = .ok (.if_acmp cd o, 3)) (h1 : x.isRef = true) (h2 : y.isRef = true) (hc : XT.acmp cd x y = true) (hp : (pc : Int) + o = (pc' : Int)) (k : Go p e below P T (mkF m pc' ls st)) : Go p e below P T (mkF m pc ls (y :: x :: st)) := Go.of (fun _ k' => XT.acmpYes A.1.here A.2.1 rfl rfl (hb A.2.2 hd) rfl h1 h2 hc (own_off hp).1 (own_off hp).2 k') k
theorem g_acN (A : Ax p l e R s m args below meth c T locs cells slots B) {o : Int} {cd : ClassFile.ACond} {x y : Value} (hd : decode B pc = .ok (.if_acmp cd o, 3)) (h1 : x.isRef = true) (h2 : y.isRef = true) (hc : XT.acmp cd x y = false) (hp : pc + 3 = pc') (k : Go p e below P T (mkF m pc' ls st)) : Go p e below P T (mkF m pc ls (y :: x :: st)) := by
  subst hp; exact Go.of (fun _ k' => XT.acmpNo A.1.here A.2.1 rfl (hb A.2.2 hd) rfl h1 h2 hc k') k
/-- an array of n places: its i-th holds f i -/
def Dar (Z : State) (h : Heap) (a : Addr) (ty : FieldType) (n : Nat) (f : Nat → Value) : Prop := ∃ cl : Cell, RoadKit.Arr Z h a cl ty ∧ cl.slots.size = n ∧ n < 2147483648 ∧ ∀ i, i < n → cl.slots[i]? = some (f i)
variable {Z : State} {h h' : Heap} {a b : Addr} {ty : FieldType} {n : Nat} {f g : Nat → Value} {sl : Nat} {v : Value} {ws : List Addr}
theorem Dar.lt (F : Dar Z h a ty n f) : a < h.size := by obtain ⟨cl, A, -⟩ := F; exact A.lt
theorem Dar.ext (E : Ext h h') (F : Dar Z h a ty n f) : Dar Z h' a ty n f := by obtain ⟨cl, A, r⟩ := F; exact ⟨cl, A.ext E, r⟩
theorem Dar.other (W : Wr h h' b sl v) (F : Dar Z h a ty n f) (q : a ≠ b) : Dar Z h' a ty n f := by obtain ⟨cl, A, r⟩ := F; exact ⟨cl, A.other W q, r⟩
theorem Dar.keep (F : Dar Z h a ty n f) (K : Keep h h' ws) (q : a ∉ ws) : Dar Z h' a ty n f := by obtain ⟨cl, A, r⟩ := F; exact ⟨cl, ⟨K.2.1 a cl A.1 q, A.2⟩, r⟩
theorem Dar.congr (F : Dar Z h a ty n f) (q : ∀ i, i < n → f i = g i) : Dar Z h a ty n g := by obtain ⟨cl, A, r1, r2, r3⟩ := F; exact ⟨cl, A, r1, r2, fun i hi => by rw [← q i hi]; exact r3 i hi⟩
theorem Dar.new {cA : ClassId} {z : Int32} (A : RoadKit.Arr Z h a (newA cA ty z) ty) (hz : z.toNatClampNeg = n) : Dar Z h a ty n (fun _ => defaultValue ty) := by
  refine ⟨_, A, (sz_new _ _ _).trans hz, ?_, fun i hi => by subst hz; simp [newA, hi]⟩
  have := z.toInt_lt
  rw [← hz, Int32.toNatClampNeg]; omega
theorem Dar.ne_exa {a0 : Array Value} {k : Nat} {C : String} (F : Dar Z h a ty n f) (E : Exa Z h b C) (wi : (Jvm.Cond.instantiable C k).before a0 Z = true) : a ≠ b := by obtain ⟨cl, A, -⟩ := F; exact fun q => ne_arr E wi A q.symm
theorem own_ne {a b : Nat} {h : Heap} (g : a = h.size) (q : b < h.size) : b ≠ a := by rw [g]; exact Nat.ne_of_lt q
theorem own_clamp {i : Nat} (hi : i < 2147483648) : (Int32.ofNat i).toNatClampNeg = i ∧ ¬ Int32.ofNat i < 0 := by
  have e : (Int32.ofNat i).toInt = i := Int32.toInt_ofNat_of_lt hi
  refine ⟨by rw [Int32.toNatClampNeg, e]; omega, fun q => ?_⟩
  rw [Int32.lt_iff_toInt_lt, e] at q
  have : (0 : Int32).toInt = 0 := rfl
  omega
theorem Dar.set {i : Nat} (F : Dar Z h a ty n f) (W : Wr h h' a i v) (q : ∀ j, j < n → g j = if j = i then v else f j) : Dar Z h' a ty n g := by
  obtain ⟨cl, A, r1, r2, r3⟩ := F
  refine ⟨_, A.same W, (sz_set _ _ _).trans r1, r2, fun j hj => ?_⟩
  rw [q j hj]
  by_cases e : j = i
  · subst e; rw [if_pos rfl]; simp [Cell.setSlot, r1, hj]
  · rw [if_neg e]; exact (Array.getElem?_setIfInBounds_ne (Ne.symm e)).trans (r3 j hj)
theorem own_in {cl : Cell} {i : Nat} (S : cl.slots.size = n) (hn : n < 2147483648) (hi : i < n) : ¬ (Int32.ofNat i < 0 ∨ cl.slots.size ≤ (Int32.ofNat i).toNatClampNeg) := by
  obtain ⟨q1, q2⟩ := own_clamp (i := i) (by omega)
  rw [q1, S]; exact fun z => z.elim q2 (by omega)
theorem g_daload (A : Ax p l e R s m args below meth c T locs cells slots B) (hZ : Z.Warmed39 s.vm) (eT : T.heap = h) {j : Int32} {i : Nat} {x : UInt64} (F : Dar Z h a .double n f) (hi : i < n) (hj : j = Int32.ofNat i) (hv : f i = .double x) (hd : decode B pc = .ok (.daload, 1)) (hp : pc + 1 = pc') (k : Go p e below P T (mkF m pc' ls (.double x :: st))) : Go p e below P T (mkF m pc ls (.int j :: .ref a :: st)) := by
  subst hp hj
  obtain ⟨cl, A2, r1, r2, r3⟩ := F
  have q := (own_clamp (i := i) (by omega)).1
  exact Go.of (fun t k' => A.1.daload A.2.1 (j := Int32.ofNat i) (v := .double x) (by rw [eT]; exact A2.1) (State.isArrayOf_alike hZ.alike A2.2.1) A2.2.2 (own_in r1 r2 hi) (by rw [q, ← hv]; exact r3 i hi) (g := mkF m pc ls (.int (Int32.ofNat i) :: .ref a :: st)) rfl rfl (hb A.2.2 hd) t k') k
theorem g_iaload (A : Ax p l e R s m args below meth c T locs cells slots B) (hZ : Z.Warmed39 s.vm) (eT : T.heap = h) {j : Int32} {i : Nat} {x : Int32} (F : Dar Z h a .int n f) (hi : i < n) (hj : j = Int32.ofNat i) (hv : f i = .int x) (hd : decode B pc = .ok (.iaload, 1)) (hp : pc + 1 = pc') (k : Go p e below P T (mkF m pc' ls (.int x :: st))) : Go p e below P T (mkF m pc ls (.int j :: .ref a :: st)) := by
  subst hp hj
  obtain ⟨cl, A2, r1, r2, r3⟩ := F
  have q := (own_clamp (i := i) (by omega)).1
  exact Go.of (fun t k' => A.1.iaload A.2.1 (j := Int32.ofNat i) (v := .int x) (by rw [eT]; exact A2.1) (State.isArrayOf_alike hZ.alike A2.2.1) A2.2.2 (own_in r1 r2 hi) (by rw [q, ← hv]; exact r3 i hi) (g := mkF m pc ls (.int (Int32.ofNat i) :: .ref a :: st)) rfl rfl (hb A.2.2 hd) t k') k
theorem g_baload (A : Ax p l e R s m args below meth c T locs cells slots B) (hZ : Z.Warmed39 s.vm) (eT : T.heap = h) {j : Int32} {i : Nat} {x : Int32} (F : Dar Z h a .boolean n f) (hi : i < n) (hj : j = Int32.ofNat i) (hv : f i = .int x) (hd : decode B pc = .ok (.baload, 1)) (hp : pc + 1 = pc') (k : Go p e below P T (mkF m pc' ls (.int x :: st))) : Go p e below P T (mkF m pc ls (.int j :: .ref a :: st)) := by
  subst hp hj
  obtain ⟨cl, A2, r1, r2, r3⟩ := F
  have q := (own_clamp (i := i) (by omega)).1
  exact Go.of (fun t k' => A.1.baloadBooleans A.2.1 (j := Int32.ofNat i) (v := .int x) (by rw [eT]; exact A2.1) (State.isArrayOf_alike hZ.alike A2.2.1) A2.2.2 (own_in r1 r2 hi) (by rw [q, ← hv]; exact r3 i hi) (g := mkF m pc ls (.int (Int32.ofNat i) :: .ref a :: st)) rfl rfl (hb A.2.2 hd) t k') k
theorem g_alen (A : Ax p l e R s m args below meth c T locs cells slots B) (hZ : Z.Warmed39 s.vm) (eT : T.heap = h) (F : Dar Z h a ty n f) (hd : decode B pc = .ok (.arraylength, 1)) {z : Int32} (hz : Int32.ofNat n = z) (hp : pc + 1 = pc') (k : Go p e below P T (mkF m pc' ls (.int z :: st))) : Go p e below P T (mkF m pc ls (.ref a :: st)) := by
  subst hp hz
  obtain ⟨cl, A2, r1, r2, r3⟩ := F
  exact Go.of (fun t k' => A.1.arraylength A.2.1 (cell := cl) (by rw [eT]; exact A2.1) (State.isArrayOf_alike hZ.alike A2.2.1) (g := mkF m pc ls (.ref a :: st)) rfl (rest := st) rfl (hb A.2.2 hd) t (by rw [r1]; exact k')) k
theorem s_dastore (A : Ax p l e R s m args below meth c T locs cells slots B) (hZ : Z.Warmed39 s.vm) (eT : T.heap = h) {j : Int32} {i : Nat} {x : UInt64} (F : Dar Z h a .double n f) (hi : i < n) (hj : j = Int32.ofNat i) (hd : decode B pc = .ok (.dastore, 1)) (hp : pc + 1 = pc') :
    ∃ T' h', Ax p l e R s m args below meth c T' (locs ++ [⟨a, i⟩]) cells slots B ∧ T'.heap = h' ∧ Wr h h' a i (.double x) ∧ ∀ {P : State → Outcome → Prop}, Go p e below P T' (mkF m pc' ls st) → Go p e below P T (mkF m pc ls (.double x :: .int j :: .ref a :: st)) := by
  subst hp hj
  obtain ⟨cl, A2, r1, r2, r3⟩ := F
  have q := (own_clamp (i := i) (by omega)).1
  obtain ⟨X', st'⟩ := A.1.dastore A.2.1 (by rw [eT]; exact A2.1) (State.isArrayOf_alike hZ.alike A2.2.1) A2.2.2 (own_in r1 r2 hi) (x := x) (g := mkF m pc ls (.double x :: .int (Int32.ofNat i) :: .ref a :: st)) rfl rfl (hb A.2.2 hd)
  rw [q] at X' st'
  exact ⟨_, _, ⟨X', A.2⟩, rfl, ⟨cl, A2.1, A2.plain, by rw [r1]; exact hi, by rw [← eT]; rfl⟩, fun k => Go.of st' k⟩
theorem s_iastore (A : Ax p l e R s m args below meth c T locs cells slots B) (hZ : Z.Warmed39 s.vm) (eT : T.heap = h) {j : Int32} {i : Nat} {x : Int32} (F : Dar Z h a .int n f) (hi : i < n) (hj : j = Int32.ofNat i) (hd : decode B pc = .ok (.iastore, 1)) (hp : pc + 1 = pc') :
    ∃ T' h', Ax p l e R s m args below meth c T' (locs ++ [⟨a, i⟩]) cells slots B ∧ T'.heap = h' ∧ Wr h h' a i (.int x) ∧ ∀ {P : State → Outcome → Prop}, Go p e below P T' (mkF m pc' ls st) → Go p e below P T (mkF m pc ls (.int x :: .int j :: .ref a :: st)) := by
  subst hp hj
  obtain ⟨cl, A2, r1, r2, r3⟩ := F
  have q := (own_clamp (i := i) (by omega)).1
  obtain ⟨T', h', X', e', W, st'⟩ := stI A.1 A.2.1 hZ eT A2 (own_in r1 r2 hi) (x := x) (g := mkF m pc ls (.int x :: .int (Int32.ofNat i) :: .ref a :: st)) rfl rfl (hb A.2.2 hd)
  rw [q] at X' W
  exact ⟨_, _, ⟨X', A.2⟩, e', W, fun k => Go.of st' k⟩
theorem s_zastore (A : Ax p l e R s m args below meth c T locs cells slots B) (hZ : Z.Warmed39 s.vm) (eT : T.heap = h) {j : Int32} {i : Nat} {x : Int32} (F : Dar Z h a .boolean n f) (hi : i < n) (hj : j = Int32.ofNat i) (hx1 : narrow .boolean (.int x) = .int x) (hd : decode B pc = .ok (.bastore, 1)) (hp : pc + 1 = pc') :
    ∃ T' h', Ax p l e R s m args below meth c T' (locs ++ [⟨a, i⟩]) cells slots B ∧ T'.heap = h' ∧ Wr h h' a i (.int x) ∧ ∀ {P : State → Outcome → Prop}, Go p e below P T' (mkF m pc' ls st) → Go p e below P T (mkF m pc ls (.int x :: .int j :: .ref a :: st)) := by
  subst hp hj
  obtain ⟨cl, A2, r1, r2, r3⟩ := F
  have q := (own_clamp (i := i) (by omega)).1
  obtain ⟨T', h', X', e', W, st'⟩ := stZ A.1 A.2.1 hZ eT A2 (own_in r1 r2 hi) (x := x) (g := mkF m pc ls (.int x :: .int (Int32.ofNat i) :: .ref a :: st)) rfl rfl (hb A.2.2 hd)
  have q2 : nar .boolean x = x := Value.int.inj hx1
  rw [q] at X' W; rw [q2] at W
  exact ⟨_, _, ⟨X', A.2⟩, e', W, fun k => Go.of st' k⟩
end own_go
def own_u (x : UInt64) (j : Nat) : UInt64 := if j = 0 then (4607182418800017408 : UInt64) else x
theorem own_uc {n : Nat} (j : Nat) (x : UInt64) (hj : j < n) : (if 1 ≤ j ∧ j < n then Value.double x else (if j = 0 then Value.double (4607182418800017408 : UInt64) else Value.double (0 : UInt64))) = .double (own_u x j) := by
  unfold own_u
  by_cases q : j = 0
  · rw [if_neg (fun z => by omega), if_pos q, if_pos q]
  · rw [if_pos ⟨by omega, hj⟩, if_neg q]
theorem own_mod (p : Int32) (n : Nat) (h0 : 0 < n) (hn : n < 2147483648) : ∃ i : Nat, i < n ∧ ((p &&& (2147483647 : Int32)) % (Int32.ofNat n)) = Int32.ofNat i := by
  have h := c_mask p 2147483647 31 (by decide) (by decide)
  have e : (Int32.ofNat n).toInt = n := Int32.toInt_ofNat_of_lt hn
  have h2 := (c_irem (p &&& 2147483647) (Int32.ofNat n) n e).1 (by rw [h]; omega)
  have b1 := Int.emod_nonneg ((p &&& 2147483647).toInt) (show (n : Int) ≠ 0 by omega)
  have b2 := Int.emod_lt_of_pos ((p &&& 2147483647).toInt) (show (0 : Int) < n by omega)
  refine ⟨((p &&& (2147483647 : Int32)) % (Int32.ofNat n)).toInt.toNat, by rw [h2]; omega, ?_⟩
  apply Int32.toInt_inj.mp
  rw [Int32.toInt_ofNat_of_lt (by rw [h2]; omega), h2]; omega
theorem own_k5 (p : Int32) : ((p &&& (2147483647 : Int32)) % (5 : Int32)) = 0 ∨ ((p &&& (2147483647 : Int32)) % (5 : Int32)) = 1 ∨ ((p &&& (2147483647 : Int32)) % (5 : Int32)) = 2 ∨ ((p &&& (2147483647 : Int32)) % (5 : Int32)) = 3 ∨ ((p &&& (2147483647 : Int32)) % (5 : Int32)) = 4 := by
  obtain ⟨i, hi, e⟩ := own_mod p 5 (by decide) (by decide)
  have e' : ((p &&& (2147483647 : Int32)) % (5 : Int32)) = Int32.ofNat i := e
  rw [e']
  match i, hi with
  | 0, _ => exact Or.inl rfl
  | 1, _ => exact Or.inr (Or.inl rfl)
  | 2, _ => exact Or.inr (Or.inr (Or.inl rfl))
  | 3, _ => exact Or.inr (Or.inr (Or.inr (Or.inl rfl)))
  | 4, _ => exact Or.inr (Or.inr (Or.inr (Or.inr rfl)))
theorem own_bits {first s : State} {o : Option Outcome} {args : Array Value} {idx : List Nat} {t : Term} {k : Int64} (h : (Jvm.Cond.eq t (Jvm.Term.op1 Jvm.Unary.bitsD (Jvm.Term.long k))).value args first o s idx = some true) : t.eval args first o idx s = some (.double k.toUInt64) := by
  cases ht : t.eval args first o idx s with
  | none => simp [Cond.value, ht] at h
  | some v => cases v <;> simp [Cond.value, ht, Term.eval, Unary.apply] at h ⊢ <;> exact h
theorem own_ints {first s : State} {o : Option Outcome} {args : Array Value} {idx : List Nat} {t : Term} {k : Int32} (h : (Jvm.Cond.eq t (Jvm.Term.int k)).value args first o s idx = some true) : t.eval args first o idx s = some (.int k) := by
  cases ht : t.eval args first o idx s with
  | none => simp [Cond.value, ht] at h
  | some v => cases v <;> simp [Cond.value, ht, Term.eval] at h ⊢ <;> exact h
theorem own_fld {s : State} {args : Array Value} {t : Term} {C n d : String} {a : Addr} {v : Value} (ht : t.eval args s none [] s = some (.ref a)) (h : (Term.field t C n d).eval args s none [] s = some v) : Fld s s.heap a C n d v := Fld.start (by simpa [Term.eval, ht] using h)
theorem own_of0 {i : Nat} (hi : i < 2147483648) (h : Int32.ofNat i = 0) : i = 0 := by
  have e := Int32.toInt_ofNat_of_lt hi
  rw [h] at e
  have : (0 : Int32).toInt = 0 := rfl
  omega
theorem d2_0 : decode jdk_65_method_114_code 0 = .ok (.aload_n 0, 1) := by decide +kernel
theorem d2_1 : decode jdk_65_method_114_code 1 = .ok (.arraylength, 1) := by decide +kernel
theorem d2_2 : decode jdk_65_method_114_code 2 = .ok (.iload_n 1, 1) := by decide +kernel
theorem d2_3 : decode jdk_65_method_114_code 3 = .ok (.iload_n 2, 1) := by decide +kernel
theorem d2_4 : decode jdk_65_method_114_code 4 = .ok (.invokestatic 13, 3) := by decide +kernel
theorem d2_7 : decode jdk_65_method_114_code 7 = .ok (.iload_n 1, 1) := by decide +kernel
theorem d2_8 : decode jdk_65_method_114_code 8 = .ok (.istore 5, 2) := by decide +kernel
theorem d2_10 : decode jdk_65_method_114_code 10 = .ok (.iload 5, 2) := by decide +kernel
theorem d2_12 : decode jdk_65_method_114_code 12 = .ok (.iload_n 2, 1) := by decide +kernel
theorem d2_13 : decode jdk_65_method_114_code 13 = .ok (.if_icmp .ge 14, 3) := by decide +kernel
theorem d2_16 : decode jdk_65_method_114_code 16 = .ok (.aload_n 0, 1) := by decide +kernel
theorem d2_17 : decode jdk_65_method_114_code 17 = .ok (.iload 5, 2) := by decide +kernel
theorem d2_19 : decode jdk_65_method_114_code 19 = .ok (.dload_n 3, 1) := by decide +kernel
theorem d2_20 : decode jdk_65_method_114_code 20 = .ok (.dastore, 1) := by decide +kernel
theorem d2_21 : decode jdk_65_method_114_code 21 = .ok (.iinc 5 1, 3) := by decide +kernel
theorem d2_24 : decode jdk_65_method_114_code 24 = .ok (.goto (-14), 3) := by decide +kernel
theorem d2_27 : decode jdk_65_method_114_code 27 = .ok (.return_, 1) := by decide +kernel
theorem d3_0 : decode jdk_65_method_30_code 0 = .ok (.iload_n 1, 1) := by decide +kernel
theorem d3_1 : decode jdk_65_method_30_code 1 = .ok (.iload_n 2, 1) := by decide +kernel
theorem d3_2 : decode jdk_65_method_30_code 2 = .ok (.if_icmp .le 44, 3) := by decide +kernel
theorem d3_5 : decode jdk_65_method_30_code 5 = .ok (.new 43, 3) := by decide +kernel
theorem d3_8 : decode jdk_65_method_30_code 8 = .ok (.dup, 1) := by decide +kernel
theorem d3_9 : decode jdk_65_method_30_code 9 = .ok (.new 45, 3) := by decide +kernel
theorem d3_12 : decode jdk_65_method_30_code 12 = .ok (.dup, 1) := by decide +kernel
theorem d3_13 : decode jdk_65_method_30_code 13 = .ok (.invokespecial 47, 3) := by decide +kernel
theorem d3_16 : decode jdk_65_method_30_code 16 = .ok (.ldc 48, 2) := by decide +kernel
theorem d3_18 : decode jdk_65_method_30_code 18 = .ok (.invokevirtual 50, 3) := by decide +kernel
theorem d3_21 : decode jdk_65_method_30_code 21 = .ok (.iload_n 1, 1) := by decide +kernel
theorem d3_22 : decode jdk_65_method_30_code 22 = .ok (.invokevirtual 54, 3) := by decide +kernel
theorem d3_25 : decode jdk_65_method_30_code 25 = .ok (.ldc 57, 2) := by decide +kernel
theorem d3_27 : decode jdk_65_method_30_code 27 = .ok (.invokevirtual 50, 3) := by decide +kernel
theorem d3_30 : decode jdk_65_method_30_code 30 = .ok (.iload_n 2, 1) := by decide +kernel
theorem d3_31 : decode jdk_65_method_30_code 31 = .ok (.invokevirtual 54, 3) := by decide +kernel
theorem d3_34 : decode jdk_65_method_30_code 34 = .ok (.ldc 59, 2) := by decide +kernel
theorem d3_36 : decode jdk_65_method_30_code 36 = .ok (.invokevirtual 50, 3) := by decide +kernel
theorem d3_39 : decode jdk_65_method_30_code 39 = .ok (.invokevirtual 61, 3) := by decide +kernel
theorem d3_42 : decode jdk_65_method_30_code 42 = .ok (.invokespecial 65, 3) := by decide +kernel
theorem d3_45 : decode jdk_65_method_30_code 45 = .ok (.athrow, 1) := by decide +kernel
theorem d3_46 : decode jdk_65_method_30_code 46 = .ok (.iload_n 1, 1) := by decide +kernel
theorem d3_47 : decode jdk_65_method_30_code 47 = .ok (.ifCond .ge 12, 3) := by decide +kernel
theorem d3_50 : decode jdk_65_method_30_code 50 = .ok (.new 68, 3) := by decide +kernel
theorem d3_53 : decode jdk_65_method_30_code 53 = .ok (.dup, 1) := by decide +kernel
theorem d3_54 : decode jdk_65_method_30_code 54 = .ok (.iload_n 1, 1) := by decide +kernel
theorem d3_55 : decode jdk_65_method_30_code 55 = .ok (.invokespecial 70, 3) := by decide +kernel
theorem d3_58 : decode jdk_65_method_30_code 58 = .ok (.athrow, 1) := by decide +kernel
theorem d3_59 : decode jdk_65_method_30_code 59 = .ok (.iload_n 2, 1) := by decide +kernel
theorem d3_60 : decode jdk_65_method_30_code 60 = .ok (.iload_n 0, 1) := by decide +kernel
theorem d3_61 : decode jdk_65_method_30_code 61 = .ok (.if_icmp .le 12, 3) := by decide +kernel
theorem d3_64 : decode jdk_65_method_30_code 64 = .ok (.new 68, 3) := by decide +kernel
theorem d3_67 : decode jdk_65_method_30_code 67 = .ok (.dup, 1) := by decide +kernel
theorem d3_68 : decode jdk_65_method_30_code 68 = .ok (.iload_n 2, 1) := by decide +kernel
theorem d3_69 : decode jdk_65_method_30_code 69 = .ok (.invokespecial 70, 3) := by decide +kernel
theorem d3_72 : decode jdk_65_method_30_code 72 = .ok (.athrow, 1) := by decide +kernel
theorem d3_73 : decode jdk_65_method_30_code 73 = .ok (.return_, 1) := by decide +kernel
theorem pn_0 : plainName "java/util/Arrays" = true := by first | (simp [plainName, overriddenIn]; done) | decide +kernel
theorem ef1 (m : MethodId) (q0 : Int32) (q1 : Int32) (q2 : Int32) : entryFrame m #[(.int q0), (.int q1), (.int q2)] 3 = mkF m 0 #[.val (.int q0), .val (.int q1), .val (.int q2)] [] := by first | (simp [entryFrame, mkF, argsToLocals, Value.category]; done) | rfl
def Q3 (Z : State) (q0 : Int32) (q1 : Int32) (q2 : Int32) (h0 : Heap) (n0 : Nat) (v : Option Value) (h : Heap) (L : List Loc) : Prop := v = none ∧ Fr n0 L ∧ h = h0
set_option maxRecDepth 65536 in
set_option maxHeartbeats 40000000 in
theorem rm3 (l : Launch) (Z : State) (a0 : Array Value) (hw : ∀ d ∈ tables_1, d.before a0 Z = true) (ws : List Jvm.Cond) (q0 : Int32) (q1 : Int32) (q2 : Int32) (h0 : Heap) (n0 : Nat) (Z0 : n0 ≤ h0.size) (h1 : ¬ q2 < q1) (h2 : ¬ q1 < 0) (h3 : ¬ q0 < q2) :
    MetFree l (⟨"java/util/Arrays", "rangeCheck", "(III)V"⟩ : MethodName) (head1 (Jvm.Cond.code (⟨"java/util/Arrays", "rangeCheck", "(III)V"⟩ : MethodName) jdk_65_method_30_code 3 none :: ws) ({ frames := 0, cells := 0, slots := 0, locals := 0 } : Room)) (fun a U => a = #[(.int q0), (.int q1), (.int q2)] ∧ Z.Warmed39 U.vm ∧ U.heap = h0) (fun _ _ _ _ _ => True) (fun _ U o U' => ∃ v L, o = .returned v ∧ Q3 Z q0 q1 q2 h0 n0 v U'.heap L ∧ FrameEnd U o U' L 0 0) := by
  refine MetFree.of_bodySF (plainFor_of_name pn_0) hisR ?_
  intro p e s m args below meth c s₁ Bd hml0 hP hK
  obtain ⟨rfl, hZ, hh⟩ := hP
  have hx := Bd.exec
  have hby := Bd.bytes
  have hml : c.maxLocals = 3 := hml0
  have hown : s.vm.findClass "java/util/Arrays" = some m.cls := findClass_of_methodNamed Bd.named
  have hnm := (name_of_methodNamed Bd.named Bd.method).1
  have X0 : Stand p l e ({ frames := 0, cells := 0, slots := 0, locals := 0 } : Room) s m #[(.int q0), (.int q1), (.int q2)] below meth c s₁ [] 0 0 := Stand.of_body Bd
  have e0 : s₁.heap = h0 := by rw [← hh, Bd.state]; rfl
  have N0 := Fr.nil n0
  have A0 := (⟨X0, hx, hby⟩ : Ax _ _ _ _ _ _ _ _ _ _ _ _ _ _ _)
  show Go p e below (fun U o => ∃ v L, o = .returned v ∧ Q3 Z q0 q1 q2 h0 n0 v U.heap L ∧ FrameEnd s o U L 0 0) s₁ (entryFrame m #[(.int q0), (.int q1), (.int q2)] 3)
  refine Go.cast (ef1 m q0 q1 q2) ?_
  refine g_iloadN A0 d3_0 rfl (pc' := 1) rfl ?_
  refine g_iloadN A0 d3_1 rfl (pc' := 2) rfl ?_
  refine g_icY A0 d3_2 (c2_le_t h1) (pc' := 46) rfl ?_
  refine g_iloadN A0 d3_46 rfl (pc' := 47) rfl ?_
  refine g_ifY A0 d3_47 (c0_ge_t h2) (pc' := 59) rfl ?_
  refine g_iloadN A0 d3_59 rfl (pc' := 60) rfl ?_
  refine g_iloadN A0 d3_60 rfl (pc' := 61) rfl ?_
  refine g_icY A0 d3_61 (c2_le_t h3) (pc' := 73) rfl ?_
  exact g_retV (Q := Q3 Z q0 q1 q2 h0 n0) A0 d3_73 Bd.notSynchronized Bd.returns (by decide) (by decide) (by rw [e0]; exact ⟨rfl, N0, rfl⟩)
theorem own_succ (i : Nat) : Int32.ofNat i + Int32.ofInt 1 = Int32.ofNat (i + 1) := by
  show Int32.ofNat i + Int32.ofNat 1 = Int32.ofNat (i + 1)
  rw [Int32.ofNat_add]
theorem own_olt {i n : Nat} (h : i < n) (hn : n < 2147483648) : Int32.ofNat i < Int32.ofNat n := by
  rw [Int32.lt_iff_toInt_lt, Int32.toInt_ofNat_of_lt (by omega), Int32.toInt_ofNat_of_lt hn]; omega
theorem own_onl {i n : Nat} (h : n ≤ i) (hn : i < 2147483648) : ¬ Int32.ofNat i < Int32.ofNat n := by
  rw [Int32.lt_iff_toInt_lt, Int32.toInt_ofNat_of_lt hn, Int32.toInt_ofNat_of_lt (by omega)]; omega
set_option maxRecDepth 65536 in
theorem own_fill {p : Program} {l : Launch} {e : Env} {R : Room} {s : State} {m : MethodId} {args : Array Value} {below : List Frame} {meth : Method} {c : Code} {cells slots : Nat} {P : State → Outcome → Prop} {Z : State} {h0 : Heap} {n0 : Nat} {a : Addr} {N n i0 : Nat} {f : Nat → Value} {x : UInt64} (hZ : Z.Warmed39 s.vm) (ga : n0 ≤ a) (hn : n ≤ N) (hN : N < 2147483648)
    (done : ∀ (T : State) (h : Heap) (locs : List Loc), Ax p l e R s m args below meth c T locs cells slots jdk_65_method_114_code → T.heap = h → Dar Z h a .double N (fun j => if i0 ≤ j ∧ j < n then .double x else f j) → Fr n0 locs → n0 ≤ h.size → Keep h0 h [a] → Go p e below P T (mkF m 27 #[.val (.ref a), .val (.int (Int32.ofNat i0)), .val (.int (Int32.ofNat n)), .val (.double x), .second, .val (.int (Int32.ofNat n))] [])) :
    ∀ (k i : Nat) (T : State) (h : Heap) (locs : List Loc), i + k = n → i0 ≤ i → Ax p l e R s m args below meth c T locs cells slots jdk_65_method_114_code → T.heap = h → Dar Z h a .double N (fun j => if i0 ≤ j ∧ j < i then .double x else f j) → Fr n0 locs → n0 ≤ h.size → Keep h0 h [a] → Go p e below P T (mkF m 10 #[.val (.ref a), .val (.int (Int32.ofNat i0)), .val (.int (Int32.ofNat n)), .val (.double x), .second, .val (.int (Int32.ofNat i))] []) := by
  intro k
  induction k with
  | zero =>
    intro i T h locs hi h0i A eT V N1 z K
    obtain rfl : i = n := by omega
    refine g_iload A d2_10 rfl (pc' := 12) rfl ?_
    refine g_iloadN A d2_12 rfl (pc' := 13) rfl ?_
    refine g_icY A d2_13 (c2_ge_t Int32.lt_irrefl) (pc' := 27) rfl ?_
    exact done T h locs A eT V N1 z K
  | succ k ih =>
    intro i T h locs hi h0i A eT V N1 z K
    refine g_iload A d2_10 rfl (pc' := 12) rfl ?_
    refine g_iloadN A d2_12 rfl (pc' := 13) rfl ?_
    refine g_icN A d2_13 (c2_ge_f (own_olt (by omega) (by omega))) (pc' := 16) rfl ?_
    refine g_aloadN A d2_16 rfl rfl (pc' := 17) rfl ?_
    refine g_iload A d2_17 rfl (pc' := 19) rfl ?_
    refine g_dloadN A d2_19 rfl (pc' := 20) rfl ?_
    obtain ⟨T', h', A', e', W, st⟩ := s_dastore A hZ eT (ls := #[.val (.ref a), .val (.int (Int32.ofNat i0)), .val (.int (Int32.ofNat n)), .val (.double x), .second, .val (.int (Int32.ofNat i))]) (st := []) (x := x) V (i := i) (by omega) (j := Int32.ofNat i) rfl d2_20 (pc' := 21) rfl
    refine st ?_
    refine g_iinc A' d2_21 rfl (y := Int32.ofNat (i + 1)) (own_succ i) (ls' := #[.val (.ref a), .val (.int (Int32.ofNat i0)), .val (.int (Int32.ofNat n)), .val (.double x), .second, .val (.int (Int32.ofNat (i + 1)))]) rfl (pc' := 24) rfl ?_
    refine g_goto A' d2_24 (pc' := 10) rfl ?_
    refine ih (i + 1) T' h' _ (by omega) (by omega) A' e' (Dar.set V W (fun j hj => ?_)) (Fr.snoc A'.1 N1 ga) (by rw [W.size]; exact z) (K.wr W (Or.inl (List.mem_of_getElem? (i := 0) rfl)))
    by_cases q : j = i
    · rw [if_pos q, if_pos ⟨by omega, by omega⟩]
    · rw [if_neg q]
      by_cases r : i0 ≤ j ∧ j < i
      · rw [if_pos r, if_pos ⟨r.1, by omega⟩]
      · rw [if_neg r, if_neg (fun z => r ⟨z.1, by omega⟩)]
theorem ef2 (m : MethodId) (a1 : Addr) (i0 : Nat) (n : Nat) (N : Nat) (x : UInt64) (f : Nat → Value) : entryFrame m #[(.ref a1), (.int (Int32.ofNat i0)), (.int (Int32.ofNat n)), (.double x)] 6 = mkF m 0 #[.val (.ref a1), .val (.int (Int32.ofNat i0)), .val (.int (Int32.ofNat n)), .val (.double x), .second, .unset] [] := by first | (simp [entryFrame, mkF, argsToLocals, Value.category]; done) | rfl
def Q2 (Z : State) (a1 : Addr) (i0 : Nat) (n : Nat) (N : Nat) (x : UInt64) (f : Nat → Value) (h0 : Heap) (n0 : Nat) (v : Option Value) (h : Heap) (L : List Loc) : Prop := v = none ∧ Fr n0 L ∧ Keep h0 h [a1] ∧ Dar Z h a1 .double N (fun j => if i0 ≤ j ∧ j < n then .double x else f j)
theorem pd_0 : parseMethodDescriptor "(III)V" = some ⟨[.int, .int, .int], none⟩ := by decide +kernel
set_option maxRecDepth 65536 in
set_option maxHeartbeats 40000000 in
theorem rm2 (l : Launch) (Z : State) (a0 : Array Value) (hw : ∀ d ∈ tables_1, d.before a0 Z = true) (ws : List Jvm.Cond) (a1 : Addr) (i0 : Nat) (n : Nat) (N : Nat) (x : UInt64) (f : Nat → Value) (h0 : Heap) (n0 : Nat) (Z0 : n0 ≤ h0.size) (V3 : Dar Z h0 a1 .double N f) (g4 : n0 ≤ a1) (hi : i0 ≤ n) (hn : n ≤ N) (hN : N < 2147483648) :
    MetFree l (⟨"java/util/Arrays", "fill", "([DIID)V"⟩ : MethodName) (head1 (Jvm.Cond.code (⟨"java/util/Arrays", "fill", "([DIID)V"⟩ : MethodName) jdk_65_method_114_code 6 none :: ws) ({ frames := 1, cells := 0, slots := 0, locals := 14 } : Room)) (fun a U => a = #[(.ref a1), (.int (Int32.ofNat i0)), (.int (Int32.ofNat n)), (.double x)] ∧ Z.Warmed39 U.vm ∧ U.heap = h0) (fun _ _ _ _ _ => True) (fun _ U o U' => ∃ v L, o = .returned v ∧ Q2 Z a1 i0 n N x f h0 n0 v U'.heap L ∧ FrameEnd U o U' L 0 0) := by
  refine MetFree.of_bodySF (plainFor_of_name pn_0) hisR ?_
  intro p e s m args below meth c s₁ Bd hml0 hP hK
  obtain ⟨rfl, hZ, hh⟩ := hP
  have hx := Bd.exec
  have hby := Bd.bytes
  have hml : c.maxLocals = 6 := hml0
  have hown : s.vm.findClass "java/util/Arrays" = some m.cls := findClass_of_methodNamed Bd.named
  have hnm := (name_of_methodNamed Bd.named Bd.method).1
  have X0 : Stand p l e ({ frames := 1, cells := 0, slots := 0, locals := 14 } : Room) s m #[(.ref a1), (.int (Int32.ofNat i0)), (.int (Int32.ofNat n)), (.double x)] below meth c s₁ [] 0 0 := Stand.of_body Bd
  have e0 : s₁.heap = h0 := by rw [← hh, Bd.state]; rfl
  have N0 := Fr.nil n0
  have A0 := (⟨X0, hx, hby⟩ : Ax _ _ _ _ _ _ _ _ _ _ _ _ _ _ _)
  show Go p e below (fun U o => ∃ v L, o = .returned v ∧ Q2 Z a1 i0 n N x f h0 n0 v U.heap L ∧ FrameEnd s o U L 0 0) s₁ (entryFrame m #[(.ref a1), (.int (Int32.ofNat i0)), (.int (Int32.ofNat n)), (.double x)] 6)
  refine Go.cast (ef2 m a1 i0 n N x f) ?_
  refine g_aloadN A0 d2_0 rfl rfl (pc' := 1) rfl ?_
  refine g_alen A0 hZ e0 V3 d2_1 (z := (Int32.ofNat N)) rfl (pc' := 2) rfl ?_
  refine g_iloadN A0 d2_2 rfl (pc' := 3) rfl ?_
  refine g_iloadN A0 d2_3 rfl (pc' := 4) rfl ?_
  obtain ⟨_, _, ⟨T5, L5, k5, n5⟩, -, X5, ⟨L5c, hQ5, l5, y5, z5⟩, st5⟩ := Jvm.LawKit.callS X0 hx (y := (⟨"java/util/Arrays", "rangeCheck", "(III)V"⟩ : MethodName)) hown (mvT hZ (hw _ (List.mem_of_getElem? (i := 18) rfl))) (mvT hZ (hw _ (List.mem_of_getElem? (i := 19) rfl))) (mvT hZ (hw _ (List.mem_of_getElem? (i := 16) rfl))) (mvT hZ (hw _ (List.mem_of_getElem? (i := 20) rfl))) (by decide) (backOf (W := 0) (rm3 l Z a0 hw [] (Int32.ofNat N) (Int32.ofNat i0) (Int32.ofNat n) h0 n0 Z0 (own_onl hi (by omega)) (own_clamp (by omega)).2 (own_onl hn hN)) hZ (hw _ (List.mem_of_getElem? (i := 20) rfl)) (hw _ (List.mem_of_getElem? (i := 16) rfl)) (by decide) (by decide)) (g := (mkF m 4 #[.val (.ref a1), .val (.int (Int32.ofNat i0)), .val (.int (Int32.ofNat n)), .val (.double x), .second, .unset] [(.int (Int32.ofNat n)), (.int (Int32.ofNat i0)), (.int (Int32.ofNat N))])) rfl (by rw [hml]; rfl) (argsL := [(.int (Int32.ofNat N)), (.int (Int32.ofNat i0)), (.int (Int32.ofNat n))]) (rest := []) (lenOf pd_0 rfl) rfl (by show 2 * 0 + _ ≤ _; exact Nat.le_of_eq rfl) (hb hby d2_4) (fun _ _ => ⟨rfl, e0, (by decide : 0 + 0 ≤ _), (by decide : 0 + 0 ≤ _)⟩)
  dsimp only [Pt.U, Pt.locs, Pt.cells, Pt.slots] at X5 l5 y5 z5 st5 hQ5
  subst l5 y5 z5
  obtain ⟨rfl, Nq6, Kq7⟩ := hQ5
  have N8 := Fr.app N0 Nq6
  refine Go.of (g' := (mkF m 7 #[.val (.ref a1), .val (.int (Int32.ofNat i0)), .val (.int (Int32.ofNat n)), .val (.double x), .second, .unset] [])) st5 ?_
  have e9 : T5.heap = h0 := Kq7
  have A10 := (⟨X5, hx, hby⟩ : Ax _ _ _ _ _ _ _ _ _ _ _ _ _ _ _)
  refine g_iloadN A10 d2_7 rfl (pc' := 8) rfl ?_
  refine g_istore A10 d2_8 (ls' := #[.val (.ref a1), .val (.int (Int32.ofNat i0)), .val (.int (Int32.ofNat n)), .val (.double x), .second, .val (.int (Int32.ofNat i0))]) rfl (pc' := 10) rfl ?_
  refine own_fill (i0 := i0) (n := n) (N := N) (f := f) (x := x) hZ g4 hn hN ?_ (n - i0) i0 T5 h0 _ (by omega) (Nat.le_refl _) A10 e9 (Dar.congr V3 (fun j _ => (if_neg (fun q => absurd q.2 (by omega))).symm)) N8 Z0 (Keep.refl h0 [a1])
  intro T11 h11 lo11 A11 e11 V11 N11 Z11 K11
  exact g_retV (Q := Q2 Z a1 i0 n N x f h0 n0) A11 d2_27 Bd.notSynchronized Bd.returns (by decide) (by decide) (by rw [e11]; exact ⟨rfl, N11, K11, V11⟩)
theorem d1_0 : decode prog_1_method_9_code 0 = .ok (.aload_n 0, 1) := by decide +kernel
theorem d1_1 : decode prog_1_method_9_code 1 = .ok (.getfield 42, 3) := by decide +kernel
theorem d1_4 : decode prog_1_method_9_code 4 = .ok (.newarray .double, 2) := by decide +kernel
theorem d1_6 : decode prog_1_method_9_code 6 = .ok (.astore_n 1, 1) := by decide +kernel
theorem d1_7 : decode prog_1_method_9_code 7 = .ok (.aload_n 1, 1) := by decide +kernel
theorem d1_8 : decode prog_1_method_9_code 8 = .ok (.iconst 0, 1) := by decide +kernel
theorem d1_9 : decode prog_1_method_9_code 9 = .ok (.dconst 1, 1) := by decide +kernel
theorem d1_10 : decode prog_1_method_9_code 10 = .ok (.dastore, 1) := by decide +kernel
theorem d1_11 : decode prog_1_method_9_code 11 = .ok (.aload_n 1, 1) := by decide +kernel
theorem d1_12 : decode prog_1_method_9_code 12 = .ok (.iconst 1, 1) := by decide +kernel
theorem d1_13 : decode prog_1_method_9_code 13 = .ok (.aload_n 0, 1) := by decide +kernel
theorem d1_14 : decode prog_1_method_9_code 14 = .ok (.getfield 42, 3) := by decide +kernel
theorem d1_17 : decode prog_1_method_9_code 17 = .ok (.aload_n 0, 1) := by decide +kernel
theorem d1_18 : decode prog_1_method_9_code 18 = .ok (.getfield 50, 3) := by decide +kernel
theorem d1_21 : decode prog_1_method_9_code 21 = .ok (.invokestatic 99, 3) := by decide +kernel
theorem d1_24 : decode prog_1_method_9_code 24 = .ok (.aload_n 1, 1) := by decide +kernel
theorem d1_25 : decode prog_1_method_9_code 25 = .ok (.areturn, 1) := by decide +kernel
theorem pn_1 : plainName "com/example/tradewind/tradewind/benchmark/Zdt" = true := by first | (simp [plainName, overriddenIn]; done) | decide +kernel
theorem ef12 (m : MethodId) (a1 : Addr) (x : UInt64) : entryFrame m #[(.ref a1)] 2 = mkF m 0 #[.val (.ref a1), .unset] [] := by first | (simp [entryFrame, mkF, argsToLocals, Value.category]; done) | rfl
def QB30 (Z : State) (a1 : Addr) (x : UInt64) (h0 : Heap) (n0 : Nat) (v : Option Value) (h : Heap) (L : List Loc) : Prop := ∃ r : Addr, v = some (.ref r) ∧ Fr n0 L ∧ Keep h0 h [] ∧ h0.size ≤ r ∧ Dar Z h r .double 30 (fun j => .double (own_u x j))
theorem pd_1 : parseMethodDescriptor "([DIID)V" = some ⟨[(.array .double), .int, .int, .double], none⟩ := by decide +kernel
set_option maxRecDepth 65536 in
set_option maxHeartbeats 40000000 in
theorem rmB30 (l : Launch) (Z : State) (a0 : Array Value) (hw : ∀ d ∈ tables_1, d.before a0 Z = true) (ws : List Jvm.Cond) (a1 : Addr) (x : UInt64) (h0 : Heap) (n0 : Nat) (Z0 : n0 ≤ h0.size) (F13 : Fld Z h0 a1 "com/example/tradewind/tradewind/benchmark/Zdt" "variables" "I" (.int (30 : Int32))) (F14 : Fld Z h0 a1 "com/example/tradewind/tradewind/benchmark/Zdt" "restUpper" "D" (.double x)) :
    MetFree l (⟨"com/example/tradewind/tradewind/benchmark/Zdt", "upper", "()[D"⟩ : MethodName) (head1 (Jvm.Cond.code (⟨"com/example/tradewind/tradewind/benchmark/Zdt", "upper", "()[D"⟩ : MethodName) prog_1_method_9_code 2 (some (.array .double)) :: ws) ({ frames := 2, cells := 1, slots := 30, locals := 31 } : Room)) (fun a U => a = #[(.ref a1)] ∧ Z.Warmed39 U.vm ∧ U.heap = h0) (fun _ _ _ _ _ => True) (fun _ U o U' => ∃ v L, o = .returned v ∧ QB30 Z a1 x h0 n0 v U'.heap L ∧ FrameEnd U o U' L 1 30) := by
  refine MetFree.of_bodySF (plainFor_of_name pn_1) hisR ?_
  intro p e s m args below meth c s₁ Bd hml0 hP hK
  obtain ⟨rfl, hZ, hh⟩ := hP
  have hx := Bd.exec
  have hby := Bd.bytes
  have hml : c.maxLocals = 2 := hml0
  have hown : s.vm.findClass "com/example/tradewind/tradewind/benchmark/Zdt" = some m.cls := findClass_of_methodNamed Bd.named
  have hnm := (name_of_methodNamed Bd.named Bd.method).1
  have X0 : Stand p l e ({ frames := 2, cells := 1, slots := 30, locals := 31 } : Room) s m #[(.ref a1)] below meth c s₁ [] 0 0 := Stand.of_body Bd
  have e0 : s₁.heap = h0 := by rw [← hh, Bd.state]; rfl
  have N0 := Fr.nil n0
  have A0 := (⟨X0, hx, hby⟩ : Ax _ _ _ _ _ _ _ _ _ _ _ _ _ _ _)
  show Go p e below (fun U o => ∃ v L, o = .returned v ∧ QB30 Z a1 x h0 n0 v U.heap L ∧ FrameEnd s o U L 1 30) s₁ (entryFrame m #[(.ref a1)] 2)
  refine Go.cast (ef12 m a1 x) ?_
  refine g_aloadN A0 d1_0 rfl rfl (pc' := 1) rfl ?_
  obtain ⟨T15, X15, e15, st15⟩ := getF X0 hx hZ hown (host := "") (Or.inl (hw _ (List.mem_of_getElem? (i := 9) rfl))) Via.refl e0 F13 (g := (mkF m 1 #[.val (.ref a1), .unset] [(.ref a1)])) rfl rfl (hb hby d1_1)
  refine Go.of (g' := (mkF m 4 #[.val (.ref a1), .unset] [(.int (30 : Int32))])) st15 ?_
  have A16 := (⟨X15, hx, hby⟩ : Ax _ _ _ _ _ _ _ _ _ _ _ _ _ _ _)
  obtain ⟨T17, h17, k17, X17, e17, E17, Ar17, st17⟩ := newP X15 hx hZ (hw _ (List.mem_of_getElem? (i := 11) rfl)) e15 (g := (mkF m 4 #[.val (.ref a1), .unset] [(.int (30 : Int32))])) rfl (hb hby d1_4) rfl (by decide) (cap := 30) (by decide) (by decide) (by decide) (by decide)
  obtain ⟨b18, eb18⟩ : ∃ z, z = h0.size := ⟨_, rfl⟩
  rw [← eb18] at Ar17 st17
  have ne19 : a1 ≠ b18 := own_ne eb18 F13.lt
  have g20 : n0 ≤ b18 := by rw [eb18]; exact Z0
  have gh21 : h0.size ≤ b18 := by rw [eb18]; exact (Keep.refl h0 []).1
  have K22 : Keep h0 h17 [] := (Keep.refl h0 []).ext E17
  have F23 : Fld Z h17 a1 "com/example/tradewind/tradewind/benchmark/Zdt" "variables" "I" (.int (30 : Int32)) := Fld.ext E17 F13
  have F24 : Fld Z h17 a1 "com/example/tradewind/tradewind/benchmark/Zdt" "restUpper" "D" (.double x) := Fld.ext E17 F14
  have Z25 : n0 ≤ h17.size := Nat.le_trans Z0 E17.1
  have V26 : Dar Z h17 b18 .double 30 (fun _ => .double (0 : UInt64)) := Dar.new Ar17 (by decide)
  refine Go.of (g' := (mkF m 6 #[.val (.ref a1), .unset] [(.ref b18)])) st17 ?_
  have A27 := (⟨X17, hx, hby⟩ : Ax _ _ _ _ _ _ _ _ _ _ _ _ _ _ _)
  refine g_astoreN A27 d1_6 rfl (ls' := #[.val (.ref a1), .val (.ref b18)]) rfl (pc' := 7) rfl ?_
  refine g_aloadN A27 d1_7 rfl rfl (pc' := 8) rfl ?_
  refine g_iconst A27 d1_8 (v := (0 : Int32)) rfl (pc' := 9) rfl ?_
  refine g_dconst1 A27 d1_9 (pc' := 10) rfl ?_
  obtain ⟨T28, h28, A28, e28, W28, st28⟩ := s_dastore A27 hZ e17 (ls := #[.val (.ref a1), .val (.ref b18)]) (st := []) (x := (4607182418800017408 : UInt64)) V26 (i := 0) (by decide) (j := (0 : Int32)) rfl d1_10 (pc' := 11) rfl
  have N29 := Fr.snoc A28.1 N0 g20
  have K30 : Keep h0 h28 [] := K22.wr W28 (Or.inr gh21)
  have F31 : Fld Z h28 a1 "com/example/tradewind/tradewind/benchmark/Zdt" "variables" "I" (.int (30 : Int32)) := Fld.other W28 F23 (Or.inl ne19)
  have F32 : Fld Z h28 a1 "com/example/tradewind/tradewind/benchmark/Zdt" "restUpper" "D" (.double x) := Fld.other W28 F24 (Or.inl ne19)
  have V33 : Dar Z h28 b18 .double 30 (fun j => if j = 0 then .double (4607182418800017408 : UInt64) else (fun _ => .double (0 : UInt64)) j) := Dar.set V26 W28 (fun _ _ => rfl)
  have Z34 : n0 ≤ h28.size := by rw [W28.size]; exact Z25
  refine st28 ?_
  refine g_aloadN A28 d1_11 rfl rfl (pc' := 12) rfl ?_
  refine g_iconst A28 d1_12 (v := (1 : Int32)) rfl (pc' := 13) rfl ?_
  refine g_aloadN A28 d1_13 rfl rfl (pc' := 14) rfl ?_
  obtain ⟨T35, X35, e35, st35⟩ := getF A28.1 hx hZ hown (host := "") (Or.inl (hw _ (List.mem_of_getElem? (i := 9) rfl))) Via.refl e28 F31 (g := (mkF m 14 #[.val (.ref a1), .val (.ref b18)] [(.ref a1), (.int (1 : Int32)), (.ref b18)])) rfl rfl (hb hby d1_14)
  refine Go.of (g' := (mkF m 17 #[.val (.ref a1), .val (.ref b18)] [(.int (30 : Int32)), (.int (1 : Int32)), (.ref b18)])) st35 ?_
  have A36 := (⟨X35, hx, hby⟩ : Ax _ _ _ _ _ _ _ _ _ _ _ _ _ _ _)
  refine g_aloadN A36 d1_17 rfl rfl (pc' := 18) rfl ?_
  obtain ⟨T37, X37, e37, st37⟩ := getF X35 hx hZ hown (host := "") (Or.inl (hw _ (List.mem_of_getElem? (i := 12) rfl))) Via.refl e35 F32 (g := (mkF m 18 #[.val (.ref a1), .val (.ref b18)] [(.ref a1), (.int (30 : Int32)), (.int (1 : Int32)), (.ref b18)])) rfl rfl (hb hby d1_18)
  refine Go.of (g' := (mkF m 21 #[.val (.ref a1), .val (.ref b18)] [(.double x), (.int (30 : Int32)), (.int (1 : Int32)), (.ref b18)])) st37 ?_
  have A38 := (⟨X37, hx, hby⟩ : Ax _ _ _ _ _ _ _ _ _ _ _ _ _ _ _)
  obtain ⟨_, _, ⟨T39, L39, k39, n39⟩, -, X39, ⟨L39c, hQ39, l39, y39, z39⟩, st39⟩ := Jvm.LawKit.callS X37 hx (y := (⟨"java/util/Arrays", "fill", "([DIID)V"⟩ : MethodName)) hown (mvT hZ (hw _ (List.mem_of_getElem? (i := 14) rfl))) (mvT hZ (hw _ (List.mem_of_getElem? (i := 15) rfl))) (mvT hZ (hw _ (List.mem_of_getElem? (i := 16) rfl))) (mvT hZ (hw _ (List.mem_of_getElem? (i := 17) rfl))) (by decide) (backOf (W := 0) (rm2 l Z a0 hw [] b18 1 30 30 x (fun j => if j = 0 then .double (4607182418800017408 : UInt64) else (fun _ => .double (0 : UInt64)) j) h28 n0 Z34 V33 g20 (by decide) (by decide) (by decide)) hZ (hw _ (List.mem_of_getElem? (i := 17) rfl)) (hw _ (List.mem_of_getElem? (i := 16) rfl)) (by decide) (by decide)) (g := (mkF m 21 #[.val (.ref a1), .val (.ref b18)] [(.double x), (.int (30 : Int32)), (.int (1 : Int32)), (.ref b18)])) rfl (by rw [hml]; rfl) (argsL := [(.ref b18), (.int (1 : Int32)), (.int (30 : Int32)), (.double x)]) (rest := []) (lenOf pd_1 rfl) rfl (by show 2 * 0 + _ ≤ _; exact Nat.le_of_eq rfl) (hb hby d1_21) (fun _ _ => ⟨rfl, e37, (by decide : 1 + 0 ≤ _), (by decide : 30 + 0 ≤ _)⟩)
  dsimp only [Pt.U, Pt.locs, Pt.cells, Pt.slots] at X39 l39 y39 z39 st39 hQ39
  subst l39 y39 z39
  obtain ⟨rfl, Nq40, Kq41, V42⟩ := hQ39
  have N43 := Fr.app N29 Nq40
  refine Go.of (g' := (mkF m 24 #[.val (.ref a1), .val (.ref b18)] [])) st39 ?_
  have F44 : Fld Z T39.heap a1 "com/example/tradewind/tradewind/benchmark/Zdt" "variables" "I" (.int (30 : Int32)) := Fld.keep F31 Kq41 (ninS ne19 nin0)
  have F45 : Fld Z T39.heap a1 "com/example/tradewind/tradewind/benchmark/Zdt" "restUpper" "D" (.double x) := Fld.keep F32 Kq41 (ninS ne19 nin0)
  have Z46 : n0 ≤ T39.heap.size := Nat.le_trans Z34 Kq41.1
  have K47 : Keep h0 T39.heap [] := K30.trans Kq41 (allS (Or.inr gh21) all0)
  have A48 := (⟨X39, hx, hby⟩ : Ax _ _ _ _ _ _ _ _ _ _ _ _ _ _ _)
  refine g_aloadN A48 d1_24 rfl rfl (pc' := 25) rfl ?_
  have V49 : Dar Z T39.heap b18 .double 30 (fun j => .double (own_u x j)) := Dar.congr V42 (fun j hj => own_uc j x hj)
  exact g_ret (Q := QB30 Z a1 x h0 n0) A48 d1_25 Bd.notSynchronized Bd.returns rfl (Or.inr (Or.inr (Or.inr (Or.inr ⟨rfl, rfl, rfl⟩)))) (by decide) (by decide) ⟨b18, rfl, N43, K47, gh21, V49⟩
theorem ef50 (m : MethodId) (a1 : Addr) (x : UInt64) : entryFrame m #[(.ref a1)] 2 = mkF m 0 #[.val (.ref a1), .unset] [] := by first | (simp [entryFrame, mkF, argsToLocals, Value.category]; done) | rfl
def QB10 (Z : State) (a1 : Addr) (x : UInt64) (h0 : Heap) (n0 : Nat) (v : Option Value) (h : Heap) (L : List Loc) : Prop := ∃ r : Addr, v = some (.ref r) ∧ Fr n0 L ∧ Keep h0 h [] ∧ h0.size ≤ r ∧ Dar Z h r .double 10 (fun j => .double (own_u x j))
set_option maxRecDepth 65536 in
set_option maxHeartbeats 40000000 in
theorem rmB10 (l : Launch) (Z : State) (a0 : Array Value) (hw : ∀ d ∈ tables_1, d.before a0 Z = true) (ws : List Jvm.Cond) (a1 : Addr) (x : UInt64) (h0 : Heap) (n0 : Nat) (Z0 : n0 ≤ h0.size) (F51 : Fld Z h0 a1 "com/example/tradewind/tradewind/benchmark/Zdt" "variables" "I" (.int (10 : Int32))) (F52 : Fld Z h0 a1 "com/example/tradewind/tradewind/benchmark/Zdt" "restUpper" "D" (.double x)) :
    MetFree l (⟨"com/example/tradewind/tradewind/benchmark/Zdt", "upper", "()[D"⟩ : MethodName) (head1 (Jvm.Cond.code (⟨"com/example/tradewind/tradewind/benchmark/Zdt", "upper", "()[D"⟩ : MethodName) prog_1_method_9_code 2 (some (.array .double)) :: ws) ({ frames := 2, cells := 1, slots := 10, locals := 31 } : Room)) (fun a U => a = #[(.ref a1)] ∧ Z.Warmed39 U.vm ∧ U.heap = h0) (fun _ _ _ _ _ => True) (fun _ U o U' => ∃ v L, o = .returned v ∧ QB10 Z a1 x h0 n0 v U'.heap L ∧ FrameEnd U o U' L 1 10) := by
  refine MetFree.of_bodySF (plainFor_of_name pn_1) hisR ?_
  intro p e s m args below meth c s₁ Bd hml0 hP hK
  obtain ⟨rfl, hZ, hh⟩ := hP
  have hx := Bd.exec
  have hby := Bd.bytes
  have hml : c.maxLocals = 2 := hml0
  have hown : s.vm.findClass "com/example/tradewind/tradewind/benchmark/Zdt" = some m.cls := findClass_of_methodNamed Bd.named
  have hnm := (name_of_methodNamed Bd.named Bd.method).1
  have X0 : Stand p l e ({ frames := 2, cells := 1, slots := 10, locals := 31 } : Room) s m #[(.ref a1)] below meth c s₁ [] 0 0 := Stand.of_body Bd
  have e0 : s₁.heap = h0 := by rw [← hh, Bd.state]; rfl
  have N0 := Fr.nil n0
  have A0 := (⟨X0, hx, hby⟩ : Ax _ _ _ _ _ _ _ _ _ _ _ _ _ _ _)
  show Go p e below (fun U o => ∃ v L, o = .returned v ∧ QB10 Z a1 x h0 n0 v U.heap L ∧ FrameEnd s o U L 1 10) s₁ (entryFrame m #[(.ref a1)] 2)
  refine Go.cast (ef50 m a1 x) ?_
  refine g_aloadN A0 d1_0 rfl rfl (pc' := 1) rfl ?_
  obtain ⟨T53, X53, e53, st53⟩ := getF X0 hx hZ hown (host := "") (Or.inl (hw _ (List.mem_of_getElem? (i := 9) rfl))) Via.refl e0 F51 (g := (mkF m 1 #[.val (.ref a1), .unset] [(.ref a1)])) rfl rfl (hb hby d1_1)
  refine Go.of (g' := (mkF m 4 #[.val (.ref a1), .unset] [(.int (10 : Int32))])) st53 ?_
  have A54 := (⟨X53, hx, hby⟩ : Ax _ _ _ _ _ _ _ _ _ _ _ _ _ _ _)
  obtain ⟨T55, h55, k55, X55, e55, E55, Ar55, st55⟩ := newP X53 hx hZ (hw _ (List.mem_of_getElem? (i := 11) rfl)) e53 (g := (mkF m 4 #[.val (.ref a1), .unset] [(.int (10 : Int32))])) rfl (hb hby d1_4) rfl (by decide) (cap := 10) (by decide) (by decide) (by decide) (by decide)
  obtain ⟨b56, eb56⟩ : ∃ z, z = h0.size := ⟨_, rfl⟩
  rw [← eb56] at Ar55 st55
  have ne57 : a1 ≠ b56 := own_ne eb56 F51.lt
  have g58 : n0 ≤ b56 := by rw [eb56]; exact Z0
  have gh59 : h0.size ≤ b56 := by rw [eb56]; exact (Keep.refl h0 []).1
  have K60 : Keep h0 h55 [] := (Keep.refl h0 []).ext E55
  have F61 : Fld Z h55 a1 "com/example/tradewind/tradewind/benchmark/Zdt" "variables" "I" (.int (10 : Int32)) := Fld.ext E55 F51
  have F62 : Fld Z h55 a1 "com/example/tradewind/tradewind/benchmark/Zdt" "restUpper" "D" (.double x) := Fld.ext E55 F52
  have Z63 : n0 ≤ h55.size := Nat.le_trans Z0 E55.1
  have V64 : Dar Z h55 b56 .double 10 (fun _ => .double (0 : UInt64)) := Dar.new Ar55 (by decide)
  refine Go.of (g' := (mkF m 6 #[.val (.ref a1), .unset] [(.ref b56)])) st55 ?_
  have A65 := (⟨X55, hx, hby⟩ : Ax _ _ _ _ _ _ _ _ _ _ _ _ _ _ _)
  refine g_astoreN A65 d1_6 rfl (ls' := #[.val (.ref a1), .val (.ref b56)]) rfl (pc' := 7) rfl ?_
  refine g_aloadN A65 d1_7 rfl rfl (pc' := 8) rfl ?_
  refine g_iconst A65 d1_8 (v := (0 : Int32)) rfl (pc' := 9) rfl ?_
  refine g_dconst1 A65 d1_9 (pc' := 10) rfl ?_
  obtain ⟨T66, h66, A66, e66, W66, st66⟩ := s_dastore A65 hZ e55 (ls := #[.val (.ref a1), .val (.ref b56)]) (st := []) (x := (4607182418800017408 : UInt64)) V64 (i := 0) (by decide) (j := (0 : Int32)) rfl d1_10 (pc' := 11) rfl
  have N67 := Fr.snoc A66.1 N0 g58
  have K68 : Keep h0 h66 [] := K60.wr W66 (Or.inr gh59)
  have F69 : Fld Z h66 a1 "com/example/tradewind/tradewind/benchmark/Zdt" "variables" "I" (.int (10 : Int32)) := Fld.other W66 F61 (Or.inl ne57)
  have F70 : Fld Z h66 a1 "com/example/tradewind/tradewind/benchmark/Zdt" "restUpper" "D" (.double x) := Fld.other W66 F62 (Or.inl ne57)
  have V71 : Dar Z h66 b56 .double 10 (fun j => if j = 0 then .double (4607182418800017408 : UInt64) else (fun _ => .double (0 : UInt64)) j) := Dar.set V64 W66 (fun _ _ => rfl)
  have Z72 : n0 ≤ h66.size := by rw [W66.size]; exact Z63
  refine st66 ?_
  refine g_aloadN A66 d1_11 rfl rfl (pc' := 12) rfl ?_
  refine g_iconst A66 d1_12 (v := (1 : Int32)) rfl (pc' := 13) rfl ?_
  refine g_aloadN A66 d1_13 rfl rfl (pc' := 14) rfl ?_
  obtain ⟨T73, X73, e73, st73⟩ := getF A66.1 hx hZ hown (host := "") (Or.inl (hw _ (List.mem_of_getElem? (i := 9) rfl))) Via.refl e66 F69 (g := (mkF m 14 #[.val (.ref a1), .val (.ref b56)] [(.ref a1), (.int (1 : Int32)), (.ref b56)])) rfl rfl (hb hby d1_14)
  refine Go.of (g' := (mkF m 17 #[.val (.ref a1), .val (.ref b56)] [(.int (10 : Int32)), (.int (1 : Int32)), (.ref b56)])) st73 ?_
  have A74 := (⟨X73, hx, hby⟩ : Ax _ _ _ _ _ _ _ _ _ _ _ _ _ _ _)
  refine g_aloadN A74 d1_17 rfl rfl (pc' := 18) rfl ?_
  obtain ⟨T75, X75, e75, st75⟩ := getF X73 hx hZ hown (host := "") (Or.inl (hw _ (List.mem_of_getElem? (i := 12) rfl))) Via.refl e73 F70 (g := (mkF m 18 #[.val (.ref a1), .val (.ref b56)] [(.ref a1), (.int (10 : Int32)), (.int (1 : Int32)), (.ref b56)])) rfl rfl (hb hby d1_18)
  refine Go.of (g' := (mkF m 21 #[.val (.ref a1), .val (.ref b56)] [(.double x), (.int (10 : Int32)), (.int (1 : Int32)), (.ref b56)])) st75 ?_
  have A76 := (⟨X75, hx, hby⟩ : Ax _ _ _ _ _ _ _ _ _ _ _ _ _ _ _)
  obtain ⟨_, _, ⟨T77, L77, k77, n77⟩, -, X77, ⟨L77c, hQ77, l77, y77, z77⟩, st77⟩ := Jvm.LawKit.callS X75 hx (y := (⟨"java/util/Arrays", "fill", "([DIID)V"⟩ : MethodName)) hown (mvT hZ (hw _ (List.mem_of_getElem? (i := 14) rfl))) (mvT hZ (hw _ (List.mem_of_getElem? (i := 15) rfl))) (mvT hZ (hw _ (List.mem_of_getElem? (i := 16) rfl))) (mvT hZ (hw _ (List.mem_of_getElem? (i := 17) rfl))) (by decide) (backOf (W := 0) (rm2 l Z a0 hw [] b56 1 10 10 x (fun j => if j = 0 then .double (4607182418800017408 : UInt64) else (fun _ => .double (0 : UInt64)) j) h66 n0 Z72 V71 g58 (by decide) (by decide) (by decide)) hZ (hw _ (List.mem_of_getElem? (i := 17) rfl)) (hw _ (List.mem_of_getElem? (i := 16) rfl)) (by decide) (by decide)) (g := (mkF m 21 #[.val (.ref a1), .val (.ref b56)] [(.double x), (.int (10 : Int32)), (.int (1 : Int32)), (.ref b56)])) rfl (by rw [hml]; rfl) (argsL := [(.ref b56), (.int (1 : Int32)), (.int (10 : Int32)), (.double x)]) (rest := []) (lenOf pd_1 rfl) rfl (by show 2 * 0 + _ ≤ _; exact Nat.le_of_eq rfl) (hb hby d1_21) (fun _ _ => ⟨rfl, e75, (by decide : 1 + 0 ≤ _), (by decide : 10 + 0 ≤ _)⟩)
  dsimp only [Pt.U, Pt.locs, Pt.cells, Pt.slots] at X77 l77 y77 z77 st77 hQ77
  subst l77 y77 z77
  obtain ⟨rfl, Nq78, Kq79, V80⟩ := hQ77
  have N81 := Fr.app N67 Nq78
  refine Go.of (g' := (mkF m 24 #[.val (.ref a1), .val (.ref b56)] [])) st77 ?_
  have F82 : Fld Z T77.heap a1 "com/example/tradewind/tradewind/benchmark/Zdt" "variables" "I" (.int (10 : Int32)) := Fld.keep F69 Kq79 (ninS ne57 nin0)
  have F83 : Fld Z T77.heap a1 "com/example/tradewind/tradewind/benchmark/Zdt" "restUpper" "D" (.double x) := Fld.keep F70 Kq79 (ninS ne57 nin0)
  have Z84 : n0 ≤ T77.heap.size := Nat.le_trans Z72 Kq79.1
  have K85 : Keep h0 T77.heap [] := K68.trans Kq79 (allS (Or.inr gh59) all0)
  have A86 := (⟨X77, hx, hby⟩ : Ax _ _ _ _ _ _ _ _ _ _ _ _ _ _ _)
  refine g_aloadN A86 d1_24 rfl rfl (pc' := 25) rfl ?_
  have V87 : Dar Z T77.heap b56 .double 10 (fun j => .double (own_u x j)) := Dar.congr V80 (fun j hj => own_uc j x hj)
  exact g_ret (Q := QB10 Z a1 x h0 n0) A86 d1_25 Bd.notSynchronized Bd.returns rfl (Or.inr (Or.inr (Or.inr (Or.inr ⟨rfl, rfl, rfl⟩)))) (by decide) (by decide) ⟨b56, rfl, N81, K85, gh59, V87⟩
theorem pn_2 : plainName "com/example/tradewind/tradewind/benchmark/ZdtUpperPinLaw" = true := by first | (simp [plainName, overriddenIn]; done) | decide +kernel
theorem ef88 (m : MethodId) (p0 : Int32) (p1 : Int32) (z1 : Addr) (z2 : Addr) (z3 : Addr) (z4 : Addr) (z6 : Addr) : entryFrame m #[(.int p0), (.int p1)] maxLocals = mkF m 0 #[.val (.int p0), .val (.int p1), .unset, .unset, .unset, .unset, .unset, .unset, .unset, .unset, .unset, .unset] [] := by first | (simp [entryFrame, mkF, argsToLocals, Value.category, maxLocals]; done) | rfl
def Q0 (Z : State) (p0 : Int32) (p1 : Int32) (z1 : Addr) (z2 : Addr) (z3 : Addr) (z4 : Addr) (z6 : Addr) (h0 : Heap) (n0 : Nat) (v : Option Value) (h : Heap) (L : List Loc) : Prop := v = some (.int 1) ∧ Fr n0 L
theorem pd_2 : parseMethodDescriptor "()[D" = some ⟨[], some (.array .double)⟩ := by decide +kernel
set_option maxRecDepth 65536 in
set_option maxHeartbeats 40000000 in
theorem rm0 (l : Launch) (Z : State) (a0 : Array Value) (hw : ∀ d ∈ tables_1, d.before a0 Z = true) (ws : List Jvm.Cond) (p0 : Int32) (p1 : Int32) (z1 : Addr) (z2 : Addr) (z3 : Addr) (z4 : Addr) (z6 : Addr) (h0 : Heap) (n0 : Nat) (Z0 : n0 ≤ h0.size) (S89 : Sta Z h0 "com/example/tradewind/tradewind/benchmark/Zdt" "ZDT1" "Lcom/example/tradewind/tradewind/benchmark/Zdt;" (.ref z1)) (E90 : Exa Z h0 z1 "com/example/tradewind/tradewind/benchmark/Zdt") (F91 : Fld Z h0 z1 "com/example/tradewind/tradewind/benchmark/Zdt" "variables" "I" (.int (30 : Int32))) (F92 : Fld Z h0 z1 "com/example/tradewind/tradewind/benchmark/Zdt" "restUpper" "D" (.double (4607182418800017408 : UInt64))) (S93 : Sta Z h0 "com/example/tradewind/tradewind/benchmark/Zdt" "ZDT2" "Lcom/example/tradewind/tradewind/benchmark/Zdt;" (.ref z2)) (E94 : Exa Z h0 z2 "com/example/tradewind/tradewind/benchmark/Zdt") (F95 : Fld Z h0 z2 "com/example/tradewind/tradewind/benchmark/Zdt" "variables" "I" (.int (30 : Int32))) (F96 : Fld Z h0 z2 "com/example/tradewind/tradewind/benchmark/Zdt" "restUpper" "D" (.double (4607182418800017408 : UInt64))) (S97 : Sta Z h0 "com/example/tradewind/tradewind/benchmark/Zdt" "ZDT3" "Lcom/example/tradewind/tradewind/benchmark/Zdt;" (.ref z3)) (E98 : Exa Z h0 z3 "com/example/tradewind/tradewind/benchmark/Zdt") (F99 : Fld Z h0 z3 "com/example/tradewind/tradewind/benchmark/Zdt" "variables" "I" (.int (30 : Int32))) (F100 : Fld Z h0 z3 "com/example/tradewind/tradewind/benchmark/Zdt" "restUpper" "D" (.double (4607182418800017408 : UInt64))) (S101 : Sta Z h0 "com/example/tradewind/tradewind/benchmark/Zdt" "ZDT4" "Lcom/example/tradewind/tradewind/benchmark/Zdt;" (.ref z4)) (E102 : Exa Z h0 z4 "com/example/tradewind/tradewind/benchmark/Zdt") (F103 : Fld Z h0 z4 "com/example/tradewind/tradewind/benchmark/Zdt" "variables" "I" (.int (10 : Int32))) (F104 : Fld Z h0 z4 "com/example/tradewind/tradewind/benchmark/Zdt" "restUpper" "D" (.double (4617315517961601024 : UInt64))) (S105 : Sta Z h0 "com/example/tradewind/tradewind/benchmark/Zdt" "ZDT6" "Lcom/example/tradewind/tradewind/benchmark/Zdt;" (.ref z6)) (E106 : Exa Z h0 z6 "com/example/tradewind/tradewind/benchmark/Zdt") (F107 : Fld Z h0 z6 "com/example/tradewind/tradewind/benchmark/Zdt" "variables" "I" (.int (10 : Int32))) (F108 : Fld Z h0 z6 "com/example/tradewind/tradewind/benchmark/Zdt" "restUpper" "D" (.double (4607182418800017408 : UInt64))) :
    MetFree l x (head1 (Jvm.Cond.code x code maxLocals ret :: ws) room_1) (fun a U => a = #[(.int p0), (.int p1)] ∧ Z.Warmed39 U.vm ∧ U.heap = h0) (fun _ _ _ _ _ => True) (fun _ U o U' => ∃ v L, o = .returned v ∧ Q0 Z p0 p1 z1 z2 z3 z4 z6 h0 n0 v U'.heap L ∧ FrameEnd U o U' L 2 60) := by
  refine MetFree.of_bodySF (plainFor_of_name pn_2) hisR ?_
  intro p e s m args below meth c s₁ Bd hml0 hP hK
  obtain ⟨rfl, hZ, hh⟩ := hP
  have hx := Bd.exec
  have hby := Bd.bytes
  have hml : c.maxLocals = 12 := hml0
  have hown : s.vm.findClass "com/example/tradewind/tradewind/benchmark/ZdtUpperPinLaw" = some m.cls := findClass_of_methodNamed Bd.named
  have hnm := (name_of_methodNamed Bd.named Bd.method).1
  have X0 : Stand p l e room_1 s m #[(.int p0), (.int p1)] below meth c s₁ [] 0 0 := Stand.of_body Bd
  have e0 : s₁.heap = h0 := by rw [← hh, Bd.state]; rfl
  have N0 := Fr.nil n0
  have A0 := (⟨X0, hx, hby⟩ : Ax _ _ _ _ _ _ _ _ _ _ _ _ _ _ _)
  show Go p e below (fun U o => ∃ v L, o = .returned v ∧ Q0 Z p0 p1 z1 z2 z3 z4 z6 h0 n0 v U.heap L ∧ FrameEnd s o U L 2 60) s₁ (entryFrame m #[(.int p0), (.int p1)] maxLocals)
  refine Go.cast (ef88 m p0 p1 z1 z2 z3 z4 z6) ?_
  refine g_iloadN A0 at_0 rfl (pc' := 1) rfl ?_
  refine g_ldcI A0 hZ hown (hw _ (List.mem_of_getElem? (i := 0) rfl)) at_1 (pc' := 3) rfl ?_
  refine g_iand A0 at_3 (pc' := 4) rfl ?_
  refine g_iconst A0 at_4 (v := (5 : Int32)) rfl (pc' := 5) rfl ?_
  refine g_irem A0 at_5 (by decide) (pc' := 6) rfl ?_
  obtain ⟨k109, hk109⟩ : ∃ z : Int32, z = ((p0 &&& (2147483647 : Int32)) % (5 : Int32)) := ⟨_, rfl⟩
  rw [← hk109]
  have k5 := own_k5 p0
  rw [← hk109] at k5
  rcases k5 with hg110 | hg110 | hg110 | hg110 | hg110
  · skip
    rw [hg110]
    refine g_istoreN A0 at_6 (ls' := #[.val (.int p0), .val (.int p1), .val (.int (0 : Int32)), .unset, .unset, .unset, .unset, .unset, .unset, .unset, .unset, .unset]) rfl (pc' := 7) rfl ?_
    refine g_iloadN A0 at_7 rfl (pc' := 8) rfl ?_
    refine g_ifN A0 at_8 (c0_ne_f (by decide)) (pc' := 11) rfl ?_
    obtain ⟨T111, X111, e111, st111⟩ := getS X0 hx hZ hown (host := "") (hw _ (List.mem_of_getElem? (i := 1) rfl)) Via.refl e0 S89 (g := (mkF m 11 #[.val (.int p0), .val (.int p1), .val (.int (0 : Int32)), .unset, .unset, .unset, .unset, .unset, .unset, .unset, .unset, .unset] [])) rfl (hb hby at_11)
    refine Go.of (g' := (mkF m 14 #[.val (.int p0), .val (.int p1), .val (.int (0 : Int32)), .unset, .unset, .unset, .unset, .unset, .unset, .unset, .unset, .unset] [(.ref z1)])) st111 ?_
    have A112 := (⟨X111, hx, hby⟩ : Ax _ _ _ _ _ _ _ _ _ _ _ _ _ _ _)
    refine g_astoreN A112 at_14 rfl (ls' := #[.val (.int p0), .val (.int p1), .val (.int (0 : Int32)), .val (.ref z1), .unset, .unset, .unset, .unset, .unset, .unset, .unset, .unset]) rfl (pc' := 15) rfl ?_
    refine g_bipush A112 at_15 (v := (30 : Int32)) rfl (pc' := 17) rfl ?_
    refine g_istore A112 at_17 (ls' := #[.val (.int p0), .val (.int p1), .val (.int (0 : Int32)), .val (.ref z1), .val (.int (30 : Int32)), .unset, .unset, .unset, .unset, .unset, .unset, .unset]) rfl (pc' := 19) rfl ?_
    refine g_dconst1 A112 at_19 (pc' := 20) rfl ?_
    refine g_dstore A112 at_20 (ls' := #[.val (.int p0), .val (.int p1), .val (.int (0 : Int32)), .val (.ref z1), .val (.int (30 : Int32)), .val (.double (4607182418800017408 : UInt64)), .second, .unset, .unset, .unset, .unset, .unset]) rfl (pc' := 22) rfl ?_
    refine g_goto A112 at_22 (pc' := 95) rfl ?_
    refine g_aloadN A112 at_95 rfl rfl (pc' := 96) rfl ?_
    obtain ⟨cq114, kq114, q114a, q114b, q114c⟩ := isOf hZ e111 E90
    obtain ⟨_, _, ⟨T113, L113, k113, n113⟩, -, X113, ⟨L113c, hQ113, l113, y113, z113⟩, st113⟩ := X111.virtualBack hx (y := (⟨"com/example/tradewind/tradewind/benchmark/Zdt", "upper", "()[D"⟩ : MethodName)) (z := (⟨"com/example/tradewind/tradewind/benchmark/Zdt", "upper", "()[D"⟩ : MethodName)) hown (mvT hZ (hw _ (List.mem_of_getElem? (i := 4) rfl))) (mvT hZ (hw _ (List.mem_of_getElem? (i := 5) rfl))) (notFace_of_selects (args := #[]) (mvT hZ (hw _ (List.mem_of_getElem? (i := 7) rfl)))) (mvT hZ (hw _ (List.mem_of_getElem? (i := 7) rfl))) (mvT hZ (hw _ (List.mem_of_getElem? (i := 6) rfl))) (by decide) (backOf (W := 0) (rmB30 l Z a0 hw [] z1 (4607182418800017408 : UInt64) h0 n0 Z0 F91 F92) hZ (hw _ (List.mem_of_getElem? (i := 8) rfl)) (hw _ (List.mem_of_getElem? (i := 2) rfl)) (by decide) (by decide)) q114a q114c (g := (mkF m 96 #[.val (.int p0), .val (.int p1), .val (.int (0 : Int32)), .val (.ref z1), .val (.int (30 : Int32)), .val (.double (4607182418800017408 : UInt64)), .second, .unset, .unset, .unset, .unset, .unset] [(.ref z1)])) rfl (by rw [hml]; rfl) (Steps.refl _) (argsL := []) (rest := []) (lenOf pd_2 rfl) rfl (by show 2 * 0 + _ ≤ _; exact Nat.le_of_eq rfl) (hb hby at_96) (fun _ _ => ⟨rfl, e111, (by decide : 0 + 1 ≤ _), (by decide : 0 + 30 ≤ _)⟩)
    dsimp only [Pt.U, Pt.locs, Pt.cells, Pt.slots] at X113 l113 y113 z113 st113 hQ113
    subst l113 y113 z113
    obtain ⟨r115, rfl, Nq116, Kq117, gx118, V119⟩ := hQ113
    have N120 := Fr.app N0 Nq116
    refine Go.tr (g' := (mkF m 99 #[.val (.int p0), .val (.int p1), .val (.int (0 : Int32)), .val (.ref z1), .val (.int (30 : Int32)), .val (.double (4607182418800017408 : UInt64)), .second, .unset, .unset, .unset, .unset, .unset] [(.ref r115)])) st113 ?_
    have E121 : Exa Z T113.heap z1 "com/example/tradewind/tradewind/benchmark/Zdt" := Exa.keep E90 Kq117
    have F122 : Fld Z T113.heap z1 "com/example/tradewind/tradewind/benchmark/Zdt" "variables" "I" (.int (30 : Int32)) := Fld.keep F91 Kq117 nin0
    have F123 : Fld Z T113.heap z1 "com/example/tradewind/tradewind/benchmark/Zdt" "restUpper" "D" (.double (4607182418800017408 : UInt64)) := Fld.keep F92 Kq117 nin0
    have E124 : Exa Z T113.heap z2 "com/example/tradewind/tradewind/benchmark/Zdt" := Exa.keep E94 Kq117
    have F125 : Fld Z T113.heap z2 "com/example/tradewind/tradewind/benchmark/Zdt" "variables" "I" (.int (30 : Int32)) := Fld.keep F95 Kq117 nin0
    have F126 : Fld Z T113.heap z2 "com/example/tradewind/tradewind/benchmark/Zdt" "restUpper" "D" (.double (4607182418800017408 : UInt64)) := Fld.keep F96 Kq117 nin0
    have E127 : Exa Z T113.heap z3 "com/example/tradewind/tradewind/benchmark/Zdt" := Exa.keep E98 Kq117
    have F128 : Fld Z T113.heap z3 "com/example/tradewind/tradewind/benchmark/Zdt" "variables" "I" (.int (30 : Int32)) := Fld.keep F99 Kq117 nin0
    have F129 : Fld Z T113.heap z3 "com/example/tradewind/tradewind/benchmark/Zdt" "restUpper" "D" (.double (4607182418800017408 : UInt64)) := Fld.keep F100 Kq117 nin0
    have E130 : Exa Z T113.heap z4 "com/example/tradewind/tradewind/benchmark/Zdt" := Exa.keep E102 Kq117
    have F131 : Fld Z T113.heap z4 "com/example/tradewind/tradewind/benchmark/Zdt" "variables" "I" (.int (10 : Int32)) := Fld.keep F103 Kq117 nin0
    have F132 : Fld Z T113.heap z4 "com/example/tradewind/tradewind/benchmark/Zdt" "restUpper" "D" (.double (4617315517961601024 : UInt64)) := Fld.keep F104 Kq117 nin0
    have E133 : Exa Z T113.heap z6 "com/example/tradewind/tradewind/benchmark/Zdt" := Exa.keep E106 Kq117
    have F134 : Fld Z T113.heap z6 "com/example/tradewind/tradewind/benchmark/Zdt" "variables" "I" (.int (10 : Int32)) := Fld.keep F107 Kq117 nin0
    have F135 : Fld Z T113.heap z6 "com/example/tradewind/tradewind/benchmark/Zdt" "restUpper" "D" (.double (4607182418800017408 : UInt64)) := Fld.keep F108 Kq117 nin0
    have Z136 : n0 ≤ T113.heap.size := Nat.le_trans Z0 Kq117.1
    have K137 : Keep h0 T113.heap [] := (Keep.refl h0 []).trans Kq117 all0
    have A138 := (⟨X113, hx, hby⟩ : Ax _ _ _ _ _ _ _ _ _ _ _ _ _ _ _)
    have g139 : n0 ≤ r115 := Nat.le_trans Z0 gx118
    have gh140 : h0.size ≤ r115 := Nat.le_trans (Keep.refl h0 []).1 gx118
    have ne141 : z1 ≠ r115 := Nat.ne_of_lt (Nat.lt_of_lt_of_le E90.lt gx118)
    have ne142 : z2 ≠ r115 := Nat.ne_of_lt (Nat.lt_of_lt_of_le E94.lt gx118)
    have ne143 : z3 ≠ r115 := Nat.ne_of_lt (Nat.lt_of_lt_of_le E98.lt gx118)
    have ne144 : z4 ≠ r115 := Nat.ne_of_lt (Nat.lt_of_lt_of_le E102.lt gx118)
    have ne145 : z6 ≠ r115 := Nat.ne_of_lt (Nat.lt_of_lt_of_le E106.lt gx118)
    refine g_astore A138 at_99 rfl (ls' := #[.val (.int p0), .val (.int p1), .val (.int (0 : Int32)), .val (.ref z1), .val (.int (30 : Int32)), .val (.double (4607182418800017408 : UInt64)), .second, .val (.ref r115), .unset, .unset, .unset, .unset]) rfl (pc' := 101) rfl ?_
    refine g_aload A138 at_101 rfl rfl (pc' := 103) rfl ?_
    refine g_alen A138 hZ rfl V119 at_103 (z := (30 : Int32)) rfl (pc' := 104) rfl ?_
    refine g_iload A138 at_104 rfl (pc' := 106) rfl ?_
    refine g_icY A138 at_106 (c2_eq_t rfl) (pc' := 111) rfl ?_
    refine g_iloadN A138 at_111 rfl (pc' := 112) rfl ?_
    refine g_ldcI A138 hZ hown (hw _ (List.mem_of_getElem? (i := 0) rfl)) at_112 (pc' := 114) rfl ?_
    refine g_iand A138 at_114 (pc' := 115) rfl ?_
    refine g_iload A138 at_115 rfl (pc' := 117) rfl ?_
    refine g_irem A138 at_117 (by decide) (pc' := 118) rfl ?_
    obtain ⟨i146, hi147, hk148⟩ := own_mod p1 30 (by decide) (by decide)
    have hk149 : ((p1 &&& (2147483647 : Int32)) % (30 : Int32)) = Int32.ofNat i146 := hk148
    rw [hk149]
    refine g_istore A138 at_118 (ls' := #[.val (.int p0), .val (.int p1), .val (.int (0 : Int32)), .val (.ref z1), .val (.int (30 : Int32)), .val (.double (4607182418800017408 : UInt64)), .second, .val (.ref r115), .val (.int (Int32.ofNat i146)), .unset, .unset, .unset]) rfl (pc' := 120) rfl ?_
    refine g_iload A138 at_120 rfl (pc' := 122) rfl ?_
    by_cases hc150 : (Int32.ofNat i146) = 0
    · skip
      refine g_ifN A138 at_122 (c0_ne_f hc150) (pc' := 125) rfl ?_
      refine g_dconst1 A138 at_125 (pc' := 126) rfl ?_
      refine g_goto A138 at_126 (pc' := 131) rfl ?_
      refine g_dstore A138 at_131 (ls' := #[.val (.int p0), .val (.int p1), .val (.int (0 : Int32)), .val (.ref z1), .val (.int (30 : Int32)), .val (.double (4607182418800017408 : UInt64)), .second, .val (.ref r115), .val (.int (Int32.ofNat i146)), .val (.double (4607182418800017408 : UInt64)), .second, .unset]) rfl (pc' := 133) rfl ?_
      refine g_aload A138 at_133 rfl rfl (pc' := 135) rfl ?_
      refine g_iload A138 at_135 rfl (pc' := 137) rfl ?_
      refine g_daload A138 hZ rfl V119 (i := i146) hi147 rfl (x := (own_u (4607182418800017408 : UInt64) i146)) rfl at_137 (pc' := 138) rfl ?_
      refine g_dload A138 at_138 rfl (pc' := 140) rfl ?_
      refine g_dcmp A138 at_140 (pc' := 141) rfl ?_
      refine g_ifY A138 at_141 (d_l_eq_t (by rw [own_of0 (by omega) hc150]; decide +kernel)) (pc' := 146) rfl ?_
      refine g_aload A138 at_146 rfl rfl (pc' := 148) rfl ?_
      refine g_iconst A138 at_148 (v := (0 : Int32)) rfl (pc' := 149) rfl ?_
      refine g_daload A138 hZ rfl V119 (i := 0) (by decide) rfl (x := (own_u (4607182418800017408 : UInt64) 0)) rfl at_149 (pc' := 150) rfl ?_
      refine g_dconst1 A138 at_150 (pc' := 151) rfl ?_
      refine g_dcmp A138 at_151 (pc' := 152) rfl ?_
      refine g_ifY A138 at_152 (d_l_eq_t (by decide +kernel)) (pc' := 157) rfl ?_
      refine g_aload A138 at_157 rfl rfl (pc' := 159) rfl ?_
      refine g_iload A138 at_159 rfl (pc' := 161) rfl ?_
      refine g_iconst A138 at_161 (v := (1 : Int32)) rfl (pc' := 162) rfl ?_
      refine g_isub A138 at_162 (pc' := 163) rfl ?_
      refine g_daload A138 hZ rfl V119 (i := 29) (by decide) rfl (x := (own_u (4607182418800017408 : UInt64) 29)) rfl at_163 (pc' := 164) rfl ?_
      refine g_dload A138 at_164 rfl (pc' := 166) rfl ?_
      refine g_dcmp A138 at_166 (pc' := 167) rfl ?_
      refine g_ifY A138 at_167 (d_l_eq_t (by decide +kernel)) (pc' := 172) rfl ?_
      refine g_aload A138 at_172 rfl rfl (pc' := 174) rfl ?_
      refine g_iload A138 at_174 rfl (pc' := 176) rfl ?_
      refine g_ldcD A138 hZ hown (hw _ (List.mem_of_getElem? (i := 21) rfl)) at_176 (pc' := 179) rfl ?_
      obtain ⟨T151, h151, A151, e151, W151, st151⟩ := s_dastore A138 hZ rfl (ls := #[.val (.int p0), .val (.int p1), .val (.int (0 : Int32)), .val (.ref z1), .val (.int (30 : Int32)), .val (.double (4607182418800017408 : UInt64)), .second, .val (.ref r115), .val (.int (Int32.ofNat i146)), .val (.double (4607182418800017408 : UInt64)), .second, .unset]) (st := []) (x := (4619567317775286272 : UInt64)) V119 (i := i146) hi147 (j := (Int32.ofNat i146)) rfl at_179 (pc' := 180) rfl
      have N152 := Fr.snoc A151.1 N120 g139
      have K153 : Keep h0 h151 [] := K137.wr W151 (Or.inr gh140)
      have E154 : Exa Z h151 z1 "com/example/tradewind/tradewind/benchmark/Zdt" := Exa.wr W151 E121
      have F155 : Fld Z h151 z1 "com/example/tradewind/tradewind/benchmark/Zdt" "variables" "I" (.int (30 : Int32)) := Fld.other W151 F122 (Or.inl ne141)
      have F156 : Fld Z h151 z1 "com/example/tradewind/tradewind/benchmark/Zdt" "restUpper" "D" (.double (4607182418800017408 : UInt64)) := Fld.other W151 F123 (Or.inl ne141)
      have E157 : Exa Z h151 z2 "com/example/tradewind/tradewind/benchmark/Zdt" := Exa.wr W151 E124
      have F158 : Fld Z h151 z2 "com/example/tradewind/tradewind/benchmark/Zdt" "variables" "I" (.int (30 : Int32)) := Fld.other W151 F125 (Or.inl ne142)
      have F159 : Fld Z h151 z2 "com/example/tradewind/tradewind/benchmark/Zdt" "restUpper" "D" (.double (4607182418800017408 : UInt64)) := Fld.other W151 F126 (Or.inl ne142)
      have E160 : Exa Z h151 z3 "com/example/tradewind/tradewind/benchmark/Zdt" := Exa.wr W151 E127
      have F161 : Fld Z h151 z3 "com/example/tradewind/tradewind/benchmark/Zdt" "variables" "I" (.int (30 : Int32)) := Fld.other W151 F128 (Or.inl ne143)
      have F162 : Fld Z h151 z3 "com/example/tradewind/tradewind/benchmark/Zdt" "restUpper" "D" (.double (4607182418800017408 : UInt64)) := Fld.other W151 F129 (Or.inl ne143)
      have E163 : Exa Z h151 z4 "com/example/tradewind/tradewind/benchmark/Zdt" := Exa.wr W151 E130
      have F164 : Fld Z h151 z4 "com/example/tradewind/tradewind/benchmark/Zdt" "variables" "I" (.int (10 : Int32)) := Fld.other W151 F131 (Or.inl ne144)
      have F165 : Fld Z h151 z4 "com/example/tradewind/tradewind/benchmark/Zdt" "restUpper" "D" (.double (4617315517961601024 : UInt64)) := Fld.other W151 F132 (Or.inl ne144)
      have E166 : Exa Z h151 z6 "com/example/tradewind/tradewind/benchmark/Zdt" := Exa.wr W151 E133
      have F167 : Fld Z h151 z6 "com/example/tradewind/tradewind/benchmark/Zdt" "variables" "I" (.int (10 : Int32)) := Fld.other W151 F134 (Or.inl ne145)
      have F168 : Fld Z h151 z6 "com/example/tradewind/tradewind/benchmark/Zdt" "restUpper" "D" (.double (4607182418800017408 : UInt64)) := Fld.other W151 F135 (Or.inl ne145)
      have V169 : Dar Z h151 r115 .double 30 (fun j => if j = i146 then .double (4619567317775286272 : UInt64) else (fun j => .double (own_u (4607182418800017408 : UInt64) j)) j) := Dar.set V119 W151 (fun _ _ => rfl)
      have Z170 : n0 ≤ h151.size := by rw [W151.size]; exact Z136
      refine st151 ?_
      refine g_aloadN A151 at_180 rfl rfl (pc' := 181) rfl ?_
      obtain ⟨cq172, kq172, q172a, q172b, q172c⟩ := isOf hZ e151 E154
      obtain ⟨_, _, ⟨T171, L171, k171, n171⟩, -, X171, ⟨L171c, hQ171, l171, y171, z171⟩, st171⟩ := A151.1.virtualBack hx (y := (⟨"com/example/tradewind/tradewind/benchmark/Zdt", "upper", "()[D"⟩ : MethodName)) (z := (⟨"com/example/tradewind/tradewind/benchmark/Zdt", "upper", "()[D"⟩ : MethodName)) hown (mvT hZ (hw _ (List.mem_of_getElem? (i := 4) rfl))) (mvT hZ (hw _ (List.mem_of_getElem? (i := 5) rfl))) (notFace_of_selects (args := #[]) (mvT hZ (hw _ (List.mem_of_getElem? (i := 7) rfl)))) (mvT hZ (hw _ (List.mem_of_getElem? (i := 7) rfl))) (mvT hZ (hw _ (List.mem_of_getElem? (i := 6) rfl))) (by decide) (backOf (W := 0) (rmB30 l Z a0 hw [] z1 (4607182418800017408 : UInt64) h151 n0 Z170 F155 F156) hZ (hw _ (List.mem_of_getElem? (i := 8) rfl)) (hw _ (List.mem_of_getElem? (i := 2) rfl)) (by decide) (by decide)) q172a q172c (g := (mkF m 181 #[.val (.int p0), .val (.int p1), .val (.int (0 : Int32)), .val (.ref z1), .val (.int (30 : Int32)), .val (.double (4607182418800017408 : UInt64)), .second, .val (.ref r115), .val (.int (Int32.ofNat i146)), .val (.double (4607182418800017408 : UInt64)), .second, .unset] [(.ref z1)])) rfl (by rw [hml]; rfl) (Steps.refl _) (argsL := []) (rest := []) (lenOf pd_2 rfl) rfl (by show 2 * 0 + _ ≤ _; exact Nat.le_of_eq rfl) (hb hby at_181) (fun _ _ => ⟨rfl, e151, (by decide : 1 + 1 ≤ _), (by decide : 30 + 30 ≤ _)⟩)
      dsimp only [Pt.U, Pt.locs, Pt.cells, Pt.slots] at X171 l171 y171 z171 st171 hQ171
      subst l171 y171 z171
      obtain ⟨r173, rfl, Nq174, Kq175, gx176, V177⟩ := hQ171
      have N178 := Fr.app N152 Nq174
      refine Go.tr (g' := (mkF m 184 #[.val (.int p0), .val (.int p1), .val (.int (0 : Int32)), .val (.ref z1), .val (.int (30 : Int32)), .val (.double (4607182418800017408 : UInt64)), .second, .val (.ref r115), .val (.int (Int32.ofNat i146)), .val (.double (4607182418800017408 : UInt64)), .second, .unset] [(.ref r173)])) st171 ?_
      have E179 : Exa Z T171.heap z1 "com/example/tradewind/tradewind/benchmark/Zdt" := Exa.keep E154 Kq175
      have F180 : Fld Z T171.heap z1 "com/example/tradewind/tradewind/benchmark/Zdt" "variables" "I" (.int (30 : Int32)) := Fld.keep F155 Kq175 nin0
      have F181 : Fld Z T171.heap z1 "com/example/tradewind/tradewind/benchmark/Zdt" "restUpper" "D" (.double (4607182418800017408 : UInt64)) := Fld.keep F156 Kq175 nin0
      have E182 : Exa Z T171.heap z2 "com/example/tradewind/tradewind/benchmark/Zdt" := Exa.keep E157 Kq175
      have F183 : Fld Z T171.heap z2 "com/example/tradewind/tradewind/benchmark/Zdt" "variables" "I" (.int (30 : Int32)) := Fld.keep F158 Kq175 nin0
      have F184 : Fld Z T171.heap z2 "com/example/tradewind/tradewind/benchmark/Zdt" "restUpper" "D" (.double (4607182418800017408 : UInt64)) := Fld.keep F159 Kq175 nin0
      have E185 : Exa Z T171.heap z3 "com/example/tradewind/tradewind/benchmark/Zdt" := Exa.keep E160 Kq175
      have F186 : Fld Z T171.heap z3 "com/example/tradewind/tradewind/benchmark/Zdt" "variables" "I" (.int (30 : Int32)) := Fld.keep F161 Kq175 nin0
      have F187 : Fld Z T171.heap z3 "com/example/tradewind/tradewind/benchmark/Zdt" "restUpper" "D" (.double (4607182418800017408 : UInt64)) := Fld.keep F162 Kq175 nin0
      have E188 : Exa Z T171.heap z4 "com/example/tradewind/tradewind/benchmark/Zdt" := Exa.keep E163 Kq175
      have F189 : Fld Z T171.heap z4 "com/example/tradewind/tradewind/benchmark/Zdt" "variables" "I" (.int (10 : Int32)) := Fld.keep F164 Kq175 nin0
      have F190 : Fld Z T171.heap z4 "com/example/tradewind/tradewind/benchmark/Zdt" "restUpper" "D" (.double (4617315517961601024 : UInt64)) := Fld.keep F165 Kq175 nin0
      have E191 : Exa Z T171.heap z6 "com/example/tradewind/tradewind/benchmark/Zdt" := Exa.keep E166 Kq175
      have F192 : Fld Z T171.heap z6 "com/example/tradewind/tradewind/benchmark/Zdt" "variables" "I" (.int (10 : Int32)) := Fld.keep F167 Kq175 nin0
      have F193 : Fld Z T171.heap z6 "com/example/tradewind/tradewind/benchmark/Zdt" "restUpper" "D" (.double (4607182418800017408 : UInt64)) := Fld.keep F168 Kq175 nin0
      have V194 : Dar Z T171.heap r115 .double 30 (fun j => if j = i146 then .double (4619567317775286272 : UInt64) else (fun j => .double (own_u (4607182418800017408 : UInt64) j)) j) := Dar.keep V169 Kq175 nin0
      have Z195 : n0 ≤ T171.heap.size := Nat.le_trans Z170 Kq175.1
      have K196 : Keep h0 T171.heap [] := K153.trans Kq175 all0
      have A197 := (⟨X171, hx, hby⟩ : Ax _ _ _ _ _ _ _ _ _ _ _ _ _ _ _)
      have g198 : n0 ≤ r173 := Nat.le_trans Z170 gx176
      have gh199 : h0.size ≤ r173 := Nat.le_trans K153.1 gx176
      have ne200 : r115 ≠ r173 := Nat.ne_of_lt (Nat.lt_of_lt_of_le V169.lt gx176)
      have ne201 : z1 ≠ r173 := Nat.ne_of_lt (Nat.lt_of_lt_of_le E154.lt gx176)
      have ne202 : z2 ≠ r173 := Nat.ne_of_lt (Nat.lt_of_lt_of_le E157.lt gx176)
      have ne203 : z3 ≠ r173 := Nat.ne_of_lt (Nat.lt_of_lt_of_le E160.lt gx176)
      have ne204 : z4 ≠ r173 := Nat.ne_of_lt (Nat.lt_of_lt_of_le E163.lt gx176)
      have ne205 : z6 ≠ r173 := Nat.ne_of_lt (Nat.lt_of_lt_of_le E166.lt gx176)
      refine g_astore A197 at_184 rfl (ls' := #[.val (.int p0), .val (.int p1), .val (.int (0 : Int32)), .val (.ref z1), .val (.int (30 : Int32)), .val (.double (4607182418800017408 : UInt64)), .second, .val (.ref r115), .val (.int (Int32.ofNat i146)), .val (.double (4607182418800017408 : UInt64)), .second, .val (.ref r173)]) rfl (pc' := 186) rfl ?_
      refine g_aload A197 at_186 rfl rfl (pc' := 188) rfl ?_
      refine g_alen A197 hZ rfl V177 at_188 (z := (30 : Int32)) rfl (pc' := 189) rfl ?_
      refine g_iload A197 at_189 rfl (pc' := 191) rfl ?_
      refine g_icY A197 at_191 (c2_eq_t rfl) (pc' := 196) rfl ?_
      refine g_aload A197 at_196 rfl rfl (pc' := 198) rfl ?_
      refine g_iload A197 at_198 rfl (pc' := 200) rfl ?_
      refine g_daload A197 hZ rfl V177 (i := i146) hi147 rfl (x := (own_u (4607182418800017408 : UInt64) i146)) rfl at_200 (pc' := 201) rfl ?_
      refine g_dload A197 at_201 rfl (pc' := 203) rfl ?_
      refine g_dcmp A197 at_203 (pc' := 204) rfl ?_
      refine g_ifN A197 at_204 (d_l_ne_f (by rw [own_of0 (by omega) hc150]; decide +kernel)) (pc' := 207) rfl ?_
      refine g_iconst A197 at_207 (v := (1 : Int32)) rfl (pc' := 208) rfl ?_
      refine g_goto A197 at_208 (pc' := 212) rfl ?_
      exact g_ret (Q := Q0 Z p0 p1 z1 z2 z3 z4 z6 h0 n0) A197 at_212 Bd.notSynchronized Bd.returns rfl (Or.inl ⟨rfl, by simp, _, rfl⟩) (by decide) (by decide) ⟨rfl, N178⟩
    · skip
      refine g_ifY A138 at_122 (c0_ne_t hc150) (pc' := 129) rfl ?_
      refine g_dload A138 at_129 rfl (pc' := 131) rfl ?_
      refine g_dstore A138 at_131 (ls' := #[.val (.int p0), .val (.int p1), .val (.int (0 : Int32)), .val (.ref z1), .val (.int (30 : Int32)), .val (.double (4607182418800017408 : UInt64)), .second, .val (.ref r115), .val (.int (Int32.ofNat i146)), .val (.double (4607182418800017408 : UInt64)), .second, .unset]) rfl (pc' := 133) rfl ?_
      refine g_aload A138 at_133 rfl rfl (pc' := 135) rfl ?_
      refine g_iload A138 at_135 rfl (pc' := 137) rfl ?_
      refine g_daload A138 hZ rfl V119 (i := i146) hi147 rfl (x := (own_u (4607182418800017408 : UInt64) i146)) rfl at_137 (pc' := 138) rfl ?_
      refine g_dload A138 at_138 rfl (pc' := 140) rfl ?_
      refine g_dcmp A138 at_140 (pc' := 141) rfl ?_
      refine g_ifY A138 at_141 (d_l_eq_t (by rw [own_u, if_neg (fun q => hc150 (by rw [q]; rfl))]; decide +kernel)) (pc' := 146) rfl ?_
      refine g_aload A138 at_146 rfl rfl (pc' := 148) rfl ?_
      refine g_iconst A138 at_148 (v := (0 : Int32)) rfl (pc' := 149) rfl ?_
      refine g_daload A138 hZ rfl V119 (i := 0) (by decide) rfl (x := (own_u (4607182418800017408 : UInt64) 0)) rfl at_149 (pc' := 150) rfl ?_
      refine g_dconst1 A138 at_150 (pc' := 151) rfl ?_
      refine g_dcmp A138 at_151 (pc' := 152) rfl ?_
      refine g_ifY A138 at_152 (d_l_eq_t (by decide +kernel)) (pc' := 157) rfl ?_
      refine g_aload A138 at_157 rfl rfl (pc' := 159) rfl ?_
      refine g_iload A138 at_159 rfl (pc' := 161) rfl ?_
      refine g_iconst A138 at_161 (v := (1 : Int32)) rfl (pc' := 162) rfl ?_
      refine g_isub A138 at_162 (pc' := 163) rfl ?_
      refine g_daload A138 hZ rfl V119 (i := 29) (by decide) rfl (x := (own_u (4607182418800017408 : UInt64) 29)) rfl at_163 (pc' := 164) rfl ?_
      refine g_dload A138 at_164 rfl (pc' := 166) rfl ?_
      refine g_dcmp A138 at_166 (pc' := 167) rfl ?_
      refine g_ifY A138 at_167 (d_l_eq_t (by decide +kernel)) (pc' := 172) rfl ?_
      refine g_aload A138 at_172 rfl rfl (pc' := 174) rfl ?_
      refine g_iload A138 at_174 rfl (pc' := 176) rfl ?_
      refine g_ldcD A138 hZ hown (hw _ (List.mem_of_getElem? (i := 21) rfl)) at_176 (pc' := 179) rfl ?_
      obtain ⟨T206, h206, A206, e206, W206, st206⟩ := s_dastore A138 hZ rfl (ls := #[.val (.int p0), .val (.int p1), .val (.int (0 : Int32)), .val (.ref z1), .val (.int (30 : Int32)), .val (.double (4607182418800017408 : UInt64)), .second, .val (.ref r115), .val (.int (Int32.ofNat i146)), .val (.double (4607182418800017408 : UInt64)), .second, .unset]) (st := []) (x := (4619567317775286272 : UInt64)) V119 (i := i146) hi147 (j := (Int32.ofNat i146)) rfl at_179 (pc' := 180) rfl
      have N207 := Fr.snoc A206.1 N120 g139
      have K208 : Keep h0 h206 [] := K137.wr W206 (Or.inr gh140)
      have E209 : Exa Z h206 z1 "com/example/tradewind/tradewind/benchmark/Zdt" := Exa.wr W206 E121
      have F210 : Fld Z h206 z1 "com/example/tradewind/tradewind/benchmark/Zdt" "variables" "I" (.int (30 : Int32)) := Fld.other W206 F122 (Or.inl ne141)
      have F211 : Fld Z h206 z1 "com/example/tradewind/tradewind/benchmark/Zdt" "restUpper" "D" (.double (4607182418800017408 : UInt64)) := Fld.other W206 F123 (Or.inl ne141)
      have E212 : Exa Z h206 z2 "com/example/tradewind/tradewind/benchmark/Zdt" := Exa.wr W206 E124
      have F213 : Fld Z h206 z2 "com/example/tradewind/tradewind/benchmark/Zdt" "variables" "I" (.int (30 : Int32)) := Fld.other W206 F125 (Or.inl ne142)
      have F214 : Fld Z h206 z2 "com/example/tradewind/tradewind/benchmark/Zdt" "restUpper" "D" (.double (4607182418800017408 : UInt64)) := Fld.other W206 F126 (Or.inl ne142)
      have E215 : Exa Z h206 z3 "com/example/tradewind/tradewind/benchmark/Zdt" := Exa.wr W206 E127
      have F216 : Fld Z h206 z3 "com/example/tradewind/tradewind/benchmark/Zdt" "variables" "I" (.int (30 : Int32)) := Fld.other W206 F128 (Or.inl ne143)
      have F217 : Fld Z h206 z3 "com/example/tradewind/tradewind/benchmark/Zdt" "restUpper" "D" (.double (4607182418800017408 : UInt64)) := Fld.other W206 F129 (Or.inl ne143)
      have E218 : Exa Z h206 z4 "com/example/tradewind/tradewind/benchmark/Zdt" := Exa.wr W206 E130
      have F219 : Fld Z h206 z4 "com/example/tradewind/tradewind/benchmark/Zdt" "variables" "I" (.int (10 : Int32)) := Fld.other W206 F131 (Or.inl ne144)
      have F220 : Fld Z h206 z4 "com/example/tradewind/tradewind/benchmark/Zdt" "restUpper" "D" (.double (4617315517961601024 : UInt64)) := Fld.other W206 F132 (Or.inl ne144)
      have E221 : Exa Z h206 z6 "com/example/tradewind/tradewind/benchmark/Zdt" := Exa.wr W206 E133
      have F222 : Fld Z h206 z6 "com/example/tradewind/tradewind/benchmark/Zdt" "variables" "I" (.int (10 : Int32)) := Fld.other W206 F134 (Or.inl ne145)
      have F223 : Fld Z h206 z6 "com/example/tradewind/tradewind/benchmark/Zdt" "restUpper" "D" (.double (4607182418800017408 : UInt64)) := Fld.other W206 F135 (Or.inl ne145)
      have V224 : Dar Z h206 r115 .double 30 (fun j => if j = i146 then .double (4619567317775286272 : UInt64) else (fun j => .double (own_u (4607182418800017408 : UInt64) j)) j) := Dar.set V119 W206 (fun _ _ => rfl)
      have Z225 : n0 ≤ h206.size := by rw [W206.size]; exact Z136
      refine st206 ?_
      refine g_aloadN A206 at_180 rfl rfl (pc' := 181) rfl ?_
      obtain ⟨cq227, kq227, q227a, q227b, q227c⟩ := isOf hZ e206 E209
      obtain ⟨_, _, ⟨T226, L226, k226, n226⟩, -, X226, ⟨L226c, hQ226, l226, y226, z226⟩, st226⟩ := A206.1.virtualBack hx (y := (⟨"com/example/tradewind/tradewind/benchmark/Zdt", "upper", "()[D"⟩ : MethodName)) (z := (⟨"com/example/tradewind/tradewind/benchmark/Zdt", "upper", "()[D"⟩ : MethodName)) hown (mvT hZ (hw _ (List.mem_of_getElem? (i := 4) rfl))) (mvT hZ (hw _ (List.mem_of_getElem? (i := 5) rfl))) (notFace_of_selects (args := #[]) (mvT hZ (hw _ (List.mem_of_getElem? (i := 7) rfl)))) (mvT hZ (hw _ (List.mem_of_getElem? (i := 7) rfl))) (mvT hZ (hw _ (List.mem_of_getElem? (i := 6) rfl))) (by decide) (backOf (W := 0) (rmB30 l Z a0 hw [] z1 (4607182418800017408 : UInt64) h206 n0 Z225 F210 F211) hZ (hw _ (List.mem_of_getElem? (i := 8) rfl)) (hw _ (List.mem_of_getElem? (i := 2) rfl)) (by decide) (by decide)) q227a q227c (g := (mkF m 181 #[.val (.int p0), .val (.int p1), .val (.int (0 : Int32)), .val (.ref z1), .val (.int (30 : Int32)), .val (.double (4607182418800017408 : UInt64)), .second, .val (.ref r115), .val (.int (Int32.ofNat i146)), .val (.double (4607182418800017408 : UInt64)), .second, .unset] [(.ref z1)])) rfl (by rw [hml]; rfl) (Steps.refl _) (argsL := []) (rest := []) (lenOf pd_2 rfl) rfl (by show 2 * 0 + _ ≤ _; exact Nat.le_of_eq rfl) (hb hby at_181) (fun _ _ => ⟨rfl, e206, (by decide : 1 + 1 ≤ _), (by decide : 30 + 30 ≤ _)⟩)
      dsimp only [Pt.U, Pt.locs, Pt.cells, Pt.slots] at X226 l226 y226 z226 st226 hQ226
      subst l226 y226 z226
      obtain ⟨r228, rfl, Nq229, Kq230, gx231, V232⟩ := hQ226
      have N233 := Fr.app N207 Nq229
      refine Go.tr (g' := (mkF m 184 #[.val (.int p0), .val (.int p1), .val (.int (0 : Int32)), .val (.ref z1), .val (.int (30 : Int32)), .val (.double (4607182418800017408 : UInt64)), .second, .val (.ref r115), .val (.int (Int32.ofNat i146)), .val (.double (4607182418800017408 : UInt64)), .second, .unset] [(.ref r228)])) st226 ?_
      have E234 : Exa Z T226.heap z1 "com/example/tradewind/tradewind/benchmark/Zdt" := Exa.keep E209 Kq230
      have F235 : Fld Z T226.heap z1 "com/example/tradewind/tradewind/benchmark/Zdt" "variables" "I" (.int (30 : Int32)) := Fld.keep F210 Kq230 nin0
      have F236 : Fld Z T226.heap z1 "com/example/tradewind/tradewind/benchmark/Zdt" "restUpper" "D" (.double (4607182418800017408 : UInt64)) := Fld.keep F211 Kq230 nin0
      have E237 : Exa Z T226.heap z2 "com/example/tradewind/tradewind/benchmark/Zdt" := Exa.keep E212 Kq230
      have F238 : Fld Z T226.heap z2 "com/example/tradewind/tradewind/benchmark/Zdt" "variables" "I" (.int (30 : Int32)) := Fld.keep F213 Kq230 nin0
      have F239 : Fld Z T226.heap z2 "com/example/tradewind/tradewind/benchmark/Zdt" "restUpper" "D" (.double (4607182418800017408 : UInt64)) := Fld.keep F214 Kq230 nin0
      have E240 : Exa Z T226.heap z3 "com/example/tradewind/tradewind/benchmark/Zdt" := Exa.keep E215 Kq230
      have F241 : Fld Z T226.heap z3 "com/example/tradewind/tradewind/benchmark/Zdt" "variables" "I" (.int (30 : Int32)) := Fld.keep F216 Kq230 nin0
      have F242 : Fld Z T226.heap z3 "com/example/tradewind/tradewind/benchmark/Zdt" "restUpper" "D" (.double (4607182418800017408 : UInt64)) := Fld.keep F217 Kq230 nin0
      have E243 : Exa Z T226.heap z4 "com/example/tradewind/tradewind/benchmark/Zdt" := Exa.keep E218 Kq230
      have F244 : Fld Z T226.heap z4 "com/example/tradewind/tradewind/benchmark/Zdt" "variables" "I" (.int (10 : Int32)) := Fld.keep F219 Kq230 nin0
      have F245 : Fld Z T226.heap z4 "com/example/tradewind/tradewind/benchmark/Zdt" "restUpper" "D" (.double (4617315517961601024 : UInt64)) := Fld.keep F220 Kq230 nin0
      have E246 : Exa Z T226.heap z6 "com/example/tradewind/tradewind/benchmark/Zdt" := Exa.keep E221 Kq230
      have F247 : Fld Z T226.heap z6 "com/example/tradewind/tradewind/benchmark/Zdt" "variables" "I" (.int (10 : Int32)) := Fld.keep F222 Kq230 nin0
      have F248 : Fld Z T226.heap z6 "com/example/tradewind/tradewind/benchmark/Zdt" "restUpper" "D" (.double (4607182418800017408 : UInt64)) := Fld.keep F223 Kq230 nin0
      have V249 : Dar Z T226.heap r115 .double 30 (fun j => if j = i146 then .double (4619567317775286272 : UInt64) else (fun j => .double (own_u (4607182418800017408 : UInt64) j)) j) := Dar.keep V224 Kq230 nin0
      have Z250 : n0 ≤ T226.heap.size := Nat.le_trans Z225 Kq230.1
      have K251 : Keep h0 T226.heap [] := K208.trans Kq230 all0
      have A252 := (⟨X226, hx, hby⟩ : Ax _ _ _ _ _ _ _ _ _ _ _ _ _ _ _)
      have g253 : n0 ≤ r228 := Nat.le_trans Z225 gx231
      have gh254 : h0.size ≤ r228 := Nat.le_trans K208.1 gx231
      have ne255 : r115 ≠ r228 := Nat.ne_of_lt (Nat.lt_of_lt_of_le V224.lt gx231)
      have ne256 : z1 ≠ r228 := Nat.ne_of_lt (Nat.lt_of_lt_of_le E209.lt gx231)
      have ne257 : z2 ≠ r228 := Nat.ne_of_lt (Nat.lt_of_lt_of_le E212.lt gx231)
      have ne258 : z3 ≠ r228 := Nat.ne_of_lt (Nat.lt_of_lt_of_le E215.lt gx231)
      have ne259 : z4 ≠ r228 := Nat.ne_of_lt (Nat.lt_of_lt_of_le E218.lt gx231)
      have ne260 : z6 ≠ r228 := Nat.ne_of_lt (Nat.lt_of_lt_of_le E221.lt gx231)
      refine g_astore A252 at_184 rfl (ls' := #[.val (.int p0), .val (.int p1), .val (.int (0 : Int32)), .val (.ref z1), .val (.int (30 : Int32)), .val (.double (4607182418800017408 : UInt64)), .second, .val (.ref r115), .val (.int (Int32.ofNat i146)), .val (.double (4607182418800017408 : UInt64)), .second, .val (.ref r228)]) rfl (pc' := 186) rfl ?_
      refine g_aload A252 at_186 rfl rfl (pc' := 188) rfl ?_
      refine g_alen A252 hZ rfl V232 at_188 (z := (30 : Int32)) rfl (pc' := 189) rfl ?_
      refine g_iload A252 at_189 rfl (pc' := 191) rfl ?_
      refine g_icY A252 at_191 (c2_eq_t rfl) (pc' := 196) rfl ?_
      refine g_aload A252 at_196 rfl rfl (pc' := 198) rfl ?_
      refine g_iload A252 at_198 rfl (pc' := 200) rfl ?_
      refine g_daload A252 hZ rfl V232 (i := i146) hi147 rfl (x := (own_u (4607182418800017408 : UInt64) i146)) rfl at_200 (pc' := 201) rfl ?_
      refine g_dload A252 at_201 rfl (pc' := 203) rfl ?_
      refine g_dcmp A252 at_203 (pc' := 204) rfl ?_
      refine g_ifN A252 at_204 (d_l_ne_f (by rw [own_u, if_neg (fun q => hc150 (by rw [q]; rfl))]; decide +kernel)) (pc' := 207) rfl ?_
      refine g_iconst A252 at_207 (v := (1 : Int32)) rfl (pc' := 208) rfl ?_
      refine g_goto A252 at_208 (pc' := 212) rfl ?_
      exact g_ret (Q := Q0 Z p0 p1 z1 z2 z3 z4 z6 h0 n0) A252 at_212 Bd.notSynchronized Bd.returns rfl (Or.inl ⟨rfl, by simp, _, rfl⟩) (by decide) (by decide) ⟨rfl, N233⟩
  · skip
    rw [hg110]
    refine g_istoreN A0 at_6 (ls' := #[.val (.int p0), .val (.int p1), .val (.int (1 : Int32)), .unset, .unset, .unset, .unset, .unset, .unset, .unset, .unset, .unset]) rfl (pc' := 7) rfl ?_
    refine g_iloadN A0 at_7 rfl (pc' := 8) rfl ?_
    refine g_ifY A0 at_8 (c0_ne_t (by decide)) (pc' := 25) rfl ?_
    refine g_iloadN A0 at_25 rfl (pc' := 26) rfl ?_
    refine g_iconst A0 at_26 (v := (1 : Int32)) rfl (pc' := 27) rfl ?_
    refine g_icN A0 at_27 (c2_ne_f rfl) (pc' := 30) rfl ?_
    obtain ⟨T261, X261, e261, st261⟩ := getS X0 hx hZ hown (host := "") (hw _ (List.mem_of_getElem? (i := 27) rfl)) Via.refl e0 S93 (g := (mkF m 30 #[.val (.int p0), .val (.int p1), .val (.int (1 : Int32)), .unset, .unset, .unset, .unset, .unset, .unset, .unset, .unset, .unset] [])) rfl (hb hby at_30)
    refine Go.of (g' := (mkF m 33 #[.val (.int p0), .val (.int p1), .val (.int (1 : Int32)), .unset, .unset, .unset, .unset, .unset, .unset, .unset, .unset, .unset] [(.ref z2)])) st261 ?_
    have A262 := (⟨X261, hx, hby⟩ : Ax _ _ _ _ _ _ _ _ _ _ _ _ _ _ _)
    refine g_astoreN A262 at_33 rfl (ls' := #[.val (.int p0), .val (.int p1), .val (.int (1 : Int32)), .val (.ref z2), .unset, .unset, .unset, .unset, .unset, .unset, .unset, .unset]) rfl (pc' := 34) rfl ?_
    refine g_bipush A262 at_34 (v := (30 : Int32)) rfl (pc' := 36) rfl ?_
    refine g_istore A262 at_36 (ls' := #[.val (.int p0), .val (.int p1), .val (.int (1 : Int32)), .val (.ref z2), .val (.int (30 : Int32)), .unset, .unset, .unset, .unset, .unset, .unset, .unset]) rfl (pc' := 38) rfl ?_
    refine g_dconst1 A262 at_38 (pc' := 39) rfl ?_
    refine g_dstore A262 at_39 (ls' := #[.val (.int p0), .val (.int p1), .val (.int (1 : Int32)), .val (.ref z2), .val (.int (30 : Int32)), .val (.double (4607182418800017408 : UInt64)), .second, .unset, .unset, .unset, .unset, .unset]) rfl (pc' := 41) rfl ?_
    refine g_goto A262 at_41 (pc' := 95) rfl ?_
    refine g_aloadN A262 at_95 rfl rfl (pc' := 96) rfl ?_
    obtain ⟨cq264, kq264, q264a, q264b, q264c⟩ := isOf hZ e261 E94
    obtain ⟨_, _, ⟨T263, L263, k263, n263⟩, -, X263, ⟨L263c, hQ263, l263, y263, z263⟩, st263⟩ := X261.virtualBack hx (y := (⟨"com/example/tradewind/tradewind/benchmark/Zdt", "upper", "()[D"⟩ : MethodName)) (z := (⟨"com/example/tradewind/tradewind/benchmark/Zdt", "upper", "()[D"⟩ : MethodName)) hown (mvT hZ (hw _ (List.mem_of_getElem? (i := 4) rfl))) (mvT hZ (hw _ (List.mem_of_getElem? (i := 5) rfl))) (notFace_of_selects (args := #[]) (mvT hZ (hw _ (List.mem_of_getElem? (i := 7) rfl)))) (mvT hZ (hw _ (List.mem_of_getElem? (i := 7) rfl))) (mvT hZ (hw _ (List.mem_of_getElem? (i := 6) rfl))) (by decide) (backOf (W := 0) (rmB30 l Z a0 hw [] z2 (4607182418800017408 : UInt64) h0 n0 Z0 F95 F96) hZ (hw _ (List.mem_of_getElem? (i := 8) rfl)) (hw _ (List.mem_of_getElem? (i := 2) rfl)) (by decide) (by decide)) q264a q264c (g := (mkF m 96 #[.val (.int p0), .val (.int p1), .val (.int (1 : Int32)), .val (.ref z2), .val (.int (30 : Int32)), .val (.double (4607182418800017408 : UInt64)), .second, .unset, .unset, .unset, .unset, .unset] [(.ref z2)])) rfl (by rw [hml]; rfl) (Steps.refl _) (argsL := []) (rest := []) (lenOf pd_2 rfl) rfl (by show 2 * 0 + _ ≤ _; exact Nat.le_of_eq rfl) (hb hby at_96) (fun _ _ => ⟨rfl, e261, (by decide : 0 + 1 ≤ _), (by decide : 0 + 30 ≤ _)⟩)
    dsimp only [Pt.U, Pt.locs, Pt.cells, Pt.slots] at X263 l263 y263 z263 st263 hQ263
    subst l263 y263 z263
    obtain ⟨r265, rfl, Nq266, Kq267, gx268, V269⟩ := hQ263
    have N270 := Fr.app N0 Nq266
    refine Go.tr (g' := (mkF m 99 #[.val (.int p0), .val (.int p1), .val (.int (1 : Int32)), .val (.ref z2), .val (.int (30 : Int32)), .val (.double (4607182418800017408 : UInt64)), .second, .unset, .unset, .unset, .unset, .unset] [(.ref r265)])) st263 ?_
    have E271 : Exa Z T263.heap z1 "com/example/tradewind/tradewind/benchmark/Zdt" := Exa.keep E90 Kq267
    have F272 : Fld Z T263.heap z1 "com/example/tradewind/tradewind/benchmark/Zdt" "variables" "I" (.int (30 : Int32)) := Fld.keep F91 Kq267 nin0
    have F273 : Fld Z T263.heap z1 "com/example/tradewind/tradewind/benchmark/Zdt" "restUpper" "D" (.double (4607182418800017408 : UInt64)) := Fld.keep F92 Kq267 nin0
    have E274 : Exa Z T263.heap z2 "com/example/tradewind/tradewind/benchmark/Zdt" := Exa.keep E94 Kq267
    have F275 : Fld Z T263.heap z2 "com/example/tradewind/tradewind/benchmark/Zdt" "variables" "I" (.int (30 : Int32)) := Fld.keep F95 Kq267 nin0
    have F276 : Fld Z T263.heap z2 "com/example/tradewind/tradewind/benchmark/Zdt" "restUpper" "D" (.double (4607182418800017408 : UInt64)) := Fld.keep F96 Kq267 nin0
    have E277 : Exa Z T263.heap z3 "com/example/tradewind/tradewind/benchmark/Zdt" := Exa.keep E98 Kq267
    have F278 : Fld Z T263.heap z3 "com/example/tradewind/tradewind/benchmark/Zdt" "variables" "I" (.int (30 : Int32)) := Fld.keep F99 Kq267 nin0
    have F279 : Fld Z T263.heap z3 "com/example/tradewind/tradewind/benchmark/Zdt" "restUpper" "D" (.double (4607182418800017408 : UInt64)) := Fld.keep F100 Kq267 nin0
    have E280 : Exa Z T263.heap z4 "com/example/tradewind/tradewind/benchmark/Zdt" := Exa.keep E102 Kq267
    have F281 : Fld Z T263.heap z4 "com/example/tradewind/tradewind/benchmark/Zdt" "variables" "I" (.int (10 : Int32)) := Fld.keep F103 Kq267 nin0
    have F282 : Fld Z T263.heap z4 "com/example/tradewind/tradewind/benchmark/Zdt" "restUpper" "D" (.double (4617315517961601024 : UInt64)) := Fld.keep F104 Kq267 nin0
    have E283 : Exa Z T263.heap z6 "com/example/tradewind/tradewind/benchmark/Zdt" := Exa.keep E106 Kq267
    have F284 : Fld Z T263.heap z6 "com/example/tradewind/tradewind/benchmark/Zdt" "variables" "I" (.int (10 : Int32)) := Fld.keep F107 Kq267 nin0
    have F285 : Fld Z T263.heap z6 "com/example/tradewind/tradewind/benchmark/Zdt" "restUpper" "D" (.double (4607182418800017408 : UInt64)) := Fld.keep F108 Kq267 nin0
    have Z286 : n0 ≤ T263.heap.size := Nat.le_trans Z0 Kq267.1
    have K287 : Keep h0 T263.heap [] := (Keep.refl h0 []).trans Kq267 all0
    have A288 := (⟨X263, hx, hby⟩ : Ax _ _ _ _ _ _ _ _ _ _ _ _ _ _ _)
    have g289 : n0 ≤ r265 := Nat.le_trans Z0 gx268
    have gh290 : h0.size ≤ r265 := Nat.le_trans (Keep.refl h0 []).1 gx268
    have ne291 : z1 ≠ r265 := Nat.ne_of_lt (Nat.lt_of_lt_of_le E90.lt gx268)
    have ne292 : z2 ≠ r265 := Nat.ne_of_lt (Nat.lt_of_lt_of_le E94.lt gx268)
    have ne293 : z3 ≠ r265 := Nat.ne_of_lt (Nat.lt_of_lt_of_le E98.lt gx268)
    have ne294 : z4 ≠ r265 := Nat.ne_of_lt (Nat.lt_of_lt_of_le E102.lt gx268)
    have ne295 : z6 ≠ r265 := Nat.ne_of_lt (Nat.lt_of_lt_of_le E106.lt gx268)
    refine g_astore A288 at_99 rfl (ls' := #[.val (.int p0), .val (.int p1), .val (.int (1 : Int32)), .val (.ref z2), .val (.int (30 : Int32)), .val (.double (4607182418800017408 : UInt64)), .second, .val (.ref r265), .unset, .unset, .unset, .unset]) rfl (pc' := 101) rfl ?_
    refine g_aload A288 at_101 rfl rfl (pc' := 103) rfl ?_
    refine g_alen A288 hZ rfl V269 at_103 (z := (30 : Int32)) rfl (pc' := 104) rfl ?_
    refine g_iload A288 at_104 rfl (pc' := 106) rfl ?_
    refine g_icY A288 at_106 (c2_eq_t rfl) (pc' := 111) rfl ?_
    refine g_iloadN A288 at_111 rfl (pc' := 112) rfl ?_
    refine g_ldcI A288 hZ hown (hw _ (List.mem_of_getElem? (i := 0) rfl)) at_112 (pc' := 114) rfl ?_
    refine g_iand A288 at_114 (pc' := 115) rfl ?_
    refine g_iload A288 at_115 rfl (pc' := 117) rfl ?_
    refine g_irem A288 at_117 (by decide) (pc' := 118) rfl ?_
    obtain ⟨i296, hi297, hk298⟩ := own_mod p1 30 (by decide) (by decide)
    have hk299 : ((p1 &&& (2147483647 : Int32)) % (30 : Int32)) = Int32.ofNat i296 := hk298
    rw [hk299]
    refine g_istore A288 at_118 (ls' := #[.val (.int p0), .val (.int p1), .val (.int (1 : Int32)), .val (.ref z2), .val (.int (30 : Int32)), .val (.double (4607182418800017408 : UInt64)), .second, .val (.ref r265), .val (.int (Int32.ofNat i296)), .unset, .unset, .unset]) rfl (pc' := 120) rfl ?_
    refine g_iload A288 at_120 rfl (pc' := 122) rfl ?_
    by_cases hc300 : (Int32.ofNat i296) = 0
    · skip
      refine g_ifN A288 at_122 (c0_ne_f hc300) (pc' := 125) rfl ?_
      refine g_dconst1 A288 at_125 (pc' := 126) rfl ?_
      refine g_goto A288 at_126 (pc' := 131) rfl ?_
      refine g_dstore A288 at_131 (ls' := #[.val (.int p0), .val (.int p1), .val (.int (1 : Int32)), .val (.ref z2), .val (.int (30 : Int32)), .val (.double (4607182418800017408 : UInt64)), .second, .val (.ref r265), .val (.int (Int32.ofNat i296)), .val (.double (4607182418800017408 : UInt64)), .second, .unset]) rfl (pc' := 133) rfl ?_
      refine g_aload A288 at_133 rfl rfl (pc' := 135) rfl ?_
      refine g_iload A288 at_135 rfl (pc' := 137) rfl ?_
      refine g_daload A288 hZ rfl V269 (i := i296) hi297 rfl (x := (own_u (4607182418800017408 : UInt64) i296)) rfl at_137 (pc' := 138) rfl ?_
      refine g_dload A288 at_138 rfl (pc' := 140) rfl ?_
      refine g_dcmp A288 at_140 (pc' := 141) rfl ?_
      refine g_ifY A288 at_141 (d_l_eq_t (by rw [own_of0 (by omega) hc300]; decide +kernel)) (pc' := 146) rfl ?_
      refine g_aload A288 at_146 rfl rfl (pc' := 148) rfl ?_
      refine g_iconst A288 at_148 (v := (0 : Int32)) rfl (pc' := 149) rfl ?_
      refine g_daload A288 hZ rfl V269 (i := 0) (by decide) rfl (x := (own_u (4607182418800017408 : UInt64) 0)) rfl at_149 (pc' := 150) rfl ?_
      refine g_dconst1 A288 at_150 (pc' := 151) rfl ?_
      refine g_dcmp A288 at_151 (pc' := 152) rfl ?_
      refine g_ifY A288 at_152 (d_l_eq_t (by decide +kernel)) (pc' := 157) rfl ?_
      refine g_aload A288 at_157 rfl rfl (pc' := 159) rfl ?_
      refine g_iload A288 at_159 rfl (pc' := 161) rfl ?_
      refine g_iconst A288 at_161 (v := (1 : Int32)) rfl (pc' := 162) rfl ?_
      refine g_isub A288 at_162 (pc' := 163) rfl ?_
      refine g_daload A288 hZ rfl V269 (i := 29) (by decide) rfl (x := (own_u (4607182418800017408 : UInt64) 29)) rfl at_163 (pc' := 164) rfl ?_
      refine g_dload A288 at_164 rfl (pc' := 166) rfl ?_
      refine g_dcmp A288 at_166 (pc' := 167) rfl ?_
      refine g_ifY A288 at_167 (d_l_eq_t (by decide +kernel)) (pc' := 172) rfl ?_
      refine g_aload A288 at_172 rfl rfl (pc' := 174) rfl ?_
      refine g_iload A288 at_174 rfl (pc' := 176) rfl ?_
      refine g_ldcD A288 hZ hown (hw _ (List.mem_of_getElem? (i := 21) rfl)) at_176 (pc' := 179) rfl ?_
      obtain ⟨T301, h301, A301, e301, W301, st301⟩ := s_dastore A288 hZ rfl (ls := #[.val (.int p0), .val (.int p1), .val (.int (1 : Int32)), .val (.ref z2), .val (.int (30 : Int32)), .val (.double (4607182418800017408 : UInt64)), .second, .val (.ref r265), .val (.int (Int32.ofNat i296)), .val (.double (4607182418800017408 : UInt64)), .second, .unset]) (st := []) (x := (4619567317775286272 : UInt64)) V269 (i := i296) hi297 (j := (Int32.ofNat i296)) rfl at_179 (pc' := 180) rfl
      have N302 := Fr.snoc A301.1 N270 g289
      have K303 : Keep h0 h301 [] := K287.wr W301 (Or.inr gh290)
      have E304 : Exa Z h301 z1 "com/example/tradewind/tradewind/benchmark/Zdt" := Exa.wr W301 E271
      have F305 : Fld Z h301 z1 "com/example/tradewind/tradewind/benchmark/Zdt" "variables" "I" (.int (30 : Int32)) := Fld.other W301 F272 (Or.inl ne291)
      have F306 : Fld Z h301 z1 "com/example/tradewind/tradewind/benchmark/Zdt" "restUpper" "D" (.double (4607182418800017408 : UInt64)) := Fld.other W301 F273 (Or.inl ne291)
      have E307 : Exa Z h301 z2 "com/example/tradewind/tradewind/benchmark/Zdt" := Exa.wr W301 E274
      have F308 : Fld Z h301 z2 "com/example/tradewind/tradewind/benchmark/Zdt" "variables" "I" (.int (30 : Int32)) := Fld.other W301 F275 (Or.inl ne292)
      have F309 : Fld Z h301 z2 "com/example/tradewind/tradewind/benchmark/Zdt" "restUpper" "D" (.double (4607182418800017408 : UInt64)) := Fld.other W301 F276 (Or.inl ne292)
      have E310 : Exa Z h301 z3 "com/example/tradewind/tradewind/benchmark/Zdt" := Exa.wr W301 E277
      have F311 : Fld Z h301 z3 "com/example/tradewind/tradewind/benchmark/Zdt" "variables" "I" (.int (30 : Int32)) := Fld.other W301 F278 (Or.inl ne293)
      have F312 : Fld Z h301 z3 "com/example/tradewind/tradewind/benchmark/Zdt" "restUpper" "D" (.double (4607182418800017408 : UInt64)) := Fld.other W301 F279 (Or.inl ne293)
      have E313 : Exa Z h301 z4 "com/example/tradewind/tradewind/benchmark/Zdt" := Exa.wr W301 E280
      have F314 : Fld Z h301 z4 "com/example/tradewind/tradewind/benchmark/Zdt" "variables" "I" (.int (10 : Int32)) := Fld.other W301 F281 (Or.inl ne294)
      have F315 : Fld Z h301 z4 "com/example/tradewind/tradewind/benchmark/Zdt" "restUpper" "D" (.double (4617315517961601024 : UInt64)) := Fld.other W301 F282 (Or.inl ne294)
      have E316 : Exa Z h301 z6 "com/example/tradewind/tradewind/benchmark/Zdt" := Exa.wr W301 E283
      have F317 : Fld Z h301 z6 "com/example/tradewind/tradewind/benchmark/Zdt" "variables" "I" (.int (10 : Int32)) := Fld.other W301 F284 (Or.inl ne295)
      have F318 : Fld Z h301 z6 "com/example/tradewind/tradewind/benchmark/Zdt" "restUpper" "D" (.double (4607182418800017408 : UInt64)) := Fld.other W301 F285 (Or.inl ne295)
      have V319 : Dar Z h301 r265 .double 30 (fun j => if j = i296 then .double (4619567317775286272 : UInt64) else (fun j => .double (own_u (4607182418800017408 : UInt64) j)) j) := Dar.set V269 W301 (fun _ _ => rfl)
      have Z320 : n0 ≤ h301.size := by rw [W301.size]; exact Z286
      refine st301 ?_
      refine g_aloadN A301 at_180 rfl rfl (pc' := 181) rfl ?_
      obtain ⟨cq322, kq322, q322a, q322b, q322c⟩ := isOf hZ e301 E307
      obtain ⟨_, _, ⟨T321, L321, k321, n321⟩, -, X321, ⟨L321c, hQ321, l321, y321, z321⟩, st321⟩ := A301.1.virtualBack hx (y := (⟨"com/example/tradewind/tradewind/benchmark/Zdt", "upper", "()[D"⟩ : MethodName)) (z := (⟨"com/example/tradewind/tradewind/benchmark/Zdt", "upper", "()[D"⟩ : MethodName)) hown (mvT hZ (hw _ (List.mem_of_getElem? (i := 4) rfl))) (mvT hZ (hw _ (List.mem_of_getElem? (i := 5) rfl))) (notFace_of_selects (args := #[]) (mvT hZ (hw _ (List.mem_of_getElem? (i := 7) rfl)))) (mvT hZ (hw _ (List.mem_of_getElem? (i := 7) rfl))) (mvT hZ (hw _ (List.mem_of_getElem? (i := 6) rfl))) (by decide) (backOf (W := 0) (rmB30 l Z a0 hw [] z2 (4607182418800017408 : UInt64) h301 n0 Z320 F308 F309) hZ (hw _ (List.mem_of_getElem? (i := 8) rfl)) (hw _ (List.mem_of_getElem? (i := 2) rfl)) (by decide) (by decide)) q322a q322c (g := (mkF m 181 #[.val (.int p0), .val (.int p1), .val (.int (1 : Int32)), .val (.ref z2), .val (.int (30 : Int32)), .val (.double (4607182418800017408 : UInt64)), .second, .val (.ref r265), .val (.int (Int32.ofNat i296)), .val (.double (4607182418800017408 : UInt64)), .second, .unset] [(.ref z2)])) rfl (by rw [hml]; rfl) (Steps.refl _) (argsL := []) (rest := []) (lenOf pd_2 rfl) rfl (by show 2 * 0 + _ ≤ _; exact Nat.le_of_eq rfl) (hb hby at_181) (fun _ _ => ⟨rfl, e301, (by decide : 1 + 1 ≤ _), (by decide : 30 + 30 ≤ _)⟩)
      dsimp only [Pt.U, Pt.locs, Pt.cells, Pt.slots] at X321 l321 y321 z321 st321 hQ321
      subst l321 y321 z321
      obtain ⟨r323, rfl, Nq324, Kq325, gx326, V327⟩ := hQ321
      have N328 := Fr.app N302 Nq324
      refine Go.tr (g' := (mkF m 184 #[.val (.int p0), .val (.int p1), .val (.int (1 : Int32)), .val (.ref z2), .val (.int (30 : Int32)), .val (.double (4607182418800017408 : UInt64)), .second, .val (.ref r265), .val (.int (Int32.ofNat i296)), .val (.double (4607182418800017408 : UInt64)), .second, .unset] [(.ref r323)])) st321 ?_
      have E329 : Exa Z T321.heap z1 "com/example/tradewind/tradewind/benchmark/Zdt" := Exa.keep E304 Kq325
      have F330 : Fld Z T321.heap z1 "com/example/tradewind/tradewind/benchmark/Zdt" "variables" "I" (.int (30 : Int32)) := Fld.keep F305 Kq325 nin0
      have F331 : Fld Z T321.heap z1 "com/example/tradewind/tradewind/benchmark/Zdt" "restUpper" "D" (.double (4607182418800017408 : UInt64)) := Fld.keep F306 Kq325 nin0
      have E332 : Exa Z T321.heap z2 "com/example/tradewind/tradewind/benchmark/Zdt" := Exa.keep E307 Kq325
      have F333 : Fld Z T321.heap z2 "com/example/tradewind/tradewind/benchmark/Zdt" "variables" "I" (.int (30 : Int32)) := Fld.keep F308 Kq325 nin0
      have F334 : Fld Z T321.heap z2 "com/example/tradewind/tradewind/benchmark/Zdt" "restUpper" "D" (.double (4607182418800017408 : UInt64)) := Fld.keep F309 Kq325 nin0
      have E335 : Exa Z T321.heap z3 "com/example/tradewind/tradewind/benchmark/Zdt" := Exa.keep E310 Kq325
      have F336 : Fld Z T321.heap z3 "com/example/tradewind/tradewind/benchmark/Zdt" "variables" "I" (.int (30 : Int32)) := Fld.keep F311 Kq325 nin0
      have F337 : Fld Z T321.heap z3 "com/example/tradewind/tradewind/benchmark/Zdt" "restUpper" "D" (.double (4607182418800017408 : UInt64)) := Fld.keep F312 Kq325 nin0
      have E338 : Exa Z T321.heap z4 "com/example/tradewind/tradewind/benchmark/Zdt" := Exa.keep E313 Kq325
      have F339 : Fld Z T321.heap z4 "com/example/tradewind/tradewind/benchmark/Zdt" "variables" "I" (.int (10 : Int32)) := Fld.keep F314 Kq325 nin0
      have F340 : Fld Z T321.heap z4 "com/example/tradewind/tradewind/benchmark/Zdt" "restUpper" "D" (.double (4617315517961601024 : UInt64)) := Fld.keep F315 Kq325 nin0
      have E341 : Exa Z T321.heap z6 "com/example/tradewind/tradewind/benchmark/Zdt" := Exa.keep E316 Kq325
      have F342 : Fld Z T321.heap z6 "com/example/tradewind/tradewind/benchmark/Zdt" "variables" "I" (.int (10 : Int32)) := Fld.keep F317 Kq325 nin0
      have F343 : Fld Z T321.heap z6 "com/example/tradewind/tradewind/benchmark/Zdt" "restUpper" "D" (.double (4607182418800017408 : UInt64)) := Fld.keep F318 Kq325 nin0
      have V344 : Dar Z T321.heap r265 .double 30 (fun j => if j = i296 then .double (4619567317775286272 : UInt64) else (fun j => .double (own_u (4607182418800017408 : UInt64) j)) j) := Dar.keep V319 Kq325 nin0
      have Z345 : n0 ≤ T321.heap.size := Nat.le_trans Z320 Kq325.1
      have K346 : Keep h0 T321.heap [] := K303.trans Kq325 all0
      have A347 := (⟨X321, hx, hby⟩ : Ax _ _ _ _ _ _ _ _ _ _ _ _ _ _ _)
      have g348 : n0 ≤ r323 := Nat.le_trans Z320 gx326
      have gh349 : h0.size ≤ r323 := Nat.le_trans K303.1 gx326
      have ne350 : r265 ≠ r323 := Nat.ne_of_lt (Nat.lt_of_lt_of_le V319.lt gx326)
      have ne351 : z1 ≠ r323 := Nat.ne_of_lt (Nat.lt_of_lt_of_le E304.lt gx326)
      have ne352 : z2 ≠ r323 := Nat.ne_of_lt (Nat.lt_of_lt_of_le E307.lt gx326)
      have ne353 : z3 ≠ r323 := Nat.ne_of_lt (Nat.lt_of_lt_of_le E310.lt gx326)
      have ne354 : z4 ≠ r323 := Nat.ne_of_lt (Nat.lt_of_lt_of_le E313.lt gx326)
      have ne355 : z6 ≠ r323 := Nat.ne_of_lt (Nat.lt_of_lt_of_le E316.lt gx326)
      refine g_astore A347 at_184 rfl (ls' := #[.val (.int p0), .val (.int p1), .val (.int (1 : Int32)), .val (.ref z2), .val (.int (30 : Int32)), .val (.double (4607182418800017408 : UInt64)), .second, .val (.ref r265), .val (.int (Int32.ofNat i296)), .val (.double (4607182418800017408 : UInt64)), .second, .val (.ref r323)]) rfl (pc' := 186) rfl ?_
      refine g_aload A347 at_186 rfl rfl (pc' := 188) rfl ?_
      refine g_alen A347 hZ rfl V327 at_188 (z := (30 : Int32)) rfl (pc' := 189) rfl ?_
      refine g_iload A347 at_189 rfl (pc' := 191) rfl ?_
      refine g_icY A347 at_191 (c2_eq_t rfl) (pc' := 196) rfl ?_
      refine g_aload A347 at_196 rfl rfl (pc' := 198) rfl ?_
      refine g_iload A347 at_198 rfl (pc' := 200) rfl ?_
      refine g_daload A347 hZ rfl V327 (i := i296) hi297 rfl (x := (own_u (4607182418800017408 : UInt64) i296)) rfl at_200 (pc' := 201) rfl ?_
      refine g_dload A347 at_201 rfl (pc' := 203) rfl ?_
      refine g_dcmp A347 at_203 (pc' := 204) rfl ?_
      refine g_ifN A347 at_204 (d_l_ne_f (by rw [own_of0 (by omega) hc300]; decide +kernel)) (pc' := 207) rfl ?_
      refine g_iconst A347 at_207 (v := (1 : Int32)) rfl (pc' := 208) rfl ?_
      refine g_goto A347 at_208 (pc' := 212) rfl ?_
      exact g_ret (Q := Q0 Z p0 p1 z1 z2 z3 z4 z6 h0 n0) A347 at_212 Bd.notSynchronized Bd.returns rfl (Or.inl ⟨rfl, by simp, _, rfl⟩) (by decide) (by decide) ⟨rfl, N328⟩
    · skip
      refine g_ifY A288 at_122 (c0_ne_t hc300) (pc' := 129) rfl ?_
      refine g_dload A288 at_129 rfl (pc' := 131) rfl ?_
      refine g_dstore A288 at_131 (ls' := #[.val (.int p0), .val (.int p1), .val (.int (1 : Int32)), .val (.ref z2), .val (.int (30 : Int32)), .val (.double (4607182418800017408 : UInt64)), .second, .val (.ref r265), .val (.int (Int32.ofNat i296)), .val (.double (4607182418800017408 : UInt64)), .second, .unset]) rfl (pc' := 133) rfl ?_
      refine g_aload A288 at_133 rfl rfl (pc' := 135) rfl ?_
      refine g_iload A288 at_135 rfl (pc' := 137) rfl ?_
      refine g_daload A288 hZ rfl V269 (i := i296) hi297 rfl (x := (own_u (4607182418800017408 : UInt64) i296)) rfl at_137 (pc' := 138) rfl ?_
      refine g_dload A288 at_138 rfl (pc' := 140) rfl ?_
      refine g_dcmp A288 at_140 (pc' := 141) rfl ?_
      refine g_ifY A288 at_141 (d_l_eq_t (by rw [own_u, if_neg (fun q => hc300 (by rw [q]; rfl))]; decide +kernel)) (pc' := 146) rfl ?_
      refine g_aload A288 at_146 rfl rfl (pc' := 148) rfl ?_
      refine g_iconst A288 at_148 (v := (0 : Int32)) rfl (pc' := 149) rfl ?_
      refine g_daload A288 hZ rfl V269 (i := 0) (by decide) rfl (x := (own_u (4607182418800017408 : UInt64) 0)) rfl at_149 (pc' := 150) rfl ?_
      refine g_dconst1 A288 at_150 (pc' := 151) rfl ?_
      refine g_dcmp A288 at_151 (pc' := 152) rfl ?_
      refine g_ifY A288 at_152 (d_l_eq_t (by decide +kernel)) (pc' := 157) rfl ?_
      refine g_aload A288 at_157 rfl rfl (pc' := 159) rfl ?_
      refine g_iload A288 at_159 rfl (pc' := 161) rfl ?_
      refine g_iconst A288 at_161 (v := (1 : Int32)) rfl (pc' := 162) rfl ?_
      refine g_isub A288 at_162 (pc' := 163) rfl ?_
      refine g_daload A288 hZ rfl V269 (i := 29) (by decide) rfl (x := (own_u (4607182418800017408 : UInt64) 29)) rfl at_163 (pc' := 164) rfl ?_
      refine g_dload A288 at_164 rfl (pc' := 166) rfl ?_
      refine g_dcmp A288 at_166 (pc' := 167) rfl ?_
      refine g_ifY A288 at_167 (d_l_eq_t (by decide +kernel)) (pc' := 172) rfl ?_
      refine g_aload A288 at_172 rfl rfl (pc' := 174) rfl ?_
      refine g_iload A288 at_174 rfl (pc' := 176) rfl ?_
      refine g_ldcD A288 hZ hown (hw _ (List.mem_of_getElem? (i := 21) rfl)) at_176 (pc' := 179) rfl ?_
      obtain ⟨T356, h356, A356, e356, W356, st356⟩ := s_dastore A288 hZ rfl (ls := #[.val (.int p0), .val (.int p1), .val (.int (1 : Int32)), .val (.ref z2), .val (.int (30 : Int32)), .val (.double (4607182418800017408 : UInt64)), .second, .val (.ref r265), .val (.int (Int32.ofNat i296)), .val (.double (4607182418800017408 : UInt64)), .second, .unset]) (st := []) (x := (4619567317775286272 : UInt64)) V269 (i := i296) hi297 (j := (Int32.ofNat i296)) rfl at_179 (pc' := 180) rfl
      have N357 := Fr.snoc A356.1 N270 g289
      have K358 : Keep h0 h356 [] := K287.wr W356 (Or.inr gh290)
      have E359 : Exa Z h356 z1 "com/example/tradewind/tradewind/benchmark/Zdt" := Exa.wr W356 E271
      have F360 : Fld Z h356 z1 "com/example/tradewind/tradewind/benchmark/Zdt" "variables" "I" (.int (30 : Int32)) := Fld.other W356 F272 (Or.inl ne291)
      have F361 : Fld Z h356 z1 "com/example/tradewind/tradewind/benchmark/Zdt" "restUpper" "D" (.double (4607182418800017408 : UInt64)) := Fld.other W356 F273 (Or.inl ne291)
      have E362 : Exa Z h356 z2 "com/example/tradewind/tradewind/benchmark/Zdt" := Exa.wr W356 E274
      have F363 : Fld Z h356 z2 "com/example/tradewind/tradewind/benchmark/Zdt" "variables" "I" (.int (30 : Int32)) := Fld.other W356 F275 (Or.inl ne292)
      have F364 : Fld Z h356 z2 "com/example/tradewind/tradewind/benchmark/Zdt" "restUpper" "D" (.double (4607182418800017408 : UInt64)) := Fld.other W356 F276 (Or.inl ne292)
      have E365 : Exa Z h356 z3 "com/example/tradewind/tradewind/benchmark/Zdt" := Exa.wr W356 E277
      have F366 : Fld Z h356 z3 "com/example/tradewind/tradewind/benchmark/Zdt" "variables" "I" (.int (30 : Int32)) := Fld.other W356 F278 (Or.inl ne293)
      have F367 : Fld Z h356 z3 "com/example/tradewind/tradewind/benchmark/Zdt" "restUpper" "D" (.double (4607182418800017408 : UInt64)) := Fld.other W356 F279 (Or.inl ne293)
      have E368 : Exa Z h356 z4 "com/example/tradewind/tradewind/benchmark/Zdt" := Exa.wr W356 E280
      have F369 : Fld Z h356 z4 "com/example/tradewind/tradewind/benchmark/Zdt" "variables" "I" (.int (10 : Int32)) := Fld.other W356 F281 (Or.inl ne294)
      have F370 : Fld Z h356 z4 "com/example/tradewind/tradewind/benchmark/Zdt" "restUpper" "D" (.double (4617315517961601024 : UInt64)) := Fld.other W356 F282 (Or.inl ne294)
      have E371 : Exa Z h356 z6 "com/example/tradewind/tradewind/benchmark/Zdt" := Exa.wr W356 E283
      have F372 : Fld Z h356 z6 "com/example/tradewind/tradewind/benchmark/Zdt" "variables" "I" (.int (10 : Int32)) := Fld.other W356 F284 (Or.inl ne295)
      have F373 : Fld Z h356 z6 "com/example/tradewind/tradewind/benchmark/Zdt" "restUpper" "D" (.double (4607182418800017408 : UInt64)) := Fld.other W356 F285 (Or.inl ne295)
      have V374 : Dar Z h356 r265 .double 30 (fun j => if j = i296 then .double (4619567317775286272 : UInt64) else (fun j => .double (own_u (4607182418800017408 : UInt64) j)) j) := Dar.set V269 W356 (fun _ _ => rfl)
      have Z375 : n0 ≤ h356.size := by rw [W356.size]; exact Z286
      refine st356 ?_
      refine g_aloadN A356 at_180 rfl rfl (pc' := 181) rfl ?_
      obtain ⟨cq377, kq377, q377a, q377b, q377c⟩ := isOf hZ e356 E362
      obtain ⟨_, _, ⟨T376, L376, k376, n376⟩, -, X376, ⟨L376c, hQ376, l376, y376, z376⟩, st376⟩ := A356.1.virtualBack hx (y := (⟨"com/example/tradewind/tradewind/benchmark/Zdt", "upper", "()[D"⟩ : MethodName)) (z := (⟨"com/example/tradewind/tradewind/benchmark/Zdt", "upper", "()[D"⟩ : MethodName)) hown (mvT hZ (hw _ (List.mem_of_getElem? (i := 4) rfl))) (mvT hZ (hw _ (List.mem_of_getElem? (i := 5) rfl))) (notFace_of_selects (args := #[]) (mvT hZ (hw _ (List.mem_of_getElem? (i := 7) rfl)))) (mvT hZ (hw _ (List.mem_of_getElem? (i := 7) rfl))) (mvT hZ (hw _ (List.mem_of_getElem? (i := 6) rfl))) (by decide) (backOf (W := 0) (rmB30 l Z a0 hw [] z2 (4607182418800017408 : UInt64) h356 n0 Z375 F363 F364) hZ (hw _ (List.mem_of_getElem? (i := 8) rfl)) (hw _ (List.mem_of_getElem? (i := 2) rfl)) (by decide) (by decide)) q377a q377c (g := (mkF m 181 #[.val (.int p0), .val (.int p1), .val (.int (1 : Int32)), .val (.ref z2), .val (.int (30 : Int32)), .val (.double (4607182418800017408 : UInt64)), .second, .val (.ref r265), .val (.int (Int32.ofNat i296)), .val (.double (4607182418800017408 : UInt64)), .second, .unset] [(.ref z2)])) rfl (by rw [hml]; rfl) (Steps.refl _) (argsL := []) (rest := []) (lenOf pd_2 rfl) rfl (by show 2 * 0 + _ ≤ _; exact Nat.le_of_eq rfl) (hb hby at_181) (fun _ _ => ⟨rfl, e356, (by decide : 1 + 1 ≤ _), (by decide : 30 + 30 ≤ _)⟩)
      dsimp only [Pt.U, Pt.locs, Pt.cells, Pt.slots] at X376 l376 y376 z376 st376 hQ376
      subst l376 y376 z376
      obtain ⟨r378, rfl, Nq379, Kq380, gx381, V382⟩ := hQ376
      have N383 := Fr.app N357 Nq379
      refine Go.tr (g' := (mkF m 184 #[.val (.int p0), .val (.int p1), .val (.int (1 : Int32)), .val (.ref z2), .val (.int (30 : Int32)), .val (.double (4607182418800017408 : UInt64)), .second, .val (.ref r265), .val (.int (Int32.ofNat i296)), .val (.double (4607182418800017408 : UInt64)), .second, .unset] [(.ref r378)])) st376 ?_
      have E384 : Exa Z T376.heap z1 "com/example/tradewind/tradewind/benchmark/Zdt" := Exa.keep E359 Kq380
      have F385 : Fld Z T376.heap z1 "com/example/tradewind/tradewind/benchmark/Zdt" "variables" "I" (.int (30 : Int32)) := Fld.keep F360 Kq380 nin0
      have F386 : Fld Z T376.heap z1 "com/example/tradewind/tradewind/benchmark/Zdt" "restUpper" "D" (.double (4607182418800017408 : UInt64)) := Fld.keep F361 Kq380 nin0
      have E387 : Exa Z T376.heap z2 "com/example/tradewind/tradewind/benchmark/Zdt" := Exa.keep E362 Kq380
      have F388 : Fld Z T376.heap z2 "com/example/tradewind/tradewind/benchmark/Zdt" "variables" "I" (.int (30 : Int32)) := Fld.keep F363 Kq380 nin0
      have F389 : Fld Z T376.heap z2 "com/example/tradewind/tradewind/benchmark/Zdt" "restUpper" "D" (.double (4607182418800017408 : UInt64)) := Fld.keep F364 Kq380 nin0
      have E390 : Exa Z T376.heap z3 "com/example/tradewind/tradewind/benchmark/Zdt" := Exa.keep E365 Kq380
      have F391 : Fld Z T376.heap z3 "com/example/tradewind/tradewind/benchmark/Zdt" "variables" "I" (.int (30 : Int32)) := Fld.keep F366 Kq380 nin0
      have F392 : Fld Z T376.heap z3 "com/example/tradewind/tradewind/benchmark/Zdt" "restUpper" "D" (.double (4607182418800017408 : UInt64)) := Fld.keep F367 Kq380 nin0
      have E393 : Exa Z T376.heap z4 "com/example/tradewind/tradewind/benchmark/Zdt" := Exa.keep E368 Kq380
      have F394 : Fld Z T376.heap z4 "com/example/tradewind/tradewind/benchmark/Zdt" "variables" "I" (.int (10 : Int32)) := Fld.keep F369 Kq380 nin0
      have F395 : Fld Z T376.heap z4 "com/example/tradewind/tradewind/benchmark/Zdt" "restUpper" "D" (.double (4617315517961601024 : UInt64)) := Fld.keep F370 Kq380 nin0
      have E396 : Exa Z T376.heap z6 "com/example/tradewind/tradewind/benchmark/Zdt" := Exa.keep E371 Kq380
      have F397 : Fld Z T376.heap z6 "com/example/tradewind/tradewind/benchmark/Zdt" "variables" "I" (.int (10 : Int32)) := Fld.keep F372 Kq380 nin0
      have F398 : Fld Z T376.heap z6 "com/example/tradewind/tradewind/benchmark/Zdt" "restUpper" "D" (.double (4607182418800017408 : UInt64)) := Fld.keep F373 Kq380 nin0
      have V399 : Dar Z T376.heap r265 .double 30 (fun j => if j = i296 then .double (4619567317775286272 : UInt64) else (fun j => .double (own_u (4607182418800017408 : UInt64) j)) j) := Dar.keep V374 Kq380 nin0
      have Z400 : n0 ≤ T376.heap.size := Nat.le_trans Z375 Kq380.1
      have K401 : Keep h0 T376.heap [] := K358.trans Kq380 all0
      have A402 := (⟨X376, hx, hby⟩ : Ax _ _ _ _ _ _ _ _ _ _ _ _ _ _ _)
      have g403 : n0 ≤ r378 := Nat.le_trans Z375 gx381
      have gh404 : h0.size ≤ r378 := Nat.le_trans K358.1 gx381
      have ne405 : r265 ≠ r378 := Nat.ne_of_lt (Nat.lt_of_lt_of_le V374.lt gx381)
      have ne406 : z1 ≠ r378 := Nat.ne_of_lt (Nat.lt_of_lt_of_le E359.lt gx381)
      have ne407 : z2 ≠ r378 := Nat.ne_of_lt (Nat.lt_of_lt_of_le E362.lt gx381)
      have ne408 : z3 ≠ r378 := Nat.ne_of_lt (Nat.lt_of_lt_of_le E365.lt gx381)
      have ne409 : z4 ≠ r378 := Nat.ne_of_lt (Nat.lt_of_lt_of_le E368.lt gx381)
      have ne410 : z6 ≠ r378 := Nat.ne_of_lt (Nat.lt_of_lt_of_le E371.lt gx381)
      refine g_astore A402 at_184 rfl (ls' := #[.val (.int p0), .val (.int p1), .val (.int (1 : Int32)), .val (.ref z2), .val (.int (30 : Int32)), .val (.double (4607182418800017408 : UInt64)), .second, .val (.ref r265), .val (.int (Int32.ofNat i296)), .val (.double (4607182418800017408 : UInt64)), .second, .val (.ref r378)]) rfl (pc' := 186) rfl ?_
      refine g_aload A402 at_186 rfl rfl (pc' := 188) rfl ?_
      refine g_alen A402 hZ rfl V382 at_188 (z := (30 : Int32)) rfl (pc' := 189) rfl ?_
      refine g_iload A402 at_189 rfl (pc' := 191) rfl ?_
      refine g_icY A402 at_191 (c2_eq_t rfl) (pc' := 196) rfl ?_
      refine g_aload A402 at_196 rfl rfl (pc' := 198) rfl ?_
      refine g_iload A402 at_198 rfl (pc' := 200) rfl ?_
      refine g_daload A402 hZ rfl V382 (i := i296) hi297 rfl (x := (own_u (4607182418800017408 : UInt64) i296)) rfl at_200 (pc' := 201) rfl ?_
      refine g_dload A402 at_201 rfl (pc' := 203) rfl ?_
      refine g_dcmp A402 at_203 (pc' := 204) rfl ?_
      refine g_ifN A402 at_204 (d_l_ne_f (by rw [own_u, if_neg (fun q => hc300 (by rw [q]; rfl))]; decide +kernel)) (pc' := 207) rfl ?_
      refine g_iconst A402 at_207 (v := (1 : Int32)) rfl (pc' := 208) rfl ?_
      refine g_goto A402 at_208 (pc' := 212) rfl ?_
      exact g_ret (Q := Q0 Z p0 p1 z1 z2 z3 z4 z6 h0 n0) A402 at_212 Bd.notSynchronized Bd.returns rfl (Or.inl ⟨rfl, by simp, _, rfl⟩) (by decide) (by decide) ⟨rfl, N383⟩
  · skip
    rw [hg110]
    refine g_istoreN A0 at_6 (ls' := #[.val (.int p0), .val (.int p1), .val (.int (2 : Int32)), .unset, .unset, .unset, .unset, .unset, .unset, .unset, .unset, .unset]) rfl (pc' := 7) rfl ?_
    refine g_iloadN A0 at_7 rfl (pc' := 8) rfl ?_
    refine g_ifY A0 at_8 (c0_ne_t (by decide)) (pc' := 25) rfl ?_
    refine g_iloadN A0 at_25 rfl (pc' := 26) rfl ?_
    refine g_iconst A0 at_26 (v := (1 : Int32)) rfl (pc' := 27) rfl ?_
    refine g_icY A0 at_27 (c2_ne_t (by decide)) (pc' := 44) rfl ?_
    refine g_iloadN A0 at_44 rfl (pc' := 45) rfl ?_
    refine g_iconst A0 at_45 (v := (2 : Int32)) rfl (pc' := 46) rfl ?_
    refine g_icN A0 at_46 (c2_ne_f rfl) (pc' := 49) rfl ?_
    obtain ⟨T411, X411, e411, st411⟩ := getS X0 hx hZ hown (host := "") (hw _ (List.mem_of_getElem? (i := 29) rfl)) Via.refl e0 S97 (g := (mkF m 49 #[.val (.int p0), .val (.int p1), .val (.int (2 : Int32)), .unset, .unset, .unset, .unset, .unset, .unset, .unset, .unset, .unset] [])) rfl (hb hby at_49)
    refine Go.of (g' := (mkF m 52 #[.val (.int p0), .val (.int p1), .val (.int (2 : Int32)), .unset, .unset, .unset, .unset, .unset, .unset, .unset, .unset, .unset] [(.ref z3)])) st411 ?_
    have A412 := (⟨X411, hx, hby⟩ : Ax _ _ _ _ _ _ _ _ _ _ _ _ _ _ _)
    refine g_astoreN A412 at_52 rfl (ls' := #[.val (.int p0), .val (.int p1), .val (.int (2 : Int32)), .val (.ref z3), .unset, .unset, .unset, .unset, .unset, .unset, .unset, .unset]) rfl (pc' := 53) rfl ?_
    refine g_bipush A412 at_53 (v := (30 : Int32)) rfl (pc' := 55) rfl ?_
    refine g_istore A412 at_55 (ls' := #[.val (.int p0), .val (.int p1), .val (.int (2 : Int32)), .val (.ref z3), .val (.int (30 : Int32)), .unset, .unset, .unset, .unset, .unset, .unset, .unset]) rfl (pc' := 57) rfl ?_
    refine g_dconst1 A412 at_57 (pc' := 58) rfl ?_
    refine g_dstore A412 at_58 (ls' := #[.val (.int p0), .val (.int p1), .val (.int (2 : Int32)), .val (.ref z3), .val (.int (30 : Int32)), .val (.double (4607182418800017408 : UInt64)), .second, .unset, .unset, .unset, .unset, .unset]) rfl (pc' := 60) rfl ?_
    refine g_goto A412 at_60 (pc' := 95) rfl ?_
    refine g_aloadN A412 at_95 rfl rfl (pc' := 96) rfl ?_
    obtain ⟨cq414, kq414, q414a, q414b, q414c⟩ := isOf hZ e411 E98
    obtain ⟨_, _, ⟨T413, L413, k413, n413⟩, -, X413, ⟨L413c, hQ413, l413, y413, z413⟩, st413⟩ := X411.virtualBack hx (y := (⟨"com/example/tradewind/tradewind/benchmark/Zdt", "upper", "()[D"⟩ : MethodName)) (z := (⟨"com/example/tradewind/tradewind/benchmark/Zdt", "upper", "()[D"⟩ : MethodName)) hown (mvT hZ (hw _ (List.mem_of_getElem? (i := 4) rfl))) (mvT hZ (hw _ (List.mem_of_getElem? (i := 5) rfl))) (notFace_of_selects (args := #[]) (mvT hZ (hw _ (List.mem_of_getElem? (i := 7) rfl)))) (mvT hZ (hw _ (List.mem_of_getElem? (i := 7) rfl))) (mvT hZ (hw _ (List.mem_of_getElem? (i := 6) rfl))) (by decide) (backOf (W := 0) (rmB30 l Z a0 hw [] z3 (4607182418800017408 : UInt64) h0 n0 Z0 F99 F100) hZ (hw _ (List.mem_of_getElem? (i := 8) rfl)) (hw _ (List.mem_of_getElem? (i := 2) rfl)) (by decide) (by decide)) q414a q414c (g := (mkF m 96 #[.val (.int p0), .val (.int p1), .val (.int (2 : Int32)), .val (.ref z3), .val (.int (30 : Int32)), .val (.double (4607182418800017408 : UInt64)), .second, .unset, .unset, .unset, .unset, .unset] [(.ref z3)])) rfl (by rw [hml]; rfl) (Steps.refl _) (argsL := []) (rest := []) (lenOf pd_2 rfl) rfl (by show 2 * 0 + _ ≤ _; exact Nat.le_of_eq rfl) (hb hby at_96) (fun _ _ => ⟨rfl, e411, (by decide : 0 + 1 ≤ _), (by decide : 0 + 30 ≤ _)⟩)
    dsimp only [Pt.U, Pt.locs, Pt.cells, Pt.slots] at X413 l413 y413 z413 st413 hQ413
    subst l413 y413 z413
    obtain ⟨r415, rfl, Nq416, Kq417, gx418, V419⟩ := hQ413
    have N420 := Fr.app N0 Nq416
    refine Go.tr (g' := (mkF m 99 #[.val (.int p0), .val (.int p1), .val (.int (2 : Int32)), .val (.ref z3), .val (.int (30 : Int32)), .val (.double (4607182418800017408 : UInt64)), .second, .unset, .unset, .unset, .unset, .unset] [(.ref r415)])) st413 ?_
    have E421 : Exa Z T413.heap z1 "com/example/tradewind/tradewind/benchmark/Zdt" := Exa.keep E90 Kq417
    have F422 : Fld Z T413.heap z1 "com/example/tradewind/tradewind/benchmark/Zdt" "variables" "I" (.int (30 : Int32)) := Fld.keep F91 Kq417 nin0
    have F423 : Fld Z T413.heap z1 "com/example/tradewind/tradewind/benchmark/Zdt" "restUpper" "D" (.double (4607182418800017408 : UInt64)) := Fld.keep F92 Kq417 nin0
    have E424 : Exa Z T413.heap z2 "com/example/tradewind/tradewind/benchmark/Zdt" := Exa.keep E94 Kq417
    have F425 : Fld Z T413.heap z2 "com/example/tradewind/tradewind/benchmark/Zdt" "variables" "I" (.int (30 : Int32)) := Fld.keep F95 Kq417 nin0
    have F426 : Fld Z T413.heap z2 "com/example/tradewind/tradewind/benchmark/Zdt" "restUpper" "D" (.double (4607182418800017408 : UInt64)) := Fld.keep F96 Kq417 nin0
    have E427 : Exa Z T413.heap z3 "com/example/tradewind/tradewind/benchmark/Zdt" := Exa.keep E98 Kq417
    have F428 : Fld Z T413.heap z3 "com/example/tradewind/tradewind/benchmark/Zdt" "variables" "I" (.int (30 : Int32)) := Fld.keep F99 Kq417 nin0
    have F429 : Fld Z T413.heap z3 "com/example/tradewind/tradewind/benchmark/Zdt" "restUpper" "D" (.double (4607182418800017408 : UInt64)) := Fld.keep F100 Kq417 nin0
    have E430 : Exa Z T413.heap z4 "com/example/tradewind/tradewind/benchmark/Zdt" := Exa.keep E102 Kq417
    have F431 : Fld Z T413.heap z4 "com/example/tradewind/tradewind/benchmark/Zdt" "variables" "I" (.int (10 : Int32)) := Fld.keep F103 Kq417 nin0
    have F432 : Fld Z T413.heap z4 "com/example/tradewind/tradewind/benchmark/Zdt" "restUpper" "D" (.double (4617315517961601024 : UInt64)) := Fld.keep F104 Kq417 nin0
    have E433 : Exa Z T413.heap z6 "com/example/tradewind/tradewind/benchmark/Zdt" := Exa.keep E106 Kq417
    have F434 : Fld Z T413.heap z6 "com/example/tradewind/tradewind/benchmark/Zdt" "variables" "I" (.int (10 : Int32)) := Fld.keep F107 Kq417 nin0
    have F435 : Fld Z T413.heap z6 "com/example/tradewind/tradewind/benchmark/Zdt" "restUpper" "D" (.double (4607182418800017408 : UInt64)) := Fld.keep F108 Kq417 nin0
    have Z436 : n0 ≤ T413.heap.size := Nat.le_trans Z0 Kq417.1
    have K437 : Keep h0 T413.heap [] := (Keep.refl h0 []).trans Kq417 all0
    have A438 := (⟨X413, hx, hby⟩ : Ax _ _ _ _ _ _ _ _ _ _ _ _ _ _ _)
    have g439 : n0 ≤ r415 := Nat.le_trans Z0 gx418
    have gh440 : h0.size ≤ r415 := Nat.le_trans (Keep.refl h0 []).1 gx418
    have ne441 : z1 ≠ r415 := Nat.ne_of_lt (Nat.lt_of_lt_of_le E90.lt gx418)
    have ne442 : z2 ≠ r415 := Nat.ne_of_lt (Nat.lt_of_lt_of_le E94.lt gx418)
    have ne443 : z3 ≠ r415 := Nat.ne_of_lt (Nat.lt_of_lt_of_le E98.lt gx418)
    have ne444 : z4 ≠ r415 := Nat.ne_of_lt (Nat.lt_of_lt_of_le E102.lt gx418)
    have ne445 : z6 ≠ r415 := Nat.ne_of_lt (Nat.lt_of_lt_of_le E106.lt gx418)
    refine g_astore A438 at_99 rfl (ls' := #[.val (.int p0), .val (.int p1), .val (.int (2 : Int32)), .val (.ref z3), .val (.int (30 : Int32)), .val (.double (4607182418800017408 : UInt64)), .second, .val (.ref r415), .unset, .unset, .unset, .unset]) rfl (pc' := 101) rfl ?_
    refine g_aload A438 at_101 rfl rfl (pc' := 103) rfl ?_
    refine g_alen A438 hZ rfl V419 at_103 (z := (30 : Int32)) rfl (pc' := 104) rfl ?_
    refine g_iload A438 at_104 rfl (pc' := 106) rfl ?_
    refine g_icY A438 at_106 (c2_eq_t rfl) (pc' := 111) rfl ?_
    refine g_iloadN A438 at_111 rfl (pc' := 112) rfl ?_
    refine g_ldcI A438 hZ hown (hw _ (List.mem_of_getElem? (i := 0) rfl)) at_112 (pc' := 114) rfl ?_
    refine g_iand A438 at_114 (pc' := 115) rfl ?_
    refine g_iload A438 at_115 rfl (pc' := 117) rfl ?_
    refine g_irem A438 at_117 (by decide) (pc' := 118) rfl ?_
    obtain ⟨i446, hi447, hk448⟩ := own_mod p1 30 (by decide) (by decide)
    have hk449 : ((p1 &&& (2147483647 : Int32)) % (30 : Int32)) = Int32.ofNat i446 := hk448
    rw [hk449]
    refine g_istore A438 at_118 (ls' := #[.val (.int p0), .val (.int p1), .val (.int (2 : Int32)), .val (.ref z3), .val (.int (30 : Int32)), .val (.double (4607182418800017408 : UInt64)), .second, .val (.ref r415), .val (.int (Int32.ofNat i446)), .unset, .unset, .unset]) rfl (pc' := 120) rfl ?_
    refine g_iload A438 at_120 rfl (pc' := 122) rfl ?_
    by_cases hc450 : (Int32.ofNat i446) = 0
    · skip
      refine g_ifN A438 at_122 (c0_ne_f hc450) (pc' := 125) rfl ?_
      refine g_dconst1 A438 at_125 (pc' := 126) rfl ?_
      refine g_goto A438 at_126 (pc' := 131) rfl ?_
      refine g_dstore A438 at_131 (ls' := #[.val (.int p0), .val (.int p1), .val (.int (2 : Int32)), .val (.ref z3), .val (.int (30 : Int32)), .val (.double (4607182418800017408 : UInt64)), .second, .val (.ref r415), .val (.int (Int32.ofNat i446)), .val (.double (4607182418800017408 : UInt64)), .second, .unset]) rfl (pc' := 133) rfl ?_
      refine g_aload A438 at_133 rfl rfl (pc' := 135) rfl ?_
      refine g_iload A438 at_135 rfl (pc' := 137) rfl ?_
      refine g_daload A438 hZ rfl V419 (i := i446) hi447 rfl (x := (own_u (4607182418800017408 : UInt64) i446)) rfl at_137 (pc' := 138) rfl ?_
      refine g_dload A438 at_138 rfl (pc' := 140) rfl ?_
      refine g_dcmp A438 at_140 (pc' := 141) rfl ?_
      refine g_ifY A438 at_141 (d_l_eq_t (by rw [own_of0 (by omega) hc450]; decide +kernel)) (pc' := 146) rfl ?_
      refine g_aload A438 at_146 rfl rfl (pc' := 148) rfl ?_
      refine g_iconst A438 at_148 (v := (0 : Int32)) rfl (pc' := 149) rfl ?_
      refine g_daload A438 hZ rfl V419 (i := 0) (by decide) rfl (x := (own_u (4607182418800017408 : UInt64) 0)) rfl at_149 (pc' := 150) rfl ?_
      refine g_dconst1 A438 at_150 (pc' := 151) rfl ?_
      refine g_dcmp A438 at_151 (pc' := 152) rfl ?_
      refine g_ifY A438 at_152 (d_l_eq_t (by decide +kernel)) (pc' := 157) rfl ?_
      refine g_aload A438 at_157 rfl rfl (pc' := 159) rfl ?_
      refine g_iload A438 at_159 rfl (pc' := 161) rfl ?_
      refine g_iconst A438 at_161 (v := (1 : Int32)) rfl (pc' := 162) rfl ?_
      refine g_isub A438 at_162 (pc' := 163) rfl ?_
      refine g_daload A438 hZ rfl V419 (i := 29) (by decide) rfl (x := (own_u (4607182418800017408 : UInt64) 29)) rfl at_163 (pc' := 164) rfl ?_
      refine g_dload A438 at_164 rfl (pc' := 166) rfl ?_
      refine g_dcmp A438 at_166 (pc' := 167) rfl ?_
      refine g_ifY A438 at_167 (d_l_eq_t (by decide +kernel)) (pc' := 172) rfl ?_
      refine g_aload A438 at_172 rfl rfl (pc' := 174) rfl ?_
      refine g_iload A438 at_174 rfl (pc' := 176) rfl ?_
      refine g_ldcD A438 hZ hown (hw _ (List.mem_of_getElem? (i := 21) rfl)) at_176 (pc' := 179) rfl ?_
      obtain ⟨T451, h451, A451, e451, W451, st451⟩ := s_dastore A438 hZ rfl (ls := #[.val (.int p0), .val (.int p1), .val (.int (2 : Int32)), .val (.ref z3), .val (.int (30 : Int32)), .val (.double (4607182418800017408 : UInt64)), .second, .val (.ref r415), .val (.int (Int32.ofNat i446)), .val (.double (4607182418800017408 : UInt64)), .second, .unset]) (st := []) (x := (4619567317775286272 : UInt64)) V419 (i := i446) hi447 (j := (Int32.ofNat i446)) rfl at_179 (pc' := 180) rfl
      have N452 := Fr.snoc A451.1 N420 g439
      have K453 : Keep h0 h451 [] := K437.wr W451 (Or.inr gh440)
      have E454 : Exa Z h451 z1 "com/example/tradewind/tradewind/benchmark/Zdt" := Exa.wr W451 E421
      have F455 : Fld Z h451 z1 "com/example/tradewind/tradewind/benchmark/Zdt" "variables" "I" (.int (30 : Int32)) := Fld.other W451 F422 (Or.inl ne441)
      have F456 : Fld Z h451 z1 "com/example/tradewind/tradewind/benchmark/Zdt" "restUpper" "D" (.double (4607182418800017408 : UInt64)) := Fld.other W451 F423 (Or.inl ne441)
      have E457 : Exa Z h451 z2 "com/example/tradewind/tradewind/benchmark/Zdt" := Exa.wr W451 E424
      have F458 : Fld Z h451 z2 "com/example/tradewind/tradewind/benchmark/Zdt" "variables" "I" (.int (30 : Int32)) := Fld.other W451 F425 (Or.inl ne442)
      have F459 : Fld Z h451 z2 "com/example/tradewind/tradewind/benchmark/Zdt" "restUpper" "D" (.double (4607182418800017408 : UInt64)) := Fld.other W451 F426 (Or.inl ne442)
      have E460 : Exa Z h451 z3 "com/example/tradewind/tradewind/benchmark/Zdt" := Exa.wr W451 E427
      have F461 : Fld Z h451 z3 "com/example/tradewind/tradewind/benchmark/Zdt" "variables" "I" (.int (30 : Int32)) := Fld.other W451 F428 (Or.inl ne443)
      have F462 : Fld Z h451 z3 "com/example/tradewind/tradewind/benchmark/Zdt" "restUpper" "D" (.double (4607182418800017408 : UInt64)) := Fld.other W451 F429 (Or.inl ne443)
      have E463 : Exa Z h451 z4 "com/example/tradewind/tradewind/benchmark/Zdt" := Exa.wr W451 E430
      have F464 : Fld Z h451 z4 "com/example/tradewind/tradewind/benchmark/Zdt" "variables" "I" (.int (10 : Int32)) := Fld.other W451 F431 (Or.inl ne444)
      have F465 : Fld Z h451 z4 "com/example/tradewind/tradewind/benchmark/Zdt" "restUpper" "D" (.double (4617315517961601024 : UInt64)) := Fld.other W451 F432 (Or.inl ne444)
      have E466 : Exa Z h451 z6 "com/example/tradewind/tradewind/benchmark/Zdt" := Exa.wr W451 E433
      have F467 : Fld Z h451 z6 "com/example/tradewind/tradewind/benchmark/Zdt" "variables" "I" (.int (10 : Int32)) := Fld.other W451 F434 (Or.inl ne445)
      have F468 : Fld Z h451 z6 "com/example/tradewind/tradewind/benchmark/Zdt" "restUpper" "D" (.double (4607182418800017408 : UInt64)) := Fld.other W451 F435 (Or.inl ne445)
      have V469 : Dar Z h451 r415 .double 30 (fun j => if j = i446 then .double (4619567317775286272 : UInt64) else (fun j => .double (own_u (4607182418800017408 : UInt64) j)) j) := Dar.set V419 W451 (fun _ _ => rfl)
      have Z470 : n0 ≤ h451.size := by rw [W451.size]; exact Z436
      refine st451 ?_
      refine g_aloadN A451 at_180 rfl rfl (pc' := 181) rfl ?_
      obtain ⟨cq472, kq472, q472a, q472b, q472c⟩ := isOf hZ e451 E460
      obtain ⟨_, _, ⟨T471, L471, k471, n471⟩, -, X471, ⟨L471c, hQ471, l471, y471, z471⟩, st471⟩ := A451.1.virtualBack hx (y := (⟨"com/example/tradewind/tradewind/benchmark/Zdt", "upper", "()[D"⟩ : MethodName)) (z := (⟨"com/example/tradewind/tradewind/benchmark/Zdt", "upper", "()[D"⟩ : MethodName)) hown (mvT hZ (hw _ (List.mem_of_getElem? (i := 4) rfl))) (mvT hZ (hw _ (List.mem_of_getElem? (i := 5) rfl))) (notFace_of_selects (args := #[]) (mvT hZ (hw _ (List.mem_of_getElem? (i := 7) rfl)))) (mvT hZ (hw _ (List.mem_of_getElem? (i := 7) rfl))) (mvT hZ (hw _ (List.mem_of_getElem? (i := 6) rfl))) (by decide) (backOf (W := 0) (rmB30 l Z a0 hw [] z3 (4607182418800017408 : UInt64) h451 n0 Z470 F461 F462) hZ (hw _ (List.mem_of_getElem? (i := 8) rfl)) (hw _ (List.mem_of_getElem? (i := 2) rfl)) (by decide) (by decide)) q472a q472c (g := (mkF m 181 #[.val (.int p0), .val (.int p1), .val (.int (2 : Int32)), .val (.ref z3), .val (.int (30 : Int32)), .val (.double (4607182418800017408 : UInt64)), .second, .val (.ref r415), .val (.int (Int32.ofNat i446)), .val (.double (4607182418800017408 : UInt64)), .second, .unset] [(.ref z3)])) rfl (by rw [hml]; rfl) (Steps.refl _) (argsL := []) (rest := []) (lenOf pd_2 rfl) rfl (by show 2 * 0 + _ ≤ _; exact Nat.le_of_eq rfl) (hb hby at_181) (fun _ _ => ⟨rfl, e451, (by decide : 1 + 1 ≤ _), (by decide : 30 + 30 ≤ _)⟩)
      dsimp only [Pt.U, Pt.locs, Pt.cells, Pt.slots] at X471 l471 y471 z471 st471 hQ471
      subst l471 y471 z471
      obtain ⟨r473, rfl, Nq474, Kq475, gx476, V477⟩ := hQ471
      have N478 := Fr.app N452 Nq474
      refine Go.tr (g' := (mkF m 184 #[.val (.int p0), .val (.int p1), .val (.int (2 : Int32)), .val (.ref z3), .val (.int (30 : Int32)), .val (.double (4607182418800017408 : UInt64)), .second, .val (.ref r415), .val (.int (Int32.ofNat i446)), .val (.double (4607182418800017408 : UInt64)), .second, .unset] [(.ref r473)])) st471 ?_
      have E479 : Exa Z T471.heap z1 "com/example/tradewind/tradewind/benchmark/Zdt" := Exa.keep E454 Kq475
      have F480 : Fld Z T471.heap z1 "com/example/tradewind/tradewind/benchmark/Zdt" "variables" "I" (.int (30 : Int32)) := Fld.keep F455 Kq475 nin0
      have F481 : Fld Z T471.heap z1 "com/example/tradewind/tradewind/benchmark/Zdt" "restUpper" "D" (.double (4607182418800017408 : UInt64)) := Fld.keep F456 Kq475 nin0
      have E482 : Exa Z T471.heap z2 "com/example/tradewind/tradewind/benchmark/Zdt" := Exa.keep E457 Kq475
      have F483 : Fld Z T471.heap z2 "com/example/tradewind/tradewind/benchmark/Zdt" "variables" "I" (.int (30 : Int32)) := Fld.keep F458 Kq475 nin0
      have F484 : Fld Z T471.heap z2 "com/example/tradewind/tradewind/benchmark/Zdt" "restUpper" "D" (.double (4607182418800017408 : UInt64)) := Fld.keep F459 Kq475 nin0
      have E485 : Exa Z T471.heap z3 "com/example/tradewind/tradewind/benchmark/Zdt" := Exa.keep E460 Kq475
      have F486 : Fld Z T471.heap z3 "com/example/tradewind/tradewind/benchmark/Zdt" "variables" "I" (.int (30 : Int32)) := Fld.keep F461 Kq475 nin0
      have F487 : Fld Z T471.heap z3 "com/example/tradewind/tradewind/benchmark/Zdt" "restUpper" "D" (.double (4607182418800017408 : UInt64)) := Fld.keep F462 Kq475 nin0
      have E488 : Exa Z T471.heap z4 "com/example/tradewind/tradewind/benchmark/Zdt" := Exa.keep E463 Kq475
      have F489 : Fld Z T471.heap z4 "com/example/tradewind/tradewind/benchmark/Zdt" "variables" "I" (.int (10 : Int32)) := Fld.keep F464 Kq475 nin0
      have F490 : Fld Z T471.heap z4 "com/example/tradewind/tradewind/benchmark/Zdt" "restUpper" "D" (.double (4617315517961601024 : UInt64)) := Fld.keep F465 Kq475 nin0
      have E491 : Exa Z T471.heap z6 "com/example/tradewind/tradewind/benchmark/Zdt" := Exa.keep E466 Kq475
      have F492 : Fld Z T471.heap z6 "com/example/tradewind/tradewind/benchmark/Zdt" "variables" "I" (.int (10 : Int32)) := Fld.keep F467 Kq475 nin0
      have F493 : Fld Z T471.heap z6 "com/example/tradewind/tradewind/benchmark/Zdt" "restUpper" "D" (.double (4607182418800017408 : UInt64)) := Fld.keep F468 Kq475 nin0
      have V494 : Dar Z T471.heap r415 .double 30 (fun j => if j = i446 then .double (4619567317775286272 : UInt64) else (fun j => .double (own_u (4607182418800017408 : UInt64) j)) j) := Dar.keep V469 Kq475 nin0
      have Z495 : n0 ≤ T471.heap.size := Nat.le_trans Z470 Kq475.1
      have K496 : Keep h0 T471.heap [] := K453.trans Kq475 all0
      have A497 := (⟨X471, hx, hby⟩ : Ax _ _ _ _ _ _ _ _ _ _ _ _ _ _ _)
      have g498 : n0 ≤ r473 := Nat.le_trans Z470 gx476
      have gh499 : h0.size ≤ r473 := Nat.le_trans K453.1 gx476
      have ne500 : r415 ≠ r473 := Nat.ne_of_lt (Nat.lt_of_lt_of_le V469.lt gx476)
      have ne501 : z1 ≠ r473 := Nat.ne_of_lt (Nat.lt_of_lt_of_le E454.lt gx476)
      have ne502 : z2 ≠ r473 := Nat.ne_of_lt (Nat.lt_of_lt_of_le E457.lt gx476)
      have ne503 : z3 ≠ r473 := Nat.ne_of_lt (Nat.lt_of_lt_of_le E460.lt gx476)
      have ne504 : z4 ≠ r473 := Nat.ne_of_lt (Nat.lt_of_lt_of_le E463.lt gx476)
      have ne505 : z6 ≠ r473 := Nat.ne_of_lt (Nat.lt_of_lt_of_le E466.lt gx476)
      refine g_astore A497 at_184 rfl (ls' := #[.val (.int p0), .val (.int p1), .val (.int (2 : Int32)), .val (.ref z3), .val (.int (30 : Int32)), .val (.double (4607182418800017408 : UInt64)), .second, .val (.ref r415), .val (.int (Int32.ofNat i446)), .val (.double (4607182418800017408 : UInt64)), .second, .val (.ref r473)]) rfl (pc' := 186) rfl ?_
      refine g_aload A497 at_186 rfl rfl (pc' := 188) rfl ?_
      refine g_alen A497 hZ rfl V477 at_188 (z := (30 : Int32)) rfl (pc' := 189) rfl ?_
      refine g_iload A497 at_189 rfl (pc' := 191) rfl ?_
      refine g_icY A497 at_191 (c2_eq_t rfl) (pc' := 196) rfl ?_
      refine g_aload A497 at_196 rfl rfl (pc' := 198) rfl ?_
      refine g_iload A497 at_198 rfl (pc' := 200) rfl ?_
      refine g_daload A497 hZ rfl V477 (i := i446) hi447 rfl (x := (own_u (4607182418800017408 : UInt64) i446)) rfl at_200 (pc' := 201) rfl ?_
      refine g_dload A497 at_201 rfl (pc' := 203) rfl ?_
      refine g_dcmp A497 at_203 (pc' := 204) rfl ?_
      refine g_ifN A497 at_204 (d_l_ne_f (by rw [own_of0 (by omega) hc450]; decide +kernel)) (pc' := 207) rfl ?_
      refine g_iconst A497 at_207 (v := (1 : Int32)) rfl (pc' := 208) rfl ?_
      refine g_goto A497 at_208 (pc' := 212) rfl ?_
      exact g_ret (Q := Q0 Z p0 p1 z1 z2 z3 z4 z6 h0 n0) A497 at_212 Bd.notSynchronized Bd.returns rfl (Or.inl ⟨rfl, by simp, _, rfl⟩) (by decide) (by decide) ⟨rfl, N478⟩
    · skip
      refine g_ifY A438 at_122 (c0_ne_t hc450) (pc' := 129) rfl ?_
      refine g_dload A438 at_129 rfl (pc' := 131) rfl ?_
      refine g_dstore A438 at_131 (ls' := #[.val (.int p0), .val (.int p1), .val (.int (2 : Int32)), .val (.ref z3), .val (.int (30 : Int32)), .val (.double (4607182418800017408 : UInt64)), .second, .val (.ref r415), .val (.int (Int32.ofNat i446)), .val (.double (4607182418800017408 : UInt64)), .second, .unset]) rfl (pc' := 133) rfl ?_
      refine g_aload A438 at_133 rfl rfl (pc' := 135) rfl ?_
      refine g_iload A438 at_135 rfl (pc' := 137) rfl ?_
      refine g_daload A438 hZ rfl V419 (i := i446) hi447 rfl (x := (own_u (4607182418800017408 : UInt64) i446)) rfl at_137 (pc' := 138) rfl ?_
      refine g_dload A438 at_138 rfl (pc' := 140) rfl ?_
      refine g_dcmp A438 at_140 (pc' := 141) rfl ?_
      refine g_ifY A438 at_141 (d_l_eq_t (by rw [own_u, if_neg (fun q => hc450 (by rw [q]; rfl))]; decide +kernel)) (pc' := 146) rfl ?_
      refine g_aload A438 at_146 rfl rfl (pc' := 148) rfl ?_
      refine g_iconst A438 at_148 (v := (0 : Int32)) rfl (pc' := 149) rfl ?_
      refine g_daload A438 hZ rfl V419 (i := 0) (by decide) rfl (x := (own_u (4607182418800017408 : UInt64) 0)) rfl at_149 (pc' := 150) rfl ?_
      refine g_dconst1 A438 at_150 (pc' := 151) rfl ?_
      refine g_dcmp A438 at_151 (pc' := 152) rfl ?_
      refine g_ifY A438 at_152 (d_l_eq_t (by decide +kernel)) (pc' := 157) rfl ?_
      refine g_aload A438 at_157 rfl rfl (pc' := 159) rfl ?_
      refine g_iload A438 at_159 rfl (pc' := 161) rfl ?_
      refine g_iconst A438 at_161 (v := (1 : Int32)) rfl (pc' := 162) rfl ?_
      refine g_isub A438 at_162 (pc' := 163) rfl ?_
      refine g_daload A438 hZ rfl V419 (i := 29) (by decide) rfl (x := (own_u (4607182418800017408 : UInt64) 29)) rfl at_163 (pc' := 164) rfl ?_
      refine g_dload A438 at_164 rfl (pc' := 166) rfl ?_
      refine g_dcmp A438 at_166 (pc' := 167) rfl ?_
      refine g_ifY A438 at_167 (d_l_eq_t (by decide +kernel)) (pc' := 172) rfl ?_
      refine g_aload A438 at_172 rfl rfl (pc' := 174) rfl ?_
      refine g_iload A438 at_174 rfl (pc' := 176) rfl ?_
      refine g_ldcD A438 hZ hown (hw _ (List.mem_of_getElem? (i := 21) rfl)) at_176 (pc' := 179) rfl ?_
      obtain ⟨T506, h506, A506, e506, W506, st506⟩ := s_dastore A438 hZ rfl (ls := #[.val (.int p0), .val (.int p1), .val (.int (2 : Int32)), .val (.ref z3), .val (.int (30 : Int32)), .val (.double (4607182418800017408 : UInt64)), .second, .val (.ref r415), .val (.int (Int32.ofNat i446)), .val (.double (4607182418800017408 : UInt64)), .second, .unset]) (st := []) (x := (4619567317775286272 : UInt64)) V419 (i := i446) hi447 (j := (Int32.ofNat i446)) rfl at_179 (pc' := 180) rfl
      have N507 := Fr.snoc A506.1 N420 g439
      have K508 : Keep h0 h506 [] := K437.wr W506 (Or.inr gh440)
      have E509 : Exa Z h506 z1 "com/example/tradewind/tradewind/benchmark/Zdt" := Exa.wr W506 E421
      have F510 : Fld Z h506 z1 "com/example/tradewind/tradewind/benchmark/Zdt" "variables" "I" (.int (30 : Int32)) := Fld.other W506 F422 (Or.inl ne441)
      have F511 : Fld Z h506 z1 "com/example/tradewind/tradewind/benchmark/Zdt" "restUpper" "D" (.double (4607182418800017408 : UInt64)) := Fld.other W506 F423 (Or.inl ne441)
      have E512 : Exa Z h506 z2 "com/example/tradewind/tradewind/benchmark/Zdt" := Exa.wr W506 E424
      have F513 : Fld Z h506 z2 "com/example/tradewind/tradewind/benchmark/Zdt" "variables" "I" (.int (30 : Int32)) := Fld.other W506 F425 (Or.inl ne442)
      have F514 : Fld Z h506 z2 "com/example/tradewind/tradewind/benchmark/Zdt" "restUpper" "D" (.double (4607182418800017408 : UInt64)) := Fld.other W506 F426 (Or.inl ne442)
      have E515 : Exa Z h506 z3 "com/example/tradewind/tradewind/benchmark/Zdt" := Exa.wr W506 E427
      have F516 : Fld Z h506 z3 "com/example/tradewind/tradewind/benchmark/Zdt" "variables" "I" (.int (30 : Int32)) := Fld.other W506 F428 (Or.inl ne443)
      have F517 : Fld Z h506 z3 "com/example/tradewind/tradewind/benchmark/Zdt" "restUpper" "D" (.double (4607182418800017408 : UInt64)) := Fld.other W506 F429 (Or.inl ne443)
      have E518 : Exa Z h506 z4 "com/example/tradewind/tradewind/benchmark/Zdt" := Exa.wr W506 E430
      have F519 : Fld Z h506 z4 "com/example/tradewind/tradewind/benchmark/Zdt" "variables" "I" (.int (10 : Int32)) := Fld.other W506 F431 (Or.inl ne444)
      have F520 : Fld Z h506 z4 "com/example/tradewind/tradewind/benchmark/Zdt" "restUpper" "D" (.double (4617315517961601024 : UInt64)) := Fld.other W506 F432 (Or.inl ne444)
      have E521 : Exa Z h506 z6 "com/example/tradewind/tradewind/benchmark/Zdt" := Exa.wr W506 E433
      have F522 : Fld Z h506 z6 "com/example/tradewind/tradewind/benchmark/Zdt" "variables" "I" (.int (10 : Int32)) := Fld.other W506 F434 (Or.inl ne445)
      have F523 : Fld Z h506 z6 "com/example/tradewind/tradewind/benchmark/Zdt" "restUpper" "D" (.double (4607182418800017408 : UInt64)) := Fld.other W506 F435 (Or.inl ne445)
      have V524 : Dar Z h506 r415 .double 30 (fun j => if j = i446 then .double (4619567317775286272 : UInt64) else (fun j => .double (own_u (4607182418800017408 : UInt64) j)) j) := Dar.set V419 W506 (fun _ _ => rfl)
      have Z525 : n0 ≤ h506.size := by rw [W506.size]; exact Z436
      refine st506 ?_
      refine g_aloadN A506 at_180 rfl rfl (pc' := 181) rfl ?_
      obtain ⟨cq527, kq527, q527a, q527b, q527c⟩ := isOf hZ e506 E515
      obtain ⟨_, _, ⟨T526, L526, k526, n526⟩, -, X526, ⟨L526c, hQ526, l526, y526, z526⟩, st526⟩ := A506.1.virtualBack hx (y := (⟨"com/example/tradewind/tradewind/benchmark/Zdt", "upper", "()[D"⟩ : MethodName)) (z := (⟨"com/example/tradewind/tradewind/benchmark/Zdt", "upper", "()[D"⟩ : MethodName)) hown (mvT hZ (hw _ (List.mem_of_getElem? (i := 4) rfl))) (mvT hZ (hw _ (List.mem_of_getElem? (i := 5) rfl))) (notFace_of_selects (args := #[]) (mvT hZ (hw _ (List.mem_of_getElem? (i := 7) rfl)))) (mvT hZ (hw _ (List.mem_of_getElem? (i := 7) rfl))) (mvT hZ (hw _ (List.mem_of_getElem? (i := 6) rfl))) (by decide) (backOf (W := 0) (rmB30 l Z a0 hw [] z3 (4607182418800017408 : UInt64) h506 n0 Z525 F516 F517) hZ (hw _ (List.mem_of_getElem? (i := 8) rfl)) (hw _ (List.mem_of_getElem? (i := 2) rfl)) (by decide) (by decide)) q527a q527c (g := (mkF m 181 #[.val (.int p0), .val (.int p1), .val (.int (2 : Int32)), .val (.ref z3), .val (.int (30 : Int32)), .val (.double (4607182418800017408 : UInt64)), .second, .val (.ref r415), .val (.int (Int32.ofNat i446)), .val (.double (4607182418800017408 : UInt64)), .second, .unset] [(.ref z3)])) rfl (by rw [hml]; rfl) (Steps.refl _) (argsL := []) (rest := []) (lenOf pd_2 rfl) rfl (by show 2 * 0 + _ ≤ _; exact Nat.le_of_eq rfl) (hb hby at_181) (fun _ _ => ⟨rfl, e506, (by decide : 1 + 1 ≤ _), (by decide : 30 + 30 ≤ _)⟩)
      dsimp only [Pt.U, Pt.locs, Pt.cells, Pt.slots] at X526 l526 y526 z526 st526 hQ526
      subst l526 y526 z526
      obtain ⟨r528, rfl, Nq529, Kq530, gx531, V532⟩ := hQ526
      have N533 := Fr.app N507 Nq529
      refine Go.tr (g' := (mkF m 184 #[.val (.int p0), .val (.int p1), .val (.int (2 : Int32)), .val (.ref z3), .val (.int (30 : Int32)), .val (.double (4607182418800017408 : UInt64)), .second, .val (.ref r415), .val (.int (Int32.ofNat i446)), .val (.double (4607182418800017408 : UInt64)), .second, .unset] [(.ref r528)])) st526 ?_
      have E534 : Exa Z T526.heap z1 "com/example/tradewind/tradewind/benchmark/Zdt" := Exa.keep E509 Kq530
      have F535 : Fld Z T526.heap z1 "com/example/tradewind/tradewind/benchmark/Zdt" "variables" "I" (.int (30 : Int32)) := Fld.keep F510 Kq530 nin0
      have F536 : Fld Z T526.heap z1 "com/example/tradewind/tradewind/benchmark/Zdt" "restUpper" "D" (.double (4607182418800017408 : UInt64)) := Fld.keep F511 Kq530 nin0
      have E537 : Exa Z T526.heap z2 "com/example/tradewind/tradewind/benchmark/Zdt" := Exa.keep E512 Kq530
      have F538 : Fld Z T526.heap z2 "com/example/tradewind/tradewind/benchmark/Zdt" "variables" "I" (.int (30 : Int32)) := Fld.keep F513 Kq530 nin0
      have F539 : Fld Z T526.heap z2 "com/example/tradewind/tradewind/benchmark/Zdt" "restUpper" "D" (.double (4607182418800017408 : UInt64)) := Fld.keep F514 Kq530 nin0
      have E540 : Exa Z T526.heap z3 "com/example/tradewind/tradewind/benchmark/Zdt" := Exa.keep E515 Kq530
      have F541 : Fld Z T526.heap z3 "com/example/tradewind/tradewind/benchmark/Zdt" "variables" "I" (.int (30 : Int32)) := Fld.keep F516 Kq530 nin0
      have F542 : Fld Z T526.heap z3 "com/example/tradewind/tradewind/benchmark/Zdt" "restUpper" "D" (.double (4607182418800017408 : UInt64)) := Fld.keep F517 Kq530 nin0
      have E543 : Exa Z T526.heap z4 "com/example/tradewind/tradewind/benchmark/Zdt" := Exa.keep E518 Kq530
      have F544 : Fld Z T526.heap z4 "com/example/tradewind/tradewind/benchmark/Zdt" "variables" "I" (.int (10 : Int32)) := Fld.keep F519 Kq530 nin0
      have F545 : Fld Z T526.heap z4 "com/example/tradewind/tradewind/benchmark/Zdt" "restUpper" "D" (.double (4617315517961601024 : UInt64)) := Fld.keep F520 Kq530 nin0
      have E546 : Exa Z T526.heap z6 "com/example/tradewind/tradewind/benchmark/Zdt" := Exa.keep E521 Kq530
      have F547 : Fld Z T526.heap z6 "com/example/tradewind/tradewind/benchmark/Zdt" "variables" "I" (.int (10 : Int32)) := Fld.keep F522 Kq530 nin0
      have F548 : Fld Z T526.heap z6 "com/example/tradewind/tradewind/benchmark/Zdt" "restUpper" "D" (.double (4607182418800017408 : UInt64)) := Fld.keep F523 Kq530 nin0
      have V549 : Dar Z T526.heap r415 .double 30 (fun j => if j = i446 then .double (4619567317775286272 : UInt64) else (fun j => .double (own_u (4607182418800017408 : UInt64) j)) j) := Dar.keep V524 Kq530 nin0
      have Z550 : n0 ≤ T526.heap.size := Nat.le_trans Z525 Kq530.1
      have K551 : Keep h0 T526.heap [] := K508.trans Kq530 all0
      have A552 := (⟨X526, hx, hby⟩ : Ax _ _ _ _ _ _ _ _ _ _ _ _ _ _ _)
      have g553 : n0 ≤ r528 := Nat.le_trans Z525 gx531
      have gh554 : h0.size ≤ r528 := Nat.le_trans K508.1 gx531
      have ne555 : r415 ≠ r528 := Nat.ne_of_lt (Nat.lt_of_lt_of_le V524.lt gx531)
      have ne556 : z1 ≠ r528 := Nat.ne_of_lt (Nat.lt_of_lt_of_le E509.lt gx531)
      have ne557 : z2 ≠ r528 := Nat.ne_of_lt (Nat.lt_of_lt_of_le E512.lt gx531)
      have ne558 : z3 ≠ r528 := Nat.ne_of_lt (Nat.lt_of_lt_of_le E515.lt gx531)
      have ne559 : z4 ≠ r528 := Nat.ne_of_lt (Nat.lt_of_lt_of_le E518.lt gx531)
      have ne560 : z6 ≠ r528 := Nat.ne_of_lt (Nat.lt_of_lt_of_le E521.lt gx531)
      refine g_astore A552 at_184 rfl (ls' := #[.val (.int p0), .val (.int p1), .val (.int (2 : Int32)), .val (.ref z3), .val (.int (30 : Int32)), .val (.double (4607182418800017408 : UInt64)), .second, .val (.ref r415), .val (.int (Int32.ofNat i446)), .val (.double (4607182418800017408 : UInt64)), .second, .val (.ref r528)]) rfl (pc' := 186) rfl ?_
      refine g_aload A552 at_186 rfl rfl (pc' := 188) rfl ?_
      refine g_alen A552 hZ rfl V532 at_188 (z := (30 : Int32)) rfl (pc' := 189) rfl ?_
      refine g_iload A552 at_189 rfl (pc' := 191) rfl ?_
      refine g_icY A552 at_191 (c2_eq_t rfl) (pc' := 196) rfl ?_
      refine g_aload A552 at_196 rfl rfl (pc' := 198) rfl ?_
      refine g_iload A552 at_198 rfl (pc' := 200) rfl ?_
      refine g_daload A552 hZ rfl V532 (i := i446) hi447 rfl (x := (own_u (4607182418800017408 : UInt64) i446)) rfl at_200 (pc' := 201) rfl ?_
      refine g_dload A552 at_201 rfl (pc' := 203) rfl ?_
      refine g_dcmp A552 at_203 (pc' := 204) rfl ?_
      refine g_ifN A552 at_204 (d_l_ne_f (by rw [own_u, if_neg (fun q => hc450 (by rw [q]; rfl))]; decide +kernel)) (pc' := 207) rfl ?_
      refine g_iconst A552 at_207 (v := (1 : Int32)) rfl (pc' := 208) rfl ?_
      refine g_goto A552 at_208 (pc' := 212) rfl ?_
      exact g_ret (Q := Q0 Z p0 p1 z1 z2 z3 z4 z6 h0 n0) A552 at_212 Bd.notSynchronized Bd.returns rfl (Or.inl ⟨rfl, by simp, _, rfl⟩) (by decide) (by decide) ⟨rfl, N533⟩
  · skip
    rw [hg110]
    refine g_istoreN A0 at_6 (ls' := #[.val (.int p0), .val (.int p1), .val (.int (3 : Int32)), .unset, .unset, .unset, .unset, .unset, .unset, .unset, .unset, .unset]) rfl (pc' := 7) rfl ?_
    refine g_iloadN A0 at_7 rfl (pc' := 8) rfl ?_
    refine g_ifY A0 at_8 (c0_ne_t (by decide)) (pc' := 25) rfl ?_
    refine g_iloadN A0 at_25 rfl (pc' := 26) rfl ?_
    refine g_iconst A0 at_26 (v := (1 : Int32)) rfl (pc' := 27) rfl ?_
    refine g_icY A0 at_27 (c2_ne_t (by decide)) (pc' := 44) rfl ?_
    refine g_iloadN A0 at_44 rfl (pc' := 45) rfl ?_
    refine g_iconst A0 at_45 (v := (2 : Int32)) rfl (pc' := 46) rfl ?_
    refine g_icY A0 at_46 (c2_ne_t (by decide)) (pc' := 63) rfl ?_
    refine g_iloadN A0 at_63 rfl (pc' := 64) rfl ?_
    refine g_iconst A0 at_64 (v := (3 : Int32)) rfl (pc' := 65) rfl ?_
    refine g_icN A0 at_65 (c2_ne_f rfl) (pc' := 68) rfl ?_
    obtain ⟨T561, X561, e561, st561⟩ := getS X0 hx hZ hown (host := "") (hw _ (List.mem_of_getElem? (i := 24) rfl)) Via.refl e0 S101 (g := (mkF m 68 #[.val (.int p0), .val (.int p1), .val (.int (3 : Int32)), .unset, .unset, .unset, .unset, .unset, .unset, .unset, .unset, .unset] [])) rfl (hb hby at_68)
    refine Go.of (g' := (mkF m 71 #[.val (.int p0), .val (.int p1), .val (.int (3 : Int32)), .unset, .unset, .unset, .unset, .unset, .unset, .unset, .unset, .unset] [(.ref z4)])) st561 ?_
    have A562 := (⟨X561, hx, hby⟩ : Ax _ _ _ _ _ _ _ _ _ _ _ _ _ _ _)
    refine g_astoreN A562 at_71 rfl (ls' := #[.val (.int p0), .val (.int p1), .val (.int (3 : Int32)), .val (.ref z4), .unset, .unset, .unset, .unset, .unset, .unset, .unset, .unset]) rfl (pc' := 72) rfl ?_
    refine g_bipush A562 at_72 (v := (10 : Int32)) rfl (pc' := 74) rfl ?_
    refine g_istore A562 at_74 (ls' := #[.val (.int p0), .val (.int p1), .val (.int (3 : Int32)), .val (.ref z4), .val (.int (10 : Int32)), .unset, .unset, .unset, .unset, .unset, .unset, .unset]) rfl (pc' := 76) rfl ?_
    refine g_ldcD A562 hZ hown (hw _ (List.mem_of_getElem? (i := 26) rfl)) at_76 (pc' := 79) rfl ?_
    refine g_dstore A562 at_79 (ls' := #[.val (.int p0), .val (.int p1), .val (.int (3 : Int32)), .val (.ref z4), .val (.int (10 : Int32)), .val (.double (4617315517961601024 : UInt64)), .second, .unset, .unset, .unset, .unset, .unset]) rfl (pc' := 81) rfl ?_
    refine g_goto A562 at_81 (pc' := 95) rfl ?_
    refine g_aloadN A562 at_95 rfl rfl (pc' := 96) rfl ?_
    obtain ⟨cq564, kq564, q564a, q564b, q564c⟩ := isOf hZ e561 E102
    obtain ⟨_, _, ⟨T563, L563, k563, n563⟩, -, X563, ⟨L563c, hQ563, l563, y563, z563⟩, st563⟩ := X561.virtualBack hx (y := (⟨"com/example/tradewind/tradewind/benchmark/Zdt", "upper", "()[D"⟩ : MethodName)) (z := (⟨"com/example/tradewind/tradewind/benchmark/Zdt", "upper", "()[D"⟩ : MethodName)) hown (mvT hZ (hw _ (List.mem_of_getElem? (i := 4) rfl))) (mvT hZ (hw _ (List.mem_of_getElem? (i := 5) rfl))) (notFace_of_selects (args := #[]) (mvT hZ (hw _ (List.mem_of_getElem? (i := 7) rfl)))) (mvT hZ (hw _ (List.mem_of_getElem? (i := 7) rfl))) (mvT hZ (hw _ (List.mem_of_getElem? (i := 6) rfl))) (by decide) (backOf (W := 0) (rmB10 l Z a0 hw [] z4 (4617315517961601024 : UInt64) h0 n0 Z0 F103 F104) hZ (hw _ (List.mem_of_getElem? (i := 8) rfl)) (hw _ (List.mem_of_getElem? (i := 2) rfl)) (by decide) (by decide)) q564a q564c (g := (mkF m 96 #[.val (.int p0), .val (.int p1), .val (.int (3 : Int32)), .val (.ref z4), .val (.int (10 : Int32)), .val (.double (4617315517961601024 : UInt64)), .second, .unset, .unset, .unset, .unset, .unset] [(.ref z4)])) rfl (by rw [hml]; rfl) (Steps.refl _) (argsL := []) (rest := []) (lenOf pd_2 rfl) rfl (by show 2 * 0 + _ ≤ _; exact Nat.le_of_eq rfl) (hb hby at_96) (fun _ _ => ⟨rfl, e561, (by decide : 0 + 1 ≤ _), (by decide : 0 + 10 ≤ _)⟩)
    dsimp only [Pt.U, Pt.locs, Pt.cells, Pt.slots] at X563 l563 y563 z563 st563 hQ563
    subst l563 y563 z563
    obtain ⟨r565, rfl, Nq566, Kq567, gx568, V569⟩ := hQ563
    have N570 := Fr.app N0 Nq566
    refine Go.tr (g' := (mkF m 99 #[.val (.int p0), .val (.int p1), .val (.int (3 : Int32)), .val (.ref z4), .val (.int (10 : Int32)), .val (.double (4617315517961601024 : UInt64)), .second, .unset, .unset, .unset, .unset, .unset] [(.ref r565)])) st563 ?_
    have E571 : Exa Z T563.heap z1 "com/example/tradewind/tradewind/benchmark/Zdt" := Exa.keep E90 Kq567
    have F572 : Fld Z T563.heap z1 "com/example/tradewind/tradewind/benchmark/Zdt" "variables" "I" (.int (30 : Int32)) := Fld.keep F91 Kq567 nin0
    have F573 : Fld Z T563.heap z1 "com/example/tradewind/tradewind/benchmark/Zdt" "restUpper" "D" (.double (4607182418800017408 : UInt64)) := Fld.keep F92 Kq567 nin0
    have E574 : Exa Z T563.heap z2 "com/example/tradewind/tradewind/benchmark/Zdt" := Exa.keep E94 Kq567
    have F575 : Fld Z T563.heap z2 "com/example/tradewind/tradewind/benchmark/Zdt" "variables" "I" (.int (30 : Int32)) := Fld.keep F95 Kq567 nin0
    have F576 : Fld Z T563.heap z2 "com/example/tradewind/tradewind/benchmark/Zdt" "restUpper" "D" (.double (4607182418800017408 : UInt64)) := Fld.keep F96 Kq567 nin0
    have E577 : Exa Z T563.heap z3 "com/example/tradewind/tradewind/benchmark/Zdt" := Exa.keep E98 Kq567
    have F578 : Fld Z T563.heap z3 "com/example/tradewind/tradewind/benchmark/Zdt" "variables" "I" (.int (30 : Int32)) := Fld.keep F99 Kq567 nin0
    have F579 : Fld Z T563.heap z3 "com/example/tradewind/tradewind/benchmark/Zdt" "restUpper" "D" (.double (4607182418800017408 : UInt64)) := Fld.keep F100 Kq567 nin0
    have E580 : Exa Z T563.heap z4 "com/example/tradewind/tradewind/benchmark/Zdt" := Exa.keep E102 Kq567
    have F581 : Fld Z T563.heap z4 "com/example/tradewind/tradewind/benchmark/Zdt" "variables" "I" (.int (10 : Int32)) := Fld.keep F103 Kq567 nin0
    have F582 : Fld Z T563.heap z4 "com/example/tradewind/tradewind/benchmark/Zdt" "restUpper" "D" (.double (4617315517961601024 : UInt64)) := Fld.keep F104 Kq567 nin0
    have E583 : Exa Z T563.heap z6 "com/example/tradewind/tradewind/benchmark/Zdt" := Exa.keep E106 Kq567
    have F584 : Fld Z T563.heap z6 "com/example/tradewind/tradewind/benchmark/Zdt" "variables" "I" (.int (10 : Int32)) := Fld.keep F107 Kq567 nin0
    have F585 : Fld Z T563.heap z6 "com/example/tradewind/tradewind/benchmark/Zdt" "restUpper" "D" (.double (4607182418800017408 : UInt64)) := Fld.keep F108 Kq567 nin0
    have Z586 : n0 ≤ T563.heap.size := Nat.le_trans Z0 Kq567.1
    have K587 : Keep h0 T563.heap [] := (Keep.refl h0 []).trans Kq567 all0
    have A588 := (⟨X563, hx, hby⟩ : Ax _ _ _ _ _ _ _ _ _ _ _ _ _ _ _)
    have g589 : n0 ≤ r565 := Nat.le_trans Z0 gx568
    have gh590 : h0.size ≤ r565 := Nat.le_trans (Keep.refl h0 []).1 gx568
    have ne591 : z1 ≠ r565 := Nat.ne_of_lt (Nat.lt_of_lt_of_le E90.lt gx568)
    have ne592 : z2 ≠ r565 := Nat.ne_of_lt (Nat.lt_of_lt_of_le E94.lt gx568)
    have ne593 : z3 ≠ r565 := Nat.ne_of_lt (Nat.lt_of_lt_of_le E98.lt gx568)
    have ne594 : z4 ≠ r565 := Nat.ne_of_lt (Nat.lt_of_lt_of_le E102.lt gx568)
    have ne595 : z6 ≠ r565 := Nat.ne_of_lt (Nat.lt_of_lt_of_le E106.lt gx568)
    refine g_astore A588 at_99 rfl (ls' := #[.val (.int p0), .val (.int p1), .val (.int (3 : Int32)), .val (.ref z4), .val (.int (10 : Int32)), .val (.double (4617315517961601024 : UInt64)), .second, .val (.ref r565), .unset, .unset, .unset, .unset]) rfl (pc' := 101) rfl ?_
    refine g_aload A588 at_101 rfl rfl (pc' := 103) rfl ?_
    refine g_alen A588 hZ rfl V569 at_103 (z := (10 : Int32)) rfl (pc' := 104) rfl ?_
    refine g_iload A588 at_104 rfl (pc' := 106) rfl ?_
    refine g_icY A588 at_106 (c2_eq_t rfl) (pc' := 111) rfl ?_
    refine g_iloadN A588 at_111 rfl (pc' := 112) rfl ?_
    refine g_ldcI A588 hZ hown (hw _ (List.mem_of_getElem? (i := 0) rfl)) at_112 (pc' := 114) rfl ?_
    refine g_iand A588 at_114 (pc' := 115) rfl ?_
    refine g_iload A588 at_115 rfl (pc' := 117) rfl ?_
    refine g_irem A588 at_117 (by decide) (pc' := 118) rfl ?_
    obtain ⟨i596, hi597, hk598⟩ := own_mod p1 10 (by decide) (by decide)
    have hk599 : ((p1 &&& (2147483647 : Int32)) % (10 : Int32)) = Int32.ofNat i596 := hk598
    rw [hk599]
    refine g_istore A588 at_118 (ls' := #[.val (.int p0), .val (.int p1), .val (.int (3 : Int32)), .val (.ref z4), .val (.int (10 : Int32)), .val (.double (4617315517961601024 : UInt64)), .second, .val (.ref r565), .val (.int (Int32.ofNat i596)), .unset, .unset, .unset]) rfl (pc' := 120) rfl ?_
    refine g_iload A588 at_120 rfl (pc' := 122) rfl ?_
    by_cases hc600 : (Int32.ofNat i596) = 0
    · skip
      refine g_ifN A588 at_122 (c0_ne_f hc600) (pc' := 125) rfl ?_
      refine g_dconst1 A588 at_125 (pc' := 126) rfl ?_
      refine g_goto A588 at_126 (pc' := 131) rfl ?_
      refine g_dstore A588 at_131 (ls' := #[.val (.int p0), .val (.int p1), .val (.int (3 : Int32)), .val (.ref z4), .val (.int (10 : Int32)), .val (.double (4617315517961601024 : UInt64)), .second, .val (.ref r565), .val (.int (Int32.ofNat i596)), .val (.double (4607182418800017408 : UInt64)), .second, .unset]) rfl (pc' := 133) rfl ?_
      refine g_aload A588 at_133 rfl rfl (pc' := 135) rfl ?_
      refine g_iload A588 at_135 rfl (pc' := 137) rfl ?_
      refine g_daload A588 hZ rfl V569 (i := i596) hi597 rfl (x := (own_u (4617315517961601024 : UInt64) i596)) rfl at_137 (pc' := 138) rfl ?_
      refine g_dload A588 at_138 rfl (pc' := 140) rfl ?_
      refine g_dcmp A588 at_140 (pc' := 141) rfl ?_
      refine g_ifY A588 at_141 (d_l_eq_t (by rw [own_of0 (by omega) hc600]; decide +kernel)) (pc' := 146) rfl ?_
      refine g_aload A588 at_146 rfl rfl (pc' := 148) rfl ?_
      refine g_iconst A588 at_148 (v := (0 : Int32)) rfl (pc' := 149) rfl ?_
      refine g_daload A588 hZ rfl V569 (i := 0) (by decide) rfl (x := (own_u (4617315517961601024 : UInt64) 0)) rfl at_149 (pc' := 150) rfl ?_
      refine g_dconst1 A588 at_150 (pc' := 151) rfl ?_
      refine g_dcmp A588 at_151 (pc' := 152) rfl ?_
      refine g_ifY A588 at_152 (d_l_eq_t (by decide +kernel)) (pc' := 157) rfl ?_
      refine g_aload A588 at_157 rfl rfl (pc' := 159) rfl ?_
      refine g_iload A588 at_159 rfl (pc' := 161) rfl ?_
      refine g_iconst A588 at_161 (v := (1 : Int32)) rfl (pc' := 162) rfl ?_
      refine g_isub A588 at_162 (pc' := 163) rfl ?_
      refine g_daload A588 hZ rfl V569 (i := 9) (by decide) rfl (x := (own_u (4617315517961601024 : UInt64) 9)) rfl at_163 (pc' := 164) rfl ?_
      refine g_dload A588 at_164 rfl (pc' := 166) rfl ?_
      refine g_dcmp A588 at_166 (pc' := 167) rfl ?_
      refine g_ifY A588 at_167 (d_l_eq_t (by decide +kernel)) (pc' := 172) rfl ?_
      refine g_aload A588 at_172 rfl rfl (pc' := 174) rfl ?_
      refine g_iload A588 at_174 rfl (pc' := 176) rfl ?_
      refine g_ldcD A588 hZ hown (hw _ (List.mem_of_getElem? (i := 21) rfl)) at_176 (pc' := 179) rfl ?_
      obtain ⟨T601, h601, A601, e601, W601, st601⟩ := s_dastore A588 hZ rfl (ls := #[.val (.int p0), .val (.int p1), .val (.int (3 : Int32)), .val (.ref z4), .val (.int (10 : Int32)), .val (.double (4617315517961601024 : UInt64)), .second, .val (.ref r565), .val (.int (Int32.ofNat i596)), .val (.double (4607182418800017408 : UInt64)), .second, .unset]) (st := []) (x := (4619567317775286272 : UInt64)) V569 (i := i596) hi597 (j := (Int32.ofNat i596)) rfl at_179 (pc' := 180) rfl
      have N602 := Fr.snoc A601.1 N570 g589
      have K603 : Keep h0 h601 [] := K587.wr W601 (Or.inr gh590)
      have E604 : Exa Z h601 z1 "com/example/tradewind/tradewind/benchmark/Zdt" := Exa.wr W601 E571
      have F605 : Fld Z h601 z1 "com/example/tradewind/tradewind/benchmark/Zdt" "variables" "I" (.int (30 : Int32)) := Fld.other W601 F572 (Or.inl ne591)
      have F606 : Fld Z h601 z1 "com/example/tradewind/tradewind/benchmark/Zdt" "restUpper" "D" (.double (4607182418800017408 : UInt64)) := Fld.other W601 F573 (Or.inl ne591)
      have E607 : Exa Z h601 z2 "com/example/tradewind/tradewind/benchmark/Zdt" := Exa.wr W601 E574
      have F608 : Fld Z h601 z2 "com/example/tradewind/tradewind/benchmark/Zdt" "variables" "I" (.int (30 : Int32)) := Fld.other W601 F575 (Or.inl ne592)
      have F609 : Fld Z h601 z2 "com/example/tradewind/tradewind/benchmark/Zdt" "restUpper" "D" (.double (4607182418800017408 : UInt64)) := Fld.other W601 F576 (Or.inl ne592)
      have E610 : Exa Z h601 z3 "com/example/tradewind/tradewind/benchmark/Zdt" := Exa.wr W601 E577
      have F611 : Fld Z h601 z3 "com/example/tradewind/tradewind/benchmark/Zdt" "variables" "I" (.int (30 : Int32)) := Fld.other W601 F578 (Or.inl ne593)
      have F612 : Fld Z h601 z3 "com/example/tradewind/tradewind/benchmark/Zdt" "restUpper" "D" (.double (4607182418800017408 : UInt64)) := Fld.other W601 F579 (Or.inl ne593)
      have E613 : Exa Z h601 z4 "com/example/tradewind/tradewind/benchmark/Zdt" := Exa.wr W601 E580
      have F614 : Fld Z h601 z4 "com/example/tradewind/tradewind/benchmark/Zdt" "variables" "I" (.int (10 : Int32)) := Fld.other W601 F581 (Or.inl ne594)
      have F615 : Fld Z h601 z4 "com/example/tradewind/tradewind/benchmark/Zdt" "restUpper" "D" (.double (4617315517961601024 : UInt64)) := Fld.other W601 F582 (Or.inl ne594)
      have E616 : Exa Z h601 z6 "com/example/tradewind/tradewind/benchmark/Zdt" := Exa.wr W601 E583
      have F617 : Fld Z h601 z6 "com/example/tradewind/tradewind/benchmark/Zdt" "variables" "I" (.int (10 : Int32)) := Fld.other W601 F584 (Or.inl ne595)
      have F618 : Fld Z h601 z6 "com/example/tradewind/tradewind/benchmark/Zdt" "restUpper" "D" (.double (4607182418800017408 : UInt64)) := Fld.other W601 F585 (Or.inl ne595)
      have V619 : Dar Z h601 r565 .double 10 (fun j => if j = i596 then .double (4619567317775286272 : UInt64) else (fun j => .double (own_u (4617315517961601024 : UInt64) j)) j) := Dar.set V569 W601 (fun _ _ => rfl)
      have Z620 : n0 ≤ h601.size := by rw [W601.size]; exact Z586
      refine st601 ?_
      refine g_aloadN A601 at_180 rfl rfl (pc' := 181) rfl ?_
      obtain ⟨cq622, kq622, q622a, q622b, q622c⟩ := isOf hZ e601 E613
      obtain ⟨_, _, ⟨T621, L621, k621, n621⟩, -, X621, ⟨L621c, hQ621, l621, y621, z621⟩, st621⟩ := A601.1.virtualBack hx (y := (⟨"com/example/tradewind/tradewind/benchmark/Zdt", "upper", "()[D"⟩ : MethodName)) (z := (⟨"com/example/tradewind/tradewind/benchmark/Zdt", "upper", "()[D"⟩ : MethodName)) hown (mvT hZ (hw _ (List.mem_of_getElem? (i := 4) rfl))) (mvT hZ (hw _ (List.mem_of_getElem? (i := 5) rfl))) (notFace_of_selects (args := #[]) (mvT hZ (hw _ (List.mem_of_getElem? (i := 7) rfl)))) (mvT hZ (hw _ (List.mem_of_getElem? (i := 7) rfl))) (mvT hZ (hw _ (List.mem_of_getElem? (i := 6) rfl))) (by decide) (backOf (W := 0) (rmB10 l Z a0 hw [] z4 (4617315517961601024 : UInt64) h601 n0 Z620 F614 F615) hZ (hw _ (List.mem_of_getElem? (i := 8) rfl)) (hw _ (List.mem_of_getElem? (i := 2) rfl)) (by decide) (by decide)) q622a q622c (g := (mkF m 181 #[.val (.int p0), .val (.int p1), .val (.int (3 : Int32)), .val (.ref z4), .val (.int (10 : Int32)), .val (.double (4617315517961601024 : UInt64)), .second, .val (.ref r565), .val (.int (Int32.ofNat i596)), .val (.double (4607182418800017408 : UInt64)), .second, .unset] [(.ref z4)])) rfl (by rw [hml]; rfl) (Steps.refl _) (argsL := []) (rest := []) (lenOf pd_2 rfl) rfl (by show 2 * 0 + _ ≤ _; exact Nat.le_of_eq rfl) (hb hby at_181) (fun _ _ => ⟨rfl, e601, (by decide : 1 + 1 ≤ _), (by decide : 10 + 10 ≤ _)⟩)
      dsimp only [Pt.U, Pt.locs, Pt.cells, Pt.slots] at X621 l621 y621 z621 st621 hQ621
      subst l621 y621 z621
      obtain ⟨r623, rfl, Nq624, Kq625, gx626, V627⟩ := hQ621
      have N628 := Fr.app N602 Nq624
      refine Go.tr (g' := (mkF m 184 #[.val (.int p0), .val (.int p1), .val (.int (3 : Int32)), .val (.ref z4), .val (.int (10 : Int32)), .val (.double (4617315517961601024 : UInt64)), .second, .val (.ref r565), .val (.int (Int32.ofNat i596)), .val (.double (4607182418800017408 : UInt64)), .second, .unset] [(.ref r623)])) st621 ?_
      have E629 : Exa Z T621.heap z1 "com/example/tradewind/tradewind/benchmark/Zdt" := Exa.keep E604 Kq625
      have F630 : Fld Z T621.heap z1 "com/example/tradewind/tradewind/benchmark/Zdt" "variables" "I" (.int (30 : Int32)) := Fld.keep F605 Kq625 nin0
      have F631 : Fld Z T621.heap z1 "com/example/tradewind/tradewind/benchmark/Zdt" "restUpper" "D" (.double (4607182418800017408 : UInt64)) := Fld.keep F606 Kq625 nin0
      have E632 : Exa Z T621.heap z2 "com/example/tradewind/tradewind/benchmark/Zdt" := Exa.keep E607 Kq625
      have F633 : Fld Z T621.heap z2 "com/example/tradewind/tradewind/benchmark/Zdt" "variables" "I" (.int (30 : Int32)) := Fld.keep F608 Kq625 nin0
      have F634 : Fld Z T621.heap z2 "com/example/tradewind/tradewind/benchmark/Zdt" "restUpper" "D" (.double (4607182418800017408 : UInt64)) := Fld.keep F609 Kq625 nin0
      have E635 : Exa Z T621.heap z3 "com/example/tradewind/tradewind/benchmark/Zdt" := Exa.keep E610 Kq625
      have F636 : Fld Z T621.heap z3 "com/example/tradewind/tradewind/benchmark/Zdt" "variables" "I" (.int (30 : Int32)) := Fld.keep F611 Kq625 nin0
      have F637 : Fld Z T621.heap z3 "com/example/tradewind/tradewind/benchmark/Zdt" "restUpper" "D" (.double (4607182418800017408 : UInt64)) := Fld.keep F612 Kq625 nin0
      have E638 : Exa Z T621.heap z4 "com/example/tradewind/tradewind/benchmark/Zdt" := Exa.keep E613 Kq625
      have F639 : Fld Z T621.heap z4 "com/example/tradewind/tradewind/benchmark/Zdt" "variables" "I" (.int (10 : Int32)) := Fld.keep F614 Kq625 nin0
      have F640 : Fld Z T621.heap z4 "com/example/tradewind/tradewind/benchmark/Zdt" "restUpper" "D" (.double (4617315517961601024 : UInt64)) := Fld.keep F615 Kq625 nin0
      have E641 : Exa Z T621.heap z6 "com/example/tradewind/tradewind/benchmark/Zdt" := Exa.keep E616 Kq625
      have F642 : Fld Z T621.heap z6 "com/example/tradewind/tradewind/benchmark/Zdt" "variables" "I" (.int (10 : Int32)) := Fld.keep F617 Kq625 nin0
      have F643 : Fld Z T621.heap z6 "com/example/tradewind/tradewind/benchmark/Zdt" "restUpper" "D" (.double (4607182418800017408 : UInt64)) := Fld.keep F618 Kq625 nin0
      have V644 : Dar Z T621.heap r565 .double 10 (fun j => if j = i596 then .double (4619567317775286272 : UInt64) else (fun j => .double (own_u (4617315517961601024 : UInt64) j)) j) := Dar.keep V619 Kq625 nin0
      have Z645 : n0 ≤ T621.heap.size := Nat.le_trans Z620 Kq625.1
      have K646 : Keep h0 T621.heap [] := K603.trans Kq625 all0
      have A647 := (⟨X621, hx, hby⟩ : Ax _ _ _ _ _ _ _ _ _ _ _ _ _ _ _)
      have g648 : n0 ≤ r623 := Nat.le_trans Z620 gx626
      have gh649 : h0.size ≤ r623 := Nat.le_trans K603.1 gx626
      have ne650 : r565 ≠ r623 := Nat.ne_of_lt (Nat.lt_of_lt_of_le V619.lt gx626)
      have ne651 : z1 ≠ r623 := Nat.ne_of_lt (Nat.lt_of_lt_of_le E604.lt gx626)
      have ne652 : z2 ≠ r623 := Nat.ne_of_lt (Nat.lt_of_lt_of_le E607.lt gx626)
      have ne653 : z3 ≠ r623 := Nat.ne_of_lt (Nat.lt_of_lt_of_le E610.lt gx626)
      have ne654 : z4 ≠ r623 := Nat.ne_of_lt (Nat.lt_of_lt_of_le E613.lt gx626)
      have ne655 : z6 ≠ r623 := Nat.ne_of_lt (Nat.lt_of_lt_of_le E616.lt gx626)
      refine g_astore A647 at_184 rfl (ls' := #[.val (.int p0), .val (.int p1), .val (.int (3 : Int32)), .val (.ref z4), .val (.int (10 : Int32)), .val (.double (4617315517961601024 : UInt64)), .second, .val (.ref r565), .val (.int (Int32.ofNat i596)), .val (.double (4607182418800017408 : UInt64)), .second, .val (.ref r623)]) rfl (pc' := 186) rfl ?_
      refine g_aload A647 at_186 rfl rfl (pc' := 188) rfl ?_
      refine g_alen A647 hZ rfl V627 at_188 (z := (10 : Int32)) rfl (pc' := 189) rfl ?_
      refine g_iload A647 at_189 rfl (pc' := 191) rfl ?_
      refine g_icY A647 at_191 (c2_eq_t rfl) (pc' := 196) rfl ?_
      refine g_aload A647 at_196 rfl rfl (pc' := 198) rfl ?_
      refine g_iload A647 at_198 rfl (pc' := 200) rfl ?_
      refine g_daload A647 hZ rfl V627 (i := i596) hi597 rfl (x := (own_u (4617315517961601024 : UInt64) i596)) rfl at_200 (pc' := 201) rfl ?_
      refine g_dload A647 at_201 rfl (pc' := 203) rfl ?_
      refine g_dcmp A647 at_203 (pc' := 204) rfl ?_
      refine g_ifN A647 at_204 (d_l_ne_f (by rw [own_of0 (by omega) hc600]; decide +kernel)) (pc' := 207) rfl ?_
      refine g_iconst A647 at_207 (v := (1 : Int32)) rfl (pc' := 208) rfl ?_
      refine g_goto A647 at_208 (pc' := 212) rfl ?_
      exact g_ret (Q := Q0 Z p0 p1 z1 z2 z3 z4 z6 h0 n0) A647 at_212 Bd.notSynchronized Bd.returns rfl (Or.inl ⟨rfl, by simp, _, rfl⟩) (by decide) (by decide) ⟨rfl, N628⟩
    · skip
      refine g_ifY A588 at_122 (c0_ne_t hc600) (pc' := 129) rfl ?_
      refine g_dload A588 at_129 rfl (pc' := 131) rfl ?_
      refine g_dstore A588 at_131 (ls' := #[.val (.int p0), .val (.int p1), .val (.int (3 : Int32)), .val (.ref z4), .val (.int (10 : Int32)), .val (.double (4617315517961601024 : UInt64)), .second, .val (.ref r565), .val (.int (Int32.ofNat i596)), .val (.double (4617315517961601024 : UInt64)), .second, .unset]) rfl (pc' := 133) rfl ?_
      refine g_aload A588 at_133 rfl rfl (pc' := 135) rfl ?_
      refine g_iload A588 at_135 rfl (pc' := 137) rfl ?_
      refine g_daload A588 hZ rfl V569 (i := i596) hi597 rfl (x := (own_u (4617315517961601024 : UInt64) i596)) rfl at_137 (pc' := 138) rfl ?_
      refine g_dload A588 at_138 rfl (pc' := 140) rfl ?_
      refine g_dcmp A588 at_140 (pc' := 141) rfl ?_
      refine g_ifY A588 at_141 (d_l_eq_t (by rw [own_u, if_neg (fun q => hc600 (by rw [q]; rfl))]; decide +kernel)) (pc' := 146) rfl ?_
      refine g_aload A588 at_146 rfl rfl (pc' := 148) rfl ?_
      refine g_iconst A588 at_148 (v := (0 : Int32)) rfl (pc' := 149) rfl ?_
      refine g_daload A588 hZ rfl V569 (i := 0) (by decide) rfl (x := (own_u (4617315517961601024 : UInt64) 0)) rfl at_149 (pc' := 150) rfl ?_
      refine g_dconst1 A588 at_150 (pc' := 151) rfl ?_
      refine g_dcmp A588 at_151 (pc' := 152) rfl ?_
      refine g_ifY A588 at_152 (d_l_eq_t (by decide +kernel)) (pc' := 157) rfl ?_
      refine g_aload A588 at_157 rfl rfl (pc' := 159) rfl ?_
      refine g_iload A588 at_159 rfl (pc' := 161) rfl ?_
      refine g_iconst A588 at_161 (v := (1 : Int32)) rfl (pc' := 162) rfl ?_
      refine g_isub A588 at_162 (pc' := 163) rfl ?_
      refine g_daload A588 hZ rfl V569 (i := 9) (by decide) rfl (x := (own_u (4617315517961601024 : UInt64) 9)) rfl at_163 (pc' := 164) rfl ?_
      refine g_dload A588 at_164 rfl (pc' := 166) rfl ?_
      refine g_dcmp A588 at_166 (pc' := 167) rfl ?_
      refine g_ifY A588 at_167 (d_l_eq_t (by decide +kernel)) (pc' := 172) rfl ?_
      refine g_aload A588 at_172 rfl rfl (pc' := 174) rfl ?_
      refine g_iload A588 at_174 rfl (pc' := 176) rfl ?_
      refine g_ldcD A588 hZ hown (hw _ (List.mem_of_getElem? (i := 21) rfl)) at_176 (pc' := 179) rfl ?_
      obtain ⟨T656, h656, A656, e656, W656, st656⟩ := s_dastore A588 hZ rfl (ls := #[.val (.int p0), .val (.int p1), .val (.int (3 : Int32)), .val (.ref z4), .val (.int (10 : Int32)), .val (.double (4617315517961601024 : UInt64)), .second, .val (.ref r565), .val (.int (Int32.ofNat i596)), .val (.double (4617315517961601024 : UInt64)), .second, .unset]) (st := []) (x := (4619567317775286272 : UInt64)) V569 (i := i596) hi597 (j := (Int32.ofNat i596)) rfl at_179 (pc' := 180) rfl
      have N657 := Fr.snoc A656.1 N570 g589
      have K658 : Keep h0 h656 [] := K587.wr W656 (Or.inr gh590)
      have E659 : Exa Z h656 z1 "com/example/tradewind/tradewind/benchmark/Zdt" := Exa.wr W656 E571
      have F660 : Fld Z h656 z1 "com/example/tradewind/tradewind/benchmark/Zdt" "variables" "I" (.int (30 : Int32)) := Fld.other W656 F572 (Or.inl ne591)
      have F661 : Fld Z h656 z1 "com/example/tradewind/tradewind/benchmark/Zdt" "restUpper" "D" (.double (4607182418800017408 : UInt64)) := Fld.other W656 F573 (Or.inl ne591)
      have E662 : Exa Z h656 z2 "com/example/tradewind/tradewind/benchmark/Zdt" := Exa.wr W656 E574
      have F663 : Fld Z h656 z2 "com/example/tradewind/tradewind/benchmark/Zdt" "variables" "I" (.int (30 : Int32)) := Fld.other W656 F575 (Or.inl ne592)
      have F664 : Fld Z h656 z2 "com/example/tradewind/tradewind/benchmark/Zdt" "restUpper" "D" (.double (4607182418800017408 : UInt64)) := Fld.other W656 F576 (Or.inl ne592)
      have E665 : Exa Z h656 z3 "com/example/tradewind/tradewind/benchmark/Zdt" := Exa.wr W656 E577
      have F666 : Fld Z h656 z3 "com/example/tradewind/tradewind/benchmark/Zdt" "variables" "I" (.int (30 : Int32)) := Fld.other W656 F578 (Or.inl ne593)
      have F667 : Fld Z h656 z3 "com/example/tradewind/tradewind/benchmark/Zdt" "restUpper" "D" (.double (4607182418800017408 : UInt64)) := Fld.other W656 F579 (Or.inl ne593)
      have E668 : Exa Z h656 z4 "com/example/tradewind/tradewind/benchmark/Zdt" := Exa.wr W656 E580
      have F669 : Fld Z h656 z4 "com/example/tradewind/tradewind/benchmark/Zdt" "variables" "I" (.int (10 : Int32)) := Fld.other W656 F581 (Or.inl ne594)
      have F670 : Fld Z h656 z4 "com/example/tradewind/tradewind/benchmark/Zdt" "restUpper" "D" (.double (4617315517961601024 : UInt64)) := Fld.other W656 F582 (Or.inl ne594)
      have E671 : Exa Z h656 z6 "com/example/tradewind/tradewind/benchmark/Zdt" := Exa.wr W656 E583
      have F672 : Fld Z h656 z6 "com/example/tradewind/tradewind/benchmark/Zdt" "variables" "I" (.int (10 : Int32)) := Fld.other W656 F584 (Or.inl ne595)
      have F673 : Fld Z h656 z6 "com/example/tradewind/tradewind/benchmark/Zdt" "restUpper" "D" (.double (4607182418800017408 : UInt64)) := Fld.other W656 F585 (Or.inl ne595)
      have V674 : Dar Z h656 r565 .double 10 (fun j => if j = i596 then .double (4619567317775286272 : UInt64) else (fun j => .double (own_u (4617315517961601024 : UInt64) j)) j) := Dar.set V569 W656 (fun _ _ => rfl)
      have Z675 : n0 ≤ h656.size := by rw [W656.size]; exact Z586
      refine st656 ?_
      refine g_aloadN A656 at_180 rfl rfl (pc' := 181) rfl ?_
      obtain ⟨cq677, kq677, q677a, q677b, q677c⟩ := isOf hZ e656 E668
      obtain ⟨_, _, ⟨T676, L676, k676, n676⟩, -, X676, ⟨L676c, hQ676, l676, y676, z676⟩, st676⟩ := A656.1.virtualBack hx (y := (⟨"com/example/tradewind/tradewind/benchmark/Zdt", "upper", "()[D"⟩ : MethodName)) (z := (⟨"com/example/tradewind/tradewind/benchmark/Zdt", "upper", "()[D"⟩ : MethodName)) hown (mvT hZ (hw _ (List.mem_of_getElem? (i := 4) rfl))) (mvT hZ (hw _ (List.mem_of_getElem? (i := 5) rfl))) (notFace_of_selects (args := #[]) (mvT hZ (hw _ (List.mem_of_getElem? (i := 7) rfl)))) (mvT hZ (hw _ (List.mem_of_getElem? (i := 7) rfl))) (mvT hZ (hw _ (List.mem_of_getElem? (i := 6) rfl))) (by decide) (backOf (W := 0) (rmB10 l Z a0 hw [] z4 (4617315517961601024 : UInt64) h656 n0 Z675 F669 F670) hZ (hw _ (List.mem_of_getElem? (i := 8) rfl)) (hw _ (List.mem_of_getElem? (i := 2) rfl)) (by decide) (by decide)) q677a q677c (g := (mkF m 181 #[.val (.int p0), .val (.int p1), .val (.int (3 : Int32)), .val (.ref z4), .val (.int (10 : Int32)), .val (.double (4617315517961601024 : UInt64)), .second, .val (.ref r565), .val (.int (Int32.ofNat i596)), .val (.double (4617315517961601024 : UInt64)), .second, .unset] [(.ref z4)])) rfl (by rw [hml]; rfl) (Steps.refl _) (argsL := []) (rest := []) (lenOf pd_2 rfl) rfl (by show 2 * 0 + _ ≤ _; exact Nat.le_of_eq rfl) (hb hby at_181) (fun _ _ => ⟨rfl, e656, (by decide : 1 + 1 ≤ _), (by decide : 10 + 10 ≤ _)⟩)
      dsimp only [Pt.U, Pt.locs, Pt.cells, Pt.slots] at X676 l676 y676 z676 st676 hQ676
      subst l676 y676 z676
      obtain ⟨r678, rfl, Nq679, Kq680, gx681, V682⟩ := hQ676
      have N683 := Fr.app N657 Nq679
      refine Go.tr (g' := (mkF m 184 #[.val (.int p0), .val (.int p1), .val (.int (3 : Int32)), .val (.ref z4), .val (.int (10 : Int32)), .val (.double (4617315517961601024 : UInt64)), .second, .val (.ref r565), .val (.int (Int32.ofNat i596)), .val (.double (4617315517961601024 : UInt64)), .second, .unset] [(.ref r678)])) st676 ?_
      have E684 : Exa Z T676.heap z1 "com/example/tradewind/tradewind/benchmark/Zdt" := Exa.keep E659 Kq680
      have F685 : Fld Z T676.heap z1 "com/example/tradewind/tradewind/benchmark/Zdt" "variables" "I" (.int (30 : Int32)) := Fld.keep F660 Kq680 nin0
      have F686 : Fld Z T676.heap z1 "com/example/tradewind/tradewind/benchmark/Zdt" "restUpper" "D" (.double (4607182418800017408 : UInt64)) := Fld.keep F661 Kq680 nin0
      have E687 : Exa Z T676.heap z2 "com/example/tradewind/tradewind/benchmark/Zdt" := Exa.keep E662 Kq680
      have F688 : Fld Z T676.heap z2 "com/example/tradewind/tradewind/benchmark/Zdt" "variables" "I" (.int (30 : Int32)) := Fld.keep F663 Kq680 nin0
      have F689 : Fld Z T676.heap z2 "com/example/tradewind/tradewind/benchmark/Zdt" "restUpper" "D" (.double (4607182418800017408 : UInt64)) := Fld.keep F664 Kq680 nin0
      have E690 : Exa Z T676.heap z3 "com/example/tradewind/tradewind/benchmark/Zdt" := Exa.keep E665 Kq680
      have F691 : Fld Z T676.heap z3 "com/example/tradewind/tradewind/benchmark/Zdt" "variables" "I" (.int (30 : Int32)) := Fld.keep F666 Kq680 nin0
      have F692 : Fld Z T676.heap z3 "com/example/tradewind/tradewind/benchmark/Zdt" "restUpper" "D" (.double (4607182418800017408 : UInt64)) := Fld.keep F667 Kq680 nin0
      have E693 : Exa Z T676.heap z4 "com/example/tradewind/tradewind/benchmark/Zdt" := Exa.keep E668 Kq680
      have F694 : Fld Z T676.heap z4 "com/example/tradewind/tradewind/benchmark/Zdt" "variables" "I" (.int (10 : Int32)) := Fld.keep F669 Kq680 nin0
      have F695 : Fld Z T676.heap z4 "com/example/tradewind/tradewind/benchmark/Zdt" "restUpper" "D" (.double (4617315517961601024 : UInt64)) := Fld.keep F670 Kq680 nin0
      have E696 : Exa Z T676.heap z6 "com/example/tradewind/tradewind/benchmark/Zdt" := Exa.keep E671 Kq680
      have F697 : Fld Z T676.heap z6 "com/example/tradewind/tradewind/benchmark/Zdt" "variables" "I" (.int (10 : Int32)) := Fld.keep F672 Kq680 nin0
      have F698 : Fld Z T676.heap z6 "com/example/tradewind/tradewind/benchmark/Zdt" "restUpper" "D" (.double (4607182418800017408 : UInt64)) := Fld.keep F673 Kq680 nin0
      have V699 : Dar Z T676.heap r565 .double 10 (fun j => if j = i596 then .double (4619567317775286272 : UInt64) else (fun j => .double (own_u (4617315517961601024 : UInt64) j)) j) := Dar.keep V674 Kq680 nin0
      have Z700 : n0 ≤ T676.heap.size := Nat.le_trans Z675 Kq680.1
      have K701 : Keep h0 T676.heap [] := K658.trans Kq680 all0
      have A702 := (⟨X676, hx, hby⟩ : Ax _ _ _ _ _ _ _ _ _ _ _ _ _ _ _)
      have g703 : n0 ≤ r678 := Nat.le_trans Z675 gx681
      have gh704 : h0.size ≤ r678 := Nat.le_trans K658.1 gx681
      have ne705 : r565 ≠ r678 := Nat.ne_of_lt (Nat.lt_of_lt_of_le V674.lt gx681)
      have ne706 : z1 ≠ r678 := Nat.ne_of_lt (Nat.lt_of_lt_of_le E659.lt gx681)
      have ne707 : z2 ≠ r678 := Nat.ne_of_lt (Nat.lt_of_lt_of_le E662.lt gx681)
      have ne708 : z3 ≠ r678 := Nat.ne_of_lt (Nat.lt_of_lt_of_le E665.lt gx681)
      have ne709 : z4 ≠ r678 := Nat.ne_of_lt (Nat.lt_of_lt_of_le E668.lt gx681)
      have ne710 : z6 ≠ r678 := Nat.ne_of_lt (Nat.lt_of_lt_of_le E671.lt gx681)
      refine g_astore A702 at_184 rfl (ls' := #[.val (.int p0), .val (.int p1), .val (.int (3 : Int32)), .val (.ref z4), .val (.int (10 : Int32)), .val (.double (4617315517961601024 : UInt64)), .second, .val (.ref r565), .val (.int (Int32.ofNat i596)), .val (.double (4617315517961601024 : UInt64)), .second, .val (.ref r678)]) rfl (pc' := 186) rfl ?_
      refine g_aload A702 at_186 rfl rfl (pc' := 188) rfl ?_
      refine g_alen A702 hZ rfl V682 at_188 (z := (10 : Int32)) rfl (pc' := 189) rfl ?_
      refine g_iload A702 at_189 rfl (pc' := 191) rfl ?_
      refine g_icY A702 at_191 (c2_eq_t rfl) (pc' := 196) rfl ?_
      refine g_aload A702 at_196 rfl rfl (pc' := 198) rfl ?_
      refine g_iload A702 at_198 rfl (pc' := 200) rfl ?_
      refine g_daload A702 hZ rfl V682 (i := i596) hi597 rfl (x := (own_u (4617315517961601024 : UInt64) i596)) rfl at_200 (pc' := 201) rfl ?_
      refine g_dload A702 at_201 rfl (pc' := 203) rfl ?_
      refine g_dcmp A702 at_203 (pc' := 204) rfl ?_
      refine g_ifN A702 at_204 (d_l_ne_f (by rw [own_u, if_neg (fun q => hc600 (by rw [q]; rfl))]; decide +kernel)) (pc' := 207) rfl ?_
      refine g_iconst A702 at_207 (v := (1 : Int32)) rfl (pc' := 208) rfl ?_
      refine g_goto A702 at_208 (pc' := 212) rfl ?_
      exact g_ret (Q := Q0 Z p0 p1 z1 z2 z3 z4 z6 h0 n0) A702 at_212 Bd.notSynchronized Bd.returns rfl (Or.inl ⟨rfl, by simp, _, rfl⟩) (by decide) (by decide) ⟨rfl, N683⟩
  · skip
    rw [hg110]
    refine g_istoreN A0 at_6 (ls' := #[.val (.int p0), .val (.int p1), .val (.int (4 : Int32)), .unset, .unset, .unset, .unset, .unset, .unset, .unset, .unset, .unset]) rfl (pc' := 7) rfl ?_
    refine g_iloadN A0 at_7 rfl (pc' := 8) rfl ?_
    refine g_ifY A0 at_8 (c0_ne_t (by decide)) (pc' := 25) rfl ?_
    refine g_iloadN A0 at_25 rfl (pc' := 26) rfl ?_
    refine g_iconst A0 at_26 (v := (1 : Int32)) rfl (pc' := 27) rfl ?_
    refine g_icY A0 at_27 (c2_ne_t (by decide)) (pc' := 44) rfl ?_
    refine g_iloadN A0 at_44 rfl (pc' := 45) rfl ?_
    refine g_iconst A0 at_45 (v := (2 : Int32)) rfl (pc' := 46) rfl ?_
    refine g_icY A0 at_46 (c2_ne_t (by decide)) (pc' := 63) rfl ?_
    refine g_iloadN A0 at_63 rfl (pc' := 64) rfl ?_
    refine g_iconst A0 at_64 (v := (3 : Int32)) rfl (pc' := 65) rfl ?_
    refine g_icY A0 at_65 (c2_ne_t (by decide)) (pc' := 84) rfl ?_
    obtain ⟨T711, X711, e711, st711⟩ := getS X0 hx hZ hown (host := "") (hw _ (List.mem_of_getElem? (i := 22) rfl)) Via.refl e0 S105 (g := (mkF m 84 #[.val (.int p0), .val (.int p1), .val (.int (4 : Int32)), .unset, .unset, .unset, .unset, .unset, .unset, .unset, .unset, .unset] [])) rfl (hb hby at_84)
    refine Go.of (g' := (mkF m 87 #[.val (.int p0), .val (.int p1), .val (.int (4 : Int32)), .unset, .unset, .unset, .unset, .unset, .unset, .unset, .unset, .unset] [(.ref z6)])) st711 ?_
    have A712 := (⟨X711, hx, hby⟩ : Ax _ _ _ _ _ _ _ _ _ _ _ _ _ _ _)
    refine g_astoreN A712 at_87 rfl (ls' := #[.val (.int p0), .val (.int p1), .val (.int (4 : Int32)), .val (.ref z6), .unset, .unset, .unset, .unset, .unset, .unset, .unset, .unset]) rfl (pc' := 88) rfl ?_
    refine g_bipush A712 at_88 (v := (10 : Int32)) rfl (pc' := 90) rfl ?_
    refine g_istore A712 at_90 (ls' := #[.val (.int p0), .val (.int p1), .val (.int (4 : Int32)), .val (.ref z6), .val (.int (10 : Int32)), .unset, .unset, .unset, .unset, .unset, .unset, .unset]) rfl (pc' := 92) rfl ?_
    refine g_dconst1 A712 at_92 (pc' := 93) rfl ?_
    refine g_dstore A712 at_93 (ls' := #[.val (.int p0), .val (.int p1), .val (.int (4 : Int32)), .val (.ref z6), .val (.int (10 : Int32)), .val (.double (4607182418800017408 : UInt64)), .second, .unset, .unset, .unset, .unset, .unset]) rfl (pc' := 95) rfl ?_
    refine g_aloadN A712 at_95 rfl rfl (pc' := 96) rfl ?_
    obtain ⟨cq714, kq714, q714a, q714b, q714c⟩ := isOf hZ e711 E106
    obtain ⟨_, _, ⟨T713, L713, k713, n713⟩, -, X713, ⟨L713c, hQ713, l713, y713, z713⟩, st713⟩ := X711.virtualBack hx (y := (⟨"com/example/tradewind/tradewind/benchmark/Zdt", "upper", "()[D"⟩ : MethodName)) (z := (⟨"com/example/tradewind/tradewind/benchmark/Zdt", "upper", "()[D"⟩ : MethodName)) hown (mvT hZ (hw _ (List.mem_of_getElem? (i := 4) rfl))) (mvT hZ (hw _ (List.mem_of_getElem? (i := 5) rfl))) (notFace_of_selects (args := #[]) (mvT hZ (hw _ (List.mem_of_getElem? (i := 7) rfl)))) (mvT hZ (hw _ (List.mem_of_getElem? (i := 7) rfl))) (mvT hZ (hw _ (List.mem_of_getElem? (i := 6) rfl))) (by decide) (backOf (W := 0) (rmB10 l Z a0 hw [] z6 (4607182418800017408 : UInt64) h0 n0 Z0 F107 F108) hZ (hw _ (List.mem_of_getElem? (i := 8) rfl)) (hw _ (List.mem_of_getElem? (i := 2) rfl)) (by decide) (by decide)) q714a q714c (g := (mkF m 96 #[.val (.int p0), .val (.int p1), .val (.int (4 : Int32)), .val (.ref z6), .val (.int (10 : Int32)), .val (.double (4607182418800017408 : UInt64)), .second, .unset, .unset, .unset, .unset, .unset] [(.ref z6)])) rfl (by rw [hml]; rfl) (Steps.refl _) (argsL := []) (rest := []) (lenOf pd_2 rfl) rfl (by show 2 * 0 + _ ≤ _; exact Nat.le_of_eq rfl) (hb hby at_96) (fun _ _ => ⟨rfl, e711, (by decide : 0 + 1 ≤ _), (by decide : 0 + 10 ≤ _)⟩)
    dsimp only [Pt.U, Pt.locs, Pt.cells, Pt.slots] at X713 l713 y713 z713 st713 hQ713
    subst l713 y713 z713
    obtain ⟨r715, rfl, Nq716, Kq717, gx718, V719⟩ := hQ713
    have N720 := Fr.app N0 Nq716
    refine Go.tr (g' := (mkF m 99 #[.val (.int p0), .val (.int p1), .val (.int (4 : Int32)), .val (.ref z6), .val (.int (10 : Int32)), .val (.double (4607182418800017408 : UInt64)), .second, .unset, .unset, .unset, .unset, .unset] [(.ref r715)])) st713 ?_
    have E721 : Exa Z T713.heap z1 "com/example/tradewind/tradewind/benchmark/Zdt" := Exa.keep E90 Kq717
    have F722 : Fld Z T713.heap z1 "com/example/tradewind/tradewind/benchmark/Zdt" "variables" "I" (.int (30 : Int32)) := Fld.keep F91 Kq717 nin0
    have F723 : Fld Z T713.heap z1 "com/example/tradewind/tradewind/benchmark/Zdt" "restUpper" "D" (.double (4607182418800017408 : UInt64)) := Fld.keep F92 Kq717 nin0
    have E724 : Exa Z T713.heap z2 "com/example/tradewind/tradewind/benchmark/Zdt" := Exa.keep E94 Kq717
    have F725 : Fld Z T713.heap z2 "com/example/tradewind/tradewind/benchmark/Zdt" "variables" "I" (.int (30 : Int32)) := Fld.keep F95 Kq717 nin0
    have F726 : Fld Z T713.heap z2 "com/example/tradewind/tradewind/benchmark/Zdt" "restUpper" "D" (.double (4607182418800017408 : UInt64)) := Fld.keep F96 Kq717 nin0
    have E727 : Exa Z T713.heap z3 "com/example/tradewind/tradewind/benchmark/Zdt" := Exa.keep E98 Kq717
    have F728 : Fld Z T713.heap z3 "com/example/tradewind/tradewind/benchmark/Zdt" "variables" "I" (.int (30 : Int32)) := Fld.keep F99 Kq717 nin0
    have F729 : Fld Z T713.heap z3 "com/example/tradewind/tradewind/benchmark/Zdt" "restUpper" "D" (.double (4607182418800017408 : UInt64)) := Fld.keep F100 Kq717 nin0
    have E730 : Exa Z T713.heap z4 "com/example/tradewind/tradewind/benchmark/Zdt" := Exa.keep E102 Kq717
    have F731 : Fld Z T713.heap z4 "com/example/tradewind/tradewind/benchmark/Zdt" "variables" "I" (.int (10 : Int32)) := Fld.keep F103 Kq717 nin0
    have F732 : Fld Z T713.heap z4 "com/example/tradewind/tradewind/benchmark/Zdt" "restUpper" "D" (.double (4617315517961601024 : UInt64)) := Fld.keep F104 Kq717 nin0
    have E733 : Exa Z T713.heap z6 "com/example/tradewind/tradewind/benchmark/Zdt" := Exa.keep E106 Kq717
    have F734 : Fld Z T713.heap z6 "com/example/tradewind/tradewind/benchmark/Zdt" "variables" "I" (.int (10 : Int32)) := Fld.keep F107 Kq717 nin0
    have F735 : Fld Z T713.heap z6 "com/example/tradewind/tradewind/benchmark/Zdt" "restUpper" "D" (.double (4607182418800017408 : UInt64)) := Fld.keep F108 Kq717 nin0
    have Z736 : n0 ≤ T713.heap.size := Nat.le_trans Z0 Kq717.1
    have K737 : Keep h0 T713.heap [] := (Keep.refl h0 []).trans Kq717 all0
    have A738 := (⟨X713, hx, hby⟩ : Ax _ _ _ _ _ _ _ _ _ _ _ _ _ _ _)
    have g739 : n0 ≤ r715 := Nat.le_trans Z0 gx718
    have gh740 : h0.size ≤ r715 := Nat.le_trans (Keep.refl h0 []).1 gx718
    have ne741 : z1 ≠ r715 := Nat.ne_of_lt (Nat.lt_of_lt_of_le E90.lt gx718)
    have ne742 : z2 ≠ r715 := Nat.ne_of_lt (Nat.lt_of_lt_of_le E94.lt gx718)
    have ne743 : z3 ≠ r715 := Nat.ne_of_lt (Nat.lt_of_lt_of_le E98.lt gx718)
    have ne744 : z4 ≠ r715 := Nat.ne_of_lt (Nat.lt_of_lt_of_le E102.lt gx718)
    have ne745 : z6 ≠ r715 := Nat.ne_of_lt (Nat.lt_of_lt_of_le E106.lt gx718)
    refine g_astore A738 at_99 rfl (ls' := #[.val (.int p0), .val (.int p1), .val (.int (4 : Int32)), .val (.ref z6), .val (.int (10 : Int32)), .val (.double (4607182418800017408 : UInt64)), .second, .val (.ref r715), .unset, .unset, .unset, .unset]) rfl (pc' := 101) rfl ?_
    refine g_aload A738 at_101 rfl rfl (pc' := 103) rfl ?_
    refine g_alen A738 hZ rfl V719 at_103 (z := (10 : Int32)) rfl (pc' := 104) rfl ?_
    refine g_iload A738 at_104 rfl (pc' := 106) rfl ?_
    refine g_icY A738 at_106 (c2_eq_t rfl) (pc' := 111) rfl ?_
    refine g_iloadN A738 at_111 rfl (pc' := 112) rfl ?_
    refine g_ldcI A738 hZ hown (hw _ (List.mem_of_getElem? (i := 0) rfl)) at_112 (pc' := 114) rfl ?_
    refine g_iand A738 at_114 (pc' := 115) rfl ?_
    refine g_iload A738 at_115 rfl (pc' := 117) rfl ?_
    refine g_irem A738 at_117 (by decide) (pc' := 118) rfl ?_
    obtain ⟨i746, hi747, hk748⟩ := own_mod p1 10 (by decide) (by decide)
    have hk749 : ((p1 &&& (2147483647 : Int32)) % (10 : Int32)) = Int32.ofNat i746 := hk748
    rw [hk749]
    refine g_istore A738 at_118 (ls' := #[.val (.int p0), .val (.int p1), .val (.int (4 : Int32)), .val (.ref z6), .val (.int (10 : Int32)), .val (.double (4607182418800017408 : UInt64)), .second, .val (.ref r715), .val (.int (Int32.ofNat i746)), .unset, .unset, .unset]) rfl (pc' := 120) rfl ?_
    refine g_iload A738 at_120 rfl (pc' := 122) rfl ?_
    by_cases hc750 : (Int32.ofNat i746) = 0
    · skip
      refine g_ifN A738 at_122 (c0_ne_f hc750) (pc' := 125) rfl ?_
      refine g_dconst1 A738 at_125 (pc' := 126) rfl ?_
      refine g_goto A738 at_126 (pc' := 131) rfl ?_
      refine g_dstore A738 at_131 (ls' := #[.val (.int p0), .val (.int p1), .val (.int (4 : Int32)), .val (.ref z6), .val (.int (10 : Int32)), .val (.double (4607182418800017408 : UInt64)), .second, .val (.ref r715), .val (.int (Int32.ofNat i746)), .val (.double (4607182418800017408 : UInt64)), .second, .unset]) rfl (pc' := 133) rfl ?_
      refine g_aload A738 at_133 rfl rfl (pc' := 135) rfl ?_
      refine g_iload A738 at_135 rfl (pc' := 137) rfl ?_
      refine g_daload A738 hZ rfl V719 (i := i746) hi747 rfl (x := (own_u (4607182418800017408 : UInt64) i746)) rfl at_137 (pc' := 138) rfl ?_
      refine g_dload A738 at_138 rfl (pc' := 140) rfl ?_
      refine g_dcmp A738 at_140 (pc' := 141) rfl ?_
      refine g_ifY A738 at_141 (d_l_eq_t (by rw [own_of0 (by omega) hc750]; decide +kernel)) (pc' := 146) rfl ?_
      refine g_aload A738 at_146 rfl rfl (pc' := 148) rfl ?_
      refine g_iconst A738 at_148 (v := (0 : Int32)) rfl (pc' := 149) rfl ?_
      refine g_daload A738 hZ rfl V719 (i := 0) (by decide) rfl (x := (own_u (4607182418800017408 : UInt64) 0)) rfl at_149 (pc' := 150) rfl ?_
      refine g_dconst1 A738 at_150 (pc' := 151) rfl ?_
      refine g_dcmp A738 at_151 (pc' := 152) rfl ?_
      refine g_ifY A738 at_152 (d_l_eq_t (by decide +kernel)) (pc' := 157) rfl ?_
      refine g_aload A738 at_157 rfl rfl (pc' := 159) rfl ?_
      refine g_iload A738 at_159 rfl (pc' := 161) rfl ?_
      refine g_iconst A738 at_161 (v := (1 : Int32)) rfl (pc' := 162) rfl ?_
      refine g_isub A738 at_162 (pc' := 163) rfl ?_
      refine g_daload A738 hZ rfl V719 (i := 9) (by decide) rfl (x := (own_u (4607182418800017408 : UInt64) 9)) rfl at_163 (pc' := 164) rfl ?_
      refine g_dload A738 at_164 rfl (pc' := 166) rfl ?_
      refine g_dcmp A738 at_166 (pc' := 167) rfl ?_
      refine g_ifY A738 at_167 (d_l_eq_t (by decide +kernel)) (pc' := 172) rfl ?_
      refine g_aload A738 at_172 rfl rfl (pc' := 174) rfl ?_
      refine g_iload A738 at_174 rfl (pc' := 176) rfl ?_
      refine g_ldcD A738 hZ hown (hw _ (List.mem_of_getElem? (i := 21) rfl)) at_176 (pc' := 179) rfl ?_
      obtain ⟨T751, h751, A751, e751, W751, st751⟩ := s_dastore A738 hZ rfl (ls := #[.val (.int p0), .val (.int p1), .val (.int (4 : Int32)), .val (.ref z6), .val (.int (10 : Int32)), .val (.double (4607182418800017408 : UInt64)), .second, .val (.ref r715), .val (.int (Int32.ofNat i746)), .val (.double (4607182418800017408 : UInt64)), .second, .unset]) (st := []) (x := (4619567317775286272 : UInt64)) V719 (i := i746) hi747 (j := (Int32.ofNat i746)) rfl at_179 (pc' := 180) rfl
      have N752 := Fr.snoc A751.1 N720 g739
      have K753 : Keep h0 h751 [] := K737.wr W751 (Or.inr gh740)
      have E754 : Exa Z h751 z1 "com/example/tradewind/tradewind/benchmark/Zdt" := Exa.wr W751 E721
      have F755 : Fld Z h751 z1 "com/example/tradewind/tradewind/benchmark/Zdt" "variables" "I" (.int (30 : Int32)) := Fld.other W751 F722 (Or.inl ne741)
      have F756 : Fld Z h751 z1 "com/example/tradewind/tradewind/benchmark/Zdt" "restUpper" "D" (.double (4607182418800017408 : UInt64)) := Fld.other W751 F723 (Or.inl ne741)
      have E757 : Exa Z h751 z2 "com/example/tradewind/tradewind/benchmark/Zdt" := Exa.wr W751 E724
      have F758 : Fld Z h751 z2 "com/example/tradewind/tradewind/benchmark/Zdt" "variables" "I" (.int (30 : Int32)) := Fld.other W751 F725 (Or.inl ne742)
      have F759 : Fld Z h751 z2 "com/example/tradewind/tradewind/benchmark/Zdt" "restUpper" "D" (.double (4607182418800017408 : UInt64)) := Fld.other W751 F726 (Or.inl ne742)
      have E760 : Exa Z h751 z3 "com/example/tradewind/tradewind/benchmark/Zdt" := Exa.wr W751 E727
      have F761 : Fld Z h751 z3 "com/example/tradewind/tradewind/benchmark/Zdt" "variables" "I" (.int (30 : Int32)) := Fld.other W751 F728 (Or.inl ne743)
      have F762 : Fld Z h751 z3 "com/example/tradewind/tradewind/benchmark/Zdt" "restUpper" "D" (.double (4607182418800017408 : UInt64)) := Fld.other W751 F729 (Or.inl ne743)
      have E763 : Exa Z h751 z4 "com/example/tradewind/tradewind/benchmark/Zdt" := Exa.wr W751 E730
      have F764 : Fld Z h751 z4 "com/example/tradewind/tradewind/benchmark/Zdt" "variables" "I" (.int (10 : Int32)) := Fld.other W751 F731 (Or.inl ne744)
      have F765 : Fld Z h751 z4 "com/example/tradewind/tradewind/benchmark/Zdt" "restUpper" "D" (.double (4617315517961601024 : UInt64)) := Fld.other W751 F732 (Or.inl ne744)
      have E766 : Exa Z h751 z6 "com/example/tradewind/tradewind/benchmark/Zdt" := Exa.wr W751 E733
      have F767 : Fld Z h751 z6 "com/example/tradewind/tradewind/benchmark/Zdt" "variables" "I" (.int (10 : Int32)) := Fld.other W751 F734 (Or.inl ne745)
      have F768 : Fld Z h751 z6 "com/example/tradewind/tradewind/benchmark/Zdt" "restUpper" "D" (.double (4607182418800017408 : UInt64)) := Fld.other W751 F735 (Or.inl ne745)
      have V769 : Dar Z h751 r715 .double 10 (fun j => if j = i746 then .double (4619567317775286272 : UInt64) else (fun j => .double (own_u (4607182418800017408 : UInt64) j)) j) := Dar.set V719 W751 (fun _ _ => rfl)
      have Z770 : n0 ≤ h751.size := by rw [W751.size]; exact Z736
      refine st751 ?_
      refine g_aloadN A751 at_180 rfl rfl (pc' := 181) rfl ?_
      obtain ⟨cq772, kq772, q772a, q772b, q772c⟩ := isOf hZ e751 E766
      obtain ⟨_, _, ⟨T771, L771, k771, n771⟩, -, X771, ⟨L771c, hQ771, l771, y771, z771⟩, st771⟩ := A751.1.virtualBack hx (y := (⟨"com/example/tradewind/tradewind/benchmark/Zdt", "upper", "()[D"⟩ : MethodName)) (z := (⟨"com/example/tradewind/tradewind/benchmark/Zdt", "upper", "()[D"⟩ : MethodName)) hown (mvT hZ (hw _ (List.mem_of_getElem? (i := 4) rfl))) (mvT hZ (hw _ (List.mem_of_getElem? (i := 5) rfl))) (notFace_of_selects (args := #[]) (mvT hZ (hw _ (List.mem_of_getElem? (i := 7) rfl)))) (mvT hZ (hw _ (List.mem_of_getElem? (i := 7) rfl))) (mvT hZ (hw _ (List.mem_of_getElem? (i := 6) rfl))) (by decide) (backOf (W := 0) (rmB10 l Z a0 hw [] z6 (4607182418800017408 : UInt64) h751 n0 Z770 F767 F768) hZ (hw _ (List.mem_of_getElem? (i := 8) rfl)) (hw _ (List.mem_of_getElem? (i := 2) rfl)) (by decide) (by decide)) q772a q772c (g := (mkF m 181 #[.val (.int p0), .val (.int p1), .val (.int (4 : Int32)), .val (.ref z6), .val (.int (10 : Int32)), .val (.double (4607182418800017408 : UInt64)), .second, .val (.ref r715), .val (.int (Int32.ofNat i746)), .val (.double (4607182418800017408 : UInt64)), .second, .unset] [(.ref z6)])) rfl (by rw [hml]; rfl) (Steps.refl _) (argsL := []) (rest := []) (lenOf pd_2 rfl) rfl (by show 2 * 0 + _ ≤ _; exact Nat.le_of_eq rfl) (hb hby at_181) (fun _ _ => ⟨rfl, e751, (by decide : 1 + 1 ≤ _), (by decide : 10 + 10 ≤ _)⟩)
      dsimp only [Pt.U, Pt.locs, Pt.cells, Pt.slots] at X771 l771 y771 z771 st771 hQ771
      subst l771 y771 z771
      obtain ⟨r773, rfl, Nq774, Kq775, gx776, V777⟩ := hQ771
      have N778 := Fr.app N752 Nq774
      refine Go.tr (g' := (mkF m 184 #[.val (.int p0), .val (.int p1), .val (.int (4 : Int32)), .val (.ref z6), .val (.int (10 : Int32)), .val (.double (4607182418800017408 : UInt64)), .second, .val (.ref r715), .val (.int (Int32.ofNat i746)), .val (.double (4607182418800017408 : UInt64)), .second, .unset] [(.ref r773)])) st771 ?_
      have E779 : Exa Z T771.heap z1 "com/example/tradewind/tradewind/benchmark/Zdt" := Exa.keep E754 Kq775
      have F780 : Fld Z T771.heap z1 "com/example/tradewind/tradewind/benchmark/Zdt" "variables" "I" (.int (30 : Int32)) := Fld.keep F755 Kq775 nin0
      have F781 : Fld Z T771.heap z1 "com/example/tradewind/tradewind/benchmark/Zdt" "restUpper" "D" (.double (4607182418800017408 : UInt64)) := Fld.keep F756 Kq775 nin0
      have E782 : Exa Z T771.heap z2 "com/example/tradewind/tradewind/benchmark/Zdt" := Exa.keep E757 Kq775
      have F783 : Fld Z T771.heap z2 "com/example/tradewind/tradewind/benchmark/Zdt" "variables" "I" (.int (30 : Int32)) := Fld.keep F758 Kq775 nin0
      have F784 : Fld Z T771.heap z2 "com/example/tradewind/tradewind/benchmark/Zdt" "restUpper" "D" (.double (4607182418800017408 : UInt64)) := Fld.keep F759 Kq775 nin0
      have E785 : Exa Z T771.heap z3 "com/example/tradewind/tradewind/benchmark/Zdt" := Exa.keep E760 Kq775
      have F786 : Fld Z T771.heap z3 "com/example/tradewind/tradewind/benchmark/Zdt" "variables" "I" (.int (30 : Int32)) := Fld.keep F761 Kq775 nin0
      have F787 : Fld Z T771.heap z3 "com/example/tradewind/tradewind/benchmark/Zdt" "restUpper" "D" (.double (4607182418800017408 : UInt64)) := Fld.keep F762 Kq775 nin0
      have E788 : Exa Z T771.heap z4 "com/example/tradewind/tradewind/benchmark/Zdt" := Exa.keep E763 Kq775
      have F789 : Fld Z T771.heap z4 "com/example/tradewind/tradewind/benchmark/Zdt" "variables" "I" (.int (10 : Int32)) := Fld.keep F764 Kq775 nin0
      have F790 : Fld Z T771.heap z4 "com/example/tradewind/tradewind/benchmark/Zdt" "restUpper" "D" (.double (4617315517961601024 : UInt64)) := Fld.keep F765 Kq775 nin0
      have E791 : Exa Z T771.heap z6 "com/example/tradewind/tradewind/benchmark/Zdt" := Exa.keep E766 Kq775
      have F792 : Fld Z T771.heap z6 "com/example/tradewind/tradewind/benchmark/Zdt" "variables" "I" (.int (10 : Int32)) := Fld.keep F767 Kq775 nin0
      have F793 : Fld Z T771.heap z6 "com/example/tradewind/tradewind/benchmark/Zdt" "restUpper" "D" (.double (4607182418800017408 : UInt64)) := Fld.keep F768 Kq775 nin0
      have V794 : Dar Z T771.heap r715 .double 10 (fun j => if j = i746 then .double (4619567317775286272 : UInt64) else (fun j => .double (own_u (4607182418800017408 : UInt64) j)) j) := Dar.keep V769 Kq775 nin0
      have Z795 : n0 ≤ T771.heap.size := Nat.le_trans Z770 Kq775.1
      have K796 : Keep h0 T771.heap [] := K753.trans Kq775 all0
      have A797 := (⟨X771, hx, hby⟩ : Ax _ _ _ _ _ _ _ _ _ _ _ _ _ _ _)
      have g798 : n0 ≤ r773 := Nat.le_trans Z770 gx776
      have gh799 : h0.size ≤ r773 := Nat.le_trans K753.1 gx776
      have ne800 : r715 ≠ r773 := Nat.ne_of_lt (Nat.lt_of_lt_of_le V769.lt gx776)
      have ne801 : z1 ≠ r773 := Nat.ne_of_lt (Nat.lt_of_lt_of_le E754.lt gx776)
      have ne802 : z2 ≠ r773 := Nat.ne_of_lt (Nat.lt_of_lt_of_le E757.lt gx776)
      have ne803 : z3 ≠ r773 := Nat.ne_of_lt (Nat.lt_of_lt_of_le E760.lt gx776)
      have ne804 : z4 ≠ r773 := Nat.ne_of_lt (Nat.lt_of_lt_of_le E763.lt gx776)
      have ne805 : z6 ≠ r773 := Nat.ne_of_lt (Nat.lt_of_lt_of_le E766.lt gx776)
      refine g_astore A797 at_184 rfl (ls' := #[.val (.int p0), .val (.int p1), .val (.int (4 : Int32)), .val (.ref z6), .val (.int (10 : Int32)), .val (.double (4607182418800017408 : UInt64)), .second, .val (.ref r715), .val (.int (Int32.ofNat i746)), .val (.double (4607182418800017408 : UInt64)), .second, .val (.ref r773)]) rfl (pc' := 186) rfl ?_
      refine g_aload A797 at_186 rfl rfl (pc' := 188) rfl ?_
      refine g_alen A797 hZ rfl V777 at_188 (z := (10 : Int32)) rfl (pc' := 189) rfl ?_
      refine g_iload A797 at_189 rfl (pc' := 191) rfl ?_
      refine g_icY A797 at_191 (c2_eq_t rfl) (pc' := 196) rfl ?_
      refine g_aload A797 at_196 rfl rfl (pc' := 198) rfl ?_
      refine g_iload A797 at_198 rfl (pc' := 200) rfl ?_
      refine g_daload A797 hZ rfl V777 (i := i746) hi747 rfl (x := (own_u (4607182418800017408 : UInt64) i746)) rfl at_200 (pc' := 201) rfl ?_
      refine g_dload A797 at_201 rfl (pc' := 203) rfl ?_
      refine g_dcmp A797 at_203 (pc' := 204) rfl ?_
      refine g_ifN A797 at_204 (d_l_ne_f (by rw [own_of0 (by omega) hc750]; decide +kernel)) (pc' := 207) rfl ?_
      refine g_iconst A797 at_207 (v := (1 : Int32)) rfl (pc' := 208) rfl ?_
      refine g_goto A797 at_208 (pc' := 212) rfl ?_
      exact g_ret (Q := Q0 Z p0 p1 z1 z2 z3 z4 z6 h0 n0) A797 at_212 Bd.notSynchronized Bd.returns rfl (Or.inl ⟨rfl, by simp, _, rfl⟩) (by decide) (by decide) ⟨rfl, N778⟩
    · skip
      refine g_ifY A738 at_122 (c0_ne_t hc750) (pc' := 129) rfl ?_
      refine g_dload A738 at_129 rfl (pc' := 131) rfl ?_
      refine g_dstore A738 at_131 (ls' := #[.val (.int p0), .val (.int p1), .val (.int (4 : Int32)), .val (.ref z6), .val (.int (10 : Int32)), .val (.double (4607182418800017408 : UInt64)), .second, .val (.ref r715), .val (.int (Int32.ofNat i746)), .val (.double (4607182418800017408 : UInt64)), .second, .unset]) rfl (pc' := 133) rfl ?_
      refine g_aload A738 at_133 rfl rfl (pc' := 135) rfl ?_
      refine g_iload A738 at_135 rfl (pc' := 137) rfl ?_
      refine g_daload A738 hZ rfl V719 (i := i746) hi747 rfl (x := (own_u (4607182418800017408 : UInt64) i746)) rfl at_137 (pc' := 138) rfl ?_
      refine g_dload A738 at_138 rfl (pc' := 140) rfl ?_
      refine g_dcmp A738 at_140 (pc' := 141) rfl ?_
      refine g_ifY A738 at_141 (d_l_eq_t (by rw [own_u, if_neg (fun q => hc750 (by rw [q]; rfl))]; decide +kernel)) (pc' := 146) rfl ?_
      refine g_aload A738 at_146 rfl rfl (pc' := 148) rfl ?_
      refine g_iconst A738 at_148 (v := (0 : Int32)) rfl (pc' := 149) rfl ?_
      refine g_daload A738 hZ rfl V719 (i := 0) (by decide) rfl (x := (own_u (4607182418800017408 : UInt64) 0)) rfl at_149 (pc' := 150) rfl ?_
      refine g_dconst1 A738 at_150 (pc' := 151) rfl ?_
      refine g_dcmp A738 at_151 (pc' := 152) rfl ?_
      refine g_ifY A738 at_152 (d_l_eq_t (by decide +kernel)) (pc' := 157) rfl ?_
      refine g_aload A738 at_157 rfl rfl (pc' := 159) rfl ?_
      refine g_iload A738 at_159 rfl (pc' := 161) rfl ?_
      refine g_iconst A738 at_161 (v := (1 : Int32)) rfl (pc' := 162) rfl ?_
      refine g_isub A738 at_162 (pc' := 163) rfl ?_
      refine g_daload A738 hZ rfl V719 (i := 9) (by decide) rfl (x := (own_u (4607182418800017408 : UInt64) 9)) rfl at_163 (pc' := 164) rfl ?_
      refine g_dload A738 at_164 rfl (pc' := 166) rfl ?_
      refine g_dcmp A738 at_166 (pc' := 167) rfl ?_
      refine g_ifY A738 at_167 (d_l_eq_t (by decide +kernel)) (pc' := 172) rfl ?_
      refine g_aload A738 at_172 rfl rfl (pc' := 174) rfl ?_
      refine g_iload A738 at_174 rfl (pc' := 176) rfl ?_
      refine g_ldcD A738 hZ hown (hw _ (List.mem_of_getElem? (i := 21) rfl)) at_176 (pc' := 179) rfl ?_
      obtain ⟨T806, h806, A806, e806, W806, st806⟩ := s_dastore A738 hZ rfl (ls := #[.val (.int p0), .val (.int p1), .val (.int (4 : Int32)), .val (.ref z6), .val (.int (10 : Int32)), .val (.double (4607182418800017408 : UInt64)), .second, .val (.ref r715), .val (.int (Int32.ofNat i746)), .val (.double (4607182418800017408 : UInt64)), .second, .unset]) (st := []) (x := (4619567317775286272 : UInt64)) V719 (i := i746) hi747 (j := (Int32.ofNat i746)) rfl at_179 (pc' := 180) rfl
      have N807 := Fr.snoc A806.1 N720 g739
      have K808 : Keep h0 h806 [] := K737.wr W806 (Or.inr gh740)
      have E809 : Exa Z h806 z1 "com/example/tradewind/tradewind/benchmark/Zdt" := Exa.wr W806 E721
      have F810 : Fld Z h806 z1 "com/example/tradewind/tradewind/benchmark/Zdt" "variables" "I" (.int (30 : Int32)) := Fld.other W806 F722 (Or.inl ne741)
      have F811 : Fld Z h806 z1 "com/example/tradewind/tradewind/benchmark/Zdt" "restUpper" "D" (.double (4607182418800017408 : UInt64)) := Fld.other W806 F723 (Or.inl ne741)
      have E812 : Exa Z h806 z2 "com/example/tradewind/tradewind/benchmark/Zdt" := Exa.wr W806 E724
      have F813 : Fld Z h806 z2 "com/example/tradewind/tradewind/benchmark/Zdt" "variables" "I" (.int (30 : Int32)) := Fld.other W806 F725 (Or.inl ne742)
      have F814 : Fld Z h806 z2 "com/example/tradewind/tradewind/benchmark/Zdt" "restUpper" "D" (.double (4607182418800017408 : UInt64)) := Fld.other W806 F726 (Or.inl ne742)
      have E815 : Exa Z h806 z3 "com/example/tradewind/tradewind/benchmark/Zdt" := Exa.wr W806 E727
      have F816 : Fld Z h806 z3 "com/example/tradewind/tradewind/benchmark/Zdt" "variables" "I" (.int (30 : Int32)) := Fld.other W806 F728 (Or.inl ne743)
      have F817 : Fld Z h806 z3 "com/example/tradewind/tradewind/benchmark/Zdt" "restUpper" "D" (.double (4607182418800017408 : UInt64)) := Fld.other W806 F729 (Or.inl ne743)
      have E818 : Exa Z h806 z4 "com/example/tradewind/tradewind/benchmark/Zdt" := Exa.wr W806 E730
      have F819 : Fld Z h806 z4 "com/example/tradewind/tradewind/benchmark/Zdt" "variables" "I" (.int (10 : Int32)) := Fld.other W806 F731 (Or.inl ne744)
      have F820 : Fld Z h806 z4 "com/example/tradewind/tradewind/benchmark/Zdt" "restUpper" "D" (.double (4617315517961601024 : UInt64)) := Fld.other W806 F732 (Or.inl ne744)
      have E821 : Exa Z h806 z6 "com/example/tradewind/tradewind/benchmark/Zdt" := Exa.wr W806 E733
      have F822 : Fld Z h806 z6 "com/example/tradewind/tradewind/benchmark/Zdt" "variables" "I" (.int (10 : Int32)) := Fld.other W806 F734 (Or.inl ne745)
      have F823 : Fld Z h806 z6 "com/example/tradewind/tradewind/benchmark/Zdt" "restUpper" "D" (.double (4607182418800017408 : UInt64)) := Fld.other W806 F735 (Or.inl ne745)
      have V824 : Dar Z h806 r715 .double 10 (fun j => if j = i746 then .double (4619567317775286272 : UInt64) else (fun j => .double (own_u (4607182418800017408 : UInt64) j)) j) := Dar.set V719 W806 (fun _ _ => rfl)
      have Z825 : n0 ≤ h806.size := by rw [W806.size]; exact Z736
      refine st806 ?_
      refine g_aloadN A806 at_180 rfl rfl (pc' := 181) rfl ?_
      obtain ⟨cq827, kq827, q827a, q827b, q827c⟩ := isOf hZ e806 E821
      obtain ⟨_, _, ⟨T826, L826, k826, n826⟩, -, X826, ⟨L826c, hQ826, l826, y826, z826⟩, st826⟩ := A806.1.virtualBack hx (y := (⟨"com/example/tradewind/tradewind/benchmark/Zdt", "upper", "()[D"⟩ : MethodName)) (z := (⟨"com/example/tradewind/tradewind/benchmark/Zdt", "upper", "()[D"⟩ : MethodName)) hown (mvT hZ (hw _ (List.mem_of_getElem? (i := 4) rfl))) (mvT hZ (hw _ (List.mem_of_getElem? (i := 5) rfl))) (notFace_of_selects (args := #[]) (mvT hZ (hw _ (List.mem_of_getElem? (i := 7) rfl)))) (mvT hZ (hw _ (List.mem_of_getElem? (i := 7) rfl))) (mvT hZ (hw _ (List.mem_of_getElem? (i := 6) rfl))) (by decide) (backOf (W := 0) (rmB10 l Z a0 hw [] z6 (4607182418800017408 : UInt64) h806 n0 Z825 F822 F823) hZ (hw _ (List.mem_of_getElem? (i := 8) rfl)) (hw _ (List.mem_of_getElem? (i := 2) rfl)) (by decide) (by decide)) q827a q827c (g := (mkF m 181 #[.val (.int p0), .val (.int p1), .val (.int (4 : Int32)), .val (.ref z6), .val (.int (10 : Int32)), .val (.double (4607182418800017408 : UInt64)), .second, .val (.ref r715), .val (.int (Int32.ofNat i746)), .val (.double (4607182418800017408 : UInt64)), .second, .unset] [(.ref z6)])) rfl (by rw [hml]; rfl) (Steps.refl _) (argsL := []) (rest := []) (lenOf pd_2 rfl) rfl (by show 2 * 0 + _ ≤ _; exact Nat.le_of_eq rfl) (hb hby at_181) (fun _ _ => ⟨rfl, e806, (by decide : 1 + 1 ≤ _), (by decide : 10 + 10 ≤ _)⟩)
      dsimp only [Pt.U, Pt.locs, Pt.cells, Pt.slots] at X826 l826 y826 z826 st826 hQ826
      subst l826 y826 z826
      obtain ⟨r828, rfl, Nq829, Kq830, gx831, V832⟩ := hQ826
      have N833 := Fr.app N807 Nq829
      refine Go.tr (g' := (mkF m 184 #[.val (.int p0), .val (.int p1), .val (.int (4 : Int32)), .val (.ref z6), .val (.int (10 : Int32)), .val (.double (4607182418800017408 : UInt64)), .second, .val (.ref r715), .val (.int (Int32.ofNat i746)), .val (.double (4607182418800017408 : UInt64)), .second, .unset] [(.ref r828)])) st826 ?_
      have E834 : Exa Z T826.heap z1 "com/example/tradewind/tradewind/benchmark/Zdt" := Exa.keep E809 Kq830
      have F835 : Fld Z T826.heap z1 "com/example/tradewind/tradewind/benchmark/Zdt" "variables" "I" (.int (30 : Int32)) := Fld.keep F810 Kq830 nin0
      have F836 : Fld Z T826.heap z1 "com/example/tradewind/tradewind/benchmark/Zdt" "restUpper" "D" (.double (4607182418800017408 : UInt64)) := Fld.keep F811 Kq830 nin0
      have E837 : Exa Z T826.heap z2 "com/example/tradewind/tradewind/benchmark/Zdt" := Exa.keep E812 Kq830
      have F838 : Fld Z T826.heap z2 "com/example/tradewind/tradewind/benchmark/Zdt" "variables" "I" (.int (30 : Int32)) := Fld.keep F813 Kq830 nin0
      have F839 : Fld Z T826.heap z2 "com/example/tradewind/tradewind/benchmark/Zdt" "restUpper" "D" (.double (4607182418800017408 : UInt64)) := Fld.keep F814 Kq830 nin0
      have E840 : Exa Z T826.heap z3 "com/example/tradewind/tradewind/benchmark/Zdt" := Exa.keep E815 Kq830
      have F841 : Fld Z T826.heap z3 "com/example/tradewind/tradewind/benchmark/Zdt" "variables" "I" (.int (30 : Int32)) := Fld.keep F816 Kq830 nin0
      have F842 : Fld Z T826.heap z3 "com/example/tradewind/tradewind/benchmark/Zdt" "restUpper" "D" (.double (4607182418800017408 : UInt64)) := Fld.keep F817 Kq830 nin0
      have E843 : Exa Z T826.heap z4 "com/example/tradewind/tradewind/benchmark/Zdt" := Exa.keep E818 Kq830
      have F844 : Fld Z T826.heap z4 "com/example/tradewind/tradewind/benchmark/Zdt" "variables" "I" (.int (10 : Int32)) := Fld.keep F819 Kq830 nin0
      have F845 : Fld Z T826.heap z4 "com/example/tradewind/tradewind/benchmark/Zdt" "restUpper" "D" (.double (4617315517961601024 : UInt64)) := Fld.keep F820 Kq830 nin0
      have E846 : Exa Z T826.heap z6 "com/example/tradewind/tradewind/benchmark/Zdt" := Exa.keep E821 Kq830
      have F847 : Fld Z T826.heap z6 "com/example/tradewind/tradewind/benchmark/Zdt" "variables" "I" (.int (10 : Int32)) := Fld.keep F822 Kq830 nin0
      have F848 : Fld Z T826.heap z6 "com/example/tradewind/tradewind/benchmark/Zdt" "restUpper" "D" (.double (4607182418800017408 : UInt64)) := Fld.keep F823 Kq830 nin0
      have V849 : Dar Z T826.heap r715 .double 10 (fun j => if j = i746 then .double (4619567317775286272 : UInt64) else (fun j => .double (own_u (4607182418800017408 : UInt64) j)) j) := Dar.keep V824 Kq830 nin0
      have Z850 : n0 ≤ T826.heap.size := Nat.le_trans Z825 Kq830.1
      have K851 : Keep h0 T826.heap [] := K808.trans Kq830 all0
      have A852 := (⟨X826, hx, hby⟩ : Ax _ _ _ _ _ _ _ _ _ _ _ _ _ _ _)
      have g853 : n0 ≤ r828 := Nat.le_trans Z825 gx831
      have gh854 : h0.size ≤ r828 := Nat.le_trans K808.1 gx831
      have ne855 : r715 ≠ r828 := Nat.ne_of_lt (Nat.lt_of_lt_of_le V824.lt gx831)
      have ne856 : z1 ≠ r828 := Nat.ne_of_lt (Nat.lt_of_lt_of_le E809.lt gx831)
      have ne857 : z2 ≠ r828 := Nat.ne_of_lt (Nat.lt_of_lt_of_le E812.lt gx831)
      have ne858 : z3 ≠ r828 := Nat.ne_of_lt (Nat.lt_of_lt_of_le E815.lt gx831)
      have ne859 : z4 ≠ r828 := Nat.ne_of_lt (Nat.lt_of_lt_of_le E818.lt gx831)
      have ne860 : z6 ≠ r828 := Nat.ne_of_lt (Nat.lt_of_lt_of_le E821.lt gx831)
      refine g_astore A852 at_184 rfl (ls' := #[.val (.int p0), .val (.int p1), .val (.int (4 : Int32)), .val (.ref z6), .val (.int (10 : Int32)), .val (.double (4607182418800017408 : UInt64)), .second, .val (.ref r715), .val (.int (Int32.ofNat i746)), .val (.double (4607182418800017408 : UInt64)), .second, .val (.ref r828)]) rfl (pc' := 186) rfl ?_
      refine g_aload A852 at_186 rfl rfl (pc' := 188) rfl ?_
      refine g_alen A852 hZ rfl V832 at_188 (z := (10 : Int32)) rfl (pc' := 189) rfl ?_
      refine g_iload A852 at_189 rfl (pc' := 191) rfl ?_
      refine g_icY A852 at_191 (c2_eq_t rfl) (pc' := 196) rfl ?_
      refine g_aload A852 at_196 rfl rfl (pc' := 198) rfl ?_
      refine g_iload A852 at_198 rfl (pc' := 200) rfl ?_
      refine g_daload A852 hZ rfl V832 (i := i746) hi747 rfl (x := (own_u (4607182418800017408 : UInt64) i746)) rfl at_200 (pc' := 201) rfl ?_
      refine g_dload A852 at_201 rfl (pc' := 203) rfl ?_
      refine g_dcmp A852 at_203 (pc' := 204) rfl ?_
      refine g_ifN A852 at_204 (d_l_ne_f (by rw [own_u, if_neg (fun q => hc750 (by rw [q]; rfl))]; decide +kernel)) (pc' := 207) rfl ?_
      refine g_iconst A852 at_207 (v := (1 : Int32)) rfl (pc' := 208) rfl ?_
      refine g_goto A852 at_208 (pc' := 212) rfl ?_
      exact g_ret (Q := Q0 Z p0 p1 z1 z2 z3 z4 z6 h0 n0) A852 at_212 Bd.notSynchronized Bd.returns rfl (Or.inl ⟨rfl, by simp, _, rfl⟩) (by decide) (by decide) ⟨rfl, N833⟩
set_option maxRecDepth 65536 in
set_option maxHeartbeats 40000000 in
theorem comes_1 {Post : Tables → Env → Array Value → State → Outcome → State → Prop} (hpost : ∀ tb e args s v u, (limb_1_1.after args s (.returned v) u = true ∧ limb_1_2.after args s (.returned v) u = true ∧ True) → FrameEnd s (.returned v) u (Jvm.fieldLocs frame_1_writes args s ++ Jvm.arrayLocs frame_1_arrays args s ++ Jvm.staticLocs frame_1_statics s) 16 192 → Post tb e args s (.returned v) u) :
    ArmFor flags0 classFile x code maxLocals ret World_1 tables_1 room_1 Calls_1 rest_1 Pre_1 Post := by
  intro l hfl _ _ p e ha hc hk s m args below hf hA hF happ hP
  obtain ⟨hcalls, hrest, hpre⟩ := hP
  obtain ⟨-, -, -, hnamed, -, -, -, hat⟩ := (Spec.applies_iff hf).mp happ
  obtain ⟨hg, hn⟩ := and_e (Cond.before_iff.mp (show (Jvm.Cond.and given_1 narrow_1).before args s = true from hpre))
  obtain ⟨g0, hg1⟩ := and_e hg
  obtain ⟨w0, w1, rfl⟩ : ∃ w0 w1 : Value, args = #[w0, w1] := by
    have hs : args.size = 2 := by simpa [Cond.value, given_1] using g0
    obtain ⟨L⟩ := args
    match L, hs with
    | [w0, w1], _ => exact ⟨w0, w1, rfl⟩
  have hw := fun d (hd : d ∈ tables_1) => atoms_spec (ws := Jvm.Cond.code x code maxLocals ret :: tables_1) hat d (List.mem_cons_of_mem _ hd)
  have hfit : Fit s := fun {y c} hc i hi => by
    obtain ⟨ha, rfl⟩ := Array.getElem?_eq_some_iff.mp hc
    have q := List.all_eq_true.mp ((Array.all_eq_true_iff_forall_mem.mp hF) _ (Array.getElem_mem ha)) i (List.mem_range.mpr hi)
    simpa [Array.getElem?_eq_getElem hi] using q
  obtain ⟨k0, hg2⟩ := and_e hg1
  obtain ⟨i0, j0⟩ := is_v k0
  obtain rfl : w0 = (.int i0) := Option.some.inj j0
  obtain ⟨i1, j1⟩ := is_v hg2
  obtain rfl : w1 = (.int i1) := Option.some.inj j1
  obtain ⟨y0, hn1⟩ := and_e hn
  obtain ⟨y1, hn2⟩ := and_e hn1
  obtain ⟨y2, hn3⟩ := and_e hn2
  obtain ⟨y3, hn4⟩ := and_e hn3
  obtain ⟨y4, hn5⟩ := and_e hn4
  obtain ⟨y5, hn6⟩ := and_e hn5
  obtain ⟨y6, hn7⟩ := and_e hn6
  obtain ⟨y7, hn8⟩ := and_e hn7
  obtain ⟨y8, hn9⟩ := and_e hn8
  obtain ⟨y9, hn10⟩ := and_e hn9
  obtain ⟨y10, hn11⟩ := and_e hn10
  obtain ⟨y11, hn12⟩ := and_e hn11
  obtain ⟨y12, hn13⟩ := and_e hn12
  obtain ⟨y13, hn14⟩ := and_e hn13
  obtain ⟨z1, evz1⟩ := exa_v y0
  have Sz1 : Sta s s.heap "com/example/tradewind/tradewind/benchmark/Zdt" "ZDT1" "Lcom/example/tradewind/tradewind/benchmark/Zdt;" (.ref z1) := Sta.start evz1 (Or.inr ⟨(hw _ (List.mem_of_getElem? (i := 2) rfl)), (hw _ (List.mem_of_getElem? (i := 3) rfl))⟩)
  have Ez1 : Exa s s.heap z1 "com/example/tradewind/tradewind/benchmark/Zdt" := Exa.start evz1 y0
  have Fnz1 : Fld s s.heap z1 "com/example/tradewind/tradewind/benchmark/Zdt" "variables" "I" (.int (30 : Int32)) := own_fld evz1 (own_ints y1)
  have Fxz1 : Fld s s.heap z1 "com/example/tradewind/tradewind/benchmark/Zdt" "restUpper" "D" (.double (4607182418800017408 : UInt64)) := own_fld evz1 (own_bits y2)
  obtain ⟨z2, evz2⟩ := exa_v y9
  have Sz2 : Sta s s.heap "com/example/tradewind/tradewind/benchmark/Zdt" "ZDT2" "Lcom/example/tradewind/tradewind/benchmark/Zdt;" (.ref z2) := Sta.start evz2 (Or.inr ⟨(hw _ (List.mem_of_getElem? (i := 2) rfl)), (hw _ (List.mem_of_getElem? (i := 28) rfl))⟩)
  have Ez2 : Exa s s.heap z2 "com/example/tradewind/tradewind/benchmark/Zdt" := Exa.start evz2 y9
  have Fnz2 : Fld s s.heap z2 "com/example/tradewind/tradewind/benchmark/Zdt" "variables" "I" (.int (30 : Int32)) := own_fld evz2 (own_ints y10)
  have Fxz2 : Fld s s.heap z2 "com/example/tradewind/tradewind/benchmark/Zdt" "restUpper" "D" (.double (4607182418800017408 : UInt64)) := own_fld evz2 (own_bits y11)
  obtain ⟨z3, evz3⟩ := exa_v y12
  have Sz3 : Sta s s.heap "com/example/tradewind/tradewind/benchmark/Zdt" "ZDT3" "Lcom/example/tradewind/tradewind/benchmark/Zdt;" (.ref z3) := Sta.start evz3 (Or.inr ⟨(hw _ (List.mem_of_getElem? (i := 2) rfl)), (hw _ (List.mem_of_getElem? (i := 30) rfl))⟩)
  have Ez3 : Exa s s.heap z3 "com/example/tradewind/tradewind/benchmark/Zdt" := Exa.start evz3 y12
  have Fnz3 : Fld s s.heap z3 "com/example/tradewind/tradewind/benchmark/Zdt" "variables" "I" (.int (30 : Int32)) := own_fld evz3 (own_ints y13)
  have Fxz3 : Fld s s.heap z3 "com/example/tradewind/tradewind/benchmark/Zdt" "restUpper" "D" (.double (4607182418800017408 : UInt64)) := own_fld evz3 (own_bits hn14)
  obtain ⟨z4, evz4⟩ := exa_v y6
  have Sz4 : Sta s s.heap "com/example/tradewind/tradewind/benchmark/Zdt" "ZDT4" "Lcom/example/tradewind/tradewind/benchmark/Zdt;" (.ref z4) := Sta.start evz4 (Or.inr ⟨(hw _ (List.mem_of_getElem? (i := 2) rfl)), (hw _ (List.mem_of_getElem? (i := 25) rfl))⟩)
  have Ez4 : Exa s s.heap z4 "com/example/tradewind/tradewind/benchmark/Zdt" := Exa.start evz4 y6
  have Fnz4 : Fld s s.heap z4 "com/example/tradewind/tradewind/benchmark/Zdt" "variables" "I" (.int (10 : Int32)) := own_fld evz4 (own_ints y7)
  have Fxz4 : Fld s s.heap z4 "com/example/tradewind/tradewind/benchmark/Zdt" "restUpper" "D" (.double (4617315517961601024 : UInt64)) := own_fld evz4 (own_bits y8)
  obtain ⟨z6, evz6⟩ := exa_v y3
  have Sz6 : Sta s s.heap "com/example/tradewind/tradewind/benchmark/Zdt" "ZDT6" "Lcom/example/tradewind/tradewind/benchmark/Zdt;" (.ref z6) := Sta.start evz6 (Or.inr ⟨(hw _ (List.mem_of_getElem? (i := 2) rfl)), (hw _ (List.mem_of_getElem? (i := 23) rfl))⟩)
  have Ez6 : Exa s s.heap z6 "com/example/tradewind/tradewind/benchmark/Zdt" := Exa.start evz6 y3
  have Fnz6 : Fld s s.heap z6 "com/example/tradewind/tradewind/benchmark/Zdt" "variables" "I" (.int (10 : Int32)) := own_fld evz6 (own_ints y4)
  have Fxz6 : Fld s s.heap z6 "com/example/tradewind/tradewind/benchmark/Zdt" "restUpper" "D" (.double (4607182418800017408 : UInt64)) := own_fld evz6 (own_bits y5)
  obtain ⟨n, o, h1, h2, h3, _, L, rfl, ⟨rfl, N⟩, hq⟩ := rm0 l s _ hw tables_1 i0 i1 z1 z2 z3 z4 z6 s.heap s.heap.size (Nat.le_refl _) Sz1 Ez1 Fnz1 Fxz1 Sz2 Ez2 Fnz2 Fxz2 Sz3 Ez3 Fnz3 Fxz3 Sz4 Ez4 Fnz4 Fxz4 Sz6 Ez6 Fnz6 Fxz6 p e ha hc hk s m _ below hf ((Spec.applies_iff_loose hf).mp happ).1 ⟨rfl, State.Warmed39.refl s, rfl⟩ trivial
  refine ⟨n, _, h1, h2, h3, hpost _ _ _ _ _ _ ⟨Cond.after_iff.mpr rfl, Cond.after_iff.mpr (eq_i res_at (Term.int_eval (1)) rfl), trivial⟩ ⟨hq.1, hq.2.1, (hq.2.2.sift fun y hy => Or.inr (N y hy)).mono (by decide) (by decide)⟩⟩
theorem main_1_1 : Claimed_1_1 := comes_1 fun _ _ _ _ _ _ h hF => ⟨h.1, hF⟩
theorem main_1_2 : Claimed_1_2 := comes_1 fun _ _ _ _ _ _ h hF => ⟨h.2.1, hF⟩
end Jvm.Pilot.@@N@@
namespace Jvm.Pilot.@@N@@
open Jvm Jvm.ClassFile Sem Op Lib Jvm.Free Jvm.Stand Jvm.Pilot.@@N@@.Jvm.D
/-! MADE BY PROGRAM (witnessworld.py) out of the Statement's table words and the real class files: 15 classes; the members and pool entries that the words name. The judged class is class 1, her method 1. -/
namespace start1
open Jvm.ClassFile
def u (s : String) : CpInfo := .utf8 (stringToUtf16 s)
/-- a pool by its gaps: so many unusable entries, then the entry; so many at the end -/
def gap : Nat → List CpInfo → List CpInfo
  | 0, r => r
  | n + 1, r => .unusable :: gap n r
def poolList (es : List (Nat × CpInfo)) (last : Nat) : List CpInfo := es.foldr (fun e r => gap e.1 (e.2 :: r)) (gap last [])
def pool (es : List (Nat × CpInfo)) (last : Nat) : Array CpInfo := ⟨poolList es last⟩
def fileOf (pool : Array CpInfo) (this : Nat) (attrs : Array Attribute := #[]) (ms : Array MethodInfo := #[]) (fl : Nat := 33) (sup : Nat := 0) (ifs : Array Nat := #[]) (fds : Array FieldInfo := #[]) : ClassFile where
  minorVersion := 0
  majorVersion := 65
  constantPool := pool
  accessFlags := fl
  thisClass := this
  superClass := sup
  interfaces := ifs
  fields := fds
  methods := ms
  attributes := attrs
def plain (name : String) (sup : Option ClassId) : Class where
  name := name
  kind := .ordinary
  loader := none
  accessFlags := 33
  super := sup
  interfaces := #[]
  cf := none
  fields := #[]
  methods := #[]
  instanceTypes := #[]
  staticTypes := #[]
  resolved := #[]
  callSites := []
  init := .initialized
  statics := none
  mirror := none

def pool0 : Array CpInfo := pool [(5, u "<init>"), (0, u "()V"), (1, .class_ 10), (1, u "java/lang/Object")] 113

def k0m0 : Method := { name := "<init>", desc := "()V", sig := { parameters := [], returnType := none }, accessFlags := 1, code := none }
/-- java/lang/Object -/
def k0 : Class := { plain "java/lang/Object" none with
  accessFlags := 33
  interfaces := #[]
  cf := some (fileOf pool0 8 #[] #[{ accessFlags := 1, nameIndex := 5, descriptorIndex := 6, attributes := #[] }] 33 0 #[] #[])
  fields := #[]
  methods := #[k0m0]
  instanceTypes := #[]
  staticTypes := #[]
  resolved := Array.replicate 124 none
  statics := none }

def pool1 : Array CpInfo := pool [(2, .class_ 4), (1, u "java/lang/Object"), (0, u "<init>"), (0, u "()V"), (0, .integer 2147483647), (0, .fieldref 9 10), (0, .class_ 11), (0, .nameAndType 12 13), (0, u "com/example/tradewind/tradewind/benchmark/Zdt"), (0, u "ZDT1"), (0, u "Lcom/example/tradewind/tradewind/benchmark/Zdt;"), (0, .fieldref 9 15), (0, .nameAndType 16 13), (0, u "ZDT2"), (0, .fieldref 9 18), (0, .nameAndType 19 13), (0, u "ZDT3"), (0, .fieldref 9 21), (0, .nameAndType 22 13), (0, u "ZDT4"), (0, .double 4617315517961601024), (1, .fieldref 9 26), (0, .nameAndType 27 13), (0, u "ZDT6"), (0, .methodref 9 29), (0, .nameAndType 30 31), (0, u "upper"), (0, u "()[D"), (0, .double 4619567317775286272), (1, .class_ 35), (0, u "com/example/tradewind/tradewind/benchmark/ZdtUpperPinLaw"), (2, u "law"), (0, u "(II)Z")] 5

def k1m0 : Method := { name := "<init>", desc := "()V", sig := { parameters := [], returnType := none }, accessFlags := 1, code := none }
def k1c1 : Code := { maxStack := 4, maxLocals := 12, code := code, exceptionTable := #[], attributes := #[] }
def k1m1 : Method := { name := "law", desc := "(II)Z", sig := { parameters := [.int, .int], returnType := some .boolean }, accessFlags := 9, code := some k1c1 }
/-- com/example/tradewind/tradewind/benchmark/ZdtUpperPinLaw -/
def k1 : Class := { plain "com/example/tradewind/tradewind/benchmark/ZdtUpperPinLaw" (some 0) with
  accessFlags := 49
  interfaces := #[]
  cf := some (fileOf pool1 34 #[] #[{ accessFlags := 1, nameIndex := 5, descriptorIndex := 6, attributes := #[] }, { accessFlags := 9, nameIndex := 38, descriptorIndex := 39, attributes := #[] }] 49 2 #[] #[])
  fields := #[]
  methods := #[k1m0, k1m1]
  instanceTypes := #[]
  staticTypes := #[]
  resolved := Array.replicate 45 none
  statics := none }

def pool2 : Array CpInfo := pool [(1, .class_ 2), (0, u "java/lang/constant/Constable"), (0, .class_ 4), (0, u "java/lang/Object")] 6

/-- java/lang/constant/Constable -/
def k2 : Class := { plain "java/lang/constant/Constable" (some 0) with
  accessFlags := 1537
  interfaces := #[]
  cf := some (fileOf pool2 1 #[] #[] 1537 3 #[] #[])
  fields := #[]
  methods := #[]
  instanceTypes := #[]
  staticTypes := #[]
  resolved := Array.replicate 11 none
  statics := none }

def pool3 : Array CpInfo := pool [(1, .class_ 2), (0, u "java/lang/Comparable"), (0, .class_ 4), (0, u "java/lang/Object")] 7

/-- java/lang/Comparable -/
def k3 : Class := { plain "java/lang/Comparable" (some 0) with
  accessFlags := 1537
  interfaces := #[]
  cf := some (fileOf pool3 1 #[] #[] 1537 3 #[] #[])
  fields := #[]
  methods := #[]
  instanceTypes := #[]
  staticTypes := #[]
  resolved := Array.replicate 12 none
  statics := none }

def pool4 : Array CpInfo := pool [(1, .class_ 2), (0, u "java/io/Serializable"), (0, .class_ 4), (0, u "java/lang/Object")] 2

/-- java/io/Serializable -/
def k4 : Class := { plain "java/io/Serializable" (some 0) with
  accessFlags := 1537
  interfaces := #[]
  cf := some (fileOf pool4 1 #[] #[] 1537 3 #[] #[])
  fields := #[]
  methods := #[]
  instanceTypes := #[]
  staticTypes := #[]
  resolved := Array.replicate 7 none
  statics := none }

def pool5 : Array CpInfo := pool [(2, .class_ 4), (1, u "java/lang/Enum"), (0, u "name"), (0, u "Ljava/lang/String;"), (2, u "ordinal"), (0, u "I"), (1, .class_ 14), (1, u "java/lang/Object"), (4, u "hash"), (86, .class_ 108), (1, u "java/lang/Enum$EnumDesc"), (2, .class_ 112), (0, u "java/lang/constant/Constable"), (0, .class_ 114), (0, u "java/lang/Comparable"), (0, .class_ 116), (0, u "java/io/Serializable")] 87

/-- java/lang/Enum -/
def k5 : Class := { plain "java/lang/Enum" (some 0) with
  accessFlags := 1057
  interfaces := #[2, 3, 4]
  cf := some (fileOf pool5 2 #[.nestMembers #[106]] #[] 1057 12 #[111, 113, 115] #[{ accessFlags := 18, nameIndex := 5, descriptorIndex := 6, attributes := #[] }, { accessFlags := 18, nameIndex := 9, descriptorIndex := 10, attributes := #[] }, { accessFlags := 2, nameIndex := 19, descriptorIndex := 10, attributes := #[] }])
  fields := #[{ name := "name", type := (.object "java/lang/String"), accessFlags := 18, slot := 0, constantValue := 0 }, { name := "ordinal", type := .int, accessFlags := 18, slot := 1, constantValue := 0 }, { name := "hash", type := .int, accessFlags := 2, slot := 2, constantValue := 0 }]
  methods := #[]
  instanceTypes := #[(.object "java/lang/String"), .int, .int]
  staticTypes := #[]
  resolved := Array.replicate 204 none
  statics := none }

def pool6 : Array CpInfo := pool [(1, .class_ 2), (0, u "com/example/tradewind/tradewind/benchmark/Zdt"), (2, u "ZDT1"), (0, u "Lcom/example/tradewind/tradewind/benchmark/Zdt;"), (2, u "ZDT2"), (2, u "ZDT3"), (2, u "ZDT4"), (2, u "ZDT6"), (2, u "$VALUES"), (0, u "[Lcom/example/tradewind/tradewind/benchmark/Zdt;"), (6, .class_ 31), (1, u "java/lang/Enum"), (8, u "id"), (0, u "Ljava/lang/String;"), (0, .fieldref 1 43), (0, .nameAndType 44 45), (0, u "variables"), (0, u "I"), (2, u "restLower"), (0, u "D"), (0, .fieldref 1 51), (0, .nameAndType 52 49), (0, u "restUpper"), (2, u "f1"), (0, u "Ljava/util/function/DoubleUnaryOperator;"), (2, u "g"), (0, u "Ljava/util/function/ToDoubleFunction;"), (2, u "h"), (0, u "Ljava/util/function/DoubleBinaryOperator;"), (2, u "frontFirst"), (2, u "frontLast"), (5, .class_ 78), (1, u "java/util/Arrays"), (18, u "OBJECTIVES"), (0, u "Ljava/util/List;"), (0, .methodref 76 100), (0, .nameAndType 101 102), (0, u "fill"), (0, u "([DIID)V"), (178, u "FRONT_POINTS"), (17, u "()[D"), (0, u "upper")] 106

def k6c0 : Code := { maxStack := 5, maxLocals := 2, code := prog_1_method_9_code, exceptionTable := #[], attributes := #[] }
def k6m0 : Method := { name := "upper", desc := "()[D", sig := { parameters := [], returnType := some (.array .double) }, accessFlags := 1, code := some k6c0 }
/-- com/example/tradewind/tradewind/benchmark/Zdt -/
def k6 : Class := { plain "com/example/tradewind/tradewind/benchmark/Zdt" (some 5) with
  accessFlags := 16433
  interfaces := #[]
  cf := some (fileOf pool6 1 #[] #[{ accessFlags := 1, nameIndex := 300, descriptorIndex := 299, attributes := #[] }] 16433 29 #[] #[{ accessFlags := 16409, nameIndex := 5, descriptorIndex := 6, attributes := #[] }, { accessFlags := 16409, nameIndex := 9, descriptorIndex := 6, attributes := #[] }, { accessFlags := 16409, nameIndex := 12, descriptorIndex := 6, attributes := #[] }, { accessFlags := 16409, nameIndex := 15, descriptorIndex := 6, attributes := #[] }, { accessFlags := 16409, nameIndex := 18, descriptorIndex := 6, attributes := #[] }, { accessFlags := 26, nameIndex := 97, descriptorIndex := 98, attributes := #[] }, { accessFlags := 26, nameIndex := 281, descriptorIndex := 45, attributes := #[] }, { accessFlags := 18, nameIndex := 40, descriptorIndex := 41, attributes := #[] }, { accessFlags := 18, nameIndex := 44, descriptorIndex := 45, attributes := #[] }, { accessFlags := 18, nameIndex := 48, descriptorIndex := 49, attributes := #[] }, { accessFlags := 18, nameIndex := 52, descriptorIndex := 49, attributes := #[] }, { accessFlags := 18, nameIndex := 55, descriptorIndex := 56, attributes := #[] }, { accessFlags := 18, nameIndex := 59, descriptorIndex := 60, attributes := #[] }, { accessFlags := 18, nameIndex := 63, descriptorIndex := 64, attributes := #[] }, { accessFlags := 18, nameIndex := 67, descriptorIndex := 49, attributes := #[] }, { accessFlags := 18, nameIndex := 70, descriptorIndex := 49, attributes := #[] }, { accessFlags := 4122, nameIndex := 21, descriptorIndex := 22, attributes := #[] }])
  fields := #[{ name := "ZDT1", type := (.object "com/example/tradewind/tradewind/benchmark/Zdt"), accessFlags := 16409, slot := 0, constantValue := 0 }, { name := "ZDT2", type := (.object "com/example/tradewind/tradewind/benchmark/Zdt"), accessFlags := 16409, slot := 1, constantValue := 0 }, { name := "ZDT3", type := (.object "com/example/tradewind/tradewind/benchmark/Zdt"), accessFlags := 16409, slot := 2, constantValue := 0 }, { name := "ZDT4", type := (.object "com/example/tradewind/tradewind/benchmark/Zdt"), accessFlags := 16409, slot := 3, constantValue := 0 }, { name := "ZDT6", type := (.object "com/example/tradewind/tradewind/benchmark/Zdt"), accessFlags := 16409, slot := 4, constantValue := 0 }, { name := "OBJECTIVES", type := (.object "java/util/List"), accessFlags := 26, slot := 5, constantValue := 0 }, { name := "FRONT_POINTS", type := .int, accessFlags := 26, slot := 6, constantValue := 0 }, { name := "id", type := (.object "java/lang/String"), accessFlags := 18, slot := 3, constantValue := 0 }, { name := "variables", type := .int, accessFlags := 18, slot := 4, constantValue := 0 }, { name := "restLower", type := .double, accessFlags := 18, slot := 5, constantValue := 0 }, { name := "restUpper", type := .double, accessFlags := 18, slot := 6, constantValue := 0 }, { name := "f1", type := (.object "java/util/function/DoubleUnaryOperator"), accessFlags := 18, slot := 7, constantValue := 0 }, { name := "g", type := (.object "java/util/function/ToDoubleFunction"), accessFlags := 18, slot := 8, constantValue := 0 }, { name := "h", type := (.object "java/util/function/DoubleBinaryOperator"), accessFlags := 18, slot := 9, constantValue := 0 }, { name := "frontFirst", type := .double, accessFlags := 18, slot := 10, constantValue := 0 }, { name := "frontLast", type := .double, accessFlags := 18, slot := 11, constantValue := 0 }, { name := "$VALUES", type := (.array (.object "com/example/tradewind/tradewind/benchmark/Zdt")), accessFlags := 4122, slot := 7, constantValue := 0 }]
  methods := #[k6m0]
  instanceTypes := #[(.object "java/lang/String"), .int, .int, (.object "java/lang/String"), .int, .double, .double, (.object "java/util/function/DoubleUnaryOperator"), (.object "java/util/function/ToDoubleFunction"), (.object "java/util/function/DoubleBinaryOperator"), .double, .double]
  staticTypes := #[(.object "com/example/tradewind/tradewind/benchmark/Zdt"), (.object "com/example/tradewind/tradewind/benchmark/Zdt"), (.object "com/example/tradewind/tradewind/benchmark/Zdt"), (.object "com/example/tradewind/tradewind/benchmark/Zdt"), (.object "com/example/tradewind/tradewind/benchmark/Zdt"), (.object "java/util/List"), .int, (.array (.object "com/example/tradewind/tradewind/benchmark/Zdt"))]
  resolved := Array.replicate 407 none
  statics := some 0 }

def pool7 : Array CpInfo := pool [(2, .class_ 4), (1, u "java/lang/Object"), (0, u "<init>"), (0, u "()V"), (6, .methodref 14 15), (0, .class_ 16), (0, .nameAndType 17 18), (0, u "java/util/Arrays"), (0, u "rangeCheck"), (0, u "(III)V"), (55, .class_ 76), (1, u "java/util/Arrays$NaturalOrder"), (36, .class_ 115), (1, u "java/util/Arrays$LegacyMergeSort"), (1, u "Z"), (257, .class_ 376), (0, u "java/util/Arrays$ArrayList"), (68, u "$assertionsDisabled"), (269, u "MIN_ARRAY_SORT_GRAN"), (0, u "I"), (2, u "INSERTIONSORT_THRESHOLD"), (120, u "fill"), (14, u "([DIID)V"), (119, .class_ 976), (0, u "java/util/Arrays$ArrayItr")] 52

def k7m0 : Method := { name := "<init>", desc := "()V", sig := { parameters := [], returnType := none }, accessFlags := 2, code := none }
def k7c1 : Code := { maxStack := 4, maxLocals := 3, code := jdk_65_method_30_code, exceptionTable := #[], attributes := #[] }
def k7m1 : Method := { name := "rangeCheck", desc := "(III)V", sig := { parameters := [.int, .int, .int], returnType := none }, accessFlags := 8, code := some k7c1 }
def k7c2 : Code := { maxStack := 4, maxLocals := 6, code := jdk_65_method_114_code, exceptionTable := #[], attributes := #[] }
def k7m2 : Method := { name := "fill", desc := "([DIID)V", sig := { parameters := [(.array .double), .int, .int, .double], returnType := none }, accessFlags := 9, code := some k7c2 }
/-- java/util/Arrays -/
def k7 : Class := { plain "java/util/Arrays" (some 0) with
  accessFlags := 49
  interfaces := #[]
  cf := some (fileOf pool7 14 #[.nestMembers #[975, 375, 113, 74]] #[{ accessFlags := 2, nameIndex := 5, descriptorIndex := 6, attributes := #[] }, { accessFlags := 8, nameIndex := 17, descriptorIndex := 18, attributes := #[] }, { accessFlags := 9, nameIndex := 840, descriptorIndex := 855, attributes := #[] }] 49 2 #[] #[{ accessFlags := 26, nameIndex := 715, descriptorIndex := 716, attributes := #[] }, { accessFlags := 26, nameIndex := 719, descriptorIndex := 716, attributes := #[] }, { accessFlags := 4120, nameIndex := 445, descriptorIndex := 117, attributes := #[] }])
  fields := #[{ name := "MIN_ARRAY_SORT_GRAN", type := .int, accessFlags := 26, slot := 0, constantValue := 0 }, { name := "INSERTIONSORT_THRESHOLD", type := .int, accessFlags := 26, slot := 1, constantValue := 0 }, { name := "$assertionsDisabled", type := .boolean, accessFlags := 4120, slot := 2, constantValue := 0 }]
  methods := #[k7m0, k7m1, k7m2]
  instanceTypes := #[]
  staticTypes := #[.int, .int, .boolean]
  resolved := Array.replicate 1029 none
  statics := none }

def pool8 : Array CpInfo := pool [(1, u "java/lang/Cloneable"), (0, .class_ 1), (0, u "java/lang/Object"), (0, .class_ 3)] 3

/-- java/lang/Cloneable -/
def k8 : Class := { plain "java/lang/Cloneable" (some 0) with
  accessFlags := 1537
  interfaces := #[]
  cf := some (fileOf pool8 2 #[] #[] 1537 4 #[] #[])
  fields := #[]
  methods := #[]
  instanceTypes := #[]
  staticTypes := #[]
  resolved := Array.replicate 8 none
  statics := none }

/-- the primitive byte -/
def k9 : Class := { plain "byte" none with kind := .primitive 'B', accessFlags := 0x411 }
/-- [B -/
def k10 : Class := { plain "[B" (some 0) with kind := .array 9 .byte, interfaces := #[8, 4], accessFlags := 1041 }

/-- the primitive double -/
def k11 : Class := { plain "double" none with kind := .primitive 'D', accessFlags := 0x411 }
/-- [D -/
def k12 : Class := { plain "[D" (some 0) with kind := .array 11 .double, interfaces := #[8, 4], accessFlags := 1041 }

/-- the primitive int -/
def k13 : Class := { plain "int" none with kind := .primitive 'I', accessFlags := 0x411 }
/-- [I -/
def k14 : Class := { plain "[I" (some 0) with kind := .array 13 .int, interfaces := #[8, 4], accessFlags := 1041 }

def heap : Heap := #[{ cls := 6, slots := #[.ref 1, .ref 2, .ref 3, .ref 4, .ref 5, .null, .int 0, .null], vm := .statics 6 },
  { cls := 6, slots := #[.null, .int 0, .int 0, .null, .int 30, .double 0, .double 4607182418800017408, .null, .null, .null, .double 0, .double 0], vm := .none },
  { cls := 6, slots := #[.null, .int 1, .int 0, .null, .int 30, .double 0, .double 4607182418800017408, .null, .null, .null, .double 0, .double 0], vm := .none },
  { cls := 6, slots := #[.null, .int 2, .int 0, .null, .int 30, .double 0, .double 4607182418800017408, .null, .null, .null, .double 0, .double 0], vm := .none },
  { cls := 6, slots := #[.null, .int 3, .int 0, .null, .int 10, .double 0, .double 4617315517961601024, .null, .null, .null, .double 0, .double 0], vm := .none },
  { cls := 6, slots := #[.null, .int 4, .int 0, .null, .int 10, .double 0, .double 4607182418800017408, .null, .null, .null, .double 0, .double 0], vm := .none }]
def classes : Array Class := #[k0, k1, k2, k3, k4, k5, k6, k7, k8, k9, k10, k11, k12, k13, k14]
def interned : List (Array UInt16 × Addr) := []
def slotsUsed : Nat := 68
def theMethod : MethodId := ⟨1, 1⟩
def args0 : Array Value := #[.int 5, .int 3]
def aboutOver (below : List Frame) : State where
  vm := { classes := classes, interned := interned.toArray }
  heap := heap
  slotsUsed := slotsUsed
  threads := #[{ frames := .invoking theMethod args0 :: below }]
def below0 : List Frame := [.native { method := ⟨0, 0⟩, args := #[] }]
def about1 : State := aboutOver below0
def p0 : Program := .bare "" "" ""
def e0 : Env := launch0.env 0 0 0
theorem w_frames : about1.frames = Frame.invoking theMethod args0 :: below0 := rfl
set_option maxRecDepth 65536 in
theorem w_args : argsFit about1.vm theMethod args0 = true := by decide +kernel
set_option maxRecDepth 65536 in
theorem w_heap : heapFits about1 = true := by decide +kernel
set_option maxRecDepth 65536 in
theorem w_runnable : about1.curStatus? = some .runnable := by decide +kernel
set_option maxRecDepth 65536 in
theorem w_alone : about1.alone = true := by decide +kernel
set_option maxRecDepth 65536 in
theorem w_named : about1.methodNamed? x = some theMethod := by decide +kernel
set_option maxRecDepth 65536 in
theorem w_hears : about1.hears theMethod below0 = true := by decide +kernel
set_option maxRecDepth 65536 in
theorem w_ripe : about1.ripe theMethod args0 below0 = true := by decide +kernel
theorem w_running : about1.status = .running := rfl
set_option maxRecDepth 65536 in
theorem w_room : about1.hasRoom e0.platform room_1 = true :=
  launch0.hasRoom_least _ room_1 (by decide +kernel) (by decide +kernel) (by decide +kernel) (by decide +kernel) (by decide +kernel) (by decide +kernel)
theorem allAtoms_all (ts : List Jvm.Cond) (a : Array Jvm.Value) (st : Jvm.State) : (allAtoms ts).before a st = ts.all (fun c => c.before a st) := by
  induction ts with
  | nil => rfl
  | cons c t ih =>
    show (Jvm.Cond.and c (allAtoms t)).before a st = _
    rw [Jvm.Cond.before_and, ih, List.all_cons]
def words1 : List Jvm.Cond := Jvm.Cond.code x code maxLocals ret :: tables_1
/-- a 'code' word, met by the world's own term for the bytes: nothing is compared byte by byte -/
theorem code_word {y : MethodName} {bytes : ByteArray} {mx : Nat} {rt : Option FieldType} {a : Array Value} {s : State} {m : MethodId} {meth : Method} {c : Code} (h1 : s.methodNamed? y = some m) (h2 : s.vm.method? m = some meth) (h3 : meth.code = some c) (h4 : c.code = bytes)
    (h5 : (c.maxLocals == mx && c.exceptionTable.isEmpty && decide (c.maxStack ≤ mostOperands) && decide (meth.sig.returnType = rt) && !meth.locks && decide (parseMethodDescriptor y.desc = some meth.sig)) = true) : (Jvm.Cond.code y bytes mx rt).before a s = true := by
  simp only [Bool.and_eq_true, beq_iff_eq, Bool.not_eq_true', decide_eq_true_eq] at h5
  obtain ⟨⟨⟨⟨⟨g1, g2⟩, g3⟩, g4⟩, g5⟩, g6⟩ := h5
  simp [Cond.before, Cond.holds, Cond.value, h1, h2, h3, h4, g1, g2, g3, g4, g5, g6]
def isCode : Jvm.Cond → Bool
  | .code _ _ _ _ => true
  | _ => false
theorem all_split {L : List Jvm.Cond} {P : Jvm.Cond → Bool} (h1 : L.all (fun c => isCode c || P c) = true) (h2 : ∀ c ∈ L.filter isCode, P c = true) : L.all P = true := by
  refine List.all_eq_true.mpr fun c hc => ?_
  have h := List.all_eq_true.mp h1 c hc
  rcases Bool.eq_false_or_eq_true (isCode c) with hi | hi
  · exact h2 c (List.mem_filter.mpr ⟨hc, hi⟩)
  · simpa [hi] using h
set_option maxRecDepth 65536 in
theorem w_c0 : (Jvm.Cond.code x code maxLocals ret).before args0 about1 = true := code_word (m := ⟨1, 1⟩) (meth := k1m1) (c := k1c1) (by decide +kernel) rfl rfl rfl (by decide +kernel)
set_option maxRecDepth 65536 in
theorem w_c1 : (Jvm.Cond.code ({ cls := "com/example/tradewind/tradewind/benchmark/Zdt", name := "upper", desc := "()[D" } : Jvm.MethodName) prog_1_method_9_code (2 : Nat) (Option.some (Jvm.ClassFile.FieldType.array Jvm.ClassFile.FieldType.double))).before args0 about1 = true := code_word (m := ⟨6, 0⟩) (meth := k6m0) (c := k6c0) (by decide +kernel) rfl rfl rfl (by decide +kernel)
set_option maxRecDepth 65536 in
theorem w_c2 : (Jvm.Cond.code ({ cls := "java/util/Arrays", name := "fill", desc := "([DIID)V" } : Jvm.MethodName) jdk_65_method_114_code (6 : Nat) (Option.none : Option Jvm.ClassFile.FieldType)).before args0 about1 = true := code_word (m := ⟨7, 2⟩) (meth := k7m2) (c := k7c2) (by decide +kernel) rfl rfl rfl (by decide +kernel)
set_option maxRecDepth 65536 in
theorem w_c3 : (Jvm.Cond.code ({ cls := "java/util/Arrays", name := "rangeCheck", desc := "(III)V" } : Jvm.MethodName) jdk_65_method_30_code (3 : Nat) (Option.none : Option Jvm.ClassFile.FieldType)).before args0 about1 = true := code_word (m := ⟨7, 1⟩) (meth := k7m1) (c := k7c1) (by decide +kernel) rfl rfl rfl (by decide +kernel)
def codes1 : List Jvm.Cond := [Jvm.Cond.code x code maxLocals ret, Jvm.Cond.code ({ cls := "com/example/tradewind/tradewind/benchmark/Zdt", name := "upper", desc := "()[D" } : Jvm.MethodName) prog_1_method_9_code (2 : Nat) (Option.some (Jvm.ClassFile.FieldType.array Jvm.ClassFile.FieldType.double)), Jvm.Cond.code ({ cls := "java/util/Arrays", name := "fill", desc := "([DIID)V" } : Jvm.MethodName) jdk_65_method_114_code (6 : Nat) (Option.none : Option Jvm.ClassFile.FieldType), Jvm.Cond.code ({ cls := "java/util/Arrays", name := "rangeCheck", desc := "(III)V" } : Jvm.MethodName) jdk_65_method_30_code (3 : Nat) (Option.none : Option Jvm.ClassFile.FieldType)]
set_option maxRecDepth 65536 in
theorem codes_eq : words1.filter isCode = codes1 := rfl
theorem w_codes : ∀ c ∈ words1.filter isCode, c.before args0 about1 = true := by
  rw [codes_eq]
  intro c hc
  simp only [codes1, List.mem_cons, List.not_mem_nil, or_false] at hc
  rcases hc with rfl | rfl | rfl | rfl
  · exact w_c0
  · exact w_c1
  · exact w_c2
  · exact w_c3
set_option maxRecDepth 65536 in
theorem w_t1 : (words1.take 24).all (fun c => isCode c || c.before args0 about1) = true := by decide +kernel
set_option maxRecDepth 65536 in
theorem w_t2 : (words1.drop 24).all (fun c => isCode c || c.before args0 about1) = true := by decide +kernel
theorem w_tables : (allAtoms (Jvm.Cond.code x code maxLocals ret :: tables_1)).before args0 about1 = true := by
  rw [allAtoms_all]
  show words1.all (fun c => c.before args0 about1) = true
  refine all_split ?_ w_codes
  rw [← List.take_append_drop 24 words1, List.all_append, w_t1, w_t2]
  rfl
set_option maxRecDepth 65536 in
theorem w_case : (Jvm.Cond.and given_1 narrow_1).before args0 about1 = true := by decide +kernel
theorem w_applies : (headSpec (Jvm.Cond.code x code maxLocals ret :: tables_1) room_1).applies x e0.platform about1 = true :=
  (Spec.applies_iff w_frames).mpr ⟨w_running, w_runnable, w_alone, w_named, w_hears, w_ripe, w_room, w_tables⟩
theorem atStart : AtStart classFile x code maxLocals ret World_1 tables_1 room_1 Calls_1 rest_1 Pre_1 launch0 p0 e0 about1 theMethod args0 below0 :=
  ⟨lists_1, trivial, launch0.admits_env _ _ _, launch0.least_env, fairChoices_fair.cas, fairChoices_fair.clock, w_frames, w_args, w_heap, w_applies, trivial, trivial, w_case⟩
end start1
theorem witness_1 : WitnessClaimed_1 := ⟨start1.p0, start1.e0, start1.about1, start1.theMethod, start1.args0, start1.below0, start1.atStart⟩
end Jvm.Pilot.@@N@@
