import JvmDerived
import JvmDerived.Pilot.@@N@@Statement
import JvmDerived.Pilot.@@N@@Code
set_option linter.unusedVariables false
set_option linter.unusedSimpArgs false
namespace Jvm.Pilot.@@N@@
open Jvm Jvm.ClassFile Sem Op Lib Jvm.Free Jvm.Free.Fl Jvm.Stand Jvm.LawKit Jvm.RoadKit Bundle Jvm.Pilot.@@N@@.Jvm.D
section own_go
/-- where the walk stands, with the two facts that every step asks -/
def Ax (p : Program) (l : Launch) (e : Env) (R : Room) (s : State) (m : MethodId) (args : Array Value) (below : List Frame) (meth : Method) (c : Code) (T : State) (locs : List Loc) (cells slots : Nat) (B : ByteArray) : Prop := Stand p l e R s m args below meth c T locs cells slots ∧ p.tables.exec = Jvm.exec ∧ c.code = B
/-- from this frame the run ends, and P holds of its end -/
def Go (p : Program) (e : Env) (below : List Frame) (P : State → Outcome → Prop) (T : State) (g : JFrame) : Prop := ∃ U o, Steps p.tables e below (T.setTop g) U ∧ U.status = .running ∧ Ended U below o ∧ P U o
variable {p : Program} {l : Launch} {e : Env} {R : Room} {s : State} {m : MethodId} {args : Array Value} {below : List Frame} {meth : Method} {c : Code} {T : State} {locs : List Loc} {cells slots : Nat} {P : State → Outcome → Prop} {B : ByteArray} {pc pc' : Nat} {ls ls' : Array Slot} {st : List Value}
theorem Go.of {T' : State} {g g' : JFrame} (k : ∀ t, Steps p.tables e below (T'.setTop g') t → Steps p.tables e below (T.setTop g) t) (h : Go p e below P T' g') : Go p e below P T g := by
  obtain ⟨U, o, h1, h2⟩ := h
  exact ⟨U, o, k _ h1, h2⟩
theorem Go.tr {T' : State} {g g' : JFrame} (k : Steps p.tables e below (T.setTop g) (T'.setTop g')) (h : Go p e below P T' g') : Go p e below P T g := Go.of (fun _ h => k.trans h) h
theorem Go.cast {g g' : JFrame} (q : g = g') (h : Go p e below P T g') : Go p e below P T g := q ▸ h

theorem g_iadd (A : Ax p l e R s m args below meth c T locs cells slots B) {x : Int32} {y : Int32} (hd : decode B pc = .ok (.iadd, 1)) (hp : pc + 1 = pc') (k : Go p e below P T (mkF m pc' ls (.int (x + y) :: st))) : Go p e below P T (mkF m pc ls (.int y :: .int x :: st)) := by
  subst hp; exact Go.of (fun _ k' => XS.iadd A.1.here A.2.1 rfl (hb A.2.2 hd) rfl k') k
theorem g_isub (A : Ax p l e R s m args below meth c T locs cells slots B) {x : Int32} {y : Int32} (hd : decode B pc = .ok (.isub, 1)) (hp : pc + 1 = pc') (k : Go p e below P T (mkF m pc' ls (.int (x - y) :: st))) : Go p e below P T (mkF m pc ls (.int y :: .int x :: st)) := by
  subst hp; exact Go.of (fun _ k' => XS.isub A.1.here A.2.1 rfl (hb A.2.2 hd) rfl k') k
theorem g_iand (A : Ax p l e R s m args below meth c T locs cells slots B) {x : Int32} {y : Int32} (hd : decode B pc = .ok (.iand, 1)) (hp : pc + 1 = pc') (k : Go p e below P T (mkF m pc' ls (.int (x &&& y) :: st))) : Go p e below P T (mkF m pc ls (.int y :: .int x :: st)) := by
  subst hp; exact Go.of (fun _ k' => XS.iand A.1.here A.2.1 rfl (hb A.2.2 hd) rfl k') k
theorem g_imul (A : Ax p l e R s m args below meth c T locs cells slots B) {x : Int32} {y : Int32} (hd : decode B pc = .ok (.imul, 1)) (hp : pc + 1 = pc') (k : Go p e below P T (mkF m pc' ls (.int (x * y) :: st))) : Go p e below P T (mkF m pc ls (.int y :: .int x :: st)) := by
  subst hp; exact Go.of (fun _ k' => XS.imul A.1.here A.2.1 rfl (hb A.2.2 hd) rfl k') k
theorem g_ixor (A : Ax p l e R s m args below meth c T locs cells slots B) {x : Int32} {y : Int32} (hd : decode B pc = .ok (.ixor, 1)) (hp : pc + 1 = pc') (k : Go p e below P T (mkF m pc' ls (.int (x ^^^ y) :: st))) : Go p e below P T (mkF m pc ls (.int y :: .int x :: st)) := by
  subst hp; exact Go.of (fun _ k' => XT.ixor A.1.here A.2.1 rfl (hb A.2.2 hd) rfl k') k
theorem g_ior (A : Ax p l e R s m args below meth c T locs cells slots B) {x : Int32} {y : Int32} (hd : decode B pc = .ok (.ior, 1)) (hp : pc + 1 = pc') (k : Go p e below P T (mkF m pc' ls (.int (x ||| y) :: st))) : Go p e below P T (mkF m pc ls (.int y :: .int x :: st)) := by
  subst hp; exact Go.of (fun _ k' => XT.ior A.1.here A.2.1 rfl (hb A.2.2 hd) rfl k') k
theorem g_ishl (A : Ax p l e R s m args below meth c T locs cells slots B) {x : Int32} {y : Int32} (hd : decode B pc = .ok (.ishl, 1)) (hp : pc + 1 = pc') (k : Go p e below P T (mkF m pc' ls (.int (x <<< (y &&& 31)) :: st))) : Go p e below P T (mkF m pc ls (.int y :: .int x :: st)) := by
  subst hp; exact Go.of (fun _ k' => XT.ishl A.1.here A.2.1 rfl (hb A.2.2 hd) rfl k') k
theorem g_ishr (A : Ax p l e R s m args below meth c T locs cells slots B) {x : Int32} {y : Int32} (hd : decode B pc = .ok (.ishr, 1)) (hp : pc + 1 = pc') (k : Go p e below P T (mkF m pc' ls (.int (x >>> (y &&& 31)) :: st))) : Go p e below P T (mkF m pc ls (.int y :: .int x :: st)) := by
  subst hp; exact Go.of (fun _ k' => XT.ishr A.1.here A.2.1 rfl (hb A.2.2 hd) rfl k') k
theorem g_iushr (A : Ax p l e R s m args below meth c T locs cells slots B) {x : Int32} {y : Int32} (hd : decode B pc = .ok (.iushr, 1)) (hp : pc + 1 = pc') (k : Go p e below P T (mkF m pc' ls (.int (XT.ushr x y) :: st))) : Go p e below P T (mkF m pc ls (.int y :: .int x :: st)) := by
  subst hp; exact Go.of (fun _ k' => XT.iushr A.1.here A.2.1 rfl (hb A.2.2 hd) rfl k') k
theorem g_idiv (A : Ax p l e R s m args below meth c T locs cells slots B) {x : Int32} {y : Int32} (hd : decode B pc = .ok (.idiv, 1)) (hy : y ≠ 0) (hp : pc + 1 = pc') (k : Go p e below P T (mkF m pc' ls (.int (x / y) :: st))) : Go p e below P T (mkF m pc ls (.int y :: .int x :: st)) := by
  subst hp; exact Go.of (fun _ k' => XS.idiv A.1.here A.2.1 rfl (hb A.2.2 hd) rfl hy k') k
theorem g_ladd (A : Ax p l e R s m args below meth c T locs cells slots B) {x : Int64} {y : Int64} (hd : decode B pc = .ok (.ladd, 1)) (hp : pc + 1 = pc') (k : Go p e below P T (mkF m pc' ls (.long (x + y) :: st))) : Go p e below P T (mkF m pc ls (.long y :: .long x :: st)) := by
  subst hp; exact Go.of (fun _ k' => XT.ladd A.1.here A.2.1 rfl (hb A.2.2 hd) rfl k') k
theorem g_lsub (A : Ax p l e R s m args below meth c T locs cells slots B) {x : Int64} {y : Int64} (hd : decode B pc = .ok (.lsub, 1)) (hp : pc + 1 = pc') (k : Go p e below P T (mkF m pc' ls (.long (x - y) :: st))) : Go p e below P T (mkF m pc ls (.long y :: .long x :: st)) := by
  subst hp; exact Go.of (fun _ k' => XT.lsub A.1.here A.2.1 rfl (hb A.2.2 hd) rfl k') k
theorem g_lmul (A : Ax p l e R s m args below meth c T locs cells slots B) {x : Int64} {y : Int64} (hd : decode B pc = .ok (.lmul, 1)) (hp : pc + 1 = pc') (k : Go p e below P T (mkF m pc' ls (.long (x * y) :: st))) : Go p e below P T (mkF m pc ls (.long y :: .long x :: st)) := by
  subst hp; exact Go.of (fun _ k' => XT.lmul A.1.here A.2.1 rfl (hb A.2.2 hd) rfl k') k
theorem g_land (A : Ax p l e R s m args below meth c T locs cells slots B) {x : Int64} {y : Int64} (hd : decode B pc = .ok (.land, 1)) (hp : pc + 1 = pc') (k : Go p e below P T (mkF m pc' ls (.long (x &&& y) :: st))) : Go p e below P T (mkF m pc ls (.long y :: .long x :: st)) := by
  subst hp; exact Go.of (fun _ k' => XT.land A.1.here A.2.1 rfl (hb A.2.2 hd) rfl k') k
theorem g_lor (A : Ax p l e R s m args below meth c T locs cells slots B) {x : Int64} {y : Int64} (hd : decode B pc = .ok (.lor, 1)) (hp : pc + 1 = pc') (k : Go p e below P T (mkF m pc' ls (.long (x ||| y) :: st))) : Go p e below P T (mkF m pc ls (.long y :: .long x :: st)) := by
  subst hp; exact Go.of (fun _ k' => XT.lor A.1.here A.2.1 rfl (hb A.2.2 hd) rfl k') k
theorem g_lxor (A : Ax p l e R s m args below meth c T locs cells slots B) {x : Int64} {y : Int64} (hd : decode B pc = .ok (.lxor, 1)) (hp : pc + 1 = pc') (k : Go p e below P T (mkF m pc' ls (.long (x ^^^ y) :: st))) : Go p e below P T (mkF m pc ls (.long y :: .long x :: st)) := by
  subst hp; exact Go.of (fun _ k' => XT.lxor A.1.here A.2.1 rfl (hb A.2.2 hd) rfl k') k
theorem g_lshl (A : Ax p l e R s m args below meth c T locs cells slots B) {x : Int64} {y : Int32} (hd : decode B pc = .ok (.lshl, 1)) (hp : pc + 1 = pc') (k : Go p e below P T (mkF m pc' ls (.long (x <<< (y.toInt64 &&& 63)) :: st))) : Go p e below P T (mkF m pc ls (.int y :: .long x :: st)) := by
  subst hp; exact Go.of (fun _ k' => XT.lshl A.1.here A.2.1 rfl (hb A.2.2 hd) rfl k') k
theorem g_lshr (A : Ax p l e R s m args below meth c T locs cells slots B) {x : Int64} {y : Int32} (hd : decode B pc = .ok (.lshr, 1)) (hp : pc + 1 = pc') (k : Go p e below P T (mkF m pc' ls (.long (x >>> (y.toInt64 &&& 63)) :: st))) : Go p e below P T (mkF m pc ls (.int y :: .long x :: st)) := by
  subst hp; exact Go.of (fun _ k' => XT.lshr A.1.here A.2.1 rfl (hb A.2.2 hd) rfl k') k
theorem g_lushr (A : Ax p l e R s m args below meth c T locs cells slots B) {x : Int64} {y : Int32} (hd : decode B pc = .ok (.lushr, 1)) (hp : pc + 1 = pc') (k : Go p e below P T (mkF m pc' ls (.long (XT.ushrL x y) :: st))) : Go p e below P T (mkF m pc ls (.int y :: .long x :: st)) := by
  subst hp; exact Go.of (fun _ k' => XT.lushr A.1.here A.2.1 rfl (hb A.2.2 hd) rfl k') k
theorem g_ldiv (A : Ax p l e R s m args below meth c T locs cells slots B) {x : Int64} {y : Int64} (hd : decode B pc = .ok (.ldiv, 1)) (hy : y ≠ 0) (hp : pc + 1 = pc') (k : Go p e below P T (mkF m pc' ls (.long (x / y) :: st))) : Go p e below P T (mkF m pc ls (.long y :: .long x :: st)) := by
  subst hp; exact Go.of (fun _ k' => XT.ldiv A.1.here A.2.1 rfl (hb A.2.2 hd) rfl hy k') k
theorem g_lrem (A : Ax p l e R s m args below meth c T locs cells slots B) {x y : Int64} (hd : decode B pc = .ok (.lrem, 1)) (hy : y ≠ 0) (hp : pc + 1 = pc') (k : Go p e below P T (mkF m pc' ls (.long (x % y) :: st))) : Go p e below P T (mkF m pc ls (.long y :: .long x :: st)) := by
  subst hp; rw [← lrem_mod] at k; exact Go.of (fun _ k' => XT.lrem A.1.here A.2.1 rfl (hb A.2.2 hd) rfl hy k') k
theorem g_i2s (A : Ax p l e R s m args below meth c T locs cells slots B) {x : Int32} (hd : decode B pc = .ok (.i2s, 1)) (hp : pc + 1 = pc') (k : Go p e below P T (mkF m pc' ls (.int (x.toInt16.toInt32) :: st))) : Go p e below P T (mkF m pc ls (.int x :: st)) := by
  subst hp; exact Go.of (fun _ k' => XT.i2s A.1.here A.2.1 rfl (hb A.2.2 hd) rfl k') k
theorem g_i2b (A : Ax p l e R s m args below meth c T locs cells slots B) {x : Int32} (hd : decode B pc = .ok (.i2b, 1)) (hp : pc + 1 = pc') (k : Go p e below P T (mkF m pc' ls (.int (x.toInt8.toInt32) :: st))) : Go p e below P T (mkF m pc ls (.int x :: st)) := by
  subst hp; exact Go.of (fun _ k' => XT.i2b A.1.here A.2.1 rfl (hb A.2.2 hd) rfl k') k
theorem g_i2c (A : Ax p l e R s m args below meth c T locs cells slots B) {x : Int32} (hd : decode B pc = .ok (.i2c, 1)) (hp : pc + 1 = pc') (k : Go p e below P T (mkF m pc' ls (.int (x.toUInt32.toUInt16.toUInt32.toInt32) :: st))) : Go p e below P T (mkF m pc ls (.int x :: st)) := by
  subst hp; exact Go.of (fun _ k' => XT.i2c A.1.here A.2.1 rfl (hb A.2.2 hd) rfl k') k
theorem g_ineg (A : Ax p l e R s m args below meth c T locs cells slots B) {x : Int32} (hd : decode B pc = .ok (.ineg, 1)) (hp : pc + 1 = pc') (k : Go p e below P T (mkF m pc' ls (.int (-x) :: st))) : Go p e below P T (mkF m pc ls (.int x :: st)) := by
  subst hp; exact Go.of (fun _ k' => XS.ineg A.1.here A.2.1 rfl (hb A.2.2 hd) rfl k') k
theorem g_lneg (A : Ax p l e R s m args below meth c T locs cells slots B) {x : Int64} (hd : decode B pc = .ok (.lneg, 1)) (hp : pc + 1 = pc') (k : Go p e below P T (mkF m pc' ls (.long (-x) :: st))) : Go p e below P T (mkF m pc ls (.long x :: st)) := by
  subst hp; exact Go.of (fun _ k' => XT.lneg A.1.here A.2.1 rfl (hb A.2.2 hd) rfl k') k
theorem g_i2l (A : Ax p l e R s m args below meth c T locs cells slots B) {x : Int32} (hd : decode B pc = .ok (.i2l, 1)) (hp : pc + 1 = pc') (k : Go p e below P T (mkF m pc' ls (.long (x.toInt64) :: st))) : Go p e below P T (mkF m pc ls (.int x :: st)) := by
  subst hp; exact Go.of (fun _ k' => XT.i2l A.1.here A.2.1 rfl (hb A.2.2 hd) rfl k') k
theorem g_l2i (A : Ax p l e R s m args below meth c T locs cells slots B) {x : Int64} (hd : decode B pc = .ok (.l2i, 1)) (hp : pc + 1 = pc') (k : Go p e below P T (mkF m pc' ls (.int (x.toInt32) :: st))) : Go p e below P T (mkF m pc ls (.long x :: st)) := by
  subst hp; exact Go.of (fun _ k' => XT.l2i A.1.here A.2.1 rfl (hb A.2.2 hd) rfl k') k
theorem g_irem (A : Ax p l e R s m args below meth c T locs cells slots B) {x y : Int32} (hd : decode B pc = .ok (.irem, 1)) (hy : y ≠ 0) (hp : pc + 1 = pc') (k : Go p e below P T (mkF m pc' ls (.int (x % y) :: st))) : Go p e below P T (mkF m pc ls (.int y :: .int x :: st)) := by
  subst hp; exact Go.of (fun _ k' => iremM A.1 A.2.1 rfl (hb A.2.2 hd) rfl hy k') k
theorem g_iloadN (A : Ax p l e R s m args below meth c T locs cells slots B) {k : Fin 4} {v : Int32} (hd : decode B pc = .ok (.iload_n k, 1)) (hl : ls[k.val]? = some (.val (.int v))) (hp : pc + 1 = pc') (k : Go p e below P T (mkF m pc' ls (.int v :: st))) : Go p e below P T (mkF m pc ls st) := by
  subst hp; exact Go.of (fun _ k' => XS.iloadN A.1.here A.2.1 rfl (hb A.2.2 hd) hl k') k
theorem g_iload (A : Ax p l e R s m args below meth c T locs cells slots B) {k : Nat} {v : Int32} (hd : decode B pc = .ok (.iload k, 2)) (hl : ls[k]? = some (.val (.int v))) (hp : pc + 2 = pc') (k : Go p e below P T (mkF m pc' ls (.int v :: st))) : Go p e below P T (mkF m pc ls st) := by
  subst hp; exact Go.of (fun _ k' => XS.iload A.1.here A.2.1 rfl (hb A.2.2 hd) hl k') k
theorem g_lloadN (A : Ax p l e R s m args below meth c T locs cells slots B) {k : Fin 4} {v : Int64} (hd : decode B pc = .ok (.lload_n k, 1)) (hl : ls[k.val]? = some (.val (.long v))) (hp : pc + 1 = pc') (k : Go p e below P T (mkF m pc' ls (.long v :: st))) : Go p e below P T (mkF m pc ls st) := by
  subst hp; exact Go.of (fun _ k' => XT.lloadN A.1.here A.2.1 rfl (hb A.2.2 hd) hl k') k
theorem g_lload (A : Ax p l e R s m args below meth c T locs cells slots B) {k : Nat} {v : Int64} (hd : decode B pc = .ok (.lload k, 2)) (hl : ls[k]? = some (.val (.long v))) (hp : pc + 2 = pc') (k : Go p e below P T (mkF m pc' ls (.long v :: st))) : Go p e below P T (mkF m pc ls st) := by
  subst hp; exact Go.of (fun _ k' => XT.lload A.1.here A.2.1 rfl (hb A.2.2 hd) hl k') k
theorem g_aloadN (A : Ax p l e R s m args below meth c T locs cells slots B) {k : Fin 4} {v : Value} (hd : decode B pc = .ok (.aload_n k, 1)) (hl : ls[k.val]? = some (.val v)) (hv : v.isRef = true) (hp : pc + 1 = pc') (k : Go p e below P T (mkF m pc' ls (v :: st))) : Go p e below P T (mkF m pc ls st) := by
  subst hp; exact Go.of (fun _ k' => XS.aloadN A.1.here A.2.1 rfl (hb A.2.2 hd) hl hv k') k
theorem g_aload (A : Ax p l e R s m args below meth c T locs cells slots B) {k : Nat} {v : Value} (hd : decode B pc = .ok (.aload k, 2)) (hl : ls[k]? = some (.val v)) (hv : v.isRef = true) (hp : pc + 2 = pc') (k : Go p e below P T (mkF m pc' ls (v :: st))) : Go p e below P T (mkF m pc ls st) := by
  subst hp; exact Go.of (fun _ k' => XS.aload A.1.here A.2.1 rfl (hb A.2.2 hd) hl hv k') k
theorem g_dloadN (A : Ax p l e R s m args below meth c T locs cells slots B) {k : Fin 4} {v : UInt64} (hd : decode B pc = .ok (.dload_n k, 1)) (hl : ls[k.val]? = some (.val (.double v))) (hp : pc + 1 = pc') (k : Go p e below P T (mkF m pc' ls (.double v :: st))) : Go p e below P T (mkF m pc ls st) := by
  subst hp
  refine Go.of (fun t k' => ?_) k
  have h := A.1.here
  have hx := A.2.1
  have hd' := hb A.2.2 hd
  show Steps p.tables e below (T.setTop { method := m, pc := pc, locals := ls, stack := st, locked := none }) _
  jvm_step h [h.top, hx, hd', hl]
  exact k'
theorem g_dload (A : Ax p l e R s m args below meth c T locs cells slots B) {k : Nat} {v : UInt64} (hd : decode B pc = .ok (.dload k, 2)) (hl : ls[k]? = some (.val (.double v))) (hp : pc + 2 = pc') (k : Go p e below P T (mkF m pc' ls (.double v :: st))) : Go p e below P T (mkF m pc ls st) := by
  subst hp
  refine Go.of (fun t k' => ?_) k
  have h := A.1.here
  have hx := A.2.1
  have hd' := hb A.2.2 hd
  show Steps p.tables e below (T.setTop { method := m, pc := pc, locals := ls, stack := st, locked := none }) _
  jvm_step h [h.top, hx, hd', hl]
  exact k'
theorem g_istoreN (A : Ax p l e R s m args below meth c T locs cells slots B) {k : Fin 4} {x : Int32} (hd : decode B pc = .ok (.istore_n k, 1)) (hl : storeLocals ls k.val (.int x) = some ls') (hp : pc + 1 = pc') (k : Go p e below P T (mkF m pc' ls' st)) : Go p e below P T (mkF m pc ls (.int x :: st)) := by
  subst hp; exact Go.of (fun _ k' => XS.istoreN A.1.here A.2.1 rfl (hb A.2.2 hd) rfl hl k') k
theorem g_istore (A : Ax p l e R s m args below meth c T locs cells slots B) {k : Nat} {x : Int32} (hd : decode B pc = .ok (.istore k, 2)) (hl : storeLocals ls k (.int x) = some ls') (hp : pc + 2 = pc') (k : Go p e below P T (mkF m pc' ls' st)) : Go p e below P T (mkF m pc ls (.int x :: st)) := by
  subst hp; exact Go.of (fun _ k' => XS.istore A.1.here A.2.1 rfl (hb A.2.2 hd) rfl hl k') k
theorem g_lstoreN (A : Ax p l e R s m args below meth c T locs cells slots B) {k : Fin 4} {x : Int64} (hd : decode B pc = .ok (.lstore_n k, 1)) (hl : storeLocals ls k.val (.long x) = some ls') (hp : pc + 1 = pc') (k : Go p e below P T (mkF m pc' ls' st)) : Go p e below P T (mkF m pc ls (.long x :: st)) := by
  subst hp; exact Go.of (fun _ k' => XT.lstoreN A.1.here A.2.1 rfl (hb A.2.2 hd) rfl hl k') k
theorem g_lstore (A : Ax p l e R s m args below meth c T locs cells slots B) {k : Nat} {x : Int64} (hd : decode B pc = .ok (.lstore k, 2)) (hl : storeLocals ls k (.long x) = some ls') (hp : pc + 2 = pc') (k : Go p e below P T (mkF m pc' ls' st)) : Go p e below P T (mkF m pc ls (.long x :: st)) := by
  subst hp; exact Go.of (fun _ k' => XT.lstore A.1.here A.2.1 rfl (hb A.2.2 hd) rfl hl k') k
theorem g_astoreN (A : Ax p l e R s m args below meth c T locs cells slots B) {k : Fin 4} {x : Value} (hd : decode B pc = .ok (.astore_n k, 1)) (hv : x.isRef = true) (hl : storeLocals ls k.val x = some ls') (hp : pc + 1 = pc') (k : Go p e below P T (mkF m pc' ls' st)) : Go p e below P T (mkF m pc ls (x :: st)) := by
  subst hp; exact Go.of (fun _ k' => XS.astoreN A.1.here A.2.1 rfl (hb A.2.2 hd) rfl hv hl k') k
theorem g_astore (A : Ax p l e R s m args below meth c T locs cells slots B) {k : Nat} {x : Value} (hd : decode B pc = .ok (.astore k, 2)) (hv : x.isRef = true) (hl : storeLocals ls k x = some ls') (hp : pc + 2 = pc') (k : Go p e below P T (mkF m pc' ls' st)) : Go p e below P T (mkF m pc ls (x :: st)) := by
  subst hp; exact Go.of (fun _ k' => XS.astore A.1.here A.2.1 rfl (hb A.2.2 hd) rfl hv hl k') k
theorem g_dstoreN (A : Ax p l e R s m args below meth c T locs cells slots B) {k : Fin 4} {x : UInt64} (hd : decode B pc = .ok (.dstore_n k, 1)) (hl : storeLocals ls k.val (.double x) = some ls') (hp : pc + 1 = pc') (k : Go p e below P T (mkF m pc' ls' st)) : Go p e below P T (mkF m pc ls (.double x :: st)) := by
  subst hp
  refine Go.of (fun t k' => ?_) k
  have h := A.1.here
  have hx := A.2.1
  have hd' := hb A.2.2 hd
  show Steps p.tables e below (T.setTop { method := m, pc := pc, locals := ls, stack := .double x :: st, locked := none }) _
  jvm_step h [h.top, hx, hd']
  exact ⟨ls', hl, k'⟩
theorem g_dstore (A : Ax p l e R s m args below meth c T locs cells slots B) {k : Nat} {x : UInt64} (hd : decode B pc = .ok (.dstore k, 2)) (hl : storeLocals ls k (.double x) = some ls') (hp : pc + 2 = pc') (k : Go p e below P T (mkF m pc' ls' st)) : Go p e below P T (mkF m pc ls (.double x :: st)) := by
  subst hp
  refine Go.of (fun t k' => ?_) k
  have h := A.1.here
  have hx := A.2.1
  have hd' := hb A.2.2 hd
  show Steps p.tables e below (T.setTop { method := m, pc := pc, locals := ls, stack := .double x :: st, locked := none }) _
  jvm_step h [h.top, hx, hd']
  exact ⟨ls', hl, k'⟩
theorem g_iconst (A : Ax p l e R s m args below meth c T locs cells slots B) {i : Int} {v : Int32} (hd : decode B pc = .ok (.iconst i, 1)) (hv : Int32.ofInt i = v) (hp : pc + 1 = pc') (k : Go p e below P T (mkF m pc' ls (.int v :: st))) : Go p e below P T (mkF m pc ls st) := by
  subst hp hv; exact Go.of (fun _ k' => XS.iconst A.1.here A.2.1 rfl (hb A.2.2 hd) k') k
theorem g_bipush (A : Ax p l e R s m args below meth c T locs cells slots B) {i : Int} {v : Int32} (hd : decode B pc = .ok (.bipush i, 2)) (hv : (Int8.ofInt i).toInt32 = v) (hp : pc + 2 = pc') (k : Go p e below P T (mkF m pc' ls (.int v :: st))) : Go p e below P T (mkF m pc ls st) := by
  subst hp hv; exact Go.of (fun _ k' => XS.bipush A.1.here A.2.1 rfl (hb A.2.2 hd) k') k
theorem g_sipush (A : Ax p l e R s m args below meth c T locs cells slots B) {i : Int} {v : Int32} (hd : decode B pc = .ok (.sipush i, 3)) (hv : (Int16.ofInt i).toInt32 = v) (hp : pc + 3 = pc') (k : Go p e below P T (mkF m pc' ls (.int v :: st))) : Go p e below P T (mkF m pc ls st) := by
  subst hp hv; exact Go.of (fun _ k' => XS.sipush A.1.here A.2.1 rfl (hb A.2.2 hd) k') k
theorem g_aconst (A : Ax p l e R s m args below meth c T locs cells slots B) (hd : decode B pc = .ok (.aconst_null, 1)) (hp : pc + 1 = pc') (k : Go p e below P T (mkF m pc' ls (.null :: st))) : Go p e below P T (mkF m pc ls st) := by
  subst hp; exact Go.of (fun _ k' => XS.aconstNull A.1.here A.2.1 rfl (hb A.2.2 hd) k') k
theorem g_lconst (A : Ax p l e R s m args below meth c T locs cells slots B) {i : Fin 2} {v : Int64} (hd : decode B pc = .ok (.lconst i, 1)) (hv : Int64.ofNat i = v) (hp : pc + 1 = pc') (k : Go p e below P T (mkF m pc' ls (.long v :: st))) : Go p e below P T (mkF m pc ls st) := by
  subst hp hv; exact Go.of (fun _ k' => XT.lconst A.1.here A.2.1 rfl (hb A.2.2 hd) k') k
theorem g_dconst0 (A : Ax p l e R s m args below meth c T locs cells slots B) (hd : decode B pc = .ok (.dconst 0, 1)) (hp : pc + 1 = pc') (k : Go p e below P T (mkF m pc' ls (.double (0 : UInt64) :: st))) : Go p e below P T (mkF m pc ls st) := by
  subst hp
  refine Go.of (fun t k' => ?_) k
  have h := A.1.here
  have hx := A.2.1
  have hd' := hb A.2.2 hd
  show Steps p.tables e below (T.setTop { method := m, pc := pc, locals := ls, stack := st, locked := none }) _
  jvm_step h [h.top, hx, hd']
  exact k'
theorem g_dconst1 (A : Ax p l e R s m args below meth c T locs cells slots B) (hd : decode B pc = .ok (.dconst 1, 1)) (hp : pc + 1 = pc') (k : Go p e below P T (mkF m pc' ls (.double (4607182418800017408 : UInt64) :: st))) : Go p e below P T (mkF m pc ls st) := by
  subst hp
  refine Go.of (fun t k' => ?_) k
  have h := A.1.here
  have hx := A.2.1
  have hd' := hb A.2.2 hd
  show Steps p.tables e below (T.setTop { method := m, pc := pc, locals := ls, stack := st, locked := none }) _
  jvm_step h [h.top, hx, hd']
  exact k'
theorem g_dadd (A : Ax p l e R s m args below meth c T locs cells slots B) {x y : UInt64} (hd : decode B pc = .ok (.dadd, 1)) (hn : NoNaN64 (FP.dadd x y)) (hp : pc + 1 = pc') (k : Go p e below P T (mkF m pc' ls (.double (FP.dadd x y) :: st))) : Go p e below P T (mkF m pc ls (.double y :: .double x :: st)) := by
  subst hp
  refine Go.of (fun t k' => ?_) k
  have h := A.1.here
  have hx := A.2.1
  have hd' := hb A.2.2 hd
  show Steps p.tables e below (T.setTop { method := m, pc := pc, locals := ls, stack := .double y :: .double x :: st, locked := none }) _
  jvm_step h [h.top, hx, hd', Op.dadd.at_number h.top hn]
  exact k'
theorem g_dsub (A : Ax p l e R s m args below meth c T locs cells slots B) {x y : UInt64} (hd : decode B pc = .ok (.dsub, 1)) (hn : NoNaN64 (FP.dsub x y)) (hp : pc + 1 = pc') (k : Go p e below P T (mkF m pc' ls (.double (FP.dsub x y) :: st))) : Go p e below P T (mkF m pc ls (.double y :: .double x :: st)) := by
  subst hp
  refine Go.of (fun t k' => ?_) k
  have h := A.1.here
  have hx := A.2.1
  have hd' := hb A.2.2 hd
  show Steps p.tables e below (T.setTop { method := m, pc := pc, locals := ls, stack := .double y :: .double x :: st, locked := none }) _
  jvm_step h [h.top, hx, hd', Op.dsub.at_number h.top hn]
  exact k'
theorem g_dmul (A : Ax p l e R s m args below meth c T locs cells slots B) {x y : UInt64} (hd : decode B pc = .ok (.dmul, 1)) (hn : NoNaN64 (FP.dmul x y)) (hp : pc + 1 = pc') (k : Go p e below P T (mkF m pc' ls (.double (FP.dmul x y) :: st))) : Go p e below P T (mkF m pc ls (.double y :: .double x :: st)) := by
  subst hp
  refine Go.of (fun t k' => ?_) k
  have h := A.1.here
  have hx := A.2.1
  have hd' := hb A.2.2 hd
  show Steps p.tables e below (T.setTop { method := m, pc := pc, locals := ls, stack := .double y :: .double x :: st, locked := none }) _
  jvm_step h [h.top, hx, hd', Op.dmul.at_number h.top hn]
  exact k'
theorem g_ddiv (A : Ax p l e R s m args below meth c T locs cells slots B) {x y : UInt64} (hd : decode B pc = .ok (.ddiv, 1)) (hn : NoNaN64 (FP.ddiv x y)) (hp : pc + 1 = pc') (k : Go p e below P T (mkF m pc' ls (.double (FP.ddiv x y) :: st))) : Go p e below P T (mkF m pc ls (.double y :: .double x :: st)) := by
  subst hp
  refine Go.of (fun t k' => ?_) k
  have h := A.1.here
  have hx := A.2.1
  have hd' := hb A.2.2 hd
  show Steps p.tables e below (T.setTop { method := m, pc := pc, locals := ls, stack := .double y :: .double x :: st, locked := none }) _
  jvm_step h [h.top, hx, hd', Op.ddiv.at_number h.top hn]
  exact k'
theorem g_dneg (A : Ax p l e R s m args below meth c T locs cells slots B) {x : UInt64} (hd : decode B pc = .ok (.dneg, 1)) (hp : pc + 1 = pc') (k : Go p e below P T (mkF m pc' ls (.double (FP.dneg x) :: st))) : Go p e below P T (mkF m pc ls (.double x :: st)) := by
  subst hp
  refine Go.of (fun t k' => ?_) k
  have h := A.1.here
  have hx := A.2.1
  have hd' := hb A.2.2 hd
  show Steps p.tables e below (T.setTop { method := m, pc := pc, locals := ls, stack := .double x :: st, locked := none }) _
  jvm_step h [h.top, hx, hd']
  exact k'
theorem g_i2d (A : Ax p l e R s m args below meth c T locs cells slots B) {x : Int32} (hd : decode B pc = .ok (.i2d, 1)) (hp : pc + 1 = pc') (k : Go p e below P T (mkF m pc' ls (.double (FP.i2d x) :: st))) : Go p e below P T (mkF m pc ls (.int x :: st)) := by
  subst hp
  refine Go.of (fun t k' => ?_) k
  have h := A.1.here
  have hx := A.2.1
  have hd' := hb A.2.2 hd
  show Steps p.tables e below (T.setTop { method := m, pc := pc, locals := ls, stack := .int x :: st, locked := none }) _
  jvm_step h [h.top, hx, hd']
  exact k'
theorem g_l2d (A : Ax p l e R s m args below meth c T locs cells slots B) {x : Int64} (hd : decode B pc = .ok (.l2d, 1)) (hp : pc + 1 = pc') (k : Go p e below P T (mkF m pc' ls (.double (FP.l2d x) :: st))) : Go p e below P T (mkF m pc ls (.long x :: st)) := by
  subst hp
  refine Go.of (fun t k' => ?_) k
  have h := A.1.here
  have hx := A.2.1
  have hd' := hb A.2.2 hd
  show Steps p.tables e below (T.setTop { method := m, pc := pc, locals := ls, stack := .long x :: st, locked := none }) _
  jvm_step h [h.top, hx, hd']
  exact k'
theorem g_dcmp (A : Ax p l e R s m args below meth c T locs cells slots B) {x y : UInt64} {op : CmpOp} (hd : decode B pc = .ok (.dcmp op, 1)) (hp : pc + 1 = pc') (k : Go p e below P T (mkF m pc' ls (.int (cmpValue (FP.dcmp x y) op) :: st))) : Go p e below P T (mkF m pc ls (.double y :: .double x :: st)) := by
  subst hp
  refine Go.of (fun t k' => ?_) k
  have h := A.1.here
  have hx := A.2.1
  have hd' := hb A.2.2 hd
  show Steps p.tables e below (T.setTop { method := m, pc := pc, locals := ls, stack := .double y :: .double x :: st, locked := none }) _
  jvm_step h [h.top, hx, hd']
  exact k'
theorem g_lcmp (A : Ax p l e R s m args below meth c T locs cells slots B) {x y : Int64} (hd : decode B pc = .ok (.lcmp, 1)) (hp : pc + 1 = pc') (k : Go p e below P T (mkF m pc' ls (.int (XT.cmpL x y) :: st))) : Go p e below P T (mkF m pc ls (.long y :: .long x :: st)) := by
  subst hp; exact Go.of (fun _ k' => XT.lcmp A.1.here A.2.1 rfl (hb A.2.2 hd) rfl k') k
theorem g_dup (A : Ax p l e R s m args below meth c T locs cells slots B) {x : Value} (hd : decode B pc = .ok (.dup, 1)) (hc : x.category = 1) (hp : pc + 1 = pc') (k : Go p e below P T (mkF m pc' ls (x :: x :: st))) : Go p e below P T (mkF m pc ls (x :: st)) := by
  subst hp; exact Go.of (fun _ k' => XS.dup A.1.here A.2.1 rfl (hb A.2.2 hd) rfl hc k') k
theorem g_pop (A : Ax p l e R s m args below meth c T locs cells slots B) {x : Value} (hd : decode B pc = .ok (.pop, 1)) (hc : x.category = 1) (hp : pc + 1 = pc') (k : Go p e below P T (mkF m pc' ls st)) : Go p e below P T (mkF m pc ls (x :: st)) := by
  subst hp; exact Go.of (fun _ k' => XT.pop A.1.here A.2.1 rfl (hb A.2.2 hd) rfl hc k') k
theorem g_iinc (A : Ax p l e R s m args below meth c T locs cells slots B) {k : Nat} {i : Int} {x y : Int32} (hd : decode B pc = .ok (.iinc k i, 3)) (hl : ls[k]? = some (.val (.int x))) (hy : x + Int32.ofInt i = y) (hl' : storeLocals ls k (.int y) = some ls') (hp : pc + 3 = pc') (k : Go p e below P T (mkF m pc' ls' st)) : Go p e below P T (mkF m pc ls st) := by
  subst hp hy; exact Go.of (fun _ k' => XS.iinc A.1.here A.2.1 rfl (hb A.2.2 hd) hl hl' k') k
theorem own_off {pc pc' : Nat} {o : Int} (h : (pc : Int) + o = (pc' : Int)) : 0 ≤ (pc : Int) + o ∧ ((pc : Int) + o).toNat = pc' := by omega
theorem g_goto (A : Ax p l e R s m args below meth c T locs cells slots B) {o : Int} (hd : decode B pc = .ok (.goto o, 3)) (hp : (pc : Int) + o = (pc' : Int)) (k : Go p e below P T (mkF m pc' ls st)) : Go p e below P T (mkF m pc ls st) := Go.of (fun _ k' => XS.goto A.1.here A.2.1 rfl rfl (hb A.2.2 hd) (own_off hp).1 (own_off hp).2 k') k
theorem g_ifY (A : Ax p l e R s m args below meth c T locs cells slots B) {o : Int} {cd : ClassFile.Cond} {x : Int32} (hd : decode B pc = .ok (.ifCond cd o, 3)) (hc : ifCond.holds cd x = true) (hp : (pc : Int) + o = (pc' : Int)) (k : Go p e below P T (mkF m pc' ls st)) : Go p e below P T (mkF m pc ls (.int x :: st)) := Go.of (fun _ k' => XS.ifYes A.1.here A.2.1 rfl rfl (hb A.2.2 hd) rfl hc (own_off hp).1 (own_off hp).2 k') k
theorem g_ifN (A : Ax p l e R s m args below meth c T locs cells slots B) {o : Int} {cd : ClassFile.Cond} {x : Int32} (hd : decode B pc = .ok (.ifCond cd o, 3)) (hc : ifCond.holds cd x = false) (hp : pc + 3 = pc') (k : Go p e below P T (mkF m pc' ls st)) : Go p e below P T (mkF m pc ls (.int x :: st)) := by
  subst hp; exact Go.of (fun _ k' => XS.ifNo A.1.here A.2.1 rfl (hb A.2.2 hd) rfl hc k') k
theorem g_icY (A : Ax p l e R s m args below meth c T locs cells slots B) {o : Int} {cd : ClassFile.Cond} {x y : Int32} (hd : decode B pc = .ok (.if_icmp cd o, 3)) (hc : if_icmp.holds cd x y = true) (hp : (pc : Int) + o = (pc' : Int)) (k : Go p e below P T (mkF m pc' ls st)) : Go p e below P T (mkF m pc ls (.int y :: .int x :: st)) := Go.of (fun _ k' => XS.icmpYes A.1.here A.2.1 rfl rfl (hb A.2.2 hd) rfl hc (own_off hp).1 (own_off hp).2 k') k
theorem g_icN (A : Ax p l e R s m args below meth c T locs cells slots B) {o : Int} {cd : ClassFile.Cond} {x y : Int32} (hd : decode B pc = .ok (.if_icmp cd o, 3)) (hc : if_icmp.holds cd x y = false) (hp : pc + 3 = pc') (k : Go p e below P T (mkF m pc' ls st)) : Go p e below P T (mkF m pc ls (.int y :: .int x :: st)) := by
  subst hp; exact Go.of (fun _ k' => XS.icmpNo A.1.here A.2.1 rfl (hb A.2.2 hd) rfl hc k') k
theorem c0_eq_t {x : Int32} (h : x = 0) : ifCond.holds .eq x = true := (if0 _ _).trans (teq h).1
theorem c0_eq_f {x : Int32} (h : ¬ x = 0) : ifCond.holds .eq x = false := (if0 _ _).trans (feq h).1
theorem c0_ne_t {x : Int32} (h : ¬ x = 0) : ifCond.holds .ne x = true := (if0 _ _).trans (feq h).2
theorem c0_ne_f {x : Int32} (h : x = 0) : ifCond.holds .ne x = false := (if0 _ _).trans (teq h).2
theorem c0_lt_t {x : Int32} (h : x < 0) : ifCond.holds .lt x = true := (if0 _ _).trans (tlt h).1
theorem c0_lt_f {x : Int32} (h : ¬ x < 0) : ifCond.holds .lt x = false := (if0 _ _).trans (flt h).1
theorem c0_ge_t {x : Int32} (h : ¬ x < 0) : ifCond.holds .ge x = true := (if0 _ _).trans (flt h).2.1
theorem c0_ge_f {x : Int32} (h : x < 0) : ifCond.holds .ge x = false := (if0 _ _).trans (tlt h).2.1
theorem c0_gt_t {x : Int32} (h : 0 < x) : ifCond.holds .gt x = true := (if0 _ _).trans (tlt h).2.2.1
theorem c0_gt_f {x : Int32} (h : ¬ 0 < x) : ifCond.holds .gt x = false := (if0 _ _).trans (flt h).2.2.1
theorem c0_le_t {x : Int32} (h : ¬ 0 < x) : ifCond.holds .le x = true := (if0 _ _).trans (flt h).2.2.2
theorem c0_le_f {x : Int32} (h : 0 < x) : ifCond.holds .le x = false := (if0 _ _).trans (tlt h).2.2.2
theorem c2_eq_t {x y : Int32} (h : x = y) : if_icmp.holds .eq x y = true := (teq h).1
theorem c2_eq_f {x y : Int32} (h : ¬ x = y) : if_icmp.holds .eq x y = false := (feq h).1
theorem c2_ne_t {x y : Int32} (h : ¬ x = y) : if_icmp.holds .ne x y = true := (feq h).2
theorem c2_ne_f {x y : Int32} (h : x = y) : if_icmp.holds .ne x y = false := (teq h).2
theorem c2_lt_t {x y : Int32} (h : x < y) : if_icmp.holds .lt x y = true := (tlt h).1
theorem c2_lt_f {x y : Int32} (h : ¬ x < y) : if_icmp.holds .lt x y = false := (flt h).1
theorem c2_ge_t {x y : Int32} (h : ¬ x < y) : if_icmp.holds .ge x y = true := (flt h).2.1
theorem c2_ge_f {x y : Int32} (h : x < y) : if_icmp.holds .ge x y = false := (tlt h).2.1
theorem c2_gt_t {x y : Int32} (h : y < x) : if_icmp.holds .gt x y = true := (tlt h).2.2.1
theorem c2_gt_f {x y : Int32} (h : ¬ y < x) : if_icmp.holds .gt x y = false := (flt h).2.2.1
theorem c2_le_t {x y : Int32} (h : ¬ y < x) : if_icmp.holds .le x y = true := (flt h).2.2.2
theorem c2_le_f {x y : Int32} (h : y < x) : if_icmp.holds .le x y = false := (tlt h).2.2.2
theorem b0_eq_t {C : Prop} [Decidable C] {v : Int32} (e : v = if C then 1 else 0) (h : ¬ C) : ifCond.holds .eq v = true := c0_eq_t (by rw [e, if_neg h])
theorem b0_eq_f {C : Prop} [Decidable C] {v : Int32} (e : v = if C then 1 else 0) (h : C) : ifCond.holds .eq v = false := c0_eq_f (by rw [e, if_pos h]; decide)
theorem b0_ne_t {C : Prop} [Decidable C] {v : Int32} (e : v = if C then 1 else 0) (h : C) : ifCond.holds .ne v = true := c0_ne_t (by rw [e, if_pos h]; decide)
theorem b0_ne_f {C : Prop} [Decidable C] {v : Int32} (e : v = if C then 1 else 0) (h : ¬ C) : ifCond.holds .ne v = false := c0_ne_f (by rw [e, if_neg h])
theorem own_b01 {C : Prop} [Decidable C] {v : Int32} (e : v = if C then 1 else 0) : narrow .boolean (.int v) = .int v := by
  subst e; by_cases h : C
  · rw [if_pos h]; rfl
  · rw [if_neg h]; rfl
theorem own_fb {C : Prop} [Decidable C] {v : Int32} (e : v = if C then 1 else 0) : fits .boolean (.int v) = true := by
  subst e; by_cases h : C
  · rw [if_pos h]; rfl
  · rw [if_neg h]; rfl
theorem own_ndadd {x y : UInt64} (h1 : Fin64 x) (h2 : Fin64 y) : NoNaN64 (FP.dadd x y) := dadd_out h1.noNaN h2
theorem own_ndsub {x y : UInt64} (h1 : Fin64 x) (h2 : Fin64 y) : NoNaN64 (FP.dsub x y) := dsub_out h1.noNaN h2
theorem own_ndmul {x y : UInt64} (h1 : Fin64 x) (h2 : Fin64 y) : NoNaN64 (FP.dmul x y) := dmul_out h1 h2
theorem own_fin {x : UInt64} : Fin64 x ↔ FP.Core.DFin x := fin64_core
theorem own_fneg {x : UInt64} (h : Fin64 x) : Fin64 (FP.dneg x) := by
  obtain ⟨s, c, q, e⟩ := fin64_core.mp h
  exact fin64_core.mpr ⟨!s, c, q, (FP.val64_dneg x).trans (by rw [e]; rfl)⟩
theorem own_self {x : UInt64} (h : Fin64 x) : FP.dcmp x x = some .eq := FP.Core.dcmp_self (fin64_core.mp h).ne_nan
theorem own_sgt {x : UInt64} (h : Fin64 x) : ¬ FP.dcmp x x = some .gt := by rw [own_self h]; decide
theorem own_slt {x : UInt64} (h : Fin64 x) : ¬ FP.dcmp x x = some .lt := by rw [own_self h]; decide
theorem own_and {c d : Jvm.Cond} {a : Array Value} {s : State} (h1 : c.before a s = true) (h2 : d.before a s = true) : (Jvm.Cond.and c d).before a s = true := by rw [Cond.before_and, h1, h2]; rfl
theorem own_isfin {x : UInt64} (h : Fin64 x) : some (Value.int (if Jvm.Free.Fl.relLe (FP.dcmp (x &&& 0x7fffffffffffffff) Jvm.Free.Fl.maxD) = true then (1 : Int32) else 0)) = some (.int (1 : Int32)) := by rw [if_pos ((le_max_iff h.noNaN).mpr h)]
theorem own_isinf {x : UInt64} (h : Fin64 x) : some (Value.int (if Jvm.Free.Fl.relGt (FP.dcmp (x &&& 0x7fffffffffffffff) Jvm.Free.Fl.maxD) = true then (1 : Int32) else 0)) = some (.int (0 : Int32)) := by rw [if_neg (fun h4 => (gt_max_iff h.noNaN).mp h4 h)]
theorem own_dfin {i : Int} {x : UInt64} (h : FP.Core.DInt i x) : Fin64 x := by
  refine fin64_core.mpr ?_
  have q : FP.Core.Whole i (FP.Core.val64 x) := h
  cases e : FP.Core.val64 x with
  | nan => rw [e] at q; exact q.elim
  | inf s => rw [e] at q; exact q.elim
  | fin s c q => exact ⟨s, c, q, e⟩
theorem own_fn {v : Int32} (h : narrow .boolean (.int v) = .int v) : fits .boolean (.int v) = true := by
  have q : v &&& 1 = v := Value.int.inj h
  rcases and_one v with z | z <;> rw [z] at q <;> subst q <;> rfl
/-- a double less than, equal to .. another, as the code asks it -/
abbrev oGe (o : Option Ordering) : Prop := o = some .gt ∨ o = some .eq
abbrev oLe (o : Option Ordering) : Prop := o = some .lt ∨ o = some .eq
theorem d_l_eq_t {o : Option Ordering} (h : o = some .eq) : ifCond.holds .eq (cmpValue o .l) = true := by
  rcases o with _ | _ | _ | _ <;> first | rfl | decide | (exfalso; revert h; decide)
theorem d_l_eq_f {o : Option Ordering} (h : ¬ o = some .eq) : ifCond.holds .eq (cmpValue o .l) = false := by
  rcases o with _ | _ | _ | _ <;> first | rfl | decide | (exfalso; revert h; decide)
theorem d_l_ne_t {o : Option Ordering} (h : ¬ o = some .eq) : ifCond.holds .ne (cmpValue o .l) = true := by
  rcases o with _ | _ | _ | _ <;> first | rfl | decide | (exfalso; revert h; decide)
theorem d_l_ne_f {o : Option Ordering} (h : o = some .eq) : ifCond.holds .ne (cmpValue o .l) = false := by
  rcases o with _ | _ | _ | _ <;> first | rfl | decide | (exfalso; revert h; decide)
theorem d_g_eq_t {o : Option Ordering} (h : o = some .eq) : ifCond.holds .eq (cmpValue o .g) = true := by
  rcases o with _ | _ | _ | _ <;> first | rfl | decide | (exfalso; revert h; decide)
theorem d_g_eq_f {o : Option Ordering} (h : ¬ o = some .eq) : ifCond.holds .eq (cmpValue o .g) = false := by
  rcases o with _ | _ | _ | _ <;> first | rfl | decide | (exfalso; revert h; decide)
theorem d_g_ne_t {o : Option Ordering} (h : ¬ o = some .eq) : ifCond.holds .ne (cmpValue o .g) = true := by
  rcases o with _ | _ | _ | _ <;> first | rfl | decide | (exfalso; revert h; decide)
theorem d_g_ne_f {o : Option Ordering} (h : o = some .eq) : ifCond.holds .ne (cmpValue o .g) = false := by
  rcases o with _ | _ | _ | _ <;> first | rfl | decide | (exfalso; revert h; decide)
theorem d_l_lt_t {o : Option Ordering} (h : ¬ oGe o) : ifCond.holds .lt (cmpValue o .l) = true := by
  rcases o with _ | _ | _ | _ <;> first | rfl | decide | (exfalso; revert h; decide)
theorem d_l_lt_f {o : Option Ordering} (h : oGe o) : ifCond.holds .lt (cmpValue o .l) = false := by
  rcases o with _ | _ | _ | _ <;> first | rfl | decide | (exfalso; revert h; decide)
theorem d_l_ge_t {o : Option Ordering} (h : oGe o) : ifCond.holds .ge (cmpValue o .l) = true := by
  rcases o with _ | _ | _ | _ <;> first | rfl | decide | (exfalso; revert h; decide)
theorem d_l_ge_f {o : Option Ordering} (h : ¬ oGe o) : ifCond.holds .ge (cmpValue o .l) = false := by
  rcases o with _ | _ | _ | _ <;> first | rfl | decide | (exfalso; revert h; decide)
theorem d_l_gt_t {o : Option Ordering} (h : o = some .gt) : ifCond.holds .gt (cmpValue o .l) = true := by
  rcases o with _ | _ | _ | _ <;> first | rfl | decide | (exfalso; revert h; decide)
theorem d_l_gt_f {o : Option Ordering} (h : ¬ o = some .gt) : ifCond.holds .gt (cmpValue o .l) = false := by
  rcases o with _ | _ | _ | _ <;> first | rfl | decide | (exfalso; revert h; decide)
theorem d_l_le_t {o : Option Ordering} (h : ¬ o = some .gt) : ifCond.holds .le (cmpValue o .l) = true := by
  rcases o with _ | _ | _ | _ <;> first | rfl | decide | (exfalso; revert h; decide)
theorem d_l_le_f {o : Option Ordering} (h : o = some .gt) : ifCond.holds .le (cmpValue o .l) = false := by
  rcases o with _ | _ | _ | _ <;> first | rfl | decide | (exfalso; revert h; decide)
theorem d_g_lt_t {o : Option Ordering} (h : o = some .lt) : ifCond.holds .lt (cmpValue o .g) = true := by
  rcases o with _ | _ | _ | _ <;> first | rfl | decide | (exfalso; revert h; decide)
theorem d_g_lt_f {o : Option Ordering} (h : ¬ o = some .lt) : ifCond.holds .lt (cmpValue o .g) = false := by
  rcases o with _ | _ | _ | _ <;> first | rfl | decide | (exfalso; revert h; decide)
theorem d_g_ge_t {o : Option Ordering} (h : ¬ o = some .lt) : ifCond.holds .ge (cmpValue o .g) = true := by
  rcases o with _ | _ | _ | _ <;> first | rfl | decide | (exfalso; revert h; decide)
theorem d_g_ge_f {o : Option Ordering} (h : o = some .lt) : ifCond.holds .ge (cmpValue o .g) = false := by
  rcases o with _ | _ | _ | _ <;> first | rfl | decide | (exfalso; revert h; decide)
theorem d_g_gt_t {o : Option Ordering} (h : ¬ oLe o) : ifCond.holds .gt (cmpValue o .g) = true := by
  rcases o with _ | _ | _ | _ <;> first | rfl | decide | (exfalso; revert h; decide)
theorem d_g_gt_f {o : Option Ordering} (h : oLe o) : ifCond.holds .gt (cmpValue o .g) = false := by
  rcases o with _ | _ | _ | _ <;> first | rfl | decide | (exfalso; revert h; decide)
theorem d_g_le_t {o : Option Ordering} (h : oLe o) : ifCond.holds .le (cmpValue o .g) = true := by
  rcases o with _ | _ | _ | _ <;> first | rfl | decide | (exfalso; revert h; decide)
theorem d_g_le_f {o : Option Ordering} (h : ¬ oLe o) : ifCond.holds .le (cmpValue o .g) = false := by
  rcases o with _ | _ | _ | _ <;> first | rfl | decide | (exfalso; revert h; decide)
theorem l_eq (x y : Int64) : XT.cmpL x y = 0 ↔ x = y := lw_eq x y
theorem l_lt (x y : Int64) : XT.cmpL x y < 0 ↔ x < y := lw_lt x y
theorem l_gt (x y : Int64) : 0 < XT.cmpL x y ↔ y < x := lw_gt x y
theorem g_ret (A : Ax p l e R s m args below meth c T locs cells slots B) {w : Value} {t : FieldType} {i : Instr} {Q : Option Value → Heap → List Loc → Prop} {K S : Nat} (hd : decode B pc = .ok (i, 1)) (hlk : meth.locks = false) (hret : meth.sig.returnType = some t) (hn : narrow t w = w)
    (hi : (i = .ireturn ∧ (t = .int ∨ t = .boolean ∨ t = .byte ∨ t = .char ∨ t = .short) ∧ ∃ z, w = .int z) ∨ (i = .lreturn ∧ t = .long ∧ ∃ z, w = .long z) ∨ (i = .dreturn ∧ t = .double ∧ ∃ z, w = .double z) ∨ (i = .freturn ∧ t = .float ∧ ∃ z, w = .float z) ∨ (i = .areturn ∧ t.isReference = true ∧ w.isRef = true))
    (hK : cells ≤ K) (hS : slots ≤ S) (hQ : Q (some w) T.heap locs) : Go p e below (fun U o => ∃ v L, o = .returned v ∧ Q v U.heap L ∧ FrameEnd s o U L K S) T (mkF m pc ls (w :: st)) := by
  obtain ⟨fs, hr, hrun, hended, hW, hsame⟩ := A.1.leave (v := some w) (fun h => by rw [hret] at h; cases h) hlk
  exact ⟨_, _, retOut A.1 A.2.1 hret hn hi (hb A.2.2 hd) hr, hrun, hended, _, _, rfl, hQ, ⟨_, rfl⟩, hW, hsame.mono hK hS⟩
theorem g_retV (A : Ax p l e R s m args below meth c T locs cells slots B) {Q : Option Value → Heap → List Loc → Prop} {K S : Nat} (hd : decode B pc = .ok (.return_, 1)) (hlk : meth.locks = false) (hret : meth.sig.returnType = none)
    (hK : cells ≤ K) (hS : slots ≤ S) (hQ : Q none T.heap locs) : Go p e below (fun U o => ∃ v L, o = .returned v ∧ Q v U.heap L ∧ FrameEnd s o U L K S) T (mkF m pc ls []) := by
  obtain ⟨fs, hr, hrun, hended, hW, hsame⟩ := A.1.leave (v := none) (fun _ => rfl) hlk
  exact ⟨_, _, A.1.returnOut A.2.1 hret (hb A.2.2 hd) hr, hrun, hended, _, _, rfl, hQ, ⟨_, rfl⟩, hW, hsame.mono hK hS⟩
theorem g_ldcI (A : Ax p l e R s m args below meth c T locs cells slots B) {Z : State} {a0 : Array Value} {own : String} {i : Nat} {v : Int32} (hZ : Z.Warmed39 s.vm) (hown : s.vm.findClass own = some m.cls) (w : (Jvm.Cond.constant own i v).before a0 Z = true) (hd : decode B pc = .ok (.ldc i, 2)) (hp : pc + 2 = pc') (k : Go p e below P T (mkF m pc' ls (.int v :: st))) : Go p e below P T (mkF m pc ls st) := by
  subst hp; exact Go.of (A.1.ldcInt A.2.1 hown (mvT hZ w) (g := mkF m pc ls st) rfl (hb A.2.2 hd)) k
theorem g_ldcD (A : Ax p l e R s m args below meth c T locs cells slots B) {Z : State} {a0 : Array Value} {own : String} {i : Nat} {v : UInt64} (hZ : Z.Warmed39 s.vm) (hown : s.vm.findClass own = some m.cls) (w : (Jvm.Cond.constantDouble own i v).before a0 Z = true) (hd : decode B pc = .ok (.ldc2_w i, 3)) (hp : pc + 3 = pc') (k : Go p e below P T (mkF m pc' ls (.double v :: st))) : Go p e below P T (mkF m pc ls st) := by
  subst hp; exact Go.of (A.1.ldc2DoubleC A.2.1 hown (mvT hZ w) (g := mkF m pc ls st) rfl (hb A.2.2 hd)) k
theorem g_ldcL (A : Ax p l e R s m args below meth c T locs cells slots B) {Z : State} {a0 : Array Value} {own : String} {i : Nat} {v : Int64} (hZ : Z.Warmed39 s.vm) (hown : s.vm.findClass own = some m.cls) (w : (Jvm.Cond.constantLong own i v).before a0 Z = true) (hd : decode B pc = .ok (.ldc2_w i, 3)) (hp : pc + 3 = pc') (k : Go p e below P T (mkF m pc' ls (.long v :: st))) : Go p e below P T (mkF m pc ls st) := by
  subst hp; exact Go.of (A.1.ldc2Long A.2.1 hown (mvT hZ w) (g := mkF m pc ls st) rfl (hb A.2.2 hd)) k
theorem g_nnY (A : Ax p l e R s m args below meth c T locs cells slots B) {o : Int} {b : Addr} (hd : decode B pc = .ok (.ifnonnull o, 3)) (hp : (pc : Int) + o = (pc' : Int)) (k : Go p e below P T (mkF m pc' ls st)) : Go p e below P T (mkF m pc ls (.ref b :: st)) := Go.of (fun _ k' => XT.ifnonnullYes A.1.here A.2.1 rfl rfl (hb A.2.2 hd) rfl (own_off hp).1 (own_off hp).2 k') k
theorem g_nnN (A : Ax p l e R s m args below meth c T locs cells slots B) {o : Int} (hd : decode B pc = .ok (.ifnonnull o, 3)) (hp : pc + 3 = pc') (k : Go p e below P T (mkF m pc' ls st)) : Go p e below P T (mkF m pc ls (.null :: st)) := by
  subst hp; exact Go.of (fun _ k' => XT.ifnonnullNo A.1.here A.2.1 rfl (hb A.2.2 hd) rfl k') k
theorem g_nuY (A : Ax p l e R s m args below meth c T locs cells slots B) {o : Int} (hd : decode B pc = .ok (.ifnull o, 3)) (hp : (pc : Int) + o = (pc' : Int)) (k : Go p e below P T (mkF m pc' ls st)) : Go p e below P T (mkF m pc ls (.null :: st)) := Go.of (fun _ k' => XS.ifnullYes A.1.here A.2.1 rfl rfl (hb A.2.2 hd) rfl (own_off hp).1 (own_off hp).2 k') k
theorem g_nuN (A : Ax p l e R s m args below meth c T locs cells slots B) {o : Int} {b : Addr} (hd : decode B pc = .ok (.ifnull o, 3)) (hp : pc + 3 = pc') (k : Go p e below P T (mkF m pc' ls st)) : Go p e below P T (mkF m pc ls (.ref b :: st)) := by
  subst hp; exact Go.of (fun _ k' => XS.ifnullNo A.1.here A.2.1 rfl (hb A.2.2 hd) rfl k') k
theorem g_acY (A : Ax p l e R s m args below meth c T locs cells slots B) {o : Int} {cd : ClassFile.ACond} {x y : Value} (hd : decode B pc = .ok (.if_acmp cd o, 3)) (h1 : x.isRef = true) (h2 : y.isRef = true) (hc : XT.acmp cd x y = true) (hp : (pc : Int) + o = (pc' : Int)) (k : Go p e below P T (mkF m pc' ls st)) : Go p e below P T (mkF m pc ls (y :: x :: st)) := Go.of (fun _ k' => XT.acmpYes A.1.here A.2.1 rfl rfl (hb A.2.2 hd) rfl h1 h2 hc (own_off hp).1 (own_off hp).2 k') k
theorem g_acN (A : Ax p l e R s m args below meth c T locs cells slots B) {o : Int} {cd : ClassFile.ACond} {x y : Value} (hd : decode B pc = .ok (.if_acmp cd o, 3)) (h1 : x.isRef = true) (h2 : y.isRef = true) (hc : XT.acmp cd x y = false) (hp : pc + 3 = pc') (k : Go p e below P T (mkF m pc' ls st)) : Go p e below P T (mkF m pc ls (y :: x :: st)) := by
  subst hp; exact Go.of (fun _ k' => XT.acmpNo A.1.here A.2.1 rfl (hb A.2.2 hd) rfl h1 h2 hc k') k
/-- an array of n places: its i-th holds f i -/
def Dar (Z : State) (h : Heap) (a : Addr) (ty : FieldType) (n : Nat) (f : Nat → Value) : Prop := ∃ cl : Cell, RoadKit.Arr Z h a cl ty ∧ cl.slots.size = n ∧ n < 2147483648 ∧ ∀ i, i < n → cl.slots[i]? = some (f i)
variable {Z : State} {h h' : Heap} {a b : Addr} {ty : FieldType} {n : Nat} {f g : Nat → Value} {sl : Nat} {v : Value} {ws : List Addr}
theorem Dar.lt (F : Dar Z h a ty n f) : a < h.size := by obtain ⟨cl, A, -⟩ := F; exact A.lt
theorem Dar.ext (E : Ext h h') (F : Dar Z h a ty n f) : Dar Z h' a ty n f := by obtain ⟨cl, A, r⟩ := F; exact ⟨cl, A.ext E, r⟩
theorem Dar.other (W : Wr h h' b sl v) (F : Dar Z h a ty n f) (q : a ≠ b) : Dar Z h' a ty n f := by obtain ⟨cl, A, r⟩ := F; exact ⟨cl, A.other W q, r⟩
theorem Dar.keep (F : Dar Z h a ty n f) (K : Keep h h' ws) (q : a ∉ ws) : Dar Z h' a ty n f := by obtain ⟨cl, A, r⟩ := F; exact ⟨cl, ⟨K.2.1 a cl A.1 q, A.2⟩, r⟩
theorem Dar.congr (F : Dar Z h a ty n f) (q : ∀ i, i < n → f i = g i) : Dar Z h a ty n g := by obtain ⟨cl, A, r1, r2, r3⟩ := F; exact ⟨cl, A, r1, r2, fun i hi => by rw [← q i hi]; exact r3 i hi⟩
theorem Dar.new {cA : ClassId} {z : Int32} (A : RoadKit.Arr Z h a (newA cA ty z) ty) (hz : z.toNatClampNeg = n) : Dar Z h a ty n (fun _ => defaultValue ty) := by
  refine ⟨_, A, (sz_new _ _ _).trans hz, ?_, fun i hi => by subst hz; simp [newA, hi]⟩
  have := z.toInt_lt
  rw [← hz, Int32.toNatClampNeg]; omega
theorem Dar.ne_exa {a0 : Array Value} {k : Nat} {C : String} (F : Dar Z h a ty n f) (E : Exa Z h b C) (wi : (Jvm.Cond.instantiable C k).before a0 Z = true) : a ≠ b := by obtain ⟨cl, A, -⟩ := F; exact fun q => ne_arr E wi A q.symm
theorem own_ne {a b : Nat} {h : Heap} (g : a = h.size) (q : b < h.size) : b ≠ a := by rw [g]; exact Nat.ne_of_lt q
theorem own_clamp {i : Nat} (hi : i < 2147483648) : (Int32.ofNat i).toNatClampNeg = i ∧ ¬ Int32.ofNat i < 0 := by
  have e : (Int32.ofNat i).toInt = i := Int32.toInt_ofNat_of_lt hi
  refine ⟨by rw [Int32.toNatClampNeg, e]; omega, fun q => ?_⟩
  rw [Int32.lt_iff_toInt_lt, e] at q
  have : (0 : Int32).toInt = 0 := rfl
  omega
theorem Dar.set {i : Nat} (F : Dar Z h a ty n f) (W : Wr h h' a i v) (q : ∀ j, j < n → g j = if j = i then v else f j) : Dar Z h' a ty n g := by
  obtain ⟨cl, A, r1, r2, r3⟩ := F
  refine ⟨_, A.same W, (sz_set _ _ _).trans r1, r2, fun j hj => ?_⟩
  rw [q j hj]
  by_cases e : j = i
  · subst e; rw [if_pos rfl]; simp [Cell.setSlot, r1, hj]
  · rw [if_neg e]; exact (Array.getElem?_setIfInBounds_ne (Ne.symm e)).trans (r3 j hj)
theorem own_in {cl : Cell} {i : Nat} (S : cl.slots.size = n) (hn : n < 2147483648) (hi : i < n) : ¬ (Int32.ofNat i < 0 ∨ cl.slots.size ≤ (Int32.ofNat i).toNatClampNeg) := by
  obtain ⟨q1, q2⟩ := own_clamp (i := i) (by omega)
  rw [q1, S]; exact fun z => z.elim q2 (by omega)
theorem g_daload (A : Ax p l e R s m args below meth c T locs cells slots B) (hZ : Z.Warmed39 s.vm) (eT : T.heap = h) {j : Int32} {i : Nat} {x : UInt64} (F : Dar Z h a .double n f) (hi : i < n) (hj : j = Int32.ofNat i) (hv : f i = .double x) (hd : decode B pc = .ok (.daload, 1)) (hp : pc + 1 = pc') (k : Go p e below P T (mkF m pc' ls (.double x :: st))) : Go p e below P T (mkF m pc ls (.int j :: .ref a :: st)) := by
  subst hp hj
  obtain ⟨cl, A2, r1, r2, r3⟩ := F
  have q := (own_clamp (i := i) (by omega)).1
  exact Go.of (fun t k' => A.1.daload A.2.1 (j := Int32.ofNat i) (v := .double x) (by rw [eT]; exact A2.1) (State.isArrayOf_alike hZ.alike A2.2.1) A2.2.2 (own_in r1 r2 hi) (by rw [q, ← hv]; exact r3 i hi) (g := mkF m pc ls (.int (Int32.ofNat i) :: .ref a :: st)) rfl rfl (hb A.2.2 hd) t k') k
theorem g_iaload (A : Ax p l e R s m args below meth c T locs cells slots B) (hZ : Z.Warmed39 s.vm) (eT : T.heap = h) {j : Int32} {i : Nat} {x : Int32} (F : Dar Z h a .int n f) (hi : i < n) (hj : j = Int32.ofNat i) (hv : f i = .int x) (hd : decode B pc = .ok (.iaload, 1)) (hp : pc + 1 = pc') (k : Go p e below P T (mkF m pc' ls (.int x :: st))) : Go p e below P T (mkF m pc ls (.int j :: .ref a :: st)) := by
  subst hp hj
  obtain ⟨cl, A2, r1, r2, r3⟩ := F
  have q := (own_clamp (i := i) (by omega)).1
  exact Go.of (fun t k' => A.1.iaload A.2.1 (j := Int32.ofNat i) (v := .int x) (by rw [eT]; exact A2.1) (State.isArrayOf_alike hZ.alike A2.2.1) A2.2.2 (own_in r1 r2 hi) (by rw [q, ← hv]; exact r3 i hi) (g := mkF m pc ls (.int (Int32.ofNat i) :: .ref a :: st)) rfl rfl (hb A.2.2 hd) t k') k
theorem g_baload (A : Ax p l e R s m args below meth c T locs cells slots B) (hZ : Z.Warmed39 s.vm) (eT : T.heap = h) {j : Int32} {i : Nat} {x : Int32} (F : Dar Z h a .boolean n f) (hi : i < n) (hj : j = Int32.ofNat i) (hv : f i = .int x) (hd : decode B pc = .ok (.baload, 1)) (hp : pc + 1 = pc') (k : Go p e below P T (mkF m pc' ls (.int x :: st))) : Go p e below P T (mkF m pc ls (.int j :: .ref a :: st)) := by
  subst hp hj
  obtain ⟨cl, A2, r1, r2, r3⟩ := F
  have q := (own_clamp (i := i) (by omega)).1
  exact Go.of (fun t k' => A.1.baloadBooleans A.2.1 (j := Int32.ofNat i) (v := .int x) (by rw [eT]; exact A2.1) (State.isArrayOf_alike hZ.alike A2.2.1) A2.2.2 (own_in r1 r2 hi) (by rw [q, ← hv]; exact r3 i hi) (g := mkF m pc ls (.int (Int32.ofNat i) :: .ref a :: st)) rfl rfl (hb A.2.2 hd) t k') k
theorem g_alen (A : Ax p l e R s m args below meth c T locs cells slots B) (hZ : Z.Warmed39 s.vm) (eT : T.heap = h) (F : Dar Z h a ty n f) (hd : decode B pc = .ok (.arraylength, 1)) {z : Int32} (hz : Int32.ofNat n = z) (hp : pc + 1 = pc') (k : Go p e below P T (mkF m pc' ls (.int z :: st))) : Go p e below P T (mkF m pc ls (.ref a :: st)) := by
  subst hp hz
  obtain ⟨cl, A2, r1, r2, r3⟩ := F
  exact Go.of (fun t k' => A.1.arraylength A.2.1 (cell := cl) (by rw [eT]; exact A2.1) (State.isArrayOf_alike hZ.alike A2.2.1) (g := mkF m pc ls (.ref a :: st)) rfl (rest := st) rfl (hb A.2.2 hd) t (by rw [r1]; exact k')) k
theorem s_dastore (A : Ax p l e R s m args below meth c T locs cells slots B) (hZ : Z.Warmed39 s.vm) (eT : T.heap = h) {j : Int32} {i : Nat} {x : UInt64} (F : Dar Z h a .double n f) (hi : i < n) (hj : j = Int32.ofNat i) (hd : decode B pc = .ok (.dastore, 1)) (hp : pc + 1 = pc') :
    ∃ T' h', Ax p l e R s m args below meth c T' (locs ++ [⟨a, i⟩]) cells slots B ∧ T'.heap = h' ∧ Wr h h' a i (.double x) ∧ ∀ {P : State → Outcome → Prop}, Go p e below P T' (mkF m pc' ls st) → Go p e below P T (mkF m pc ls (.double x :: .int j :: .ref a :: st)) := by
  subst hp hj
  obtain ⟨cl, A2, r1, r2, r3⟩ := F
  have q := (own_clamp (i := i) (by omega)).1
  obtain ⟨X', st'⟩ := A.1.dastore A.2.1 (by rw [eT]; exact A2.1) (State.isArrayOf_alike hZ.alike A2.2.1) A2.2.2 (own_in r1 r2 hi) (x := x) (g := mkF m pc ls (.double x :: .int (Int32.ofNat i) :: .ref a :: st)) rfl rfl (hb A.2.2 hd)
  rw [q] at X' st'
  exact ⟨_, _, ⟨X', A.2⟩, rfl, ⟨cl, A2.1, A2.plain, by rw [r1]; exact hi, by rw [← eT]; rfl⟩, fun k => Go.of st' k⟩
theorem s_iastore (A : Ax p l e R s m args below meth c T locs cells slots B) (hZ : Z.Warmed39 s.vm) (eT : T.heap = h) {j : Int32} {i : Nat} {x : Int32} (F : Dar Z h a .int n f) (hi : i < n) (hj : j = Int32.ofNat i) (hd : decode B pc = .ok (.iastore, 1)) (hp : pc + 1 = pc') :
    ∃ T' h', Ax p l e R s m args below meth c T' (locs ++ [⟨a, i⟩]) cells slots B ∧ T'.heap = h' ∧ Wr h h' a i (.int x) ∧ ∀ {P : State → Outcome → Prop}, Go p e below P T' (mkF m pc' ls st) → Go p e below P T (mkF m pc ls (.int x :: .int j :: .ref a :: st)) := by
  subst hp hj
  obtain ⟨cl, A2, r1, r2, r3⟩ := F
  have q := (own_clamp (i := i) (by omega)).1
  obtain ⟨T', h', X', e', W, st'⟩ := stI A.1 A.2.1 hZ eT A2 (own_in r1 r2 hi) (x := x) (g := mkF m pc ls (.int x :: .int (Int32.ofNat i) :: .ref a :: st)) rfl rfl (hb A.2.2 hd)
  rw [q] at X' W
  exact ⟨_, _, ⟨X', A.2⟩, e', W, fun k => Go.of st' k⟩
theorem s_zastore (A : Ax p l e R s m args below meth c T locs cells slots B) (hZ : Z.Warmed39 s.vm) (eT : T.heap = h) {j : Int32} {i : Nat} {x : Int32} (F : Dar Z h a .boolean n f) (hi : i < n) (hj : j = Int32.ofNat i) (hx1 : narrow .boolean (.int x) = .int x) (hd : decode B pc = .ok (.bastore, 1)) (hp : pc + 1 = pc') :
    ∃ T' h', Ax p l e R s m args below meth c T' (locs ++ [⟨a, i⟩]) cells slots B ∧ T'.heap = h' ∧ Wr h h' a i (.int x) ∧ ∀ {P : State → Outcome → Prop}, Go p e below P T' (mkF m pc' ls st) → Go p e below P T (mkF m pc ls (.int x :: .int j :: .ref a :: st)) := by
  subst hp hj
  obtain ⟨cl, A2, r1, r2, r3⟩ := F
  have q := (own_clamp (i := i) (by omega)).1
  obtain ⟨T', h', X', e', W, st'⟩ := stZ A.1 A.2.1 hZ eT A2 (own_in r1 r2 hi) (x := x) (g := mkF m pc ls (.int x :: .int (Int32.ofNat i) :: .ref a :: st)) rfl rfl (hb A.2.2 hd)
  have q2 : nar .boolean x = x := Value.int.inj hx1
  rw [q] at X' W; rw [q2] at W
  exact ⟨_, _, ⟨X', A.2⟩, e', W, fun k => Go.of st' k⟩
end own_go
def own_u (x : UInt64) (j : Nat) : UInt64 := if j = 0 then (0 : UInt64) else x
theorem own_uc {n : Nat} (j : Nat) (x : UInt64) (hj : j < n) : (if 1 ≤ j ∧ j < n then Value.double x else Value.double (0 : UInt64)) = .double (own_u x j) := by
  unfold own_u
  by_cases q : j = 0
  · rw [if_neg (fun z => by omega), if_pos q]
  · rw [if_pos ⟨by omega, hj⟩, if_neg q]
theorem own_mod (p : Int32) (n : Nat) (h0 : 0 < n) (hn : n < 2147483648) : ∃ i : Nat, i < n ∧ ((p &&& (2147483647 : Int32)) % (Int32.ofNat n)) = Int32.ofNat i := by
  have h := c_mask p 2147483647 31 (by decide) (by decide)
  have e : (Int32.ofNat n).toInt = n := Int32.toInt_ofNat_of_lt hn
  have h2 := (c_irem (p &&& 2147483647) (Int32.ofNat n) n e).1 (by rw [h]; omega)
  have b1 := Int.emod_nonneg ((p &&& 2147483647).toInt) (show (n : Int) ≠ 0 by omega)
  have b2 := Int.emod_lt_of_pos ((p &&& 2147483647).toInt) (show (0 : Int) < n by omega)
  refine ⟨((p &&& (2147483647 : Int32)) % (Int32.ofNat n)).toInt.toNat, by rw [h2]; omega, ?_⟩
  apply Int32.toInt_inj.mp
  rw [Int32.toInt_ofNat_of_lt (by rw [h2]; omega), h2]; omega
theorem own_k5 (p : Int32) : ((p &&& (2147483647 : Int32)) % (5 : Int32)) = 0 ∨ ((p &&& (2147483647 : Int32)) % (5 : Int32)) = 1 ∨ ((p &&& (2147483647 : Int32)) % (5 : Int32)) = 2 ∨ ((p &&& (2147483647 : Int32)) % (5 : Int32)) = 3 ∨ ((p &&& (2147483647 : Int32)) % (5 : Int32)) = 4 := by
  obtain ⟨i, hi, e⟩ := own_mod p 5 (by decide) (by decide)
  have e' : ((p &&& (2147483647 : Int32)) % (5 : Int32)) = Int32.ofNat i := e
  rw [e']
  match i, hi with
  | 0, _ => exact Or.inl rfl
  | 1, _ => exact Or.inr (Or.inl rfl)
  | 2, _ => exact Or.inr (Or.inr (Or.inl rfl))
  | 3, _ => exact Or.inr (Or.inr (Or.inr (Or.inl rfl)))
  | 4, _ => exact Or.inr (Or.inr (Or.inr (Or.inr rfl)))
theorem own_bits {first s : State} {o : Option Outcome} {args : Array Value} {idx : List Nat} {t : Term} {k : Int64} (h : (Jvm.Cond.eq t (Jvm.Term.op1 Jvm.Unary.bitsD (Jvm.Term.long k))).value args first o s idx = some true) : t.eval args first o idx s = some (.double k.toUInt64) := by
  cases ht : t.eval args first o idx s with
  | none => simp [Cond.value, ht] at h
  | some v => cases v <;> simp [Cond.value, ht, Term.eval, Unary.apply] at h ⊢ <;> exact h
theorem own_ints {first s : State} {o : Option Outcome} {args : Array Value} {idx : List Nat} {t : Term} {k : Int32} (h : (Jvm.Cond.eq t (Jvm.Term.int k)).value args first o s idx = some true) : t.eval args first o idx s = some (.int k) := by
  cases ht : t.eval args first o idx s with
  | none => simp [Cond.value, ht] at h
  | some v => cases v <;> simp [Cond.value, ht, Term.eval] at h ⊢ <;> exact h
theorem own_fld {s : State} {args : Array Value} {t : Term} {C n d : String} {a : Addr} {v : Value} (ht : t.eval args s none [] s = some (.ref a)) (h : (Term.field t C n d).eval args s none [] s = some v) : Fld s s.heap a C n d v := Fld.start (by simpa [Term.eval, ht] using h)
theorem own_of0 {i : Nat} (hi : i < 2147483648) (h : Int32.ofNat i = 0) : i = 0 := by
  have e := Int32.toInt_ofNat_of_lt hi
  rw [h] at e
  have : (0 : Int32).toInt = 0 := rfl
  omega
theorem d2_0 : decode jdk_65_method_114_code 0 = .ok (.aload_n 0, 1) := by decide +kernel
theorem d2_1 : decode jdk_65_method_114_code 1 = .ok (.arraylength, 1) := by decide +kernel
theorem d2_2 : decode jdk_65_method_114_code 2 = .ok (.iload_n 1, 1) := by decide +kernel
theorem d2_3 : decode jdk_65_method_114_code 3 = .ok (.iload_n 2, 1) := by decide +kernel
theorem d2_4 : decode jdk_65_method_114_code 4 = .ok (.invokestatic 13, 3) := by decide +kernel
theorem d2_7 : decode jdk_65_method_114_code 7 = .ok (.iload_n 1, 1) := by decide +kernel
theorem d2_8 : decode jdk_65_method_114_code 8 = .ok (.istore 5, 2) := by decide +kernel
theorem d2_10 : decode jdk_65_method_114_code 10 = .ok (.iload 5, 2) := by decide +kernel
theorem d2_12 : decode jdk_65_method_114_code 12 = .ok (.iload_n 2, 1) := by decide +kernel
theorem d2_13 : decode jdk_65_method_114_code 13 = .ok (.if_icmp .ge 14, 3) := by decide +kernel
theorem d2_16 : decode jdk_65_method_114_code 16 = .ok (.aload_n 0, 1) := by decide +kernel
theorem d2_17 : decode jdk_65_method_114_code 17 = .ok (.iload 5, 2) := by decide +kernel
theorem d2_19 : decode jdk_65_method_114_code 19 = .ok (.dload_n 3, 1) := by decide +kernel
theorem d2_20 : decode jdk_65_method_114_code 20 = .ok (.dastore, 1) := by decide +kernel
theorem d2_21 : decode jdk_65_method_114_code 21 = .ok (.iinc 5 1, 3) := by decide +kernel
theorem d2_24 : decode jdk_65_method_114_code 24 = .ok (.goto (-14), 3) := by decide +kernel
theorem d2_27 : decode jdk_65_method_114_code 27 = .ok (.return_, 1) := by decide +kernel
theorem d3_0 : decode jdk_65_method_30_code 0 = .ok (.iload_n 1, 1) := by decide +kernel
theorem d3_1 : decode jdk_65_method_30_code 1 = .ok (.iload_n 2, 1) := by decide +kernel
theorem d3_2 : decode jdk_65_method_30_code 2 = .ok (.if_icmp .le 44, 3) := by decide +kernel
theorem d3_5 : decode jdk_65_method_30_code 5 = .ok (.new 43, 3) := by decide +kernel
theorem d3_8 : decode jdk_65_method_30_code 8 = .ok (.dup, 1) := by decide +kernel
theorem d3_9 : decode jdk_65_method_30_code 9 = .ok (.new 45, 3) := by decide +kernel
theorem d3_12 : decode jdk_65_method_30_code 12 = .ok (.dup, 1) := by decide +kernel
theorem d3_13 : decode jdk_65_method_30_code 13 = .ok (.invokespecial 47, 3) := by decide +kernel
theorem d3_16 : decode jdk_65_method_30_code 16 = .ok (.ldc 48, 2) := by decide +kernel
theorem d3_18 : decode jdk_65_method_30_code 18 = .ok (.invokevirtual 50, 3) := by decide +kernel
theorem d3_21 : decode jdk_65_method_30_code 21 = .ok (.iload_n 1, 1) := by decide +kernel
theorem d3_22 : decode jdk_65_method_30_code 22 = .ok (.invokevirtual 54, 3) := by decide +kernel
theorem d3_25 : decode jdk_65_method_30_code 25 = .ok (.ldc 57, 2) := by decide +kernel
theorem d3_27 : decode jdk_65_method_30_code 27 = .ok (.invokevirtual 50, 3) := by decide +kernel
theorem d3_30 : decode jdk_65_method_30_code 30 = .ok (.iload_n 2, 1) := by decide +kernel
theorem d3_31 : decode jdk_65_method_30_code 31 = .ok (.invokevirtual 54, 3) := by decide +kernel
theorem d3_34 : decode jdk_65_method_30_code 34 = .ok (.ldc 59, 2) := by decide +kernel
theorem d3_36 : decode jdk_65_method_30_code 36 = .ok (.invokevirtual 50, 3) := by decide +kernel
theorem d3_39 : decode jdk_65_method_30_code 39 = .ok (.invokevirtual 61, 3) := by decide +kernel
theorem d3_42 : decode jdk_65_method_30_code 42 = .ok (.invokespecial 65, 3) := by decide +kernel
theorem d3_45 : decode jdk_65_method_30_code 45 = .ok (.athrow, 1) := by decide +kernel
theorem d3_46 : decode jdk_65_method_30_code 46 = .ok (.iload_n 1, 1) := by decide +kernel
theorem d3_47 : decode jdk_65_method_30_code 47 = .ok (.ifCond .ge 12, 3) := by decide +kernel
theorem d3_50 : decode jdk_65_method_30_code 50 = .ok (.new 68, 3) := by decide +kernel
theorem d3_53 : decode jdk_65_method_30_code 53 = .ok (.dup, 1) := by decide +kernel
theorem d3_54 : decode jdk_65_method_30_code 54 = .ok (.iload_n 1, 1) := by decide +kernel
theorem d3_55 : decode jdk_65_method_30_code 55 = .ok (.invokespecial 70, 3) := by decide +kernel
theorem d3_58 : decode jdk_65_method_30_code 58 = .ok (.athrow, 1) := by decide +kernel
theorem d3_59 : decode jdk_65_method_30_code 59 = .ok (.iload_n 2, 1) := by decide +kernel
theorem d3_60 : decode jdk_65_method_30_code 60 = .ok (.iload_n 0, 1) := by decide +kernel
theorem d3_61 : decode jdk_65_method_30_code 61 = .ok (.if_icmp .le 12, 3) := by decide +kernel
theorem d3_64 : decode jdk_65_method_30_code 64 = .ok (.new 68, 3) := by decide +kernel
theorem d3_67 : decode jdk_65_method_30_code 67 = .ok (.dup, 1) := by decide +kernel
theorem d3_68 : decode jdk_65_method_30_code 68 = .ok (.iload_n 2, 1) := by decide +kernel
theorem d3_69 : decode jdk_65_method_30_code 69 = .ok (.invokespecial 70, 3) := by decide +kernel
theorem d3_72 : decode jdk_65_method_30_code 72 = .ok (.athrow, 1) := by decide +kernel
theorem d3_73 : decode jdk_65_method_30_code 73 = .ok (.return_, 1) := by decide +kernel
theorem pn_0 : plainName "java/util/Arrays" = true := by first | (simp [plainName, overriddenIn]; done) | decide +kernel
theorem ef1 (m : MethodId) (q0 : Int32) (q1 : Int32) (q2 : Int32) : entryFrame m #[(.int q0), (.int q1), (.int q2)] 3 = mkF m 0 #[.val (.int q0), .val (.int q1), .val (.int q2)] [] := by first | (simp [entryFrame, mkF, argsToLocals, Value.category]; done) | rfl
def Q3 (Z : State) (q0 : Int32) (q1 : Int32) (q2 : Int32) (h0 : Heap) (n0 : Nat) (v : Option Value) (h : Heap) (L : List Loc) : Prop := v = none ∧ Fr n0 L ∧ h = h0
set_option maxRecDepth 65536 in
set_option maxHeartbeats 40000000 in
theorem rm3 (l : Launch) (Z : State) (a0 : Array Value) (hw : ∀ d ∈ tables_1, d.before a0 Z = true) (ws : List Jvm.Cond) (q0 : Int32) (q1 : Int32) (q2 : Int32) (h0 : Heap) (n0 : Nat) (Z0 : n0 ≤ h0.size) (h1 : ¬ q2 < q1) (h2 : ¬ q1 < 0) (h3 : ¬ q0 < q2) :
    MetFree l (⟨"java/util/Arrays", "rangeCheck", "(III)V"⟩ : MethodName) (head1 (Jvm.Cond.code (⟨"java/util/Arrays", "rangeCheck", "(III)V"⟩ : MethodName) jdk_65_method_30_code 3 none :: ws) ({ frames := 0, cells := 0, slots := 0, locals := 0 } : Room)) (fun a U => a = #[(.int q0), (.int q1), (.int q2)] ∧ Z.Warmed39 U.vm ∧ U.heap = h0) (fun _ _ _ _ _ => True) (fun _ U o U' => ∃ v L, o = .returned v ∧ Q3 Z q0 q1 q2 h0 n0 v U'.heap L ∧ FrameEnd U o U' L 0 0) := by
  refine MetFree.of_bodySF (plainFor_of_name pn_0) hisR ?_
  intro p e s m args below meth c s₁ Bd hml0 hP hK
  obtain ⟨rfl, hZ, hh⟩ := hP
  have hx := Bd.exec
  have hby := Bd.bytes
  have hml : c.maxLocals = 3 := hml0
  have hown : s.vm.findClass "java/util/Arrays" = some m.cls := findClass_of_methodNamed Bd.named
  have hnm := (name_of_methodNamed Bd.named Bd.method).1
  have X0 : Stand p l e ({ frames := 0, cells := 0, slots := 0, locals := 0 } : Room) s m #[(.int q0), (.int q1), (.int q2)] below meth c s₁ [] 0 0 := Stand.of_body Bd
  have e0 : s₁.heap = h0 := by rw [← hh, Bd.state]; rfl
  have N0 := Fr.nil n0
  have A0 := (⟨X0, hx, hby⟩ : Ax _ _ _ _ _ _ _ _ _ _ _ _ _ _ _)
  show Go p e below (fun U o => ∃ v L, o = .returned v ∧ Q3 Z q0 q1 q2 h0 n0 v U.heap L ∧ FrameEnd s o U L 0 0) s₁ (entryFrame m #[(.int q0), (.int q1), (.int q2)] 3)
  refine Go.cast (ef1 m q0 q1 q2) ?_
  refine g_iloadN A0 d3_0 rfl (pc' := 1) rfl ?_
  refine g_iloadN A0 d3_1 rfl (pc' := 2) rfl ?_
  refine g_icY A0 d3_2 (c2_le_t h1) (pc' := 46) rfl ?_
  refine g_iloadN A0 d3_46 rfl (pc' := 47) rfl ?_
  refine g_ifY A0 d3_47 (c0_ge_t h2) (pc' := 59) rfl ?_
  refine g_iloadN A0 d3_59 rfl (pc' := 60) rfl ?_
  refine g_iloadN A0 d3_60 rfl (pc' := 61) rfl ?_
  refine g_icY A0 d3_61 (c2_le_t h3) (pc' := 73) rfl ?_
  exact g_retV (Q := Q3 Z q0 q1 q2 h0 n0) A0 d3_73 Bd.notSynchronized Bd.returns (by decide) (by decide) (by rw [e0]; exact ⟨rfl, N0, rfl⟩)
theorem own_succ (i : Nat) : Int32.ofNat i + Int32.ofInt 1 = Int32.ofNat (i + 1) := by
  show Int32.ofNat i + Int32.ofNat 1 = Int32.ofNat (i + 1)
  rw [Int32.ofNat_add]
theorem own_olt {i n : Nat} (h : i < n) (hn : n < 2147483648) : Int32.ofNat i < Int32.ofNat n := by
  rw [Int32.lt_iff_toInt_lt, Int32.toInt_ofNat_of_lt (by omega), Int32.toInt_ofNat_of_lt hn]; omega
theorem own_onl {i n : Nat} (h : n ≤ i) (hn : i < 2147483648) : ¬ Int32.ofNat i < Int32.ofNat n := by
  rw [Int32.lt_iff_toInt_lt, Int32.toInt_ofNat_of_lt hn, Int32.toInt_ofNat_of_lt (by omega)]; omega
set_option maxRecDepth 65536 in
theorem own_fill {p : Program} {l : Launch} {e : Env} {R : Room} {s : State} {m : MethodId} {args : Array Value} {below : List Frame} {meth : Method} {c : Code} {cells slots : Nat} {P : State → Outcome → Prop} {Z : State} {h0 : Heap} {n0 : Nat} {a : Addr} {N n i0 : Nat} {f : Nat → Value} {x : UInt64} (hZ : Z.Warmed39 s.vm) (ga : n0 ≤ a) (hn : n ≤ N) (hN : N < 2147483648)
    (done : ∀ (T : State) (h : Heap) (locs : List Loc), Ax p l e R s m args below meth c T locs cells slots jdk_65_method_114_code → T.heap = h → Dar Z h a .double N (fun j => if i0 ≤ j ∧ j < n then .double x else f j) → Fr n0 locs → n0 ≤ h.size → Keep h0 h [a] → Go p e below P T (mkF m 27 #[.val (.ref a), .val (.int (Int32.ofNat i0)), .val (.int (Int32.ofNat n)), .val (.double x), .second, .val (.int (Int32.ofNat n))] [])) :
    ∀ (k i : Nat) (T : State) (h : Heap) (locs : List Loc), i + k = n → i0 ≤ i → Ax p l e R s m args below meth c T locs cells slots jdk_65_method_114_code → T.heap = h → Dar Z h a .double N (fun j => if i0 ≤ j ∧ j < i then .double x else f j) → Fr n0 locs → n0 ≤ h.size → Keep h0 h [a] → Go p e below P T (mkF m 10 #[.val (.ref a), .val (.int (Int32.ofNat i0)), .val (.int (Int32.ofNat n)), .val (.double x), .second, .val (.int (Int32.ofNat i))] []) := by
  intro k
  induction k with
  | zero =>
    intro i T h locs hi h0i A eT V N1 z K
    obtain rfl : i = n := by omega
    refine g_iload A d2_10 rfl (pc' := 12) rfl ?_
    refine g_iloadN A d2_12 rfl (pc' := 13) rfl ?_
    refine g_icY A d2_13 (c2_ge_t Int32.lt_irrefl) (pc' := 27) rfl ?_
    exact done T h locs A eT V N1 z K
  | succ k ih =>
    intro i T h locs hi h0i A eT V N1 z K
    refine g_iload A d2_10 rfl (pc' := 12) rfl ?_
    refine g_iloadN A d2_12 rfl (pc' := 13) rfl ?_
    refine g_icN A d2_13 (c2_ge_f (own_olt (by omega) (by omega))) (pc' := 16) rfl ?_
    refine g_aloadN A d2_16 rfl rfl (pc' := 17) rfl ?_
    refine g_iload A d2_17 rfl (pc' := 19) rfl ?_
    refine g_dloadN A d2_19 rfl (pc' := 20) rfl ?_
    obtain ⟨T', h', A', e', W, st⟩ := s_dastore A hZ eT (ls := #[.val (.ref a), .val (.int (Int32.ofNat i0)), .val (.int (Int32.ofNat n)), .val (.double x), .second, .val (.int (Int32.ofNat i))]) (st := []) (x := x) V (i := i) (by omega) (j := Int32.ofNat i) rfl d2_20 (pc' := 21) rfl
    refine st ?_
    refine g_iinc A' d2_21 rfl (y := Int32.ofNat (i + 1)) (own_succ i) (ls' := #[.val (.ref a), .val (.int (Int32.ofNat i0)), .val (.int (Int32.ofNat n)), .val (.double x), .second, .val (.int (Int32.ofNat (i + 1)))]) rfl (pc' := 24) rfl ?_
    refine g_goto A' d2_24 (pc' := 10) rfl ?_
    refine ih (i + 1) T' h' _ (by omega) (by omega) A' e' (Dar.set V W (fun j hj => ?_)) (Fr.snoc A'.1 N1 ga) (by rw [W.size]; exact z) (K.wr W (Or.inl (List.mem_of_getElem? (i := 0) rfl)))
    by_cases q : j = i
    · rw [if_pos q, if_pos ⟨by omega, by omega⟩]
    · rw [if_neg q]
      by_cases r : i0 ≤ j ∧ j < i
      · rw [if_pos r, if_pos ⟨r.1, by omega⟩]
      · rw [if_neg r, if_neg (fun z => r ⟨z.1, by omega⟩)]
theorem ef2 (m : MethodId) (a1 : Addr) (i0 : Nat) (n : Nat) (N : Nat) (x : UInt64) (f : Nat → Value) : entryFrame m #[(.ref a1), (.int (Int32.ofNat i0)), (.int (Int32.ofNat n)), (.double x)] 6 = mkF m 0 #[.val (.ref a1), .val (.int (Int32.ofNat i0)), .val (.int (Int32.ofNat n)), .val (.double x), .second, .unset] [] := by first | (simp [entryFrame, mkF, argsToLocals, Value.category]; done) | rfl
def Q2 (Z : State) (a1 : Addr) (i0 : Nat) (n : Nat) (N : Nat) (x : UInt64) (f : Nat → Value) (h0 : Heap) (n0 : Nat) (v : Option Value) (h : Heap) (L : List Loc) : Prop := v = none ∧ Fr n0 L ∧ Keep h0 h [a1] ∧ Dar Z h a1 .double N (fun j => if i0 ≤ j ∧ j < n then .double x else f j)
theorem pd_0 : parseMethodDescriptor "(III)V" = some ⟨[.int, .int, .int], none⟩ := by decide +kernel
set_option maxRecDepth 65536 in
set_option maxHeartbeats 40000000 in
theorem rm2 (l : Launch) (Z : State) (a0 : Array Value) (hw : ∀ d ∈ tables_1, d.before a0 Z = true) (ws : List Jvm.Cond) (a1 : Addr) (i0 : Nat) (n : Nat) (N : Nat) (x : UInt64) (f : Nat → Value) (h0 : Heap) (n0 : Nat) (Z0 : n0 ≤ h0.size) (V3 : Dar Z h0 a1 .double N f) (g4 : n0 ≤ a1) (hi : i0 ≤ n) (hn : n ≤ N) (hN : N < 2147483648) :
    MetFree l (⟨"java/util/Arrays", "fill", "([DIID)V"⟩ : MethodName) (head1 (Jvm.Cond.code (⟨"java/util/Arrays", "fill", "([DIID)V"⟩ : MethodName) jdk_65_method_114_code 6 none :: ws) ({ frames := 1, cells := 0, slots := 0, locals := 14 } : Room)) (fun a U => a = #[(.ref a1), (.int (Int32.ofNat i0)), (.int (Int32.ofNat n)), (.double x)] ∧ Z.Warmed39 U.vm ∧ U.heap = h0) (fun _ _ _ _ _ => True) (fun _ U o U' => ∃ v L, o = .returned v ∧ Q2 Z a1 i0 n N x f h0 n0 v U'.heap L ∧ FrameEnd U o U' L 0 0) := by
  refine MetFree.of_bodySF (plainFor_of_name pn_0) hisR ?_
  intro p e s m args below meth c s₁ Bd hml0 hP hK
  obtain ⟨rfl, hZ, hh⟩ := hP
  have hx := Bd.exec
  have hby := Bd.bytes
  have hml : c.maxLocals = 6 := hml0
  have hown : s.vm.findClass "java/util/Arrays" = some m.cls := findClass_of_methodNamed Bd.named
  have hnm := (name_of_methodNamed Bd.named Bd.method).1
  have X0 : Stand p l e ({ frames := 1, cells := 0, slots := 0, locals := 14 } : Room) s m #[(.ref a1), (.int (Int32.ofNat i0)), (.int (Int32.ofNat n)), (.double x)] below meth c s₁ [] 0 0 := Stand.of_body Bd
  have e0 : s₁.heap = h0 := by rw [← hh, Bd.state]; rfl
  have N0 := Fr.nil n0
  have A0 := (⟨X0, hx, hby⟩ : Ax _ _ _ _ _ _ _ _ _ _ _ _ _ _ _)
  show Go p e below (fun U o => ∃ v L, o = .returned v ∧ Q2 Z a1 i0 n N x f h0 n0 v U.heap L ∧ FrameEnd s o U L 0 0) s₁ (entryFrame m #[(.ref a1), (.int (Int32.ofNat i0)), (.int (Int32.ofNat n)), (.double x)] 6)
  refine Go.cast (ef2 m a1 i0 n N x f) ?_
  refine g_aloadN A0 d2_0 rfl rfl (pc' := 1) rfl ?_
  refine g_alen A0 hZ e0 V3 d2_1 (z := (Int32.ofNat N)) rfl (pc' := 2) rfl ?_
  refine g_iloadN A0 d2_2 rfl (pc' := 3) rfl ?_
  refine g_iloadN A0 d2_3 rfl (pc' := 4) rfl ?_
  obtain ⟨_, _, ⟨T5, L5, k5, n5⟩, -, X5, ⟨L5c, hQ5, l5, y5, z5⟩, st5⟩ := Jvm.LawKit.callS X0 hx (y := (⟨"java/util/Arrays", "rangeCheck", "(III)V"⟩ : MethodName)) hown (mvT hZ (hw _ (List.mem_of_getElem? (i := 18) rfl))) (mvT hZ (hw _ (List.mem_of_getElem? (i := 19) rfl))) (mvT hZ (hw _ (List.mem_of_getElem? (i := 16) rfl))) (mvT hZ (hw _ (List.mem_of_getElem? (i := 20) rfl))) (by decide) (backOf (W := 0) (rm3 l Z a0 hw [] (Int32.ofNat N) (Int32.ofNat i0) (Int32.ofNat n) h0 n0 Z0 (own_onl hi (by omega)) (own_clamp (by omega)).2 (own_onl hn hN)) hZ (hw _ (List.mem_of_getElem? (i := 20) rfl)) (hw _ (List.mem_of_getElem? (i := 16) rfl)) (by decide) (by decide)) (g := (mkF m 4 #[.val (.ref a1), .val (.int (Int32.ofNat i0)), .val (.int (Int32.ofNat n)), .val (.double x), .second, .unset] [(.int (Int32.ofNat n)), (.int (Int32.ofNat i0)), (.int (Int32.ofNat N))])) rfl (by rw [hml]; rfl) (argsL := [(.int (Int32.ofNat N)), (.int (Int32.ofNat i0)), (.int (Int32.ofNat n))]) (rest := []) (lenOf pd_0 rfl) rfl (by show 2 * 0 + _ ≤ _; exact Nat.le_of_eq rfl) (hb hby d2_4) (fun _ _ => ⟨rfl, e0, (by decide : 0 + 0 ≤ _), (by decide : 0 + 0 ≤ _)⟩)
  dsimp only [Pt.U, Pt.locs, Pt.cells, Pt.slots] at X5 l5 y5 z5 st5 hQ5
  subst l5 y5 z5
  obtain ⟨rfl, Nq6, Kq7⟩ := hQ5
  have N8 := Fr.app N0 Nq6
  refine Go.of (g' := (mkF m 7 #[.val (.ref a1), .val (.int (Int32.ofNat i0)), .val (.int (Int32.ofNat n)), .val (.double x), .second, .unset] [])) st5 ?_
  have e9 : T5.heap = h0 := Kq7
  have A10 := (⟨X5, hx, hby⟩ : Ax _ _ _ _ _ _ _ _ _ _ _ _ _ _ _)
  refine g_iloadN A10 d2_7 rfl (pc' := 8) rfl ?_
  refine g_istore A10 d2_8 (ls' := #[.val (.ref a1), .val (.int (Int32.ofNat i0)), .val (.int (Int32.ofNat n)), .val (.double x), .second, .val (.int (Int32.ofNat i0))]) rfl (pc' := 10) rfl ?_
  refine own_fill (i0 := i0) (n := n) (N := N) (f := f) (x := x) hZ g4 hn hN ?_ (n - i0) i0 T5 h0 _ (by omega) (Nat.le_refl _) A10 e9 (Dar.congr V3 (fun j _ => (if_neg (fun q => absurd q.2 (by omega))).symm)) N8 Z0 (Keep.refl h0 [a1])
  intro T11 h11 lo11 A11 e11 V11 N11 Z11 K11
  exact g_retV (Q := Q2 Z a1 i0 n N x f h0 n0) A11 d2_27 Bd.notSynchronized Bd.returns (by decide) (by decide) (by rw [e11]; exact ⟨rfl, N11, K11, V11⟩)
theorem d1_0 : decode prog_1_method_8_code 0 = .ok (.aload_n 0, 1) := by decide +kernel
theorem d1_1 : decode prog_1_method_8_code 1 = .ok (.getfield 42, 3) := by decide +kernel
theorem d1_4 : decode prog_1_method_8_code 4 = .ok (.newarray .double, 2) := by decide +kernel
theorem d1_6 : decode prog_1_method_8_code 6 = .ok (.astore_n 1, 1) := by decide +kernel
theorem d1_7 : decode prog_1_method_8_code 7 = .ok (.aload_n 1, 1) := by decide +kernel
theorem d1_8 : decode prog_1_method_8_code 8 = .ok (.iconst 1, 1) := by decide +kernel
theorem d1_9 : decode prog_1_method_8_code 9 = .ok (.aload_n 0, 1) := by decide +kernel
theorem d1_10 : decode prog_1_method_8_code 10 = .ok (.getfield 42, 3) := by decide +kernel
theorem d1_13 : decode prog_1_method_8_code 13 = .ok (.aload_n 0, 1) := by decide +kernel
theorem d1_14 : decode prog_1_method_8_code 14 = .ok (.getfield 46, 3) := by decide +kernel
theorem d1_17 : decode prog_1_method_8_code 17 = .ok (.invokestatic 99, 3) := by decide +kernel
theorem d1_20 : decode prog_1_method_8_code 20 = .ok (.aload_n 1, 1) := by decide +kernel
theorem d1_21 : decode prog_1_method_8_code 21 = .ok (.areturn, 1) := by decide +kernel
theorem pn_1 : plainName "com/example/tradewind/tradewind/benchmark/Zdt" = true := by first | (simp [plainName, overriddenIn]; done) | decide +kernel
theorem ef12 (m : MethodId) (a1 : Addr) (x : UInt64) : entryFrame m #[(.ref a1)] 2 = mkF m 0 #[.val (.ref a1), .unset] [] := by first | (simp [entryFrame, mkF, argsToLocals, Value.category]; done) | rfl
def QB30 (Z : State) (a1 : Addr) (x : UInt64) (h0 : Heap) (n0 : Nat) (v : Option Value) (h : Heap) (L : List Loc) : Prop := ∃ r : Addr, v = some (.ref r) ∧ Fr n0 L ∧ Keep h0 h [] ∧ h0.size ≤ r ∧ Dar Z h r .double 30 (fun j => .double (own_u x j))
theorem pd_1 : parseMethodDescriptor "([DIID)V" = some ⟨[(.array .double), .int, .int, .double], none⟩ := by decide +kernel
set_option maxRecDepth 65536 in
set_option maxHeartbeats 40000000 in
theorem rmB30 (l : Launch) (Z : State) (a0 : Array Value) (hw : ∀ d ∈ tables_1, d.before a0 Z = true) (ws : List Jvm.Cond) (a1 : Addr) (x : UInt64) (h0 : Heap) (n0 : Nat) (Z0 : n0 ≤ h0.size) (F13 : Fld Z h0 a1 "com/example/tradewind/tradewind/benchmark/Zdt" "variables" "I" (.int (30 : Int32))) (F14 : Fld Z h0 a1 "com/example/tradewind/tradewind/benchmark/Zdt" "restLower" "D" (.double x)) :
    MetFree l (⟨"com/example/tradewind/tradewind/benchmark/Zdt", "lower", "()[D"⟩ : MethodName) (head1 (Jvm.Cond.code (⟨"com/example/tradewind/tradewind/benchmark/Zdt", "lower", "()[D"⟩ : MethodName) prog_1_method_8_code 2 (some (.array .double)) :: ws) ({ frames := 2, cells := 1, slots := 30, locals := 31 } : Room)) (fun a U => a = #[(.ref a1)] ∧ Z.Warmed39 U.vm ∧ U.heap = h0) (fun _ _ _ _ _ => True) (fun _ U o U' => ∃ v L, o = .returned v ∧ QB30 Z a1 x h0 n0 v U'.heap L ∧ FrameEnd U o U' L 1 30) := by
  refine MetFree.of_bodySF (plainFor_of_name pn_1) hisR ?_
  intro p e s m args below meth c s₁ Bd hml0 hP hK
  obtain ⟨rfl, hZ, hh⟩ := hP
  have hx := Bd.exec
  have hby := Bd.bytes
  have hml : c.maxLocals = 2 := hml0
  have hown : s.vm.findClass "com/example/tradewind/tradewind/benchmark/Zdt" = some m.cls := findClass_of_methodNamed Bd.named
  have hnm := (name_of_methodNamed Bd.named Bd.method).1
  have X0 : Stand p l e ({ frames := 2, cells := 1, slots := 30, locals := 31 } : Room) s m #[(.ref a1)] below meth c s₁ [] 0 0 := Stand.of_body Bd
  have e0 : s₁.heap = h0 := by rw [← hh, Bd.state]; rfl
  have N0 := Fr.nil n0
  have A0 := (⟨X0, hx, hby⟩ : Ax _ _ _ _ _ _ _ _ _ _ _ _ _ _ _)
  show Go p e below (fun U o => ∃ v L, o = .returned v ∧ QB30 Z a1 x h0 n0 v U.heap L ∧ FrameEnd s o U L 1 30) s₁ (entryFrame m #[(.ref a1)] 2)
  refine Go.cast (ef12 m a1 x) ?_
  refine g_aloadN A0 d1_0 rfl rfl (pc' := 1) rfl ?_
  obtain ⟨T15, X15, e15, st15⟩ := getF X0 hx hZ hown (host := "") (Or.inl (hw _ (List.mem_of_getElem? (i := 9) rfl))) Via.refl e0 F13 (g := (mkF m 1 #[.val (.ref a1), .unset] [(.ref a1)])) rfl rfl (hb hby d1_1)
  refine Go.of (g' := (mkF m 4 #[.val (.ref a1), .unset] [(.int (30 : Int32))])) st15 ?_
  have A16 := (⟨X15, hx, hby⟩ : Ax _ _ _ _ _ _ _ _ _ _ _ _ _ _ _)
  obtain ⟨T17, h17, k17, X17, e17, E17, Ar17, st17⟩ := newP X15 hx hZ (hw _ (List.mem_of_getElem? (i := 11) rfl)) e15 (g := (mkF m 4 #[.val (.ref a1), .unset] [(.int (30 : Int32))])) rfl (hb hby d1_4) rfl (by decide) (cap := 30) (by decide) (by decide) (by decide) (by decide)
  obtain ⟨b18, eb18⟩ : ∃ z, z = h0.size := ⟨_, rfl⟩
  rw [← eb18] at Ar17 st17
  have ne19 : a1 ≠ b18 := own_ne eb18 F13.lt
  have g20 : n0 ≤ b18 := by rw [eb18]; exact Z0
  have gh21 : h0.size ≤ b18 := by rw [eb18]; exact (Keep.refl h0 []).1
  have K22 : Keep h0 h17 [] := (Keep.refl h0 []).ext E17
  have F23 : Fld Z h17 a1 "com/example/tradewind/tradewind/benchmark/Zdt" "variables" "I" (.int (30 : Int32)) := Fld.ext E17 F13
  have F24 : Fld Z h17 a1 "com/example/tradewind/tradewind/benchmark/Zdt" "restLower" "D" (.double x) := Fld.ext E17 F14
  have Z25 : n0 ≤ h17.size := Nat.le_trans Z0 E17.1
  have V26 : Dar Z h17 b18 .double 30 (fun _ => .double (0 : UInt64)) := Dar.new Ar17 (by decide)
  refine Go.of (g' := (mkF m 6 #[.val (.ref a1), .unset] [(.ref b18)])) st17 ?_
  have A27 := (⟨X17, hx, hby⟩ : Ax _ _ _ _ _ _ _ _ _ _ _ _ _ _ _)
  refine g_astoreN A27 d1_6 rfl (ls' := #[.val (.ref a1), .val (.ref b18)]) rfl (pc' := 7) rfl ?_
  refine g_aloadN A27 d1_7 rfl rfl (pc' := 8) rfl ?_
  refine g_iconst A27 d1_8 (v := (1 : Int32)) rfl (pc' := 9) rfl ?_
  refine g_aloadN A27 d1_9 rfl rfl (pc' := 10) rfl ?_
  obtain ⟨T28, X28, e28, st28⟩ := getF X17 hx hZ hown (host := "") (Or.inl (hw _ (List.mem_of_getElem? (i := 9) rfl))) Via.refl e17 F23 (g := (mkF m 10 #[.val (.ref a1), .val (.ref b18)] [(.ref a1), (.int (1 : Int32)), (.ref b18)])) rfl rfl (hb hby d1_10)
  refine Go.of (g' := (mkF m 13 #[.val (.ref a1), .val (.ref b18)] [(.int (30 : Int32)), (.int (1 : Int32)), (.ref b18)])) st28 ?_
  have A29 := (⟨X28, hx, hby⟩ : Ax _ _ _ _ _ _ _ _ _ _ _ _ _ _ _)
  refine g_aloadN A29 d1_13 rfl rfl (pc' := 14) rfl ?_
  obtain ⟨T30, X30, e30, st30⟩ := getF X28 hx hZ hown (host := "") (Or.inl (hw _ (List.mem_of_getElem? (i := 12) rfl))) Via.refl e28 F24 (g := (mkF m 14 #[.val (.ref a1), .val (.ref b18)] [(.ref a1), (.int (30 : Int32)), (.int (1 : Int32)), (.ref b18)])) rfl rfl (hb hby d1_14)
  refine Go.of (g' := (mkF m 17 #[.val (.ref a1), .val (.ref b18)] [(.double x), (.int (30 : Int32)), (.int (1 : Int32)), (.ref b18)])) st30 ?_
  have A31 := (⟨X30, hx, hby⟩ : Ax _ _ _ _ _ _ _ _ _ _ _ _ _ _ _)
  obtain ⟨_, _, ⟨T32, L32, k32, n32⟩, -, X32, ⟨L32c, hQ32, l32, y32, z32⟩, st32⟩ := Jvm.LawKit.callS X30 hx (y := (⟨"java/util/Arrays", "fill", "([DIID)V"⟩ : MethodName)) hown (mvT hZ (hw _ (List.mem_of_getElem? (i := 14) rfl))) (mvT hZ (hw _ (List.mem_of_getElem? (i := 15) rfl))) (mvT hZ (hw _ (List.mem_of_getElem? (i := 16) rfl))) (mvT hZ (hw _ (List.mem_of_getElem? (i := 17) rfl))) (by decide) (backOf (W := 0) (rm2 l Z a0 hw [] b18 1 30 30 x (fun _ => .double (0 : UInt64)) h17 n0 Z25 V26 g20 (by decide) (by decide) (by decide)) hZ (hw _ (List.mem_of_getElem? (i := 17) rfl)) (hw _ (List.mem_of_getElem? (i := 16) rfl)) (by decide) (by decide)) (g := (mkF m 17 #[.val (.ref a1), .val (.ref b18)] [(.double x), (.int (30 : Int32)), (.int (1 : Int32)), (.ref b18)])) rfl (by rw [hml]; rfl) (argsL := [(.ref b18), (.int (1 : Int32)), (.int (30 : Int32)), (.double x)]) (rest := []) (lenOf pd_1 rfl) rfl (by show 2 * 0 + _ ≤ _; exact Nat.le_of_eq rfl) (hb hby d1_17) (fun _ _ => ⟨rfl, e30, (by decide : 1 + 0 ≤ _), (by decide : 30 + 0 ≤ _)⟩)
  dsimp only [Pt.U, Pt.locs, Pt.cells, Pt.slots] at X32 l32 y32 z32 st32 hQ32
  subst l32 y32 z32
  obtain ⟨rfl, Nq33, Kq34, V35⟩ := hQ32
  have N36 := Fr.app N0 Nq33
  refine Go.of (g' := (mkF m 20 #[.val (.ref a1), .val (.ref b18)] [])) st32 ?_
  have F37 : Fld Z T32.heap a1 "com/example/tradewind/tradewind/benchmark/Zdt" "variables" "I" (.int (30 : Int32)) := Fld.keep F23 Kq34 (ninS ne19 nin0)
  have F38 : Fld Z T32.heap a1 "com/example/tradewind/tradewind/benchmark/Zdt" "restLower" "D" (.double x) := Fld.keep F24 Kq34 (ninS ne19 nin0)
  have Z39 : n0 ≤ T32.heap.size := Nat.le_trans Z25 Kq34.1
  have K40 : Keep h0 T32.heap [] := K22.trans Kq34 (allS (Or.inr gh21) all0)
  have A41 := (⟨X32, hx, hby⟩ : Ax _ _ _ _ _ _ _ _ _ _ _ _ _ _ _)
  refine g_aloadN A41 d1_20 rfl rfl (pc' := 21) rfl ?_
  have V42 : Dar Z T32.heap b18 .double 30 (fun j => .double (own_u x j)) := Dar.congr V35 (fun j hj => own_uc j x hj)
  exact g_ret (Q := QB30 Z a1 x h0 n0) A41 d1_21 Bd.notSynchronized Bd.returns rfl (Or.inr (Or.inr (Or.inr (Or.inr ⟨rfl, rfl, rfl⟩)))) (by decide) (by decide) ⟨b18, rfl, N36, K40, gh21, V42⟩
theorem ef43 (m : MethodId) (a1 : Addr) (x : UInt64) : entryFrame m #[(.ref a1)] 2 = mkF m 0 #[.val (.ref a1), .unset] [] := by first | (simp [entryFrame, mkF, argsToLocals, Value.category]; done) | rfl
def QB10 (Z : State) (a1 : Addr) (x : UInt64) (h0 : Heap) (n0 : Nat) (v : Option Value) (h : Heap) (L : List Loc) : Prop := ∃ r : Addr, v = some (.ref r) ∧ Fr n0 L ∧ Keep h0 h [] ∧ h0.size ≤ r ∧ Dar Z h r .double 10 (fun j => .double (own_u x j))
set_option maxRecDepth 65536 in
set_option maxHeartbeats 40000000 in
theorem rmB10 (l : Launch) (Z : State) (a0 : Array Value) (hw : ∀ d ∈ tables_1, d.before a0 Z = true) (ws : List Jvm.Cond) (a1 : Addr) (x : UInt64) (h0 : Heap) (n0 : Nat) (Z0 : n0 ≤ h0.size) (F44 : Fld Z h0 a1 "com/example/tradewind/tradewind/benchmark/Zdt" "variables" "I" (.int (10 : Int32))) (F45 : Fld Z h0 a1 "com/example/tradewind/tradewind/benchmark/Zdt" "restLower" "D" (.double x)) :
    MetFree l (⟨"com/example/tradewind/tradewind/benchmark/Zdt", "lower", "()[D"⟩ : MethodName) (head1 (Jvm.Cond.code (⟨"com/example/tradewind/tradewind/benchmark/Zdt", "lower", "()[D"⟩ : MethodName) prog_1_method_8_code 2 (some (.array .double)) :: ws) ({ frames := 2, cells := 1, slots := 10, locals := 31 } : Room)) (fun a U => a = #[(.ref a1)] ∧ Z.Warmed39 U.vm ∧ U.heap = h0) (fun _ _ _ _ _ => True) (fun _ U o U' => ∃ v L, o = .returned v ∧ QB10 Z a1 x h0 n0 v U'.heap L ∧ FrameEnd U o U' L 1 10) := by
  refine MetFree.of_bodySF (plainFor_of_name pn_1) hisR ?_
  intro p e s m args below meth c s₁ Bd hml0 hP hK
  obtain ⟨rfl, hZ, hh⟩ := hP
  have hx := Bd.exec
  have hby := Bd.bytes
  have hml : c.maxLocals = 2 := hml0
  have hown : s.vm.findClass "com/example/tradewind/tradewind/benchmark/Zdt" = some m.cls := findClass_of_methodNamed Bd.named
  have hnm := (name_of_methodNamed Bd.named Bd.method).1
  have X0 : Stand p l e ({ frames := 2, cells := 1, slots := 10, locals := 31 } : Room) s m #[(.ref a1)] below meth c s₁ [] 0 0 := Stand.of_body Bd
  have e0 : s₁.heap = h0 := by rw [← hh, Bd.state]; rfl
  have N0 := Fr.nil n0
  have A0 := (⟨X0, hx, hby⟩ : Ax _ _ _ _ _ _ _ _ _ _ _ _ _ _ _)
  show Go p e below (fun U o => ∃ v L, o = .returned v ∧ QB10 Z a1 x h0 n0 v U.heap L ∧ FrameEnd s o U L 1 10) s₁ (entryFrame m #[(.ref a1)] 2)
  refine Go.cast (ef43 m a1 x) ?_
  refine g_aloadN A0 d1_0 rfl rfl (pc' := 1) rfl ?_
  obtain ⟨T46, X46, e46, st46⟩ := getF X0 hx hZ hown (host := "") (Or.inl (hw _ (List.mem_of_getElem? (i := 9) rfl))) Via.refl e0 F44 (g := (mkF m 1 #[.val (.ref a1), .unset] [(.ref a1)])) rfl rfl (hb hby d1_1)
  refine Go.of (g' := (mkF m 4 #[.val (.ref a1), .unset] [(.int (10 : Int32))])) st46 ?_
  have A47 := (⟨X46, hx, hby⟩ : Ax _ _ _ _ _ _ _ _ _ _ _ _ _ _ _)
  obtain ⟨T48, h48, k48, X48, e48, E48, Ar48, st48⟩ := newP X46 hx hZ (hw _ (List.mem_of_getElem? (i := 11) rfl)) e46 (g := (mkF m 4 #[.val (.ref a1), .unset] [(.int (10 : Int32))])) rfl (hb hby d1_4) rfl (by decide) (cap := 10) (by decide) (by decide) (by decide) (by decide)
  obtain ⟨b49, eb49⟩ : ∃ z, z = h0.size := ⟨_, rfl⟩
  rw [← eb49] at Ar48 st48
  have ne50 : a1 ≠ b49 := own_ne eb49 F44.lt
  have g51 : n0 ≤ b49 := by rw [eb49]; exact Z0
  have gh52 : h0.size ≤ b49 := by rw [eb49]; exact (Keep.refl h0 []).1
  have K53 : Keep h0 h48 [] := (Keep.refl h0 []).ext E48
  have F54 : Fld Z h48 a1 "com/example/tradewind/tradewind/benchmark/Zdt" "variables" "I" (.int (10 : Int32)) := Fld.ext E48 F44
  have F55 : Fld Z h48 a1 "com/example/tradewind/tradewind/benchmark/Zdt" "restLower" "D" (.double x) := Fld.ext E48 F45
  have Z56 : n0 ≤ h48.size := Nat.le_trans Z0 E48.1
  have V57 : Dar Z h48 b49 .double 10 (fun _ => .double (0 : UInt64)) := Dar.new Ar48 (by decide)
  refine Go.of (g' := (mkF m 6 #[.val (.ref a1), .unset] [(.ref b49)])) st48 ?_
  have A58 := (⟨X48, hx, hby⟩ : Ax _ _ _ _ _ _ _ _ _ _ _ _ _ _ _)
  refine g_astoreN A58 d1_6 rfl (ls' := #[.val (.ref a1), .val (.ref b49)]) rfl (pc' := 7) rfl ?_
  refine g_aloadN A58 d1_7 rfl rfl (pc' := 8) rfl ?_
  refine g_iconst A58 d1_8 (v := (1 : Int32)) rfl (pc' := 9) rfl ?_
  refine g_aloadN A58 d1_9 rfl rfl (pc' := 10) rfl ?_
  obtain ⟨T59, X59, e59, st59⟩ := getF X48 hx hZ hown (host := "") (Or.inl (hw _ (List.mem_of_getElem? (i := 9) rfl))) Via.refl e48 F54 (g := (mkF m 10 #[.val (.ref a1), .val (.ref b49)] [(.ref a1), (.int (1 : Int32)), (.ref b49)])) rfl rfl (hb hby d1_10)
  refine Go.of (g' := (mkF m 13 #[.val (.ref a1), .val (.ref b49)] [(.int (10 : Int32)), (.int (1 : Int32)), (.ref b49)])) st59 ?_
  have A60 := (⟨X59, hx, hby⟩ : Ax _ _ _ _ _ _ _ _ _ _ _ _ _ _ _)
  refine g_aloadN A60 d1_13 rfl rfl (pc' := 14) rfl ?_
  obtain ⟨T61, X61, e61, st61⟩ := getF X59 hx hZ hown (host := "") (Or.inl (hw _ (List.mem_of_getElem? (i := 12) rfl))) Via.refl e59 F55 (g := (mkF m 14 #[.val (.ref a1), .val (.ref b49)] [(.ref a1), (.int (10 : Int32)), (.int (1 : Int32)), (.ref b49)])) rfl rfl (hb hby d1_14)
  refine Go.of (g' := (mkF m 17 #[.val (.ref a1), .val (.ref b49)] [(.double x), (.int (10 : Int32)), (.int (1 : Int32)), (.ref b49)])) st61 ?_
  have A62 := (⟨X61, hx, hby⟩ : Ax _ _ _ _ _ _ _ _ _ _ _ _ _ _ _)
  obtain ⟨_, _, ⟨T63, L63, k63, n63⟩, -, X63, ⟨L63c, hQ63, l63, y63, z63⟩, st63⟩ := Jvm.LawKit.callS X61 hx (y := (⟨"java/util/Arrays", "fill", "([DIID)V"⟩ : MethodName)) hown (mvT hZ (hw _ (List.mem_of_getElem? (i := 14) rfl))) (mvT hZ (hw _ (List.mem_of_getElem? (i := 15) rfl))) (mvT hZ (hw _ (List.mem_of_getElem? (i := 16) rfl))) (mvT hZ (hw _ (List.mem_of_getElem? (i := 17) rfl))) (by decide) (backOf (W := 0) (rm2 l Z a0 hw [] b49 1 10 10 x (fun _ => .double (0 : UInt64)) h48 n0 Z56 V57 g51 (by decide) (by decide) (by decide)) hZ (hw _ (List.mem_of_getElem? (i := 17) rfl)) (hw _ (List.mem_of_getElem? (i := 16) rfl)) (by decide) (by decide)) (g := (mkF m 17 #[.val (.ref a1), .val (.ref b49)] [(.double x), (.int (10 : Int32)), (.int (1 : Int32)), (.ref b49)])) rfl (by rw [hml]; rfl) (argsL := [(.ref b49), (.int (1 : Int32)), (.int (10 : Int32)), (.double x)]) (rest := []) (lenOf pd_1 rfl) rfl (by show 2 * 0 + _ ≤ _; exact Nat.le_of_eq rfl) (hb hby d1_17) (fun _ _ => ⟨rfl, e61, (by decide : 1 + 0 ≤ _), (by decide : 10 + 0 ≤ _)⟩)
  dsimp only [Pt.U, Pt.locs, Pt.cells, Pt.slots] at X63 l63 y63 z63 st63 hQ63
  subst l63 y63 z63
  obtain ⟨rfl, Nq64, Kq65, V66⟩ := hQ63
  have N67 := Fr.app N0 Nq64
  refine Go.of (g' := (mkF m 20 #[.val (.ref a1), .val (.ref b49)] [])) st63 ?_
  have F68 : Fld Z T63.heap a1 "com/example/tradewind/tradewind/benchmark/Zdt" "variables" "I" (.int (10 : Int32)) := Fld.keep F54 Kq65 (ninS ne50 nin0)
  have F69 : Fld Z T63.heap a1 "com/example/tradewind/tradewind/benchmark/Zdt" "restLower" "D" (.double x) := Fld.keep F55 Kq65 (ninS ne50 nin0)
  have Z70 : n0 ≤ T63.heap.size := Nat.le_trans Z56 Kq65.1
  have K71 : Keep h0 T63.heap [] := K53.trans Kq65 (allS (Or.inr gh52) all0)
  have A72 := (⟨X63, hx, hby⟩ : Ax _ _ _ _ _ _ _ _ _ _ _ _ _ _ _)
  refine g_aloadN A72 d1_20 rfl rfl (pc' := 21) rfl ?_
  have V73 : Dar Z T63.heap b49 .double 10 (fun j => .double (own_u x j)) := Dar.congr V66 (fun j hj => own_uc j x hj)
  exact g_ret (Q := QB10 Z a1 x h0 n0) A72 d1_21 Bd.notSynchronized Bd.returns rfl (Or.inr (Or.inr (Or.inr (Or.inr ⟨rfl, rfl, rfl⟩)))) (by decide) (by decide) ⟨b49, rfl, N67, K71, gh52, V73⟩
def own_r_rm4 (q0 : Int32) (x1 : UInt64) : UInt64 := (if q0 = 0 then (0 : UInt64) else x1)
theorem d4_0 : decode method_3_code 0 = .ok (.iload_n 0, 1) := by decide +kernel
theorem d4_1 : decode method_3_code 1 = .ok (.ifCond .ne 5, 3) := by decide +kernel
theorem d4_4 : decode method_3_code 4 = .ok (.dconst 0, 1) := by decide +kernel
theorem d4_5 : decode method_3_code 5 = .ok (.dreturn, 1) := by decide +kernel
theorem d4_6 : decode method_3_code 6 = .ok (.dload_n 1, 1) := by decide +kernel
theorem d4_7 : decode method_3_code 7 = .ok (.dreturn, 1) := by decide +kernel
theorem pn_2 : plainName "com/example/tradewind/tradewind/benchmark/ZdtLowerPinLaw" = true := by first | (simp [plainName, overriddenIn]; done) | decide +kernel
theorem ef74 (m : MethodId) (q0 : Int32) (x1 : UInt64) : entryFrame m #[(.int q0), (.double x1)] 3 = mkF m 0 #[.val (.int q0), .val (.double x1), .second] [] := by first | (simp [entryFrame, mkF, argsToLocals, Value.category]; done) | rfl
def Q4 (Z : State) (q0 : Int32) (x1 : UInt64) (h0 : Heap) (n0 : Nat) (v : Option Value) (h : Heap) (L : List Loc) : Prop := v = some (.double (own_r_rm4 q0 x1)) ∧ Fr n0 L ∧ h = h0
set_option maxRecDepth 65536 in
set_option maxHeartbeats 40000000 in
theorem rm4 (l : Launch) (Z : State) (a0 : Array Value) (hw : ∀ d ∈ tables_1, d.before a0 Z = true) (ws : List Jvm.Cond) (q0 : Int32) (x1 : UInt64) (h0 : Heap) (n0 : Nat) (Z0 : n0 ≤ h0.size)  :
    MetFree l (⟨"com/example/tradewind/tradewind/benchmark/ZdtLowerPinLaw", "expected", "(ID)D"⟩ : MethodName) (head1 (Jvm.Cond.code (⟨"com/example/tradewind/tradewind/benchmark/ZdtLowerPinLaw", "expected", "(ID)D"⟩ : MethodName) method_3_code 3 (some .double) :: ws) ({ frames := 0, cells := 0, slots := 0, locals := 0 } : Room)) (fun a U => a = #[(.int q0), (.double x1)] ∧ Z.Warmed39 U.vm ∧ U.heap = h0) (fun _ _ _ _ _ => True) (fun _ U o U' => ∃ v L, o = .returned v ∧ Q4 Z q0 x1 h0 n0 v U'.heap L ∧ FrameEnd U o U' L 0 0) := by
  refine MetFree.of_bodySF (plainFor_of_name pn_2) hisR ?_
  intro p e s m args below meth c s₁ Bd hml0 hP hK
  obtain ⟨rfl, hZ, hh⟩ := hP
  have hx := Bd.exec
  have hby := Bd.bytes
  have hml : c.maxLocals = 3 := hml0
  have hown : s.vm.findClass "com/example/tradewind/tradewind/benchmark/ZdtLowerPinLaw" = some m.cls := findClass_of_methodNamed Bd.named
  have hnm := (name_of_methodNamed Bd.named Bd.method).1
  have X0 : Stand p l e ({ frames := 0, cells := 0, slots := 0, locals := 0 } : Room) s m #[(.int q0), (.double x1)] below meth c s₁ [] 0 0 := Stand.of_body Bd
  have e0 : s₁.heap = h0 := by rw [← hh, Bd.state]; rfl
  have N0 := Fr.nil n0
  have A0 := (⟨X0, hx, hby⟩ : Ax _ _ _ _ _ _ _ _ _ _ _ _ _ _ _)
  show Go p e below (fun U o => ∃ v L, o = .returned v ∧ Q4 Z q0 x1 h0 n0 v U.heap L ∧ FrameEnd s o U L 0 0) s₁ (entryFrame m #[(.int q0), (.double x1)] 3)
  refine Go.cast (ef74 m q0 x1) ?_
  refine g_iloadN A0 d4_0 rfl (pc' := 1) rfl ?_
  by_cases hc75 : q0 = 0
  · skip
    refine g_ifN A0 d4_1 (c0_ne_f hc75) (pc' := 4) rfl ?_
    refine g_dconst0 A0 d4_4 (pc' := 5) rfl ?_
    exact g_ret (Q := Q4 Z q0 x1 h0 n0) A0 d4_5 Bd.notSynchronized Bd.returns rfl (Or.inr (Or.inr (Or.inl ⟨rfl, rfl, _, rfl⟩))) (by decide) (by decide) (by rw [e0]; exact ⟨(congrArg (fun z => some (Value.double z)) (by rw [own_r_rm4, if_pos hc75])), N0, rfl⟩)
  · skip
    refine g_ifY A0 d4_1 (c0_ne_t hc75) (pc' := 6) rfl ?_
    refine g_dloadN A0 d4_6 rfl (pc' := 7) rfl ?_
    exact g_ret (Q := Q4 Z q0 x1 h0 n0) A0 d4_7 Bd.notSynchronized Bd.returns rfl (Or.inr (Or.inr (Or.inl ⟨rfl, rfl, _, rfl⟩))) (by decide) (by decide) (by rw [e0]; exact ⟨(congrArg (fun z => some (Value.double z)) (by rw [own_r_rm4, if_neg hc75])), N0, rfl⟩)
theorem own_low {X : UInt64} (i : Nat) (hi : i < 2147483648) (h : FP.dcmp X X = some .eq := by decide +kernel) : FP.dcmp (own_u X i) (own_r_rm4 (Int32.ofNat i) X) = some .eq := by
  unfold own_u
  rw [own_r_rm4]
  by_cases q : i = 0
  · subst q; rw [if_pos rfl, if_pos (show Int32.ofNat 0 = 0 from rfl)]; decide +kernel
  · rw [if_neg q, if_neg (fun z => q (own_of0 hi z))]; exact h
theorem ef76 (m : MethodId) (p0 : Int32) (p1 : Int32) (p2 : Int32) (z1 : Addr) (z2 : Addr) (z3 : Addr) (z4 : Addr) (z6 : Addr) : entryFrame m #[(.int p0), (.int p1), (.int p2)] maxLocals = mkF m 0 #[.val (.int p0), .val (.int p1), .val (.int p2), .unset, .unset, .unset, .unset, .unset, .unset, .unset, .unset, .unset] [] := by first | (simp [entryFrame, mkF, argsToLocals, Value.category, maxLocals]; done) | rfl
def Q0 (Z : State) (p0 : Int32) (p1 : Int32) (p2 : Int32) (z1 : Addr) (z2 : Addr) (z3 : Addr) (z4 : Addr) (z6 : Addr) (h0 : Heap) (n0 : Nat) (v : Option Value) (h : Heap) (L : List Loc) : Prop := v = some (.int 1) ∧ Fr n0 L
theorem pd_2 : parseMethodDescriptor "()[D" = some ⟨[], some (.array .double)⟩ := by decide +kernel
theorem pd_3 : parseMethodDescriptor "(ID)D" = some ⟨[.int, .double], some .double⟩ := by decide +kernel
set_option maxRecDepth 65536 in
set_option maxHeartbeats 40000000 in
theorem rm0 (l : Launch) (Z : State) (a0 : Array Value) (hw : ∀ d ∈ tables_1, d.before a0 Z = true) (ws : List Jvm.Cond) (p0 : Int32) (p1 : Int32) (p2 : Int32) (z1 : Addr) (z2 : Addr) (z3 : Addr) (z4 : Addr) (z6 : Addr) (h0 : Heap) (n0 : Nat) (Z0 : n0 ≤ h0.size) (S77 : Sta Z h0 "com/example/tradewind/tradewind/benchmark/Zdt" "ZDT1" "Lcom/example/tradewind/tradewind/benchmark/Zdt;" (.ref z1)) (E78 : Exa Z h0 z1 "com/example/tradewind/tradewind/benchmark/Zdt") (F79 : Fld Z h0 z1 "com/example/tradewind/tradewind/benchmark/Zdt" "variables" "I" (.int (30 : Int32))) (F80 : Fld Z h0 z1 "com/example/tradewind/tradewind/benchmark/Zdt" "restLower" "D" (.double (0 : UInt64))) (S81 : Sta Z h0 "com/example/tradewind/tradewind/benchmark/Zdt" "ZDT2" "Lcom/example/tradewind/tradewind/benchmark/Zdt;" (.ref z2)) (E82 : Exa Z h0 z2 "com/example/tradewind/tradewind/benchmark/Zdt") (F83 : Fld Z h0 z2 "com/example/tradewind/tradewind/benchmark/Zdt" "variables" "I" (.int (30 : Int32))) (F84 : Fld Z h0 z2 "com/example/tradewind/tradewind/benchmark/Zdt" "restLower" "D" (.double (0 : UInt64))) (S85 : Sta Z h0 "com/example/tradewind/tradewind/benchmark/Zdt" "ZDT3" "Lcom/example/tradewind/tradewind/benchmark/Zdt;" (.ref z3)) (E86 : Exa Z h0 z3 "com/example/tradewind/tradewind/benchmark/Zdt") (F87 : Fld Z h0 z3 "com/example/tradewind/tradewind/benchmark/Zdt" "variables" "I" (.int (30 : Int32))) (F88 : Fld Z h0 z3 "com/example/tradewind/tradewind/benchmark/Zdt" "restLower" "D" (.double (0 : UInt64))) (S89 : Sta Z h0 "com/example/tradewind/tradewind/benchmark/Zdt" "ZDT4" "Lcom/example/tradewind/tradewind/benchmark/Zdt;" (.ref z4)) (E90 : Exa Z h0 z4 "com/example/tradewind/tradewind/benchmark/Zdt") (F91 : Fld Z h0 z4 "com/example/tradewind/tradewind/benchmark/Zdt" "variables" "I" (.int (10 : Int32))) (F92 : Fld Z h0 z4 "com/example/tradewind/tradewind/benchmark/Zdt" "restLower" "D" (.double (13840687554816376832 : UInt64))) (S93 : Sta Z h0 "com/example/tradewind/tradewind/benchmark/Zdt" "ZDT6" "Lcom/example/tradewind/tradewind/benchmark/Zdt;" (.ref z6)) (E94 : Exa Z h0 z6 "com/example/tradewind/tradewind/benchmark/Zdt") (F95 : Fld Z h0 z6 "com/example/tradewind/tradewind/benchmark/Zdt" "variables" "I" (.int (10 : Int32))) (F96 : Fld Z h0 z6 "com/example/tradewind/tradewind/benchmark/Zdt" "restLower" "D" (.double (0 : UInt64))) :
    MetFree l x (head1 (Jvm.Cond.code x code maxLocals ret :: ws) room_1) (fun a U => a = #[(.int p0), (.int p1), (.int p2)] ∧ Z.Warmed39 U.vm ∧ U.heap = h0) (fun _ _ _ _ _ => True) (fun _ U o U' => ∃ v L, o = .returned v ∧ Q0 Z p0 p1 p2 z1 z2 z3 z4 z6 h0 n0 v U'.heap L ∧ FrameEnd U o U' L 2 60) := by
  refine MetFree.of_bodySF (plainFor_of_name pn_2) hisR ?_
  intro p e s m args below meth c s₁ Bd hml0 hP hK
  obtain ⟨rfl, hZ, hh⟩ := hP
  have hx := Bd.exec
  have hby := Bd.bytes
  have hml : c.maxLocals = 12 := hml0
  have hown : s.vm.findClass "com/example/tradewind/tradewind/benchmark/ZdtLowerPinLaw" = some m.cls := findClass_of_methodNamed Bd.named
  have hnm := (name_of_methodNamed Bd.named Bd.method).1
  have X0 : Stand p l e room_1 s m #[(.int p0), (.int p1), (.int p2)] below meth c s₁ [] 0 0 := Stand.of_body Bd
  have e0 : s₁.heap = h0 := by rw [← hh, Bd.state]; rfl
  have N0 := Fr.nil n0
  have A0 := (⟨X0, hx, hby⟩ : Ax _ _ _ _ _ _ _ _ _ _ _ _ _ _ _)
  show Go p e below (fun U o => ∃ v L, o = .returned v ∧ Q0 Z p0 p1 p2 z1 z2 z3 z4 z6 h0 n0 v U.heap L ∧ FrameEnd s o U L 2 60) s₁ (entryFrame m #[(.int p0), (.int p1), (.int p2)] maxLocals)
  refine Go.cast (ef76 m p0 p1 p2 z1 z2 z3 z4 z6) ?_
  refine g_iloadN A0 at_0 rfl (pc' := 1) rfl ?_
  refine g_ldcI A0 hZ hown (hw _ (List.mem_of_getElem? (i := 0) rfl)) at_1 (pc' := 3) rfl ?_
  refine g_iand A0 at_3 (pc' := 4) rfl ?_
  refine g_iconst A0 at_4 (v := (5 : Int32)) rfl (pc' := 5) rfl ?_
  refine g_irem A0 at_5 (by decide) (pc' := 6) rfl ?_
  obtain ⟨k97, hk97⟩ : ∃ z : Int32, z = ((p0 &&& (2147483647 : Int32)) % (5 : Int32)) := ⟨_, rfl⟩
  rw [← hk97]
  have k5 := own_k5 p0
  rw [← hk97] at k5
  rcases k5 with hg98 | hg98 | hg98 | hg98 | hg98
  · skip
    rw [hg98]
    refine g_istoreN A0 at_6 (ls' := #[.val (.int p0), .val (.int p1), .val (.int p2), .val (.int (0 : Int32)), .unset, .unset, .unset, .unset, .unset, .unset, .unset, .unset]) rfl (pc' := 7) rfl ?_
    refine g_iloadN A0 at_7 rfl (pc' := 8) rfl ?_
    refine g_ifN A0 at_8 (c0_ne_f (by decide)) (pc' := 11) rfl ?_
    obtain ⟨T99, X99, e99, st99⟩ := getS X0 hx hZ hown (host := "") (hw _ (List.mem_of_getElem? (i := 1) rfl)) Via.refl e0 S77 (g := (mkF m 11 #[.val (.int p0), .val (.int p1), .val (.int p2), .val (.int (0 : Int32)), .unset, .unset, .unset, .unset, .unset, .unset, .unset, .unset] [])) rfl (hb hby at_11)
    refine Go.of (g' := (mkF m 14 #[.val (.int p0), .val (.int p1), .val (.int p2), .val (.int (0 : Int32)), .unset, .unset, .unset, .unset, .unset, .unset, .unset, .unset] [(.ref z1)])) st99 ?_
    have A100 := (⟨X99, hx, hby⟩ : Ax _ _ _ _ _ _ _ _ _ _ _ _ _ _ _)
    refine g_astore A100 at_14 rfl (ls' := #[.val (.int p0), .val (.int p1), .val (.int p2), .val (.int (0 : Int32)), .val (.ref z1), .unset, .unset, .unset, .unset, .unset, .unset, .unset]) rfl (pc' := 16) rfl ?_
    refine g_bipush A100 at_16 (v := (30 : Int32)) rfl (pc' := 18) rfl ?_
    refine g_istore A100 at_18 (ls' := #[.val (.int p0), .val (.int p1), .val (.int p2), .val (.int (0 : Int32)), .val (.ref z1), .val (.int (30 : Int32)), .unset, .unset, .unset, .unset, .unset, .unset]) rfl (pc' := 20) rfl ?_
    refine g_dconst0 A100 at_20 (pc' := 21) rfl ?_
    refine g_dstore A100 at_21 (ls' := #[.val (.int p0), .val (.int p1), .val (.int p2), .val (.int (0 : Int32)), .val (.ref z1), .val (.int (30 : Int32)), .val (.double (0 : UInt64)), .second, .unset, .unset, .unset, .unset]) rfl (pc' := 23) rfl ?_
    refine g_goto A100 at_23 (pc' := 100) rfl ?_
    refine g_aload A100 at_100 rfl rfl (pc' := 102) rfl ?_
    obtain ⟨cq102, kq102, q102a, q102b, q102c⟩ := isOf hZ e99 E78
    obtain ⟨_, _, ⟨T101, L101, k101, n101⟩, -, X101, ⟨L101c, hQ101, l101, y101, z101⟩, st101⟩ := X99.virtualBack hx (y := (⟨"com/example/tradewind/tradewind/benchmark/Zdt", "lower", "()[D"⟩ : MethodName)) (z := (⟨"com/example/tradewind/tradewind/benchmark/Zdt", "lower", "()[D"⟩ : MethodName)) hown (mvT hZ (hw _ (List.mem_of_getElem? (i := 4) rfl))) (mvT hZ (hw _ (List.mem_of_getElem? (i := 5) rfl))) (notFace_of_selects (args := #[]) (mvT hZ (hw _ (List.mem_of_getElem? (i := 7) rfl)))) (mvT hZ (hw _ (List.mem_of_getElem? (i := 7) rfl))) (mvT hZ (hw _ (List.mem_of_getElem? (i := 6) rfl))) (by decide) (backOf (W := 0) (rmB30 l Z a0 hw [] z1 (0 : UInt64) h0 n0 Z0 F79 F80) hZ (hw _ (List.mem_of_getElem? (i := 8) rfl)) (hw _ (List.mem_of_getElem? (i := 2) rfl)) (by decide) (by decide)) q102a q102c (g := (mkF m 102 #[.val (.int p0), .val (.int p1), .val (.int p2), .val (.int (0 : Int32)), .val (.ref z1), .val (.int (30 : Int32)), .val (.double (0 : UInt64)), .second, .unset, .unset, .unset, .unset] [(.ref z1)])) rfl (by rw [hml]; rfl) (Steps.refl _) (argsL := []) (rest := []) (lenOf pd_2 rfl) rfl (by show 2 * 0 + _ ≤ _; exact Nat.le_of_eq rfl) (hb hby at_102) (fun _ _ => ⟨rfl, e99, (by decide : 0 + 1 ≤ _), (by decide : 0 + 30 ≤ _)⟩)
    dsimp only [Pt.U, Pt.locs, Pt.cells, Pt.slots] at X101 l101 y101 z101 st101 hQ101
    subst l101 y101 z101
    obtain ⟨r103, rfl, Nq104, Kq105, gx106, V107⟩ := hQ101
    have N108 := Fr.app N0 Nq104
    refine Go.tr (g' := (mkF m 105 #[.val (.int p0), .val (.int p1), .val (.int p2), .val (.int (0 : Int32)), .val (.ref z1), .val (.int (30 : Int32)), .val (.double (0 : UInt64)), .second, .unset, .unset, .unset, .unset] [(.ref r103)])) st101 ?_
    have E109 : Exa Z T101.heap z1 "com/example/tradewind/tradewind/benchmark/Zdt" := Exa.keep E78 Kq105
    have F110 : Fld Z T101.heap z1 "com/example/tradewind/tradewind/benchmark/Zdt" "variables" "I" (.int (30 : Int32)) := Fld.keep F79 Kq105 nin0
    have F111 : Fld Z T101.heap z1 "com/example/tradewind/tradewind/benchmark/Zdt" "restLower" "D" (.double (0 : UInt64)) := Fld.keep F80 Kq105 nin0
    have E112 : Exa Z T101.heap z2 "com/example/tradewind/tradewind/benchmark/Zdt" := Exa.keep E82 Kq105
    have F113 : Fld Z T101.heap z2 "com/example/tradewind/tradewind/benchmark/Zdt" "variables" "I" (.int (30 : Int32)) := Fld.keep F83 Kq105 nin0
    have F114 : Fld Z T101.heap z2 "com/example/tradewind/tradewind/benchmark/Zdt" "restLower" "D" (.double (0 : UInt64)) := Fld.keep F84 Kq105 nin0
    have E115 : Exa Z T101.heap z3 "com/example/tradewind/tradewind/benchmark/Zdt" := Exa.keep E86 Kq105
    have F116 : Fld Z T101.heap z3 "com/example/tradewind/tradewind/benchmark/Zdt" "variables" "I" (.int (30 : Int32)) := Fld.keep F87 Kq105 nin0
    have F117 : Fld Z T101.heap z3 "com/example/tradewind/tradewind/benchmark/Zdt" "restLower" "D" (.double (0 : UInt64)) := Fld.keep F88 Kq105 nin0
    have E118 : Exa Z T101.heap z4 "com/example/tradewind/tradewind/benchmark/Zdt" := Exa.keep E90 Kq105
    have F119 : Fld Z T101.heap z4 "com/example/tradewind/tradewind/benchmark/Zdt" "variables" "I" (.int (10 : Int32)) := Fld.keep F91 Kq105 nin0
    have F120 : Fld Z T101.heap z4 "com/example/tradewind/tradewind/benchmark/Zdt" "restLower" "D" (.double (13840687554816376832 : UInt64)) := Fld.keep F92 Kq105 nin0
    have E121 : Exa Z T101.heap z6 "com/example/tradewind/tradewind/benchmark/Zdt" := Exa.keep E94 Kq105
    have F122 : Fld Z T101.heap z6 "com/example/tradewind/tradewind/benchmark/Zdt" "variables" "I" (.int (10 : Int32)) := Fld.keep F95 Kq105 nin0
    have F123 : Fld Z T101.heap z6 "com/example/tradewind/tradewind/benchmark/Zdt" "restLower" "D" (.double (0 : UInt64)) := Fld.keep F96 Kq105 nin0
    have Z124 : n0 ≤ T101.heap.size := Nat.le_trans Z0 Kq105.1
    have K125 : Keep h0 T101.heap [] := (Keep.refl h0 []).trans Kq105 all0
    have A126 := (⟨X101, hx, hby⟩ : Ax _ _ _ _ _ _ _ _ _ _ _ _ _ _ _)
    have g127 : n0 ≤ r103 := Nat.le_trans Z0 gx106
    have gh128 : h0.size ≤ r103 := Nat.le_trans (Keep.refl h0 []).1 gx106
    have ne129 : z1 ≠ r103 := Nat.ne_of_lt (Nat.lt_of_lt_of_le E78.lt gx106)
    have ne130 : z2 ≠ r103 := Nat.ne_of_lt (Nat.lt_of_lt_of_le E82.lt gx106)
    have ne131 : z3 ≠ r103 := Nat.ne_of_lt (Nat.lt_of_lt_of_le E86.lt gx106)
    have ne132 : z4 ≠ r103 := Nat.ne_of_lt (Nat.lt_of_lt_of_le E90.lt gx106)
    have ne133 : z6 ≠ r103 := Nat.ne_of_lt (Nat.lt_of_lt_of_le E94.lt gx106)
    refine g_astore A126 at_105 rfl (ls' := #[.val (.int p0), .val (.int p1), .val (.int p2), .val (.int (0 : Int32)), .val (.ref z1), .val (.int (30 : Int32)), .val (.double (0 : UInt64)), .second, .val (.ref r103), .unset, .unset, .unset]) rfl (pc' := 107) rfl ?_
    refine g_aload A126 at_107 rfl rfl (pc' := 109) rfl ?_
    refine g_alen A126 hZ rfl V107 at_109 (z := (30 : Int32)) rfl (pc' := 110) rfl ?_
    refine g_iload A126 at_110 rfl (pc' := 112) rfl ?_
    refine g_icY A126 at_112 (c2_eq_t rfl) (pc' := 117) rfl ?_
    refine g_iloadN A126 at_117 rfl (pc' := 118) rfl ?_
    refine g_ldcI A126 hZ hown (hw _ (List.mem_of_getElem? (i := 0) rfl)) at_118 (pc' := 120) rfl ?_
    refine g_iand A126 at_120 (pc' := 121) rfl ?_
    refine g_iload A126 at_121 rfl (pc' := 123) rfl ?_
    refine g_irem A126 at_123 (by decide) (pc' := 124) rfl ?_
    obtain ⟨i134, hi135, hk136⟩ := own_mod p1 30 (by decide) (by decide)
    have hk137 : ((p1 &&& (2147483647 : Int32)) % (30 : Int32)) = Int32.ofNat i134 := hk136
    rw [hk137]
    refine g_istore A126 at_124 (ls' := #[.val (.int p0), .val (.int p1), .val (.int p2), .val (.int (0 : Int32)), .val (.ref z1), .val (.int (30 : Int32)), .val (.double (0 : UInt64)), .second, .val (.ref r103), .val (.int (Int32.ofNat i134)), .unset, .unset]) rfl (pc' := 126) rfl ?_
    refine g_iloadN A126 at_126 rfl (pc' := 127) rfl ?_
    refine g_ldcI A126 hZ hown (hw _ (List.mem_of_getElem? (i := 0) rfl)) at_127 (pc' := 129) rfl ?_
    refine g_iand A126 at_129 (pc' := 130) rfl ?_
    refine g_iload A126 at_130 rfl (pc' := 132) rfl ?_
    refine g_irem A126 at_132 (by decide) (pc' := 133) rfl ?_
    obtain ⟨i138, hi139, hk140⟩ := own_mod p2 30 (by decide) (by decide)
    have hk141 : ((p2 &&& (2147483647 : Int32)) % (30 : Int32)) = Int32.ofNat i138 := hk140
    rw [hk141]
    refine g_istore A126 at_133 (ls' := #[.val (.int p0), .val (.int p1), .val (.int p2), .val (.int (0 : Int32)), .val (.ref z1), .val (.int (30 : Int32)), .val (.double (0 : UInt64)), .second, .val (.ref r103), .val (.int (Int32.ofNat i134)), .val (.int (Int32.ofNat i138)), .unset]) rfl (pc' := 135) rfl ?_
    refine g_aload A126 at_135 rfl rfl (pc' := 137) rfl ?_
    refine g_iload A126 at_137 rfl (pc' := 139) rfl ?_
    refine g_daload A126 hZ rfl V107 (i := i134) hi135 rfl (x := (own_u (0 : UInt64) i134)) rfl at_139 (pc' := 140) rfl ?_
    refine g_iload A126 at_140 rfl (pc' := 142) rfl ?_
    refine g_dload A126 at_142 rfl (pc' := 144) rfl ?_
    obtain ⟨_, _, ⟨T142, L142, k142, n142⟩, -, X142, ⟨L142c, hQ142, l142, y142, z142⟩, st142⟩ := Jvm.LawKit.callS X101 hx (y := (⟨"com/example/tradewind/tradewind/benchmark/ZdtLowerPinLaw", "expected", "(ID)D"⟩ : MethodName)) hown (mvT hZ (hw _ (List.mem_of_getElem? (i := 21) rfl))) (mvT hZ (hw _ (List.mem_of_getElem? (i := 22) rfl))) (mvT hZ (hw _ (List.mem_of_getElem? (i := 23) rfl))) (mvT hZ (hw _ (List.mem_of_getElem? (i := 24) rfl))) (by decide) (backOf (W := 2) (rm4 l Z a0 hw [] (Int32.ofNat i134) (0 : UInt64) T101.heap n0 Z124 ) hZ (hw _ (List.mem_of_getElem? (i := 24) rfl)) (hw _ (List.mem_of_getElem? (i := 23) rfl)) (by decide) (by decide)) (g := (mkF m 144 #[.val (.int p0), .val (.int p1), .val (.int p2), .val (.int (0 : Int32)), .val (.ref z1), .val (.int (30 : Int32)), .val (.double (0 : UInt64)), .second, .val (.ref r103), .val (.int (Int32.ofNat i134)), .val (.int (Int32.ofNat i138)), .unset] [(.double (0 : UInt64)), (.int (Int32.ofNat i134)), (.double (own_u (0 : UInt64) i134))])) rfl (by rw [hml]; rfl) (argsL := [(.int (Int32.ofNat i134)), (.double (0 : UInt64))]) (rest := [(.double (own_u (0 : UInt64) i134))]) (lenOf pd_3 rfl) rfl (by show 2 * 0 + _ ≤ _; exact Nat.le_of_eq rfl) (hb hby at_144) (fun _ _ => ⟨rfl, rfl, (by decide : 1 + 0 ≤ _), (by decide : 30 + 0 ≤ _)⟩)
    dsimp only [Pt.U, Pt.locs, Pt.cells, Pt.slots] at X142 l142 y142 z142 st142 hQ142
    subst l142 y142 z142
    obtain ⟨rfl, Nq143, Kq144⟩ := hQ142
    have N145 := Fr.app N108 Nq143
    refine Go.of (g' := (mkF m 147 #[.val (.int p0), .val (.int p1), .val (.int p2), .val (.int (0 : Int32)), .val (.ref z1), .val (.int (30 : Int32)), .val (.double (0 : UInt64)), .second, .val (.ref r103), .val (.int (Int32.ofNat i134)), .val (.int (Int32.ofNat i138)), .unset] [(.double (own_r_rm4 (Int32.ofNat i134) (0 : UInt64))), (.double (own_u (0 : UInt64) i134))])) st142 ?_
    have e146 : T142.heap = T101.heap := Kq144
    have A147 := (⟨X142, hx, hby⟩ : Ax _ _ _ _ _ _ _ _ _ _ _ _ _ _ _)
    refine g_dcmp A147 at_147 (pc' := 148) rfl ?_
    refine g_ifN A147 at_148 (d_l_ne_f (own_low i134 (by omega))) (pc' := 151) rfl ?_
    refine g_aload A147 at_151 rfl rfl (pc' := 153) rfl ?_
    refine g_iload A147 at_153 rfl (pc' := 155) rfl ?_
    refine g_daload A147 hZ e146 V107 (i := i138) hi139 rfl (x := (own_u (0 : UInt64) i138)) rfl at_155 (pc' := 156) rfl ?_
    refine g_iload A147 at_156 rfl (pc' := 158) rfl ?_
    refine g_dload A147 at_158 rfl (pc' := 160) rfl ?_
    obtain ⟨_, _, ⟨T148, L148, k148, n148⟩, -, X148, ⟨L148c, hQ148, l148, y148, z148⟩, st148⟩ := Jvm.LawKit.callS X142 hx (y := (⟨"com/example/tradewind/tradewind/benchmark/ZdtLowerPinLaw", "expected", "(ID)D"⟩ : MethodName)) hown (mvT hZ (hw _ (List.mem_of_getElem? (i := 21) rfl))) (mvT hZ (hw _ (List.mem_of_getElem? (i := 22) rfl))) (mvT hZ (hw _ (List.mem_of_getElem? (i := 23) rfl))) (mvT hZ (hw _ (List.mem_of_getElem? (i := 24) rfl))) (by decide) (backOf (W := 2) (rm4 l Z a0 hw [] (Int32.ofNat i138) (0 : UInt64) T101.heap n0 Z124 ) hZ (hw _ (List.mem_of_getElem? (i := 24) rfl)) (hw _ (List.mem_of_getElem? (i := 23) rfl)) (by decide) (by decide)) (g := (mkF m 160 #[.val (.int p0), .val (.int p1), .val (.int p2), .val (.int (0 : Int32)), .val (.ref z1), .val (.int (30 : Int32)), .val (.double (0 : UInt64)), .second, .val (.ref r103), .val (.int (Int32.ofNat i134)), .val (.int (Int32.ofNat i138)), .unset] [(.double (0 : UInt64)), (.int (Int32.ofNat i138)), (.double (own_u (0 : UInt64) i138))])) rfl (by rw [hml]; rfl) (argsL := [(.int (Int32.ofNat i138)), (.double (0 : UInt64))]) (rest := [(.double (own_u (0 : UInt64) i138))]) (lenOf pd_3 rfl) rfl (by show 2 * 0 + _ ≤ _; exact Nat.le_of_eq rfl) (hb hby at_160) (fun _ _ => ⟨rfl, e146, (by decide : 1 + 0 ≤ _), (by decide : 30 + 0 ≤ _)⟩)
    dsimp only [Pt.U, Pt.locs, Pt.cells, Pt.slots] at X148 l148 y148 z148 st148 hQ148
    subst l148 y148 z148
    obtain ⟨rfl, Nq149, Kq150⟩ := hQ148
    have N151 := Fr.app N145 Nq149
    refine Go.of (g' := (mkF m 163 #[.val (.int p0), .val (.int p1), .val (.int p2), .val (.int (0 : Int32)), .val (.ref z1), .val (.int (30 : Int32)), .val (.double (0 : UInt64)), .second, .val (.ref r103), .val (.int (Int32.ofNat i134)), .val (.int (Int32.ofNat i138)), .unset] [(.double (own_r_rm4 (Int32.ofNat i138) (0 : UInt64))), (.double (own_u (0 : UInt64) i138))])) st148 ?_
    have e152 : T148.heap = T101.heap := Kq150
    have A153 := (⟨X148, hx, hby⟩ : Ax _ _ _ _ _ _ _ _ _ _ _ _ _ _ _)
    refine g_dcmp A153 at_163 (pc' := 164) rfl ?_
    refine g_ifY A153 at_164 (d_l_eq_t (own_low i138 (by omega))) (pc' := 169) rfl ?_
    refine g_aload A153 at_169 rfl rfl (pc' := 171) rfl ?_
    refine g_iload A153 at_171 rfl (pc' := 173) rfl ?_
    refine g_ldcD A153 hZ hown (hw _ (List.mem_of_getElem? (i := 25) rfl)) at_173 (pc' := 176) rfl ?_
    obtain ⟨T154, h154, A154, e154, W154, st154⟩ := s_dastore A153 hZ e152 (ls := #[.val (.int p0), .val (.int p1), .val (.int p2), .val (.int (0 : Int32)), .val (.ref z1), .val (.int (30 : Int32)), .val (.double (0 : UInt64)), .second, .val (.ref r103), .val (.int (Int32.ofNat i134)), .val (.int (Int32.ofNat i138)), .unset]) (st := []) (x := (4619567317775286272 : UInt64)) V107 (i := i134) hi135 (j := (Int32.ofNat i134)) rfl at_176 (pc' := 177) rfl
    have N155 := Fr.snoc A154.1 N151 g127
    have K156 : Keep h0 h154 [] := K125.wr W154 (Or.inr gh128)
    have E157 : Exa Z h154 z1 "com/example/tradewind/tradewind/benchmark/Zdt" := Exa.wr W154 E109
    have F158 : Fld Z h154 z1 "com/example/tradewind/tradewind/benchmark/Zdt" "variables" "I" (.int (30 : Int32)) := Fld.other W154 F110 (Or.inl ne129)
    have F159 : Fld Z h154 z1 "com/example/tradewind/tradewind/benchmark/Zdt" "restLower" "D" (.double (0 : UInt64)) := Fld.other W154 F111 (Or.inl ne129)
    have E160 : Exa Z h154 z2 "com/example/tradewind/tradewind/benchmark/Zdt" := Exa.wr W154 E112
    have F161 : Fld Z h154 z2 "com/example/tradewind/tradewind/benchmark/Zdt" "variables" "I" (.int (30 : Int32)) := Fld.other W154 F113 (Or.inl ne130)
    have F162 : Fld Z h154 z2 "com/example/tradewind/tradewind/benchmark/Zdt" "restLower" "D" (.double (0 : UInt64)) := Fld.other W154 F114 (Or.inl ne130)
    have E163 : Exa Z h154 z3 "com/example/tradewind/tradewind/benchmark/Zdt" := Exa.wr W154 E115
    have F164 : Fld Z h154 z3 "com/example/tradewind/tradewind/benchmark/Zdt" "variables" "I" (.int (30 : Int32)) := Fld.other W154 F116 (Or.inl ne131)
    have F165 : Fld Z h154 z3 "com/example/tradewind/tradewind/benchmark/Zdt" "restLower" "D" (.double (0 : UInt64)) := Fld.other W154 F117 (Or.inl ne131)
    have E166 : Exa Z h154 z4 "com/example/tradewind/tradewind/benchmark/Zdt" := Exa.wr W154 E118
    have F167 : Fld Z h154 z4 "com/example/tradewind/tradewind/benchmark/Zdt" "variables" "I" (.int (10 : Int32)) := Fld.other W154 F119 (Or.inl ne132)
    have F168 : Fld Z h154 z4 "com/example/tradewind/tradewind/benchmark/Zdt" "restLower" "D" (.double (13840687554816376832 : UInt64)) := Fld.other W154 F120 (Or.inl ne132)
    have E169 : Exa Z h154 z6 "com/example/tradewind/tradewind/benchmark/Zdt" := Exa.wr W154 E121
    have F170 : Fld Z h154 z6 "com/example/tradewind/tradewind/benchmark/Zdt" "variables" "I" (.int (10 : Int32)) := Fld.other W154 F122 (Or.inl ne133)
    have F171 : Fld Z h154 z6 "com/example/tradewind/tradewind/benchmark/Zdt" "restLower" "D" (.double (0 : UInt64)) := Fld.other W154 F123 (Or.inl ne133)
    have V172 : Dar Z h154 r103 .double 30 (fun j => if j = i134 then .double (4619567317775286272 : UInt64) else (fun j => .double (own_u (0 : UInt64) j)) j) := Dar.set V107 W154 (fun _ _ => rfl)
    have Z173 : n0 ≤ h154.size := by rw [W154.size]; exact Z124
    refine st154 ?_
    refine g_aload A154 at_177 rfl rfl (pc' := 179) rfl ?_
    refine g_iload A154 at_179 rfl (pc' := 181) rfl ?_
    refine g_ldcD A154 hZ hown (hw _ (List.mem_of_getElem? (i := 25) rfl)) at_181 (pc' := 184) rfl ?_
    obtain ⟨T174, h174, A174, e174, W174, st174⟩ := s_dastore A154 hZ e154 (ls := #[.val (.int p0), .val (.int p1), .val (.int p2), .val (.int (0 : Int32)), .val (.ref z1), .val (.int (30 : Int32)), .val (.double (0 : UInt64)), .second, .val (.ref r103), .val (.int (Int32.ofNat i134)), .val (.int (Int32.ofNat i138)), .unset]) (st := []) (x := (4619567317775286272 : UInt64)) V172 (i := i138) hi139 (j := (Int32.ofNat i138)) rfl at_184 (pc' := 185) rfl
    have N175 := Fr.snoc A174.1 N155 g127
    have K176 : Keep h0 h174 [] := K156.wr W174 (Or.inr gh128)
    have E177 : Exa Z h174 z1 "com/example/tradewind/tradewind/benchmark/Zdt" := Exa.wr W174 E157
    have F178 : Fld Z h174 z1 "com/example/tradewind/tradewind/benchmark/Zdt" "variables" "I" (.int (30 : Int32)) := Fld.other W174 F158 (Or.inl ne129)
    have F179 : Fld Z h174 z1 "com/example/tradewind/tradewind/benchmark/Zdt" "restLower" "D" (.double (0 : UInt64)) := Fld.other W174 F159 (Or.inl ne129)
    have E180 : Exa Z h174 z2 "com/example/tradewind/tradewind/benchmark/Zdt" := Exa.wr W174 E160
    have F181 : Fld Z h174 z2 "com/example/tradewind/tradewind/benchmark/Zdt" "variables" "I" (.int (30 : Int32)) := Fld.other W174 F161 (Or.inl ne130)
    have F182 : Fld Z h174 z2 "com/example/tradewind/tradewind/benchmark/Zdt" "restLower" "D" (.double (0 : UInt64)) := Fld.other W174 F162 (Or.inl ne130)
    have E183 : Exa Z h174 z3 "com/example/tradewind/tradewind/benchmark/Zdt" := Exa.wr W174 E163
    have F184 : Fld Z h174 z3 "com/example/tradewind/tradewind/benchmark/Zdt" "variables" "I" (.int (30 : Int32)) := Fld.other W174 F164 (Or.inl ne131)
    have F185 : Fld Z h174 z3 "com/example/tradewind/tradewind/benchmark/Zdt" "restLower" "D" (.double (0 : UInt64)) := Fld.other W174 F165 (Or.inl ne131)
    have E186 : Exa Z h174 z4 "com/example/tradewind/tradewind/benchmark/Zdt" := Exa.wr W174 E166
    have F187 : Fld Z h174 z4 "com/example/tradewind/tradewind/benchmark/Zdt" "variables" "I" (.int (10 : Int32)) := Fld.other W174 F167 (Or.inl ne132)
    have F188 : Fld Z h174 z4 "com/example/tradewind/tradewind/benchmark/Zdt" "restLower" "D" (.double (13840687554816376832 : UInt64)) := Fld.other W174 F168 (Or.inl ne132)
    have E189 : Exa Z h174 z6 "com/example/tradewind/tradewind/benchmark/Zdt" := Exa.wr W174 E169
    have F190 : Fld Z h174 z6 "com/example/tradewind/tradewind/benchmark/Zdt" "variables" "I" (.int (10 : Int32)) := Fld.other W174 F170 (Or.inl ne133)
    have F191 : Fld Z h174 z6 "com/example/tradewind/tradewind/benchmark/Zdt" "restLower" "D" (.double (0 : UInt64)) := Fld.other W174 F171 (Or.inl ne133)
    have V192 : Dar Z h174 r103 .double 30 (fun j => if j = i138 then .double (4619567317775286272 : UInt64) else (fun j => if j = i134 then .double (4619567317775286272 : UInt64) else (fun j => .double (own_u (0 : UInt64) j)) j) j) := Dar.set V172 W174 (fun _ _ => rfl)
    have Z193 : n0 ≤ h174.size := by rw [W174.size]; exact Z173
    refine st174 ?_
    refine g_aload A174 at_185 rfl rfl (pc' := 187) rfl ?_
    obtain ⟨cq195, kq195, q195a, q195b, q195c⟩ := isOf hZ e174 E177
    obtain ⟨_, _, ⟨T194, L194, k194, n194⟩, -, X194, ⟨L194c, hQ194, l194, y194, z194⟩, st194⟩ := A174.1.virtualBack hx (y := (⟨"com/example/tradewind/tradewind/benchmark/Zdt", "lower", "()[D"⟩ : MethodName)) (z := (⟨"com/example/tradewind/tradewind/benchmark/Zdt", "lower", "()[D"⟩ : MethodName)) hown (mvT hZ (hw _ (List.mem_of_getElem? (i := 4) rfl))) (mvT hZ (hw _ (List.mem_of_getElem? (i := 5) rfl))) (notFace_of_selects (args := #[]) (mvT hZ (hw _ (List.mem_of_getElem? (i := 7) rfl)))) (mvT hZ (hw _ (List.mem_of_getElem? (i := 7) rfl))) (mvT hZ (hw _ (List.mem_of_getElem? (i := 6) rfl))) (by decide) (backOf (W := 0) (rmB30 l Z a0 hw [] z1 (0 : UInt64) h174 n0 Z193 F178 F179) hZ (hw _ (List.mem_of_getElem? (i := 8) rfl)) (hw _ (List.mem_of_getElem? (i := 2) rfl)) (by decide) (by decide)) q195a q195c (g := (mkF m 187 #[.val (.int p0), .val (.int p1), .val (.int p2), .val (.int (0 : Int32)), .val (.ref z1), .val (.int (30 : Int32)), .val (.double (0 : UInt64)), .second, .val (.ref r103), .val (.int (Int32.ofNat i134)), .val (.int (Int32.ofNat i138)), .unset] [(.ref z1)])) rfl (by rw [hml]; rfl) (Steps.refl _) (argsL := []) (rest := []) (lenOf pd_2 rfl) rfl (by show 2 * 0 + _ ≤ _; exact Nat.le_of_eq rfl) (hb hby at_187) (fun _ _ => ⟨rfl, e174, (by decide : 1 + 1 ≤ _), (by decide : 30 + 30 ≤ _)⟩)
    dsimp only [Pt.U, Pt.locs, Pt.cells, Pt.slots] at X194 l194 y194 z194 st194 hQ194
    subst l194 y194 z194
    obtain ⟨r196, rfl, Nq197, Kq198, gx199, V200⟩ := hQ194
    have N201 := Fr.app N175 Nq197
    refine Go.tr (g' := (mkF m 190 #[.val (.int p0), .val (.int p1), .val (.int p2), .val (.int (0 : Int32)), .val (.ref z1), .val (.int (30 : Int32)), .val (.double (0 : UInt64)), .second, .val (.ref r103), .val (.int (Int32.ofNat i134)), .val (.int (Int32.ofNat i138)), .unset] [(.ref r196)])) st194 ?_
    have E202 : Exa Z T194.heap z1 "com/example/tradewind/tradewind/benchmark/Zdt" := Exa.keep E177 Kq198
    have F203 : Fld Z T194.heap z1 "com/example/tradewind/tradewind/benchmark/Zdt" "variables" "I" (.int (30 : Int32)) := Fld.keep F178 Kq198 nin0
    have F204 : Fld Z T194.heap z1 "com/example/tradewind/tradewind/benchmark/Zdt" "restLower" "D" (.double (0 : UInt64)) := Fld.keep F179 Kq198 nin0
    have E205 : Exa Z T194.heap z2 "com/example/tradewind/tradewind/benchmark/Zdt" := Exa.keep E180 Kq198
    have F206 : Fld Z T194.heap z2 "com/example/tradewind/tradewind/benchmark/Zdt" "variables" "I" (.int (30 : Int32)) := Fld.keep F181 Kq198 nin0
    have F207 : Fld Z T194.heap z2 "com/example/tradewind/tradewind/benchmark/Zdt" "restLower" "D" (.double (0 : UInt64)) := Fld.keep F182 Kq198 nin0
    have E208 : Exa Z T194.heap z3 "com/example/tradewind/tradewind/benchmark/Zdt" := Exa.keep E183 Kq198
    have F209 : Fld Z T194.heap z3 "com/example/tradewind/tradewind/benchmark/Zdt" "variables" "I" (.int (30 : Int32)) := Fld.keep F184 Kq198 nin0
    have F210 : Fld Z T194.heap z3 "com/example/tradewind/tradewind/benchmark/Zdt" "restLower" "D" (.double (0 : UInt64)) := Fld.keep F185 Kq198 nin0
    have E211 : Exa Z T194.heap z4 "com/example/tradewind/tradewind/benchmark/Zdt" := Exa.keep E186 Kq198
    have F212 : Fld Z T194.heap z4 "com/example/tradewind/tradewind/benchmark/Zdt" "variables" "I" (.int (10 : Int32)) := Fld.keep F187 Kq198 nin0
    have F213 : Fld Z T194.heap z4 "com/example/tradewind/tradewind/benchmark/Zdt" "restLower" "D" (.double (13840687554816376832 : UInt64)) := Fld.keep F188 Kq198 nin0
    have E214 : Exa Z T194.heap z6 "com/example/tradewind/tradewind/benchmark/Zdt" := Exa.keep E189 Kq198
    have F215 : Fld Z T194.heap z6 "com/example/tradewind/tradewind/benchmark/Zdt" "variables" "I" (.int (10 : Int32)) := Fld.keep F190 Kq198 nin0
    have F216 : Fld Z T194.heap z6 "com/example/tradewind/tradewind/benchmark/Zdt" "restLower" "D" (.double (0 : UInt64)) := Fld.keep F191 Kq198 nin0
    have V217 : Dar Z T194.heap r103 .double 30 (fun j => if j = i138 then .double (4619567317775286272 : UInt64) else (fun j => if j = i134 then .double (4619567317775286272 : UInt64) else (fun j => .double (own_u (0 : UInt64) j)) j) j) := Dar.keep V192 Kq198 nin0
    have Z218 : n0 ≤ T194.heap.size := Nat.le_trans Z193 Kq198.1
    have K219 : Keep h0 T194.heap [] := K176.trans Kq198 all0
    have A220 := (⟨X194, hx, hby⟩ : Ax _ _ _ _ _ _ _ _ _ _ _ _ _ _ _)
    have g221 : n0 ≤ r196 := Nat.le_trans Z193 gx199
    have gh222 : h0.size ≤ r196 := Nat.le_trans K176.1 gx199
    have ne223 : r103 ≠ r196 := Nat.ne_of_lt (Nat.lt_of_lt_of_le V192.lt gx199)
    have ne224 : z1 ≠ r196 := Nat.ne_of_lt (Nat.lt_of_lt_of_le E177.lt gx199)
    have ne225 : z2 ≠ r196 := Nat.ne_of_lt (Nat.lt_of_lt_of_le E180.lt gx199)
    have ne226 : z3 ≠ r196 := Nat.ne_of_lt (Nat.lt_of_lt_of_le E183.lt gx199)
    have ne227 : z4 ≠ r196 := Nat.ne_of_lt (Nat.lt_of_lt_of_le E186.lt gx199)
    have ne228 : z6 ≠ r196 := Nat.ne_of_lt (Nat.lt_of_lt_of_le E189.lt gx199)
    refine g_astore A220 at_190 rfl (ls' := #[.val (.int p0), .val (.int p1), .val (.int p2), .val (.int (0 : Int32)), .val (.ref z1), .val (.int (30 : Int32)), .val (.double (0 : UInt64)), .second, .val (.ref r103), .val (.int (Int32.ofNat i134)), .val (.int (Int32.ofNat i138)), .val (.ref r196)]) rfl (pc' := 192) rfl ?_
    refine g_aload A220 at_192 rfl rfl (pc' := 194) rfl ?_
    refine g_alen A220 hZ rfl V200 at_194 (z := (30 : Int32)) rfl (pc' := 195) rfl ?_
    refine g_iload A220 at_195 rfl (pc' := 197) rfl ?_
    refine g_icY A220 at_197 (c2_eq_t rfl) (pc' := 202) rfl ?_
    refine g_aload A220 at_202 rfl rfl (pc' := 204) rfl ?_
    refine g_iload A220 at_204 rfl (pc' := 206) rfl ?_
    refine g_daload A220 hZ rfl V200 (i := i134) hi135 rfl (x := (own_u (0 : UInt64) i134)) rfl at_206 (pc' := 207) rfl ?_
    refine g_iload A220 at_207 rfl (pc' := 209) rfl ?_
    refine g_dload A220 at_209 rfl (pc' := 211) rfl ?_
    obtain ⟨_, _, ⟨T229, L229, k229, n229⟩, -, X229, ⟨L229c, hQ229, l229, y229, z229⟩, st229⟩ := Jvm.LawKit.callS X194 hx (y := (⟨"com/example/tradewind/tradewind/benchmark/ZdtLowerPinLaw", "expected", "(ID)D"⟩ : MethodName)) hown (mvT hZ (hw _ (List.mem_of_getElem? (i := 21) rfl))) (mvT hZ (hw _ (List.mem_of_getElem? (i := 22) rfl))) (mvT hZ (hw _ (List.mem_of_getElem? (i := 23) rfl))) (mvT hZ (hw _ (List.mem_of_getElem? (i := 24) rfl))) (by decide) (backOf (W := 2) (rm4 l Z a0 hw [] (Int32.ofNat i134) (0 : UInt64) T194.heap n0 Z218 ) hZ (hw _ (List.mem_of_getElem? (i := 24) rfl)) (hw _ (List.mem_of_getElem? (i := 23) rfl)) (by decide) (by decide)) (g := (mkF m 211 #[.val (.int p0), .val (.int p1), .val (.int p2), .val (.int (0 : Int32)), .val (.ref z1), .val (.int (30 : Int32)), .val (.double (0 : UInt64)), .second, .val (.ref r103), .val (.int (Int32.ofNat i134)), .val (.int (Int32.ofNat i138)), .val (.ref r196)] [(.double (0 : UInt64)), (.int (Int32.ofNat i134)), (.double (own_u (0 : UInt64) i134))])) rfl (by rw [hml]; rfl) (argsL := [(.int (Int32.ofNat i134)), (.double (0 : UInt64))]) (rest := [(.double (own_u (0 : UInt64) i134))]) (lenOf pd_3 rfl) rfl (by show 2 * 0 + _ ≤ _; exact Nat.le_of_eq rfl) (hb hby at_211) (fun _ _ => ⟨rfl, rfl, (by decide : 2 + 0 ≤ _), (by decide : 60 + 0 ≤ _)⟩)
    dsimp only [Pt.U, Pt.locs, Pt.cells, Pt.slots] at X229 l229 y229 z229 st229 hQ229
    subst l229 y229 z229
    obtain ⟨rfl, Nq230, Kq231⟩ := hQ229
    have N232 := Fr.app N201 Nq230
    refine Go.of (g' := (mkF m 214 #[.val (.int p0), .val (.int p1), .val (.int p2), .val (.int (0 : Int32)), .val (.ref z1), .val (.int (30 : Int32)), .val (.double (0 : UInt64)), .second, .val (.ref r103), .val (.int (Int32.ofNat i134)), .val (.int (Int32.ofNat i138)), .val (.ref r196)] [(.double (own_r_rm4 (Int32.ofNat i134) (0 : UInt64))), (.double (own_u (0 : UInt64) i134))])) st229 ?_
    have e233 : T229.heap = T194.heap := Kq231
    have A234 := (⟨X229, hx, hby⟩ : Ax _ _ _ _ _ _ _ _ _ _ _ _ _ _ _)
    refine g_dcmp A234 at_214 (pc' := 215) rfl ?_
    refine g_ifN A234 at_215 (d_l_ne_f (own_low i134 (by omega))) (pc' := 218) rfl ?_
    refine g_aload A234 at_218 rfl rfl (pc' := 220) rfl ?_
    refine g_iload A234 at_220 rfl (pc' := 222) rfl ?_
    refine g_daload A234 hZ e233 V200 (i := i138) hi139 rfl (x := (own_u (0 : UInt64) i138)) rfl at_222 (pc' := 223) rfl ?_
    refine g_iload A234 at_223 rfl (pc' := 225) rfl ?_
    refine g_dload A234 at_225 rfl (pc' := 227) rfl ?_
    obtain ⟨_, _, ⟨T235, L235, k235, n235⟩, -, X235, ⟨L235c, hQ235, l235, y235, z235⟩, st235⟩ := Jvm.LawKit.callS X229 hx (y := (⟨"com/example/tradewind/tradewind/benchmark/ZdtLowerPinLaw", "expected", "(ID)D"⟩ : MethodName)) hown (mvT hZ (hw _ (List.mem_of_getElem? (i := 21) rfl))) (mvT hZ (hw _ (List.mem_of_getElem? (i := 22) rfl))) (mvT hZ (hw _ (List.mem_of_getElem? (i := 23) rfl))) (mvT hZ (hw _ (List.mem_of_getElem? (i := 24) rfl))) (by decide) (backOf (W := 2) (rm4 l Z a0 hw [] (Int32.ofNat i138) (0 : UInt64) T194.heap n0 Z218 ) hZ (hw _ (List.mem_of_getElem? (i := 24) rfl)) (hw _ (List.mem_of_getElem? (i := 23) rfl)) (by decide) (by decide)) (g := (mkF m 227 #[.val (.int p0), .val (.int p1), .val (.int p2), .val (.int (0 : Int32)), .val (.ref z1), .val (.int (30 : Int32)), .val (.double (0 : UInt64)), .second, .val (.ref r103), .val (.int (Int32.ofNat i134)), .val (.int (Int32.ofNat i138)), .val (.ref r196)] [(.double (0 : UInt64)), (.int (Int32.ofNat i138)), (.double (own_u (0 : UInt64) i138))])) rfl (by rw [hml]; rfl) (argsL := [(.int (Int32.ofNat i138)), (.double (0 : UInt64))]) (rest := [(.double (own_u (0 : UInt64) i138))]) (lenOf pd_3 rfl) rfl (by show 2 * 0 + _ ≤ _; exact Nat.le_of_eq rfl) (hb hby at_227) (fun _ _ => ⟨rfl, e233, (by decide : 2 + 0 ≤ _), (by decide : 60 + 0 ≤ _)⟩)
    dsimp only [Pt.U, Pt.locs, Pt.cells, Pt.slots] at X235 l235 y235 z235 st235 hQ235
    subst l235 y235 z235
    obtain ⟨rfl, Nq236, Kq237⟩ := hQ235
    have N238 := Fr.app N232 Nq236
    refine Go.of (g' := (mkF m 230 #[.val (.int p0), .val (.int p1), .val (.int p2), .val (.int (0 : Int32)), .val (.ref z1), .val (.int (30 : Int32)), .val (.double (0 : UInt64)), .second, .val (.ref r103), .val (.int (Int32.ofNat i134)), .val (.int (Int32.ofNat i138)), .val (.ref r196)] [(.double (own_r_rm4 (Int32.ofNat i138) (0 : UInt64))), (.double (own_u (0 : UInt64) i138))])) st235 ?_
    have e239 : T235.heap = T194.heap := Kq237
    have A240 := (⟨X235, hx, hby⟩ : Ax _ _ _ _ _ _ _ _ _ _ _ _ _ _ _)
    refine g_dcmp A240 at_230 (pc' := 231) rfl ?_
    refine g_ifN A240 at_231 (d_l_ne_f (own_low i138 (by omega))) (pc' := 234) rfl ?_
    refine g_iconst A240 at_234 (v := (1 : Int32)) rfl (pc' := 235) rfl ?_
    refine g_goto A240 at_235 (pc' := 239) rfl ?_
    exact g_ret (Q := Q0 Z p0 p1 p2 z1 z2 z3 z4 z6 h0 n0) A240 at_239 Bd.notSynchronized Bd.returns rfl (Or.inl ⟨rfl, by simp, _, rfl⟩) (by decide) (by decide) (by rw [e239]; exact ⟨rfl, N238⟩)
  · skip
    rw [hg98]
    refine g_istoreN A0 at_6 (ls' := #[.val (.int p0), .val (.int p1), .val (.int p2), .val (.int (1 : Int32)), .unset, .unset, .unset, .unset, .unset, .unset, .unset, .unset]) rfl (pc' := 7) rfl ?_
    refine g_iloadN A0 at_7 rfl (pc' := 8) rfl ?_
    refine g_ifY A0 at_8 (c0_ne_t (by decide)) (pc' := 26) rfl ?_
    refine g_iloadN A0 at_26 rfl (pc' := 27) rfl ?_
    refine g_iconst A0 at_27 (v := (1 : Int32)) rfl (pc' := 28) rfl ?_
    refine g_icN A0 at_28 (c2_ne_f rfl) (pc' := 31) rfl ?_
    obtain ⟨T241, X241, e241, st241⟩ := getS X0 hx hZ hown (host := "") (hw _ (List.mem_of_getElem? (i := 26) rfl)) Via.refl e0 S81 (g := (mkF m 31 #[.val (.int p0), .val (.int p1), .val (.int p2), .val (.int (1 : Int32)), .unset, .unset, .unset, .unset, .unset, .unset, .unset, .unset] [])) rfl (hb hby at_31)
    refine Go.of (g' := (mkF m 34 #[.val (.int p0), .val (.int p1), .val (.int p2), .val (.int (1 : Int32)), .unset, .unset, .unset, .unset, .unset, .unset, .unset, .unset] [(.ref z2)])) st241 ?_
    have A242 := (⟨X241, hx, hby⟩ : Ax _ _ _ _ _ _ _ _ _ _ _ _ _ _ _)
    refine g_astore A242 at_34 rfl (ls' := #[.val (.int p0), .val (.int p1), .val (.int p2), .val (.int (1 : Int32)), .val (.ref z2), .unset, .unset, .unset, .unset, .unset, .unset, .unset]) rfl (pc' := 36) rfl ?_
    refine g_bipush A242 at_36 (v := (30 : Int32)) rfl (pc' := 38) rfl ?_
    refine g_istore A242 at_38 (ls' := #[.val (.int p0), .val (.int p1), .val (.int p2), .val (.int (1 : Int32)), .val (.ref z2), .val (.int (30 : Int32)), .unset, .unset, .unset, .unset, .unset, .unset]) rfl (pc' := 40) rfl ?_
    refine g_dconst0 A242 at_40 (pc' := 41) rfl ?_
    refine g_dstore A242 at_41 (ls' := #[.val (.int p0), .val (.int p1), .val (.int p2), .val (.int (1 : Int32)), .val (.ref z2), .val (.int (30 : Int32)), .val (.double (0 : UInt64)), .second, .unset, .unset, .unset, .unset]) rfl (pc' := 43) rfl ?_
    refine g_goto A242 at_43 (pc' := 100) rfl ?_
    refine g_aload A242 at_100 rfl rfl (pc' := 102) rfl ?_
    obtain ⟨cq244, kq244, q244a, q244b, q244c⟩ := isOf hZ e241 E82
    obtain ⟨_, _, ⟨T243, L243, k243, n243⟩, -, X243, ⟨L243c, hQ243, l243, y243, z243⟩, st243⟩ := X241.virtualBack hx (y := (⟨"com/example/tradewind/tradewind/benchmark/Zdt", "lower", "()[D"⟩ : MethodName)) (z := (⟨"com/example/tradewind/tradewind/benchmark/Zdt", "lower", "()[D"⟩ : MethodName)) hown (mvT hZ (hw _ (List.mem_of_getElem? (i := 4) rfl))) (mvT hZ (hw _ (List.mem_of_getElem? (i := 5) rfl))) (notFace_of_selects (args := #[]) (mvT hZ (hw _ (List.mem_of_getElem? (i := 7) rfl)))) (mvT hZ (hw _ (List.mem_of_getElem? (i := 7) rfl))) (mvT hZ (hw _ (List.mem_of_getElem? (i := 6) rfl))) (by decide) (backOf (W := 0) (rmB30 l Z a0 hw [] z2 (0 : UInt64) h0 n0 Z0 F83 F84) hZ (hw _ (List.mem_of_getElem? (i := 8) rfl)) (hw _ (List.mem_of_getElem? (i := 2) rfl)) (by decide) (by decide)) q244a q244c (g := (mkF m 102 #[.val (.int p0), .val (.int p1), .val (.int p2), .val (.int (1 : Int32)), .val (.ref z2), .val (.int (30 : Int32)), .val (.double (0 : UInt64)), .second, .unset, .unset, .unset, .unset] [(.ref z2)])) rfl (by rw [hml]; rfl) (Steps.refl _) (argsL := []) (rest := []) (lenOf pd_2 rfl) rfl (by show 2 * 0 + _ ≤ _; exact Nat.le_of_eq rfl) (hb hby at_102) (fun _ _ => ⟨rfl, e241, (by decide : 0 + 1 ≤ _), (by decide : 0 + 30 ≤ _)⟩)
    dsimp only [Pt.U, Pt.locs, Pt.cells, Pt.slots] at X243 l243 y243 z243 st243 hQ243
    subst l243 y243 z243
    obtain ⟨r245, rfl, Nq246, Kq247, gx248, V249⟩ := hQ243
    have N250 := Fr.app N0 Nq246
    refine Go.tr (g' := (mkF m 105 #[.val (.int p0), .val (.int p1), .val (.int p2), .val (.int (1 : Int32)), .val (.ref z2), .val (.int (30 : Int32)), .val (.double (0 : UInt64)), .second, .unset, .unset, .unset, .unset] [(.ref r245)])) st243 ?_
    have E251 : Exa Z T243.heap z1 "com/example/tradewind/tradewind/benchmark/Zdt" := Exa.keep E78 Kq247
    have F252 : Fld Z T243.heap z1 "com/example/tradewind/tradewind/benchmark/Zdt" "variables" "I" (.int (30 : Int32)) := Fld.keep F79 Kq247 nin0
    have F253 : Fld Z T243.heap z1 "com/example/tradewind/tradewind/benchmark/Zdt" "restLower" "D" (.double (0 : UInt64)) := Fld.keep F80 Kq247 nin0
    have E254 : Exa Z T243.heap z2 "com/example/tradewind/tradewind/benchmark/Zdt" := Exa.keep E82 Kq247
    have F255 : Fld Z T243.heap z2 "com/example/tradewind/tradewind/benchmark/Zdt" "variables" "I" (.int (30 : Int32)) := Fld.keep F83 Kq247 nin0
    have F256 : Fld Z T243.heap z2 "com/example/tradewind/tradewind/benchmark/Zdt" "restLower" "D" (.double (0 : UInt64)) := Fld.keep F84 Kq247 nin0
    have E257 : Exa Z T243.heap z3 "com/example/tradewind/tradewind/benchmark/Zdt" := Exa.keep E86 Kq247
    have F258 : Fld Z T243.heap z3 "com/example/tradewind/tradewind/benchmark/Zdt" "variables" "I" (.int (30 : Int32)) := Fld.keep F87 Kq247 nin0
    have F259 : Fld Z T243.heap z3 "com/example/tradewind/tradewind/benchmark/Zdt" "restLower" "D" (.double (0 : UInt64)) := Fld.keep F88 Kq247 nin0
    have E260 : Exa Z T243.heap z4 "com/example/tradewind/tradewind/benchmark/Zdt" := Exa.keep E90 Kq247
    have F261 : Fld Z T243.heap z4 "com/example/tradewind/tradewind/benchmark/Zdt" "variables" "I" (.int (10 : Int32)) := Fld.keep F91 Kq247 nin0
    have F262 : Fld Z T243.heap z4 "com/example/tradewind/tradewind/benchmark/Zdt" "restLower" "D" (.double (13840687554816376832 : UInt64)) := Fld.keep F92 Kq247 nin0
    have E263 : Exa Z T243.heap z6 "com/example/tradewind/tradewind/benchmark/Zdt" := Exa.keep E94 Kq247
    have F264 : Fld Z T243.heap z6 "com/example/tradewind/tradewind/benchmark/Zdt" "variables" "I" (.int (10 : Int32)) := Fld.keep F95 Kq247 nin0
    have F265 : Fld Z T243.heap z6 "com/example/tradewind/tradewind/benchmark/Zdt" "restLower" "D" (.double (0 : UInt64)) := Fld.keep F96 Kq247 nin0
    have Z266 : n0 ≤ T243.heap.size := Nat.le_trans Z0 Kq247.1
    have K267 : Keep h0 T243.heap [] := (Keep.refl h0 []).trans Kq247 all0
    have A268 := (⟨X243, hx, hby⟩ : Ax _ _ _ _ _ _ _ _ _ _ _ _ _ _ _)
    have g269 : n0 ≤ r245 := Nat.le_trans Z0 gx248
    have gh270 : h0.size ≤ r245 := Nat.le_trans (Keep.refl h0 []).1 gx248
    have ne271 : z1 ≠ r245 := Nat.ne_of_lt (Nat.lt_of_lt_of_le E78.lt gx248)
    have ne272 : z2 ≠ r245 := Nat.ne_of_lt (Nat.lt_of_lt_of_le E82.lt gx248)
    have ne273 : z3 ≠ r245 := Nat.ne_of_lt (Nat.lt_of_lt_of_le E86.lt gx248)
    have ne274 : z4 ≠ r245 := Nat.ne_of_lt (Nat.lt_of_lt_of_le E90.lt gx248)
    have ne275 : z6 ≠ r245 := Nat.ne_of_lt (Nat.lt_of_lt_of_le E94.lt gx248)
    refine g_astore A268 at_105 rfl (ls' := #[.val (.int p0), .val (.int p1), .val (.int p2), .val (.int (1 : Int32)), .val (.ref z2), .val (.int (30 : Int32)), .val (.double (0 : UInt64)), .second, .val (.ref r245), .unset, .unset, .unset]) rfl (pc' := 107) rfl ?_
    refine g_aload A268 at_107 rfl rfl (pc' := 109) rfl ?_
    refine g_alen A268 hZ rfl V249 at_109 (z := (30 : Int32)) rfl (pc' := 110) rfl ?_
    refine g_iload A268 at_110 rfl (pc' := 112) rfl ?_
    refine g_icY A268 at_112 (c2_eq_t rfl) (pc' := 117) rfl ?_
    refine g_iloadN A268 at_117 rfl (pc' := 118) rfl ?_
    refine g_ldcI A268 hZ hown (hw _ (List.mem_of_getElem? (i := 0) rfl)) at_118 (pc' := 120) rfl ?_
    refine g_iand A268 at_120 (pc' := 121) rfl ?_
    refine g_iload A268 at_121 rfl (pc' := 123) rfl ?_
    refine g_irem A268 at_123 (by decide) (pc' := 124) rfl ?_
    obtain ⟨i276, hi277, hk278⟩ := own_mod p1 30 (by decide) (by decide)
    have hk279 : ((p1 &&& (2147483647 : Int32)) % (30 : Int32)) = Int32.ofNat i276 := hk278
    rw [hk279]
    refine g_istore A268 at_124 (ls' := #[.val (.int p0), .val (.int p1), .val (.int p2), .val (.int (1 : Int32)), .val (.ref z2), .val (.int (30 : Int32)), .val (.double (0 : UInt64)), .second, .val (.ref r245), .val (.int (Int32.ofNat i276)), .unset, .unset]) rfl (pc' := 126) rfl ?_
    refine g_iloadN A268 at_126 rfl (pc' := 127) rfl ?_
    refine g_ldcI A268 hZ hown (hw _ (List.mem_of_getElem? (i := 0) rfl)) at_127 (pc' := 129) rfl ?_
    refine g_iand A268 at_129 (pc' := 130) rfl ?_
    refine g_iload A268 at_130 rfl (pc' := 132) rfl ?_
    refine g_irem A268 at_132 (by decide) (pc' := 133) rfl ?_
    obtain ⟨i280, hi281, hk282⟩ := own_mod p2 30 (by decide) (by decide)
    have hk283 : ((p2 &&& (2147483647 : Int32)) % (30 : Int32)) = Int32.ofNat i280 := hk282
    rw [hk283]
    refine g_istore A268 at_133 (ls' := #[.val (.int p0), .val (.int p1), .val (.int p2), .val (.int (1 : Int32)), .val (.ref z2), .val (.int (30 : Int32)), .val (.double (0 : UInt64)), .second, .val (.ref r245), .val (.int (Int32.ofNat i276)), .val (.int (Int32.ofNat i280)), .unset]) rfl (pc' := 135) rfl ?_
    refine g_aload A268 at_135 rfl rfl (pc' := 137) rfl ?_
    refine g_iload A268 at_137 rfl (pc' := 139) rfl ?_
    refine g_daload A268 hZ rfl V249 (i := i276) hi277 rfl (x := (own_u (0 : UInt64) i276)) rfl at_139 (pc' := 140) rfl ?_
    refine g_iload A268 at_140 rfl (pc' := 142) rfl ?_
    refine g_dload A268 at_142 rfl (pc' := 144) rfl ?_
    obtain ⟨_, _, ⟨T284, L284, k284, n284⟩, -, X284, ⟨L284c, hQ284, l284, y284, z284⟩, st284⟩ := Jvm.LawKit.callS X243 hx (y := (⟨"com/example/tradewind/tradewind/benchmark/ZdtLowerPinLaw", "expected", "(ID)D"⟩ : MethodName)) hown (mvT hZ (hw _ (List.mem_of_getElem? (i := 21) rfl))) (mvT hZ (hw _ (List.mem_of_getElem? (i := 22) rfl))) (mvT hZ (hw _ (List.mem_of_getElem? (i := 23) rfl))) (mvT hZ (hw _ (List.mem_of_getElem? (i := 24) rfl))) (by decide) (backOf (W := 2) (rm4 l Z a0 hw [] (Int32.ofNat i276) (0 : UInt64) T243.heap n0 Z266 ) hZ (hw _ (List.mem_of_getElem? (i := 24) rfl)) (hw _ (List.mem_of_getElem? (i := 23) rfl)) (by decide) (by decide)) (g := (mkF m 144 #[.val (.int p0), .val (.int p1), .val (.int p2), .val (.int (1 : Int32)), .val (.ref z2), .val (.int (30 : Int32)), .val (.double (0 : UInt64)), .second, .val (.ref r245), .val (.int (Int32.ofNat i276)), .val (.int (Int32.ofNat i280)), .unset] [(.double (0 : UInt64)), (.int (Int32.ofNat i276)), (.double (own_u (0 : UInt64) i276))])) rfl (by rw [hml]; rfl) (argsL := [(.int (Int32.ofNat i276)), (.double (0 : UInt64))]) (rest := [(.double (own_u (0 : UInt64) i276))]) (lenOf pd_3 rfl) rfl (by show 2 * 0 + _ ≤ _; exact Nat.le_of_eq rfl) (hb hby at_144) (fun _ _ => ⟨rfl, rfl, (by decide : 1 + 0 ≤ _), (by decide : 30 + 0 ≤ _)⟩)
    dsimp only [Pt.U, Pt.locs, Pt.cells, Pt.slots] at X284 l284 y284 z284 st284 hQ284
    subst l284 y284 z284
    obtain ⟨rfl, Nq285, Kq286⟩ := hQ284
    have N287 := Fr.app N250 Nq285
    refine Go.of (g' := (mkF m 147 #[.val (.int p0), .val (.int p1), .val (.int p2), .val (.int (1 : Int32)), .val (.ref z2), .val (.int (30 : Int32)), .val (.double (0 : UInt64)), .second, .val (.ref r245), .val (.int (Int32.ofNat i276)), .val (.int (Int32.ofNat i280)), .unset] [(.double (own_r_rm4 (Int32.ofNat i276) (0 : UInt64))), (.double (own_u (0 : UInt64) i276))])) st284 ?_
    have e288 : T284.heap = T243.heap := Kq286
    have A289 := (⟨X284, hx, hby⟩ : Ax _ _ _ _ _ _ _ _ _ _ _ _ _ _ _)
    refine g_dcmp A289 at_147 (pc' := 148) rfl ?_
    refine g_ifN A289 at_148 (d_l_ne_f (own_low i276 (by omega))) (pc' := 151) rfl ?_
    refine g_aload A289 at_151 rfl rfl (pc' := 153) rfl ?_
    refine g_iload A289 at_153 rfl (pc' := 155) rfl ?_
    refine g_daload A289 hZ e288 V249 (i := i280) hi281 rfl (x := (own_u (0 : UInt64) i280)) rfl at_155 (pc' := 156) rfl ?_
    refine g_iload A289 at_156 rfl (pc' := 158) rfl ?_
    refine g_dload A289 at_158 rfl (pc' := 160) rfl ?_
    obtain ⟨_, _, ⟨T290, L290, k290, n290⟩, -, X290, ⟨L290c, hQ290, l290, y290, z290⟩, st290⟩ := Jvm.LawKit.callS X284 hx (y := (⟨"com/example/tradewind/tradewind/benchmark/ZdtLowerPinLaw", "expected", "(ID)D"⟩ : MethodName)) hown (mvT hZ (hw _ (List.mem_of_getElem? (i := 21) rfl))) (mvT hZ (hw _ (List.mem_of_getElem? (i := 22) rfl))) (mvT hZ (hw _ (List.mem_of_getElem? (i := 23) rfl))) (mvT hZ (hw _ (List.mem_of_getElem? (i := 24) rfl))) (by decide) (backOf (W := 2) (rm4 l Z a0 hw [] (Int32.ofNat i280) (0 : UInt64) T243.heap n0 Z266 ) hZ (hw _ (List.mem_of_getElem? (i := 24) rfl)) (hw _ (List.mem_of_getElem? (i := 23) rfl)) (by decide) (by decide)) (g := (mkF m 160 #[.val (.int p0), .val (.int p1), .val (.int p2), .val (.int (1 : Int32)), .val (.ref z2), .val (.int (30 : Int32)), .val (.double (0 : UInt64)), .second, .val (.ref r245), .val (.int (Int32.ofNat i276)), .val (.int (Int32.ofNat i280)), .unset] [(.double (0 : UInt64)), (.int (Int32.ofNat i280)), (.double (own_u (0 : UInt64) i280))])) rfl (by rw [hml]; rfl) (argsL := [(.int (Int32.ofNat i280)), (.double (0 : UInt64))]) (rest := [(.double (own_u (0 : UInt64) i280))]) (lenOf pd_3 rfl) rfl (by show 2 * 0 + _ ≤ _; exact Nat.le_of_eq rfl) (hb hby at_160) (fun _ _ => ⟨rfl, e288, (by decide : 1 + 0 ≤ _), (by decide : 30 + 0 ≤ _)⟩)
    dsimp only [Pt.U, Pt.locs, Pt.cells, Pt.slots] at X290 l290 y290 z290 st290 hQ290
    subst l290 y290 z290
    obtain ⟨rfl, Nq291, Kq292⟩ := hQ290
    have N293 := Fr.app N287 Nq291
    refine Go.of (g' := (mkF m 163 #[.val (.int p0), .val (.int p1), .val (.int p2), .val (.int (1 : Int32)), .val (.ref z2), .val (.int (30 : Int32)), .val (.double (0 : UInt64)), .second, .val (.ref r245), .val (.int (Int32.ofNat i276)), .val (.int (Int32.ofNat i280)), .unset] [(.double (own_r_rm4 (Int32.ofNat i280) (0 : UInt64))), (.double (own_u (0 : UInt64) i280))])) st290 ?_
    have e294 : T290.heap = T243.heap := Kq292
    have A295 := (⟨X290, hx, hby⟩ : Ax _ _ _ _ _ _ _ _ _ _ _ _ _ _ _)
    refine g_dcmp A295 at_163 (pc' := 164) rfl ?_
    refine g_ifY A295 at_164 (d_l_eq_t (own_low i280 (by omega))) (pc' := 169) rfl ?_
    refine g_aload A295 at_169 rfl rfl (pc' := 171) rfl ?_
    refine g_iload A295 at_171 rfl (pc' := 173) rfl ?_
    refine g_ldcD A295 hZ hown (hw _ (List.mem_of_getElem? (i := 25) rfl)) at_173 (pc' := 176) rfl ?_
    obtain ⟨T296, h296, A296, e296, W296, st296⟩ := s_dastore A295 hZ e294 (ls := #[.val (.int p0), .val (.int p1), .val (.int p2), .val (.int (1 : Int32)), .val (.ref z2), .val (.int (30 : Int32)), .val (.double (0 : UInt64)), .second, .val (.ref r245), .val (.int (Int32.ofNat i276)), .val (.int (Int32.ofNat i280)), .unset]) (st := []) (x := (4619567317775286272 : UInt64)) V249 (i := i276) hi277 (j := (Int32.ofNat i276)) rfl at_176 (pc' := 177) rfl
    have N297 := Fr.snoc A296.1 N293 g269
    have K298 : Keep h0 h296 [] := K267.wr W296 (Or.inr gh270)
    have E299 : Exa Z h296 z1 "com/example/tradewind/tradewind/benchmark/Zdt" := Exa.wr W296 E251
    have F300 : Fld Z h296 z1 "com/example/tradewind/tradewind/benchmark/Zdt" "variables" "I" (.int (30 : Int32)) := Fld.other W296 F252 (Or.inl ne271)
    have F301 : Fld Z h296 z1 "com/example/tradewind/tradewind/benchmark/Zdt" "restLower" "D" (.double (0 : UInt64)) := Fld.other W296 F253 (Or.inl ne271)
    have E302 : Exa Z h296 z2 "com/example/tradewind/tradewind/benchmark/Zdt" := Exa.wr W296 E254
    have F303 : Fld Z h296 z2 "com/example/tradewind/tradewind/benchmark/Zdt" "variables" "I" (.int (30 : Int32)) := Fld.other W296 F255 (Or.inl ne272)
    have F304 : Fld Z h296 z2 "com/example/tradewind/tradewind/benchmark/Zdt" "restLower" "D" (.double (0 : UInt64)) := Fld.other W296 F256 (Or.inl ne272)
    have E305 : Exa Z h296 z3 "com/example/tradewind/tradewind/benchmark/Zdt" := Exa.wr W296 E257
    have F306 : Fld Z h296 z3 "com/example/tradewind/tradewind/benchmark/Zdt" "variables" "I" (.int (30 : Int32)) := Fld.other W296 F258 (Or.inl ne273)
    have F307 : Fld Z h296 z3 "com/example/tradewind/tradewind/benchmark/Zdt" "restLower" "D" (.double (0 : UInt64)) := Fld.other W296 F259 (Or.inl ne273)
    have E308 : Exa Z h296 z4 "com/example/tradewind/tradewind/benchmark/Zdt" := Exa.wr W296 E260
    have F309 : Fld Z h296 z4 "com/example/tradewind/tradewind/benchmark/Zdt" "variables" "I" (.int (10 : Int32)) := Fld.other W296 F261 (Or.inl ne274)
    have F310 : Fld Z h296 z4 "com/example/tradewind/tradewind/benchmark/Zdt" "restLower" "D" (.double (13840687554816376832 : UInt64)) := Fld.other W296 F262 (Or.inl ne274)
    have E311 : Exa Z h296 z6 "com/example/tradewind/tradewind/benchmark/Zdt" := Exa.wr W296 E263
    have F312 : Fld Z h296 z6 "com/example/tradewind/tradewind/benchmark/Zdt" "variables" "I" (.int (10 : Int32)) := Fld.other W296 F264 (Or.inl ne275)
    have F313 : Fld Z h296 z6 "com/example/tradewind/tradewind/benchmark/Zdt" "restLower" "D" (.double (0 : UInt64)) := Fld.other W296 F265 (Or.inl ne275)
    have V314 : Dar Z h296 r245 .double 30 (fun j => if j = i276 then .double (4619567317775286272 : UInt64) else (fun j => .double (own_u (0 : UInt64) j)) j) := Dar.set V249 W296 (fun _ _ => rfl)
    have Z315 : n0 ≤ h296.size := by rw [W296.size]; exact Z266
    refine st296 ?_
    refine g_aload A296 at_177 rfl rfl (pc' := 179) rfl ?_
    refine g_iload A296 at_179 rfl (pc' := 181) rfl ?_
    refine g_ldcD A296 hZ hown (hw _ (List.mem_of_getElem? (i := 25) rfl)) at_181 (pc' := 184) rfl ?_
    obtain ⟨T316, h316, A316, e316, W316, st316⟩ := s_dastore A296 hZ e296 (ls := #[.val (.int p0), .val (.int p1), .val (.int p2), .val (.int (1 : Int32)), .val (.ref z2), .val (.int (30 : Int32)), .val (.double (0 : UInt64)), .second, .val (.ref r245), .val (.int (Int32.ofNat i276)), .val (.int (Int32.ofNat i280)), .unset]) (st := []) (x := (4619567317775286272 : UInt64)) V314 (i := i280) hi281 (j := (Int32.ofNat i280)) rfl at_184 (pc' := 185) rfl
    have N317 := Fr.snoc A316.1 N297 g269
    have K318 : Keep h0 h316 [] := K298.wr W316 (Or.inr gh270)
    have E319 : Exa Z h316 z1 "com/example/tradewind/tradewind/benchmark/Zdt" := Exa.wr W316 E299
    have F320 : Fld Z h316 z1 "com/example/tradewind/tradewind/benchmark/Zdt" "variables" "I" (.int (30 : Int32)) := Fld.other W316 F300 (Or.inl ne271)
    have F321 : Fld Z h316 z1 "com/example/tradewind/tradewind/benchmark/Zdt" "restLower" "D" (.double (0 : UInt64)) := Fld.other W316 F301 (Or.inl ne271)
    have E322 : Exa Z h316 z2 "com/example/tradewind/tradewind/benchmark/Zdt" := Exa.wr W316 E302
    have F323 : Fld Z h316 z2 "com/example/tradewind/tradewind/benchmark/Zdt" "variables" "I" (.int (30 : Int32)) := Fld.other W316 F303 (Or.inl ne272)
    have F324 : Fld Z h316 z2 "com/example/tradewind/tradewind/benchmark/Zdt" "restLower" "D" (.double (0 : UInt64)) := Fld.other W316 F304 (Or.inl ne272)
    have E325 : Exa Z h316 z3 "com/example/tradewind/tradewind/benchmark/Zdt" := Exa.wr W316 E305
    have F326 : Fld Z h316 z3 "com/example/tradewind/tradewind/benchmark/Zdt" "variables" "I" (.int (30 : Int32)) := Fld.other W316 F306 (Or.inl ne273)
    have F327 : Fld Z h316 z3 "com/example/tradewind/tradewind/benchmark/Zdt" "restLower" "D" (.double (0 : UInt64)) := Fld.other W316 F307 (Or.inl ne273)
    have E328 : Exa Z h316 z4 "com/example/tradewind/tradewind/benchmark/Zdt" := Exa.wr W316 E308
    have F329 : Fld Z h316 z4 "com/example/tradewind/tradewind/benchmark/Zdt" "variables" "I" (.int (10 : Int32)) := Fld.other W316 F309 (Or.inl ne274)
    have F330 : Fld Z h316 z4 "com/example/tradewind/tradewind/benchmark/Zdt" "restLower" "D" (.double (13840687554816376832 : UInt64)) := Fld.other W316 F310 (Or.inl ne274)
    have E331 : Exa Z h316 z6 "com/example/tradewind/tradewind/benchmark/Zdt" := Exa.wr W316 E311
    have F332 : Fld Z h316 z6 "com/example/tradewind/tradewind/benchmark/Zdt" "variables" "I" (.int (10 : Int32)) := Fld.other W316 F312 (Or.inl ne275)
    have F333 : Fld Z h316 z6 "com/example/tradewind/tradewind/benchmark/Zdt" "restLower" "D" (.double (0 : UInt64)) := Fld.other W316 F313 (Or.inl ne275)
    have V334 : Dar Z h316 r245 .double 30 (fun j => if j = i280 then .double (4619567317775286272 : UInt64) else (fun j => if j = i276 then .double (4619567317775286272 : UInt64) else (fun j => .double (own_u (0 : UInt64) j)) j) j) := Dar.set V314 W316 (fun _ _ => rfl)
    have Z335 : n0 ≤ h316.size := by rw [W316.size]; exact Z315
    refine st316 ?_
    refine g_aload A316 at_185 rfl rfl (pc' := 187) rfl ?_
    obtain ⟨cq337, kq337, q337a, q337b, q337c⟩ := isOf hZ e316 E322
    obtain ⟨_, _, ⟨T336, L336, k336, n336⟩, -, X336, ⟨L336c, hQ336, l336, y336, z336⟩, st336⟩ := A316.1.virtualBack hx (y := (⟨"com/example/tradewind/tradewind/benchmark/Zdt", "lower", "()[D"⟩ : MethodName)) (z := (⟨"com/example/tradewind/tradewind/benchmark/Zdt", "lower", "()[D"⟩ : MethodName)) hown (mvT hZ (hw _ (List.mem_of_getElem? (i := 4) rfl))) (mvT hZ (hw _ (List.mem_of_getElem? (i := 5) rfl))) (notFace_of_selects (args := #[]) (mvT hZ (hw _ (List.mem_of_getElem? (i := 7) rfl)))) (mvT hZ (hw _ (List.mem_of_getElem? (i := 7) rfl))) (mvT hZ (hw _ (List.mem_of_getElem? (i := 6) rfl))) (by decide) (backOf (W := 0) (rmB30 l Z a0 hw [] z2 (0 : UInt64) h316 n0 Z335 F323 F324) hZ (hw _ (List.mem_of_getElem? (i := 8) rfl)) (hw _ (List.mem_of_getElem? (i := 2) rfl)) (by decide) (by decide)) q337a q337c (g := (mkF m 187 #[.val (.int p0), .val (.int p1), .val (.int p2), .val (.int (1 : Int32)), .val (.ref z2), .val (.int (30 : Int32)), .val (.double (0 : UInt64)), .second, .val (.ref r245), .val (.int (Int32.ofNat i276)), .val (.int (Int32.ofNat i280)), .unset] [(.ref z2)])) rfl (by rw [hml]; rfl) (Steps.refl _) (argsL := []) (rest := []) (lenOf pd_2 rfl) rfl (by show 2 * 0 + _ ≤ _; exact Nat.le_of_eq rfl) (hb hby at_187) (fun _ _ => ⟨rfl, e316, (by decide : 1 + 1 ≤ _), (by decide : 30 + 30 ≤ _)⟩)
    dsimp only [Pt.U, Pt.locs, Pt.cells, Pt.slots] at X336 l336 y336 z336 st336 hQ336
    subst l336 y336 z336
    obtain ⟨r338, rfl, Nq339, Kq340, gx341, V342⟩ := hQ336
    have N343 := Fr.app N317 Nq339
    refine Go.tr (g' := (mkF m 190 #[.val (.int p0), .val (.int p1), .val (.int p2), .val (.int (1 : Int32)), .val (.ref z2), .val (.int (30 : Int32)), .val (.double (0 : UInt64)), .second, .val (.ref r245), .val (.int (Int32.ofNat i276)), .val (.int (Int32.ofNat i280)), .unset] [(.ref r338)])) st336 ?_
    have E344 : Exa Z T336.heap z1 "com/example/tradewind/tradewind/benchmark/Zdt" := Exa.keep E319 Kq340
    have F345 : Fld Z T336.heap z1 "com/example/tradewind/tradewind/benchmark/Zdt" "variables" "I" (.int (30 : Int32)) := Fld.keep F320 Kq340 nin0
    have F346 : Fld Z T336.heap z1 "com/example/tradewind/tradewind/benchmark/Zdt" "restLower" "D" (.double (0 : UInt64)) := Fld.keep F321 Kq340 nin0
    have E347 : Exa Z T336.heap z2 "com/example/tradewind/tradewind/benchmark/Zdt" := Exa.keep E322 Kq340
    have F348 : Fld Z T336.heap z2 "com/example/tradewind/tradewind/benchmark/Zdt" "variables" "I" (.int (30 : Int32)) := Fld.keep F323 Kq340 nin0
    have F349 : Fld Z T336.heap z2 "com/example/tradewind/tradewind/benchmark/Zdt" "restLower" "D" (.double (0 : UInt64)) := Fld.keep F324 Kq340 nin0
    have E350 : Exa Z T336.heap z3 "com/example/tradewind/tradewind/benchmark/Zdt" := Exa.keep E325 Kq340
    have F351 : Fld Z T336.heap z3 "com/example/tradewind/tradewind/benchmark/Zdt" "variables" "I" (.int (30 : Int32)) := Fld.keep F326 Kq340 nin0
    have F352 : Fld Z T336.heap z3 "com/example/tradewind/tradewind/benchmark/Zdt" "restLower" "D" (.double (0 : UInt64)) := Fld.keep F327 Kq340 nin0
    have E353 : Exa Z T336.heap z4 "com/example/tradewind/tradewind/benchmark/Zdt" := Exa.keep E328 Kq340
    have F354 : Fld Z T336.heap z4 "com/example/tradewind/tradewind/benchmark/Zdt" "variables" "I" (.int (10 : Int32)) := Fld.keep F329 Kq340 nin0
    have F355 : Fld Z T336.heap z4 "com/example/tradewind/tradewind/benchmark/Zdt" "restLower" "D" (.double (13840687554816376832 : UInt64)) := Fld.keep F330 Kq340 nin0
    have E356 : Exa Z T336.heap z6 "com/example/tradewind/tradewind/benchmark/Zdt" := Exa.keep E331 Kq340
    have F357 : Fld Z T336.heap z6 "com/example/tradewind/tradewind/benchmark/Zdt" "variables" "I" (.int (10 : Int32)) := Fld.keep F332 Kq340 nin0
    have F358 : Fld Z T336.heap z6 "com/example/tradewind/tradewind/benchmark/Zdt" "restLower" "D" (.double (0 : UInt64)) := Fld.keep F333 Kq340 nin0
    have V359 : Dar Z T336.heap r245 .double 30 (fun j => if j = i280 then .double (4619567317775286272 : UInt64) else (fun j => if j = i276 then .double (4619567317775286272 : UInt64) else (fun j => .double (own_u (0 : UInt64) j)) j) j) := Dar.keep V334 Kq340 nin0
    have Z360 : n0 ≤ T336.heap.size := Nat.le_trans Z335 Kq340.1
    have K361 : Keep h0 T336.heap [] := K318.trans Kq340 all0
    have A362 := (⟨X336, hx, hby⟩ : Ax _ _ _ _ _ _ _ _ _ _ _ _ _ _ _)
    have g363 : n0 ≤ r338 := Nat.le_trans Z335 gx341
    have gh364 : h0.size ≤ r338 := Nat.le_trans K318.1 gx341
    have ne365 : r245 ≠ r338 := Nat.ne_of_lt (Nat.lt_of_lt_of_le V334.lt gx341)
    have ne366 : z1 ≠ r338 := Nat.ne_of_lt (Nat.lt_of_lt_of_le E319.lt gx341)
    have ne367 : z2 ≠ r338 := Nat.ne_of_lt (Nat.lt_of_lt_of_le E322.lt gx341)
    have ne368 : z3 ≠ r338 := Nat.ne_of_lt (Nat.lt_of_lt_of_le E325.lt gx341)
    have ne369 : z4 ≠ r338 := Nat.ne_of_lt (Nat.lt_of_lt_of_le E328.lt gx341)
    have ne370 : z6 ≠ r338 := Nat.ne_of_lt (Nat.lt_of_lt_of_le E331.lt gx341)
    refine g_astore A362 at_190 rfl (ls' := #[.val (.int p0), .val (.int p1), .val (.int p2), .val (.int (1 : Int32)), .val (.ref z2), .val (.int (30 : Int32)), .val (.double (0 : UInt64)), .second, .val (.ref r245), .val (.int (Int32.ofNat i276)), .val (.int (Int32.ofNat i280)), .val (.ref r338)]) rfl (pc' := 192) rfl ?_
    refine g_aload A362 at_192 rfl rfl (pc' := 194) rfl ?_
    refine g_alen A362 hZ rfl V342 at_194 (z := (30 : Int32)) rfl (pc' := 195) rfl ?_
    refine g_iload A362 at_195 rfl (pc' := 197) rfl ?_
    refine g_icY A362 at_197 (c2_eq_t rfl) (pc' := 202) rfl ?_
    refine g_aload A362 at_202 rfl rfl (pc' := 204) rfl ?_
    refine g_iload A362 at_204 rfl (pc' := 206) rfl ?_
    refine g_daload A362 hZ rfl V342 (i := i276) hi277 rfl (x := (own_u (0 : UInt64) i276)) rfl at_206 (pc' := 207) rfl ?_
    refine g_iload A362 at_207 rfl (pc' := 209) rfl ?_
    refine g_dload A362 at_209 rfl (pc' := 211) rfl ?_
    obtain ⟨_, _, ⟨T371, L371, k371, n371⟩, -, X371, ⟨L371c, hQ371, l371, y371, z371⟩, st371⟩ := Jvm.LawKit.callS X336 hx (y := (⟨"com/example/tradewind/tradewind/benchmark/ZdtLowerPinLaw", "expected", "(ID)D"⟩ : MethodName)) hown (mvT hZ (hw _ (List.mem_of_getElem? (i := 21) rfl))) (mvT hZ (hw _ (List.mem_of_getElem? (i := 22) rfl))) (mvT hZ (hw _ (List.mem_of_getElem? (i := 23) rfl))) (mvT hZ (hw _ (List.mem_of_getElem? (i := 24) rfl))) (by decide) (backOf (W := 2) (rm4 l Z a0 hw [] (Int32.ofNat i276) (0 : UInt64) T336.heap n0 Z360 ) hZ (hw _ (List.mem_of_getElem? (i := 24) rfl)) (hw _ (List.mem_of_getElem? (i := 23) rfl)) (by decide) (by decide)) (g := (mkF m 211 #[.val (.int p0), .val (.int p1), .val (.int p2), .val (.int (1 : Int32)), .val (.ref z2), .val (.int (30 : Int32)), .val (.double (0 : UInt64)), .second, .val (.ref r245), .val (.int (Int32.ofNat i276)), .val (.int (Int32.ofNat i280)), .val (.ref r338)] [(.double (0 : UInt64)), (.int (Int32.ofNat i276)), (.double (own_u (0 : UInt64) i276))])) rfl (by rw [hml]; rfl) (argsL := [(.int (Int32.ofNat i276)), (.double (0 : UInt64))]) (rest := [(.double (own_u (0 : UInt64) i276))]) (lenOf pd_3 rfl) rfl (by show 2 * 0 + _ ≤ _; exact Nat.le_of_eq rfl) (hb hby at_211) (fun _ _ => ⟨rfl, rfl, (by decide : 2 + 0 ≤ _), (by decide : 60 + 0 ≤ _)⟩)
    dsimp only [Pt.U, Pt.locs, Pt.cells, Pt.slots] at X371 l371 y371 z371 st371 hQ371
    subst l371 y371 z371
    obtain ⟨rfl, Nq372, Kq373⟩ := hQ371
    have N374 := Fr.app N343 Nq372
    refine Go.of (g' := (mkF m 214 #[.val (.int p0), .val (.int p1), .val (.int p2), .val (.int (1 : Int32)), .val (.ref z2), .val (.int (30 : Int32)), .val (.double (0 : UInt64)), .second, .val (.ref r245), .val (.int (Int32.ofNat i276)), .val (.int (Int32.ofNat i280)), .val (.ref r338)] [(.double (own_r_rm4 (Int32.ofNat i276) (0 : UInt64))), (.double (own_u (0 : UInt64) i276))])) st371 ?_
    have e375 : T371.heap = T336.heap := Kq373
    have A376 := (⟨X371, hx, hby⟩ : Ax _ _ _ _ _ _ _ _ _ _ _ _ _ _ _)
    refine g_dcmp A376 at_214 (pc' := 215) rfl ?_
    refine g_ifN A376 at_215 (d_l_ne_f (own_low i276 (by omega))) (pc' := 218) rfl ?_
    refine g_aload A376 at_218 rfl rfl (pc' := 220) rfl ?_
    refine g_iload A376 at_220 rfl (pc' := 222) rfl ?_
    refine g_daload A376 hZ e375 V342 (i := i280) hi281 rfl (x := (own_u (0 : UInt64) i280)) rfl at_222 (pc' := 223) rfl ?_
    refine g_iload A376 at_223 rfl (pc' := 225) rfl ?_
    refine g_dload A376 at_225 rfl (pc' := 227) rfl ?_
    obtain ⟨_, _, ⟨T377, L377, k377, n377⟩, -, X377, ⟨L377c, hQ377, l377, y377, z377⟩, st377⟩ := Jvm.LawKit.callS X371 hx (y := (⟨"com/example/tradewind/tradewind/benchmark/ZdtLowerPinLaw", "expected", "(ID)D"⟩ : MethodName)) hown (mvT hZ (hw _ (List.mem_of_getElem? (i := 21) rfl))) (mvT hZ (hw _ (List.mem_of_getElem? (i := 22) rfl))) (mvT hZ (hw _ (List.mem_of_getElem? (i := 23) rfl))) (mvT hZ (hw _ (List.mem_of_getElem? (i := 24) rfl))) (by decide) (backOf (W := 2) (rm4 l Z a0 hw [] (Int32.ofNat i280) (0 : UInt64) T336.heap n0 Z360 ) hZ (hw _ (List.mem_of_getElem? (i := 24) rfl)) (hw _ (List.mem_of_getElem? (i := 23) rfl)) (by decide) (by decide)) (g := (mkF m 227 #[.val (.int p0), .val (.int p1), .val (.int p2), .val (.int (1 : Int32)), .val (.ref z2), .val (.int (30 : Int32)), .val (.double (0 : UInt64)), .second, .val (.ref r245), .val (.int (Int32.ofNat i276)), .val (.int (Int32.ofNat i280)), .val (.ref r338)] [(.double (0 : UInt64)), (.int (Int32.ofNat i280)), (.double (own_u (0 : UInt64) i280))])) rfl (by rw [hml]; rfl) (argsL := [(.int (Int32.ofNat i280)), (.double (0 : UInt64))]) (rest := [(.double (own_u (0 : UInt64) i280))]) (lenOf pd_3 rfl) rfl (by show 2 * 0 + _ ≤ _; exact Nat.le_of_eq rfl) (hb hby at_227) (fun _ _ => ⟨rfl, e375, (by decide : 2 + 0 ≤ _), (by decide : 60 + 0 ≤ _)⟩)
    dsimp only [Pt.U, Pt.locs, Pt.cells, Pt.slots] at X377 l377 y377 z377 st377 hQ377
    subst l377 y377 z377
    obtain ⟨rfl, Nq378, Kq379⟩ := hQ377
    have N380 := Fr.app N374 Nq378
    refine Go.of (g' := (mkF m 230 #[.val (.int p0), .val (.int p1), .val (.int p2), .val (.int (1 : Int32)), .val (.ref z2), .val (.int (30 : Int32)), .val (.double (0 : UInt64)), .second, .val (.ref r245), .val (.int (Int32.ofNat i276)), .val (.int (Int32.ofNat i280)), .val (.ref r338)] [(.double (own_r_rm4 (Int32.ofNat i280) (0 : UInt64))), (.double (own_u (0 : UInt64) i280))])) st377 ?_
    have e381 : T377.heap = T336.heap := Kq379
    have A382 := (⟨X377, hx, hby⟩ : Ax _ _ _ _ _ _ _ _ _ _ _ _ _ _ _)
    refine g_dcmp A382 at_230 (pc' := 231) rfl ?_
    refine g_ifN A382 at_231 (d_l_ne_f (own_low i280 (by omega))) (pc' := 234) rfl ?_
    refine g_iconst A382 at_234 (v := (1 : Int32)) rfl (pc' := 235) rfl ?_
    refine g_goto A382 at_235 (pc' := 239) rfl ?_
    exact g_ret (Q := Q0 Z p0 p1 p2 z1 z2 z3 z4 z6 h0 n0) A382 at_239 Bd.notSynchronized Bd.returns rfl (Or.inl ⟨rfl, by simp, _, rfl⟩) (by decide) (by decide) (by rw [e381]; exact ⟨rfl, N380⟩)
  · skip
    rw [hg98]
    refine g_istoreN A0 at_6 (ls' := #[.val (.int p0), .val (.int p1), .val (.int p2), .val (.int (2 : Int32)), .unset, .unset, .unset, .unset, .unset, .unset, .unset, .unset]) rfl (pc' := 7) rfl ?_
    refine g_iloadN A0 at_7 rfl (pc' := 8) rfl ?_
    refine g_ifY A0 at_8 (c0_ne_t (by decide)) (pc' := 26) rfl ?_
    refine g_iloadN A0 at_26 rfl (pc' := 27) rfl ?_
    refine g_iconst A0 at_27 (v := (1 : Int32)) rfl (pc' := 28) rfl ?_
    refine g_icY A0 at_28 (c2_ne_t (by decide)) (pc' := 46) rfl ?_
    refine g_iloadN A0 at_46 rfl (pc' := 47) rfl ?_
    refine g_iconst A0 at_47 (v := (2 : Int32)) rfl (pc' := 48) rfl ?_
    refine g_icN A0 at_48 (c2_ne_f rfl) (pc' := 51) rfl ?_
    obtain ⟨T383, X383, e383, st383⟩ := getS X0 hx hZ hown (host := "") (hw _ (List.mem_of_getElem? (i := 33) rfl)) Via.refl e0 S85 (g := (mkF m 51 #[.val (.int p0), .val (.int p1), .val (.int p2), .val (.int (2 : Int32)), .unset, .unset, .unset, .unset, .unset, .unset, .unset, .unset] [])) rfl (hb hby at_51)
    refine Go.of (g' := (mkF m 54 #[.val (.int p0), .val (.int p1), .val (.int p2), .val (.int (2 : Int32)), .unset, .unset, .unset, .unset, .unset, .unset, .unset, .unset] [(.ref z3)])) st383 ?_
    have A384 := (⟨X383, hx, hby⟩ : Ax _ _ _ _ _ _ _ _ _ _ _ _ _ _ _)
    refine g_astore A384 at_54 rfl (ls' := #[.val (.int p0), .val (.int p1), .val (.int p2), .val (.int (2 : Int32)), .val (.ref z3), .unset, .unset, .unset, .unset, .unset, .unset, .unset]) rfl (pc' := 56) rfl ?_
    refine g_bipush A384 at_56 (v := (30 : Int32)) rfl (pc' := 58) rfl ?_
    refine g_istore A384 at_58 (ls' := #[.val (.int p0), .val (.int p1), .val (.int p2), .val (.int (2 : Int32)), .val (.ref z3), .val (.int (30 : Int32)), .unset, .unset, .unset, .unset, .unset, .unset]) rfl (pc' := 60) rfl ?_
    refine g_dconst0 A384 at_60 (pc' := 61) rfl ?_
    refine g_dstore A384 at_61 (ls' := #[.val (.int p0), .val (.int p1), .val (.int p2), .val (.int (2 : Int32)), .val (.ref z3), .val (.int (30 : Int32)), .val (.double (0 : UInt64)), .second, .unset, .unset, .unset, .unset]) rfl (pc' := 63) rfl ?_
    refine g_goto A384 at_63 (pc' := 100) rfl ?_
    refine g_aload A384 at_100 rfl rfl (pc' := 102) rfl ?_
    obtain ⟨cq386, kq386, q386a, q386b, q386c⟩ := isOf hZ e383 E86
    obtain ⟨_, _, ⟨T385, L385, k385, n385⟩, -, X385, ⟨L385c, hQ385, l385, y385, z385⟩, st385⟩ := X383.virtualBack hx (y := (⟨"com/example/tradewind/tradewind/benchmark/Zdt", "lower", "()[D"⟩ : MethodName)) (z := (⟨"com/example/tradewind/tradewind/benchmark/Zdt", "lower", "()[D"⟩ : MethodName)) hown (mvT hZ (hw _ (List.mem_of_getElem? (i := 4) rfl))) (mvT hZ (hw _ (List.mem_of_getElem? (i := 5) rfl))) (notFace_of_selects (args := #[]) (mvT hZ (hw _ (List.mem_of_getElem? (i := 7) rfl)))) (mvT hZ (hw _ (List.mem_of_getElem? (i := 7) rfl))) (mvT hZ (hw _ (List.mem_of_getElem? (i := 6) rfl))) (by decide) (backOf (W := 0) (rmB30 l Z a0 hw [] z3 (0 : UInt64) h0 n0 Z0 F87 F88) hZ (hw _ (List.mem_of_getElem? (i := 8) rfl)) (hw _ (List.mem_of_getElem? (i := 2) rfl)) (by decide) (by decide)) q386a q386c (g := (mkF m 102 #[.val (.int p0), .val (.int p1), .val (.int p2), .val (.int (2 : Int32)), .val (.ref z3), .val (.int (30 : Int32)), .val (.double (0 : UInt64)), .second, .unset, .unset, .unset, .unset] [(.ref z3)])) rfl (by rw [hml]; rfl) (Steps.refl _) (argsL := []) (rest := []) (lenOf pd_2 rfl) rfl (by show 2 * 0 + _ ≤ _; exact Nat.le_of_eq rfl) (hb hby at_102) (fun _ _ => ⟨rfl, e383, (by decide : 0 + 1 ≤ _), (by decide : 0 + 30 ≤ _)⟩)
    dsimp only [Pt.U, Pt.locs, Pt.cells, Pt.slots] at X385 l385 y385 z385 st385 hQ385
    subst l385 y385 z385
    obtain ⟨r387, rfl, Nq388, Kq389, gx390, V391⟩ := hQ385
    have N392 := Fr.app N0 Nq388
    refine Go.tr (g' := (mkF m 105 #[.val (.int p0), .val (.int p1), .val (.int p2), .val (.int (2 : Int32)), .val (.ref z3), .val (.int (30 : Int32)), .val (.double (0 : UInt64)), .second, .unset, .unset, .unset, .unset] [(.ref r387)])) st385 ?_
    have E393 : Exa Z T385.heap z1 "com/example/tradewind/tradewind/benchmark/Zdt" := Exa.keep E78 Kq389
    have F394 : Fld Z T385.heap z1 "com/example/tradewind/tradewind/benchmark/Zdt" "variables" "I" (.int (30 : Int32)) := Fld.keep F79 Kq389 nin0
    have F395 : Fld Z T385.heap z1 "com/example/tradewind/tradewind/benchmark/Zdt" "restLower" "D" (.double (0 : UInt64)) := Fld.keep F80 Kq389 nin0
    have E396 : Exa Z T385.heap z2 "com/example/tradewind/tradewind/benchmark/Zdt" := Exa.keep E82 Kq389
    have F397 : Fld Z T385.heap z2 "com/example/tradewind/tradewind/benchmark/Zdt" "variables" "I" (.int (30 : Int32)) := Fld.keep F83 Kq389 nin0
    have F398 : Fld Z T385.heap z2 "com/example/tradewind/tradewind/benchmark/Zdt" "restLower" "D" (.double (0 : UInt64)) := Fld.keep F84 Kq389 nin0
    have E399 : Exa Z T385.heap z3 "com/example/tradewind/tradewind/benchmark/Zdt" := Exa.keep E86 Kq389
    have F400 : Fld Z T385.heap z3 "com/example/tradewind/tradewind/benchmark/Zdt" "variables" "I" (.int (30 : Int32)) := Fld.keep F87 Kq389 nin0
    have F401 : Fld Z T385.heap z3 "com/example/tradewind/tradewind/benchmark/Zdt" "restLower" "D" (.double (0 : UInt64)) := Fld.keep F88 Kq389 nin0
    have E402 : Exa Z T385.heap z4 "com/example/tradewind/tradewind/benchmark/Zdt" := Exa.keep E90 Kq389
    have F403 : Fld Z T385.heap z4 "com/example/tradewind/tradewind/benchmark/Zdt" "variables" "I" (.int (10 : Int32)) := Fld.keep F91 Kq389 nin0
    have F404 : Fld Z T385.heap z4 "com/example/tradewind/tradewind/benchmark/Zdt" "restLower" "D" (.double (13840687554816376832 : UInt64)) := Fld.keep F92 Kq389 nin0
    have E405 : Exa Z T385.heap z6 "com/example/tradewind/tradewind/benchmark/Zdt" := Exa.keep E94 Kq389
    have F406 : Fld Z T385.heap z6 "com/example/tradewind/tradewind/benchmark/Zdt" "variables" "I" (.int (10 : Int32)) := Fld.keep F95 Kq389 nin0
    have F407 : Fld Z T385.heap z6 "com/example/tradewind/tradewind/benchmark/Zdt" "restLower" "D" (.double (0 : UInt64)) := Fld.keep F96 Kq389 nin0
    have Z408 : n0 ≤ T385.heap.size := Nat.le_trans Z0 Kq389.1
    have K409 : Keep h0 T385.heap [] := (Keep.refl h0 []).trans Kq389 all0
    have A410 := (⟨X385, hx, hby⟩ : Ax _ _ _ _ _ _ _ _ _ _ _ _ _ _ _)
    have g411 : n0 ≤ r387 := Nat.le_trans Z0 gx390
    have gh412 : h0.size ≤ r387 := Nat.le_trans (Keep.refl h0 []).1 gx390
    have ne413 : z1 ≠ r387 := Nat.ne_of_lt (Nat.lt_of_lt_of_le E78.lt gx390)
    have ne414 : z2 ≠ r387 := Nat.ne_of_lt (Nat.lt_of_lt_of_le E82.lt gx390)
    have ne415 : z3 ≠ r387 := Nat.ne_of_lt (Nat.lt_of_lt_of_le E86.lt gx390)
    have ne416 : z4 ≠ r387 := Nat.ne_of_lt (Nat.lt_of_lt_of_le E90.lt gx390)
    have ne417 : z6 ≠ r387 := Nat.ne_of_lt (Nat.lt_of_lt_of_le E94.lt gx390)
    refine g_astore A410 at_105 rfl (ls' := #[.val (.int p0), .val (.int p1), .val (.int p2), .val (.int (2 : Int32)), .val (.ref z3), .val (.int (30 : Int32)), .val (.double (0 : UInt64)), .second, .val (.ref r387), .unset, .unset, .unset]) rfl (pc' := 107) rfl ?_
    refine g_aload A410 at_107 rfl rfl (pc' := 109) rfl ?_
    refine g_alen A410 hZ rfl V391 at_109 (z := (30 : Int32)) rfl (pc' := 110) rfl ?_
    refine g_iload A410 at_110 rfl (pc' := 112) rfl ?_
    refine g_icY A410 at_112 (c2_eq_t rfl) (pc' := 117) rfl ?_
    refine g_iloadN A410 at_117 rfl (pc' := 118) rfl ?_
    refine g_ldcI A410 hZ hown (hw _ (List.mem_of_getElem? (i := 0) rfl)) at_118 (pc' := 120) rfl ?_
    refine g_iand A410 at_120 (pc' := 121) rfl ?_
    refine g_iload A410 at_121 rfl (pc' := 123) rfl ?_
    refine g_irem A410 at_123 (by decide) (pc' := 124) rfl ?_
    obtain ⟨i418, hi419, hk420⟩ := own_mod p1 30 (by decide) (by decide)
    have hk421 : ((p1 &&& (2147483647 : Int32)) % (30 : Int32)) = Int32.ofNat i418 := hk420
    rw [hk421]
    refine g_istore A410 at_124 (ls' := #[.val (.int p0), .val (.int p1), .val (.int p2), .val (.int (2 : Int32)), .val (.ref z3), .val (.int (30 : Int32)), .val (.double (0 : UInt64)), .second, .val (.ref r387), .val (.int (Int32.ofNat i418)), .unset, .unset]) rfl (pc' := 126) rfl ?_
    refine g_iloadN A410 at_126 rfl (pc' := 127) rfl ?_
    refine g_ldcI A410 hZ hown (hw _ (List.mem_of_getElem? (i := 0) rfl)) at_127 (pc' := 129) rfl ?_
    refine g_iand A410 at_129 (pc' := 130) rfl ?_
    refine g_iload A410 at_130 rfl (pc' := 132) rfl ?_
    refine g_irem A410 at_132 (by decide) (pc' := 133) rfl ?_
    obtain ⟨i422, hi423, hk424⟩ := own_mod p2 30 (by decide) (by decide)
    have hk425 : ((p2 &&& (2147483647 : Int32)) % (30 : Int32)) = Int32.ofNat i422 := hk424
    rw [hk425]
    refine g_istore A410 at_133 (ls' := #[.val (.int p0), .val (.int p1), .val (.int p2), .val (.int (2 : Int32)), .val (.ref z3), .val (.int (30 : Int32)), .val (.double (0 : UInt64)), .second, .val (.ref r387), .val (.int (Int32.ofNat i418)), .val (.int (Int32.ofNat i422)), .unset]) rfl (pc' := 135) rfl ?_
    refine g_aload A410 at_135 rfl rfl (pc' := 137) rfl ?_
    refine g_iload A410 at_137 rfl (pc' := 139) rfl ?_
    refine g_daload A410 hZ rfl V391 (i := i418) hi419 rfl (x := (own_u (0 : UInt64) i418)) rfl at_139 (pc' := 140) rfl ?_
    refine g_iload A410 at_140 rfl (pc' := 142) rfl ?_
    refine g_dload A410 at_142 rfl (pc' := 144) rfl ?_
    obtain ⟨_, _, ⟨T426, L426, k426, n426⟩, -, X426, ⟨L426c, hQ426, l426, y426, z426⟩, st426⟩ := Jvm.LawKit.callS X385 hx (y := (⟨"com/example/tradewind/tradewind/benchmark/ZdtLowerPinLaw", "expected", "(ID)D"⟩ : MethodName)) hown (mvT hZ (hw _ (List.mem_of_getElem? (i := 21) rfl))) (mvT hZ (hw _ (List.mem_of_getElem? (i := 22) rfl))) (mvT hZ (hw _ (List.mem_of_getElem? (i := 23) rfl))) (mvT hZ (hw _ (List.mem_of_getElem? (i := 24) rfl))) (by decide) (backOf (W := 2) (rm4 l Z a0 hw [] (Int32.ofNat i418) (0 : UInt64) T385.heap n0 Z408 ) hZ (hw _ (List.mem_of_getElem? (i := 24) rfl)) (hw _ (List.mem_of_getElem? (i := 23) rfl)) (by decide) (by decide)) (g := (mkF m 144 #[.val (.int p0), .val (.int p1), .val (.int p2), .val (.int (2 : Int32)), .val (.ref z3), .val (.int (30 : Int32)), .val (.double (0 : UInt64)), .second, .val (.ref r387), .val (.int (Int32.ofNat i418)), .val (.int (Int32.ofNat i422)), .unset] [(.double (0 : UInt64)), (.int (Int32.ofNat i418)), (.double (own_u (0 : UInt64) i418))])) rfl (by rw [hml]; rfl) (argsL := [(.int (Int32.ofNat i418)), (.double (0 : UInt64))]) (rest := [(.double (own_u (0 : UInt64) i418))]) (lenOf pd_3 rfl) rfl (by show 2 * 0 + _ ≤ _; exact Nat.le_of_eq rfl) (hb hby at_144) (fun _ _ => ⟨rfl, rfl, (by decide : 1 + 0 ≤ _), (by decide : 30 + 0 ≤ _)⟩)
    dsimp only [Pt.U, Pt.locs, Pt.cells, Pt.slots] at X426 l426 y426 z426 st426 hQ426
    subst l426 y426 z426
    obtain ⟨rfl, Nq427, Kq428⟩ := hQ426
    have N429 := Fr.app N392 Nq427
    refine Go.of (g' := (mkF m 147 #[.val (.int p0), .val (.int p1), .val (.int p2), .val (.int (2 : Int32)), .val (.ref z3), .val (.int (30 : Int32)), .val (.double (0 : UInt64)), .second, .val (.ref r387), .val (.int (Int32.ofNat i418)), .val (.int (Int32.ofNat i422)), .unset] [(.double (own_r_rm4 (Int32.ofNat i418) (0 : UInt64))), (.double (own_u (0 : UInt64) i418))])) st426 ?_
    have e430 : T426.heap = T385.heap := Kq428
    have A431 := (⟨X426, hx, hby⟩ : Ax _ _ _ _ _ _ _ _ _ _ _ _ _ _ _)
    refine g_dcmp A431 at_147 (pc' := 148) rfl ?_
    refine g_ifN A431 at_148 (d_l_ne_f (own_low i418 (by omega))) (pc' := 151) rfl ?_
    refine g_aload A431 at_151 rfl rfl (pc' := 153) rfl ?_
    refine g_iload A431 at_153 rfl (pc' := 155) rfl ?_
    refine g_daload A431 hZ e430 V391 (i := i422) hi423 rfl (x := (own_u (0 : UInt64) i422)) rfl at_155 (pc' := 156) rfl ?_
    refine g_iload A431 at_156 rfl (pc' := 158) rfl ?_
    refine g_dload A431 at_158 rfl (pc' := 160) rfl ?_
    obtain ⟨_, _, ⟨T432, L432, k432, n432⟩, -, X432, ⟨L432c, hQ432, l432, y432, z432⟩, st432⟩ := Jvm.LawKit.callS X426 hx (y := (⟨"com/example/tradewind/tradewind/benchmark/ZdtLowerPinLaw", "expected", "(ID)D"⟩ : MethodName)) hown (mvT hZ (hw _ (List.mem_of_getElem? (i := 21) rfl))) (mvT hZ (hw _ (List.mem_of_getElem? (i := 22) rfl))) (mvT hZ (hw _ (List.mem_of_getElem? (i := 23) rfl))) (mvT hZ (hw _ (List.mem_of_getElem? (i := 24) rfl))) (by decide) (backOf (W := 2) (rm4 l Z a0 hw [] (Int32.ofNat i422) (0 : UInt64) T385.heap n0 Z408 ) hZ (hw _ (List.mem_of_getElem? (i := 24) rfl)) (hw _ (List.mem_of_getElem? (i := 23) rfl)) (by decide) (by decide)) (g := (mkF m 160 #[.val (.int p0), .val (.int p1), .val (.int p2), .val (.int (2 : Int32)), .val (.ref z3), .val (.int (30 : Int32)), .val (.double (0 : UInt64)), .second, .val (.ref r387), .val (.int (Int32.ofNat i418)), .val (.int (Int32.ofNat i422)), .unset] [(.double (0 : UInt64)), (.int (Int32.ofNat i422)), (.double (own_u (0 : UInt64) i422))])) rfl (by rw [hml]; rfl) (argsL := [(.int (Int32.ofNat i422)), (.double (0 : UInt64))]) (rest := [(.double (own_u (0 : UInt64) i422))]) (lenOf pd_3 rfl) rfl (by show 2 * 0 + _ ≤ _; exact Nat.le_of_eq rfl) (hb hby at_160) (fun _ _ => ⟨rfl, e430, (by decide : 1 + 0 ≤ _), (by decide : 30 + 0 ≤ _)⟩)
    dsimp only [Pt.U, Pt.locs, Pt.cells, Pt.slots] at X432 l432 y432 z432 st432 hQ432
    subst l432 y432 z432
    obtain ⟨rfl, Nq433, Kq434⟩ := hQ432
    have N435 := Fr.app N429 Nq433
    refine Go.of (g' := (mkF m 163 #[.val (.int p0), .val (.int p1), .val (.int p2), .val (.int (2 : Int32)), .val (.ref z3), .val (.int (30 : Int32)), .val (.double (0 : UInt64)), .second, .val (.ref r387), .val (.int (Int32.ofNat i418)), .val (.int (Int32.ofNat i422)), .unset] [(.double (own_r_rm4 (Int32.ofNat i422) (0 : UInt64))), (.double (own_u (0 : UInt64) i422))])) st432 ?_
    have e436 : T432.heap = T385.heap := Kq434
    have A437 := (⟨X432, hx, hby⟩ : Ax _ _ _ _ _ _ _ _ _ _ _ _ _ _ _)
    refine g_dcmp A437 at_163 (pc' := 164) rfl ?_
    refine g_ifY A437 at_164 (d_l_eq_t (own_low i422 (by omega))) (pc' := 169) rfl ?_
    refine g_aload A437 at_169 rfl rfl (pc' := 171) rfl ?_
    refine g_iload A437 at_171 rfl (pc' := 173) rfl ?_
    refine g_ldcD A437 hZ hown (hw _ (List.mem_of_getElem? (i := 25) rfl)) at_173 (pc' := 176) rfl ?_
    obtain ⟨T438, h438, A438, e438, W438, st438⟩ := s_dastore A437 hZ e436 (ls := #[.val (.int p0), .val (.int p1), .val (.int p2), .val (.int (2 : Int32)), .val (.ref z3), .val (.int (30 : Int32)), .val (.double (0 : UInt64)), .second, .val (.ref r387), .val (.int (Int32.ofNat i418)), .val (.int (Int32.ofNat i422)), .unset]) (st := []) (x := (4619567317775286272 : UInt64)) V391 (i := i418) hi419 (j := (Int32.ofNat i418)) rfl at_176 (pc' := 177) rfl
    have N439 := Fr.snoc A438.1 N435 g411
    have K440 : Keep h0 h438 [] := K409.wr W438 (Or.inr gh412)
    have E441 : Exa Z h438 z1 "com/example/tradewind/tradewind/benchmark/Zdt" := Exa.wr W438 E393
    have F442 : Fld Z h438 z1 "com/example/tradewind/tradewind/benchmark/Zdt" "variables" "I" (.int (30 : Int32)) := Fld.other W438 F394 (Or.inl ne413)
    have F443 : Fld Z h438 z1 "com/example/tradewind/tradewind/benchmark/Zdt" "restLower" "D" (.double (0 : UInt64)) := Fld.other W438 F395 (Or.inl ne413)
    have E444 : Exa Z h438 z2 "com/example/tradewind/tradewind/benchmark/Zdt" := Exa.wr W438 E396
    have F445 : Fld Z h438 z2 "com/example/tradewind/tradewind/benchmark/Zdt" "variables" "I" (.int (30 : Int32)) := Fld.other W438 F397 (Or.inl ne414)
    have F446 : Fld Z h438 z2 "com/example/tradewind/tradewind/benchmark/Zdt" "restLower" "D" (.double (0 : UInt64)) := Fld.other W438 F398 (Or.inl ne414)
    have E447 : Exa Z h438 z3 "com/example/tradewind/tradewind/benchmark/Zdt" := Exa.wr W438 E399
    have F448 : Fld Z h438 z3 "com/example/tradewind/tradewind/benchmark/Zdt" "variables" "I" (.int (30 : Int32)) := Fld.other W438 F400 (Or.inl ne415)
    have F449 : Fld Z h438 z3 "com/example/tradewind/tradewind/benchmark/Zdt" "restLower" "D" (.double (0 : UInt64)) := Fld.other W438 F401 (Or.inl ne415)
    have E450 : Exa Z h438 z4 "com/example/tradewind/tradewind/benchmark/Zdt" := Exa.wr W438 E402
    have F451 : Fld Z h438 z4 "com/example/tradewind/tradewind/benchmark/Zdt" "variables" "I" (.int (10 : Int32)) := Fld.other W438 F403 (Or.inl ne416)
    have F452 : Fld Z h438 z4 "com/example/tradewind/tradewind/benchmark/Zdt" "restLower" "D" (.double (13840687554816376832 : UInt64)) := Fld.other W438 F404 (Or.inl ne416)
    have E453 : Exa Z h438 z6 "com/example/tradewind/tradewind/benchmark/Zdt" := Exa.wr W438 E405
    have F454 : Fld Z h438 z6 "com/example/tradewind/tradewind/benchmark/Zdt" "variables" "I" (.int (10 : Int32)) := Fld.other W438 F406 (Or.inl ne417)
    have F455 : Fld Z h438 z6 "com/example/tradewind/tradewind/benchmark/Zdt" "restLower" "D" (.double (0 : UInt64)) := Fld.other W438 F407 (Or.inl ne417)
    have V456 : Dar Z h438 r387 .double 30 (fun j => if j = i418 then .double (4619567317775286272 : UInt64) else (fun j => .double (own_u (0 : UInt64) j)) j) := Dar.set V391 W438 (fun _ _ => rfl)
    have Z457 : n0 ≤ h438.size := by rw [W438.size]; exact Z408
    refine st438 ?_
    refine g_aload A438 at_177 rfl rfl (pc' := 179) rfl ?_
    refine g_iload A438 at_179 rfl (pc' := 181) rfl ?_
    refine g_ldcD A438 hZ hown (hw _ (List.mem_of_getElem? (i := 25) rfl)) at_181 (pc' := 184) rfl ?_
    obtain ⟨T458, h458, A458, e458, W458, st458⟩ := s_dastore A438 hZ e438 (ls := #[.val (.int p0), .val (.int p1), .val (.int p2), .val (.int (2 : Int32)), .val (.ref z3), .val (.int (30 : Int32)), .val (.double (0 : UInt64)), .second, .val (.ref r387), .val (.int (Int32.ofNat i418)), .val (.int (Int32.ofNat i422)), .unset]) (st := []) (x := (4619567317775286272 : UInt64)) V456 (i := i422) hi423 (j := (Int32.ofNat i422)) rfl at_184 (pc' := 185) rfl
    have N459 := Fr.snoc A458.1 N439 g411
    have K460 : Keep h0 h458 [] := K440.wr W458 (Or.inr gh412)
    have E461 : Exa Z h458 z1 "com/example/tradewind/tradewind/benchmark/Zdt" := Exa.wr W458 E441
    have F462 : Fld Z h458 z1 "com/example/tradewind/tradewind/benchmark/Zdt" "variables" "I" (.int (30 : Int32)) := Fld.other W458 F442 (Or.inl ne413)
    have F463 : Fld Z h458 z1 "com/example/tradewind/tradewind/benchmark/Zdt" "restLower" "D" (.double (0 : UInt64)) := Fld.other W458 F443 (Or.inl ne413)
    have E464 : Exa Z h458 z2 "com/example/tradewind/tradewind/benchmark/Zdt" := Exa.wr W458 E444
    have F465 : Fld Z h458 z2 "com/example/tradewind/tradewind/benchmark/Zdt" "variables" "I" (.int (30 : Int32)) := Fld.other W458 F445 (Or.inl ne414)
    have F466 : Fld Z h458 z2 "com/example/tradewind/tradewind/benchmark/Zdt" "restLower" "D" (.double (0 : UInt64)) := Fld.other W458 F446 (Or.inl ne414)
    have E467 : Exa Z h458 z3 "com/example/tradewind/tradewind/benchmark/Zdt" := Exa.wr W458 E447
    have F468 : Fld Z h458 z3 "com/example/tradewind/tradewind/benchmark/Zdt" "variables" "I" (.int (30 : Int32)) := Fld.other W458 F448 (Or.inl ne415)
    have F469 : Fld Z h458 z3 "com/example/tradewind/tradewind/benchmark/Zdt" "restLower" "D" (.double (0 : UInt64)) := Fld.other W458 F449 (Or.inl ne415)
    have E470 : Exa Z h458 z4 "com/example/tradewind/tradewind/benchmark/Zdt" := Exa.wr W458 E450
    have F471 : Fld Z h458 z4 "com/example/tradewind/tradewind/benchmark/Zdt" "variables" "I" (.int (10 : Int32)) := Fld.other W458 F451 (Or.inl ne416)
    have F472 : Fld Z h458 z4 "com/example/tradewind/tradewind/benchmark/Zdt" "restLower" "D" (.double (13840687554816376832 : UInt64)) := Fld.other W458 F452 (Or.inl ne416)
    have E473 : Exa Z h458 z6 "com/example/tradewind/tradewind/benchmark/Zdt" := Exa.wr W458 E453
    have F474 : Fld Z h458 z6 "com/example/tradewind/tradewind/benchmark/Zdt" "variables" "I" (.int (10 : Int32)) := Fld.other W458 F454 (Or.inl ne417)
    have F475 : Fld Z h458 z6 "com/example/tradewind/tradewind/benchmark/Zdt" "restLower" "D" (.double (0 : UInt64)) := Fld.other W458 F455 (Or.inl ne417)
    have V476 : Dar Z h458 r387 .double 30 (fun j => if j = i422 then .double (4619567317775286272 : UInt64) else (fun j => if j = i418 then .double (4619567317775286272 : UInt64) else (fun j => .double (own_u (0 : UInt64) j)) j) j) := Dar.set V456 W458 (fun _ _ => rfl)
    have Z477 : n0 ≤ h458.size := by rw [W458.size]; exact Z457
    refine st458 ?_
    refine g_aload A458 at_185 rfl rfl (pc' := 187) rfl ?_
    obtain ⟨cq479, kq479, q479a, q479b, q479c⟩ := isOf hZ e458 E467
    obtain ⟨_, _, ⟨T478, L478, k478, n478⟩, -, X478, ⟨L478c, hQ478, l478, y478, z478⟩, st478⟩ := A458.1.virtualBack hx (y := (⟨"com/example/tradewind/tradewind/benchmark/Zdt", "lower", "()[D"⟩ : MethodName)) (z := (⟨"com/example/tradewind/tradewind/benchmark/Zdt", "lower", "()[D"⟩ : MethodName)) hown (mvT hZ (hw _ (List.mem_of_getElem? (i := 4) rfl))) (mvT hZ (hw _ (List.mem_of_getElem? (i := 5) rfl))) (notFace_of_selects (args := #[]) (mvT hZ (hw _ (List.mem_of_getElem? (i := 7) rfl)))) (mvT hZ (hw _ (List.mem_of_getElem? (i := 7) rfl))) (mvT hZ (hw _ (List.mem_of_getElem? (i := 6) rfl))) (by decide) (backOf (W := 0) (rmB30 l Z a0 hw [] z3 (0 : UInt64) h458 n0 Z477 F468 F469) hZ (hw _ (List.mem_of_getElem? (i := 8) rfl)) (hw _ (List.mem_of_getElem? (i := 2) rfl)) (by decide) (by decide)) q479a q479c (g := (mkF m 187 #[.val (.int p0), .val (.int p1), .val (.int p2), .val (.int (2 : Int32)), .val (.ref z3), .val (.int (30 : Int32)), .val (.double (0 : UInt64)), .second, .val (.ref r387), .val (.int (Int32.ofNat i418)), .val (.int (Int32.ofNat i422)), .unset] [(.ref z3)])) rfl (by rw [hml]; rfl) (Steps.refl _) (argsL := []) (rest := []) (lenOf pd_2 rfl) rfl (by show 2 * 0 + _ ≤ _; exact Nat.le_of_eq rfl) (hb hby at_187) (fun _ _ => ⟨rfl, e458, (by decide : 1 + 1 ≤ _), (by decide : 30 + 30 ≤ _)⟩)
    dsimp only [Pt.U, Pt.locs, Pt.cells, Pt.slots] at X478 l478 y478 z478 st478 hQ478
    subst l478 y478 z478
    obtain ⟨r480, rfl, Nq481, Kq482, gx483, V484⟩ := hQ478
    have N485 := Fr.app N459 Nq481
    refine Go.tr (g' := (mkF m 190 #[.val (.int p0), .val (.int p1), .val (.int p2), .val (.int (2 : Int32)), .val (.ref z3), .val (.int (30 : Int32)), .val (.double (0 : UInt64)), .second, .val (.ref r387), .val (.int (Int32.ofNat i418)), .val (.int (Int32.ofNat i422)), .unset] [(.ref r480)])) st478 ?_
    have E486 : Exa Z T478.heap z1 "com/example/tradewind/tradewind/benchmark/Zdt" := Exa.keep E461 Kq482
    have F487 : Fld Z T478.heap z1 "com/example/tradewind/tradewind/benchmark/Zdt" "variables" "I" (.int (30 : Int32)) := Fld.keep F462 Kq482 nin0
    have F488 : Fld Z T478.heap z1 "com/example/tradewind/tradewind/benchmark/Zdt" "restLower" "D" (.double (0 : UInt64)) := Fld.keep F463 Kq482 nin0
    have E489 : Exa Z T478.heap z2 "com/example/tradewind/tradewind/benchmark/Zdt" := Exa.keep E464 Kq482
    have F490 : Fld Z T478.heap z2 "com/example/tradewind/tradewind/benchmark/Zdt" "variables" "I" (.int (30 : Int32)) := Fld.keep F465 Kq482 nin0
    have F491 : Fld Z T478.heap z2 "com/example/tradewind/tradewind/benchmark/Zdt" "restLower" "D" (.double (0 : UInt64)) := Fld.keep F466 Kq482 nin0
    have E492 : Exa Z T478.heap z3 "com/example/tradewind/tradewind/benchmark/Zdt" := Exa.keep E467 Kq482
    have F493 : Fld Z T478.heap z3 "com/example/tradewind/tradewind/benchmark/Zdt" "variables" "I" (.int (30 : Int32)) := Fld.keep F468 Kq482 nin0
    have F494 : Fld Z T478.heap z3 "com/example/tradewind/tradewind/benchmark/Zdt" "restLower" "D" (.double (0 : UInt64)) := Fld.keep F469 Kq482 nin0
    have E495 : Exa Z T478.heap z4 "com/example/tradewind/tradewind/benchmark/Zdt" := Exa.keep E470 Kq482
    have F496 : Fld Z T478.heap z4 "com/example/tradewind/tradewind/benchmark/Zdt" "variables" "I" (.int (10 : Int32)) := Fld.keep F471 Kq482 nin0
    have F497 : Fld Z T478.heap z4 "com/example/tradewind/tradewind/benchmark/Zdt" "restLower" "D" (.double (13840687554816376832 : UInt64)) := Fld.keep F472 Kq482 nin0
    have E498 : Exa Z T478.heap z6 "com/example/tradewind/tradewind/benchmark/Zdt" := Exa.keep E473 Kq482
    have F499 : Fld Z T478.heap z6 "com/example/tradewind/tradewind/benchmark/Zdt" "variables" "I" (.int (10 : Int32)) := Fld.keep F474 Kq482 nin0
    have F500 : Fld Z T478.heap z6 "com/example/tradewind/tradewind/benchmark/Zdt" "restLower" "D" (.double (0 : UInt64)) := Fld.keep F475 Kq482 nin0
    have V501 : Dar Z T478.heap r387 .double 30 (fun j => if j = i422 then .double (4619567317775286272 : UInt64) else (fun j => if j = i418 then .double (4619567317775286272 : UInt64) else (fun j => .double (own_u (0 : UInt64) j)) j) j) := Dar.keep V476 Kq482 nin0
    have Z502 : n0 ≤ T478.heap.size := Nat.le_trans Z477 Kq482.1
    have K503 : Keep h0 T478.heap [] := K460.trans Kq482 all0
    have A504 := (⟨X478, hx, hby⟩ : Ax _ _ _ _ _ _ _ _ _ _ _ _ _ _ _)
    have g505 : n0 ≤ r480 := Nat.le_trans Z477 gx483
    have gh506 : h0.size ≤ r480 := Nat.le_trans K460.1 gx483
    have ne507 : r387 ≠ r480 := Nat.ne_of_lt (Nat.lt_of_lt_of_le V476.lt gx483)
    have ne508 : z1 ≠ r480 := Nat.ne_of_lt (Nat.lt_of_lt_of_le E461.lt gx483)
    have ne509 : z2 ≠ r480 := Nat.ne_of_lt (Nat.lt_of_lt_of_le E464.lt gx483)
    have ne510 : z3 ≠ r480 := Nat.ne_of_lt (Nat.lt_of_lt_of_le E467.lt gx483)
    have ne511 : z4 ≠ r480 := Nat.ne_of_lt (Nat.lt_of_lt_of_le E470.lt gx483)
    have ne512 : z6 ≠ r480 := Nat.ne_of_lt (Nat.lt_of_lt_of_le E473.lt gx483)
    refine g_astore A504 at_190 rfl (ls' := #[.val (.int p0), .val (.int p1), .val (.int p2), .val (.int (2 : Int32)), .val (.ref z3), .val (.int (30 : Int32)), .val (.double (0 : UInt64)), .second, .val (.ref r387), .val (.int (Int32.ofNat i418)), .val (.int (Int32.ofNat i422)), .val (.ref r480)]) rfl (pc' := 192) rfl ?_
    refine g_aload A504 at_192 rfl rfl (pc' := 194) rfl ?_
    refine g_alen A504 hZ rfl V484 at_194 (z := (30 : Int32)) rfl (pc' := 195) rfl ?_
    refine g_iload A504 at_195 rfl (pc' := 197) rfl ?_
    refine g_icY A504 at_197 (c2_eq_t rfl) (pc' := 202) rfl ?_
    refine g_aload A504 at_202 rfl rfl (pc' := 204) rfl ?_
    refine g_iload A504 at_204 rfl (pc' := 206) rfl ?_
    refine g_daload A504 hZ rfl V484 (i := i418) hi419 rfl (x := (own_u (0 : UInt64) i418)) rfl at_206 (pc' := 207) rfl ?_
    refine g_iload A504 at_207 rfl (pc' := 209) rfl ?_
    refine g_dload A504 at_209 rfl (pc' := 211) rfl ?_
    obtain ⟨_, _, ⟨T513, L513, k513, n513⟩, -, X513, ⟨L513c, hQ513, l513, y513, z513⟩, st513⟩ := Jvm.LawKit.callS X478 hx (y := (⟨"com/example/tradewind/tradewind/benchmark/ZdtLowerPinLaw", "expected", "(ID)D"⟩ : MethodName)) hown (mvT hZ (hw _ (List.mem_of_getElem? (i := 21) rfl))) (mvT hZ (hw _ (List.mem_of_getElem? (i := 22) rfl))) (mvT hZ (hw _ (List.mem_of_getElem? (i := 23) rfl))) (mvT hZ (hw _ (List.mem_of_getElem? (i := 24) rfl))) (by decide) (backOf (W := 2) (rm4 l Z a0 hw [] (Int32.ofNat i418) (0 : UInt64) T478.heap n0 Z502 ) hZ (hw _ (List.mem_of_getElem? (i := 24) rfl)) (hw _ (List.mem_of_getElem? (i := 23) rfl)) (by decide) (by decide)) (g := (mkF m 211 #[.val (.int p0), .val (.int p1), .val (.int p2), .val (.int (2 : Int32)), .val (.ref z3), .val (.int (30 : Int32)), .val (.double (0 : UInt64)), .second, .val (.ref r387), .val (.int (Int32.ofNat i418)), .val (.int (Int32.ofNat i422)), .val (.ref r480)] [(.double (0 : UInt64)), (.int (Int32.ofNat i418)), (.double (own_u (0 : UInt64) i418))])) rfl (by rw [hml]; rfl) (argsL := [(.int (Int32.ofNat i418)), (.double (0 : UInt64))]) (rest := [(.double (own_u (0 : UInt64) i418))]) (lenOf pd_3 rfl) rfl (by show 2 * 0 + _ ≤ _; exact Nat.le_of_eq rfl) (hb hby at_211) (fun _ _ => ⟨rfl, rfl, (by decide : 2 + 0 ≤ _), (by decide : 60 + 0 ≤ _)⟩)
    dsimp only [Pt.U, Pt.locs, Pt.cells, Pt.slots] at X513 l513 y513 z513 st513 hQ513
    subst l513 y513 z513
    obtain ⟨rfl, Nq514, Kq515⟩ := hQ513
    have N516 := Fr.app N485 Nq514
    refine Go.of (g' := (mkF m 214 #[.val (.int p0), .val (.int p1), .val (.int p2), .val (.int (2 : Int32)), .val (.ref z3), .val (.int (30 : Int32)), .val (.double (0 : UInt64)), .second, .val (.ref r387), .val (.int (Int32.ofNat i418)), .val (.int (Int32.ofNat i422)), .val (.ref r480)] [(.double (own_r_rm4 (Int32.ofNat i418) (0 : UInt64))), (.double (own_u (0 : UInt64) i418))])) st513 ?_
    have e517 : T513.heap = T478.heap := Kq515
    have A518 := (⟨X513, hx, hby⟩ : Ax _ _ _ _ _ _ _ _ _ _ _ _ _ _ _)
    refine g_dcmp A518 at_214 (pc' := 215) rfl ?_
    refine g_ifN A518 at_215 (d_l_ne_f (own_low i418 (by omega))) (pc' := 218) rfl ?_
    refine g_aload A518 at_218 rfl rfl (pc' := 220) rfl ?_
    refine g_iload A518 at_220 rfl (pc' := 222) rfl ?_
    refine g_daload A518 hZ e517 V484 (i := i422) hi423 rfl (x := (own_u (0 : UInt64) i422)) rfl at_222 (pc' := 223) rfl ?_
    refine g_iload A518 at_223 rfl (pc' := 225) rfl ?_
    refine g_dload A518 at_225 rfl (pc' := 227) rfl ?_
    obtain ⟨_, _, ⟨T519, L519, k519, n519⟩, -, X519, ⟨L519c, hQ519, l519, y519, z519⟩, st519⟩ := Jvm.LawKit.callS X513 hx (y := (⟨"com/example/tradewind/tradewind/benchmark/ZdtLowerPinLaw", "expected", "(ID)D"⟩ : MethodName)) hown (mvT hZ (hw _ (List.mem_of_getElem? (i := 21) rfl))) (mvT hZ (hw _ (List.mem_of_getElem? (i := 22) rfl))) (mvT hZ (hw _ (List.mem_of_getElem? (i := 23) rfl))) (mvT hZ (hw _ (List.mem_of_getElem? (i := 24) rfl))) (by decide) (backOf (W := 2) (rm4 l Z a0 hw [] (Int32.ofNat i422) (0 : UInt64) T478.heap n0 Z502 ) hZ (hw _ (List.mem_of_getElem? (i := 24) rfl)) (hw _ (List.mem_of_getElem? (i := 23) rfl)) (by decide) (by decide)) (g := (mkF m 227 #[.val (.int p0), .val (.int p1), .val (.int p2), .val (.int (2 : Int32)), .val (.ref z3), .val (.int (30 : Int32)), .val (.double (0 : UInt64)), .second, .val (.ref r387), .val (.int (Int32.ofNat i418)), .val (.int (Int32.ofNat i422)), .val (.ref r480)] [(.double (0 : UInt64)), (.int (Int32.ofNat i422)), (.double (own_u (0 : UInt64) i422))])) rfl (by rw [hml]; rfl) (argsL := [(.int (Int32.ofNat i422)), (.double (0 : UInt64))]) (rest := [(.double (own_u (0 : UInt64) i422))]) (lenOf pd_3 rfl) rfl (by show 2 * 0 + _ ≤ _; exact Nat.le_of_eq rfl) (hb hby at_227) (fun _ _ => ⟨rfl, e517, (by decide : 2 + 0 ≤ _), (by decide : 60 + 0 ≤ _)⟩)
    dsimp only [Pt.U, Pt.locs, Pt.cells, Pt.slots] at X519 l519 y519 z519 st519 hQ519
    subst l519 y519 z519
    obtain ⟨rfl, Nq520, Kq521⟩ := hQ519
    have N522 := Fr.app N516 Nq520
    refine Go.of (g' := (mkF m 230 #[.val (.int p0), .val (.int p1), .val (.int p2), .val (.int (2 : Int32)), .val (.ref z3), .val (.int (30 : Int32)), .val (.double (0 : UInt64)), .second, .val (.ref r387), .val (.int (Int32.ofNat i418)), .val (.int (Int32.ofNat i422)), .val (.ref r480)] [(.double (own_r_rm4 (Int32.ofNat i422) (0 : UInt64))), (.double (own_u (0 : UInt64) i422))])) st519 ?_
    have e523 : T519.heap = T478.heap := Kq521
    have A524 := (⟨X519, hx, hby⟩ : Ax _ _ _ _ _ _ _ _ _ _ _ _ _ _ _)
    refine g_dcmp A524 at_230 (pc' := 231) rfl ?_
    refine g_ifN A524 at_231 (d_l_ne_f (own_low i422 (by omega))) (pc' := 234) rfl ?_
    refine g_iconst A524 at_234 (v := (1 : Int32)) rfl (pc' := 235) rfl ?_
    refine g_goto A524 at_235 (pc' := 239) rfl ?_
    exact g_ret (Q := Q0 Z p0 p1 p2 z1 z2 z3 z4 z6 h0 n0) A524 at_239 Bd.notSynchronized Bd.returns rfl (Or.inl ⟨rfl, by simp, _, rfl⟩) (by decide) (by decide) (by rw [e523]; exact ⟨rfl, N522⟩)
  · skip
    rw [hg98]
    refine g_istoreN A0 at_6 (ls' := #[.val (.int p0), .val (.int p1), .val (.int p2), .val (.int (3 : Int32)), .unset, .unset, .unset, .unset, .unset, .unset, .unset, .unset]) rfl (pc' := 7) rfl ?_
    refine g_iloadN A0 at_7 rfl (pc' := 8) rfl ?_
    refine g_ifY A0 at_8 (c0_ne_t (by decide)) (pc' := 26) rfl ?_
    refine g_iloadN A0 at_26 rfl (pc' := 27) rfl ?_
    refine g_iconst A0 at_27 (v := (1 : Int32)) rfl (pc' := 28) rfl ?_
    refine g_icY A0 at_28 (c2_ne_t (by decide)) (pc' := 46) rfl ?_
    refine g_iloadN A0 at_46 rfl (pc' := 47) rfl ?_
    refine g_iconst A0 at_47 (v := (2 : Int32)) rfl (pc' := 48) rfl ?_
    refine g_icY A0 at_48 (c2_ne_t (by decide)) (pc' := 66) rfl ?_
    refine g_iloadN A0 at_66 rfl (pc' := 67) rfl ?_
    refine g_iconst A0 at_67 (v := (3 : Int32)) rfl (pc' := 68) rfl ?_
    refine g_icN A0 at_68 (c2_ne_f rfl) (pc' := 71) rfl ?_
    obtain ⟨T525, X525, e525, st525⟩ := getS X0 hx hZ hown (host := "") (hw _ (List.mem_of_getElem? (i := 30) rfl)) Via.refl e0 S89 (g := (mkF m 71 #[.val (.int p0), .val (.int p1), .val (.int p2), .val (.int (3 : Int32)), .unset, .unset, .unset, .unset, .unset, .unset, .unset, .unset] [])) rfl (hb hby at_71)
    refine Go.of (g' := (mkF m 74 #[.val (.int p0), .val (.int p1), .val (.int p2), .val (.int (3 : Int32)), .unset, .unset, .unset, .unset, .unset, .unset, .unset, .unset] [(.ref z4)])) st525 ?_
    have A526 := (⟨X525, hx, hby⟩ : Ax _ _ _ _ _ _ _ _ _ _ _ _ _ _ _)
    refine g_astore A526 at_74 rfl (ls' := #[.val (.int p0), .val (.int p1), .val (.int p2), .val (.int (3 : Int32)), .val (.ref z4), .unset, .unset, .unset, .unset, .unset, .unset, .unset]) rfl (pc' := 76) rfl ?_
    refine g_bipush A526 at_76 (v := (10 : Int32)) rfl (pc' := 78) rfl ?_
    refine g_istore A526 at_78 (ls' := #[.val (.int p0), .val (.int p1), .val (.int p2), .val (.int (3 : Int32)), .val (.ref z4), .val (.int (10 : Int32)), .unset, .unset, .unset, .unset, .unset, .unset]) rfl (pc' := 80) rfl ?_
    refine g_ldcD A526 hZ hown (hw _ (List.mem_of_getElem? (i := 32) rfl)) at_80 (pc' := 83) rfl ?_
    refine g_dstore A526 at_83 (ls' := #[.val (.int p0), .val (.int p1), .val (.int p2), .val (.int (3 : Int32)), .val (.ref z4), .val (.int (10 : Int32)), .val (.double (13840687554816376832 : UInt64)), .second, .unset, .unset, .unset, .unset]) rfl (pc' := 85) rfl ?_
    refine g_goto A526 at_85 (pc' := 100) rfl ?_
    refine g_aload A526 at_100 rfl rfl (pc' := 102) rfl ?_
    obtain ⟨cq528, kq528, q528a, q528b, q528c⟩ := isOf hZ e525 E90
    obtain ⟨_, _, ⟨T527, L527, k527, n527⟩, -, X527, ⟨L527c, hQ527, l527, y527, z527⟩, st527⟩ := X525.virtualBack hx (y := (⟨"com/example/tradewind/tradewind/benchmark/Zdt", "lower", "()[D"⟩ : MethodName)) (z := (⟨"com/example/tradewind/tradewind/benchmark/Zdt", "lower", "()[D"⟩ : MethodName)) hown (mvT hZ (hw _ (List.mem_of_getElem? (i := 4) rfl))) (mvT hZ (hw _ (List.mem_of_getElem? (i := 5) rfl))) (notFace_of_selects (args := #[]) (mvT hZ (hw _ (List.mem_of_getElem? (i := 7) rfl)))) (mvT hZ (hw _ (List.mem_of_getElem? (i := 7) rfl))) (mvT hZ (hw _ (List.mem_of_getElem? (i := 6) rfl))) (by decide) (backOf (W := 0) (rmB10 l Z a0 hw [] z4 (13840687554816376832 : UInt64) h0 n0 Z0 F91 F92) hZ (hw _ (List.mem_of_getElem? (i := 8) rfl)) (hw _ (List.mem_of_getElem? (i := 2) rfl)) (by decide) (by decide)) q528a q528c (g := (mkF m 102 #[.val (.int p0), .val (.int p1), .val (.int p2), .val (.int (3 : Int32)), .val (.ref z4), .val (.int (10 : Int32)), .val (.double (13840687554816376832 : UInt64)), .second, .unset, .unset, .unset, .unset] [(.ref z4)])) rfl (by rw [hml]; rfl) (Steps.refl _) (argsL := []) (rest := []) (lenOf pd_2 rfl) rfl (by show 2 * 0 + _ ≤ _; exact Nat.le_of_eq rfl) (hb hby at_102) (fun _ _ => ⟨rfl, e525, (by decide : 0 + 1 ≤ _), (by decide : 0 + 10 ≤ _)⟩)
    dsimp only [Pt.U, Pt.locs, Pt.cells, Pt.slots] at X527 l527 y527 z527 st527 hQ527
    subst l527 y527 z527
    obtain ⟨r529, rfl, Nq530, Kq531, gx532, V533⟩ := hQ527
    have N534 := Fr.app N0 Nq530
    refine Go.tr (g' := (mkF m 105 #[.val (.int p0), .val (.int p1), .val (.int p2), .val (.int (3 : Int32)), .val (.ref z4), .val (.int (10 : Int32)), .val (.double (13840687554816376832 : UInt64)), .second, .unset, .unset, .unset, .unset] [(.ref r529)])) st527 ?_
    have E535 : Exa Z T527.heap z1 "com/example/tradewind/tradewind/benchmark/Zdt" := Exa.keep E78 Kq531
    have F536 : Fld Z T527.heap z1 "com/example/tradewind/tradewind/benchmark/Zdt" "variables" "I" (.int (30 : Int32)) := Fld.keep F79 Kq531 nin0
    have F537 : Fld Z T527.heap z1 "com/example/tradewind/tradewind/benchmark/Zdt" "restLower" "D" (.double (0 : UInt64)) := Fld.keep F80 Kq531 nin0
    have E538 : Exa Z T527.heap z2 "com/example/tradewind/tradewind/benchmark/Zdt" := Exa.keep E82 Kq531
    have F539 : Fld Z T527.heap z2 "com/example/tradewind/tradewind/benchmark/Zdt" "variables" "I" (.int (30 : Int32)) := Fld.keep F83 Kq531 nin0
    have F540 : Fld Z T527.heap z2 "com/example/tradewind/tradewind/benchmark/Zdt" "restLower" "D" (.double (0 : UInt64)) := Fld.keep F84 Kq531 nin0
    have E541 : Exa Z T527.heap z3 "com/example/tradewind/tradewind/benchmark/Zdt" := Exa.keep E86 Kq531
    have F542 : Fld Z T527.heap z3 "com/example/tradewind/tradewind/benchmark/Zdt" "variables" "I" (.int (30 : Int32)) := Fld.keep F87 Kq531 nin0
    have F543 : Fld Z T527.heap z3 "com/example/tradewind/tradewind/benchmark/Zdt" "restLower" "D" (.double (0 : UInt64)) := Fld.keep F88 Kq531 nin0
    have E544 : Exa Z T527.heap z4 "com/example/tradewind/tradewind/benchmark/Zdt" := Exa.keep E90 Kq531
    have F545 : Fld Z T527.heap z4 "com/example/tradewind/tradewind/benchmark/Zdt" "variables" "I" (.int (10 : Int32)) := Fld.keep F91 Kq531 nin0
    have F546 : Fld Z T527.heap z4 "com/example/tradewind/tradewind/benchmark/Zdt" "restLower" "D" (.double (13840687554816376832 : UInt64)) := Fld.keep F92 Kq531 nin0
    have E547 : Exa Z T527.heap z6 "com/example/tradewind/tradewind/benchmark/Zdt" := Exa.keep E94 Kq531
    have F548 : Fld Z T527.heap z6 "com/example/tradewind/tradewind/benchmark/Zdt" "variables" "I" (.int (10 : Int32)) := Fld.keep F95 Kq531 nin0
    have F549 : Fld Z T527.heap z6 "com/example/tradewind/tradewind/benchmark/Zdt" "restLower" "D" (.double (0 : UInt64)) := Fld.keep F96 Kq531 nin0
    have Z550 : n0 ≤ T527.heap.size := Nat.le_trans Z0 Kq531.1
    have K551 : Keep h0 T527.heap [] := (Keep.refl h0 []).trans Kq531 all0
    have A552 := (⟨X527, hx, hby⟩ : Ax _ _ _ _ _ _ _ _ _ _ _ _ _ _ _)
    have g553 : n0 ≤ r529 := Nat.le_trans Z0 gx532
    have gh554 : h0.size ≤ r529 := Nat.le_trans (Keep.refl h0 []).1 gx532
    have ne555 : z1 ≠ r529 := Nat.ne_of_lt (Nat.lt_of_lt_of_le E78.lt gx532)
    have ne556 : z2 ≠ r529 := Nat.ne_of_lt (Nat.lt_of_lt_of_le E82.lt gx532)
    have ne557 : z3 ≠ r529 := Nat.ne_of_lt (Nat.lt_of_lt_of_le E86.lt gx532)
    have ne558 : z4 ≠ r529 := Nat.ne_of_lt (Nat.lt_of_lt_of_le E90.lt gx532)
    have ne559 : z6 ≠ r529 := Nat.ne_of_lt (Nat.lt_of_lt_of_le E94.lt gx532)
    refine g_astore A552 at_105 rfl (ls' := #[.val (.int p0), .val (.int p1), .val (.int p2), .val (.int (3 : Int32)), .val (.ref z4), .val (.int (10 : Int32)), .val (.double (13840687554816376832 : UInt64)), .second, .val (.ref r529), .unset, .unset, .unset]) rfl (pc' := 107) rfl ?_
    refine g_aload A552 at_107 rfl rfl (pc' := 109) rfl ?_
    refine g_alen A552 hZ rfl V533 at_109 (z := (10 : Int32)) rfl (pc' := 110) rfl ?_
    refine g_iload A552 at_110 rfl (pc' := 112) rfl ?_
    refine g_icY A552 at_112 (c2_eq_t rfl) (pc' := 117) rfl ?_
    refine g_iloadN A552 at_117 rfl (pc' := 118) rfl ?_
    refine g_ldcI A552 hZ hown (hw _ (List.mem_of_getElem? (i := 0) rfl)) at_118 (pc' := 120) rfl ?_
    refine g_iand A552 at_120 (pc' := 121) rfl ?_
    refine g_iload A552 at_121 rfl (pc' := 123) rfl ?_
    refine g_irem A552 at_123 (by decide) (pc' := 124) rfl ?_
    obtain ⟨i560, hi561, hk562⟩ := own_mod p1 10 (by decide) (by decide)
    have hk563 : ((p1 &&& (2147483647 : Int32)) % (10 : Int32)) = Int32.ofNat i560 := hk562
    rw [hk563]
    refine g_istore A552 at_124 (ls' := #[.val (.int p0), .val (.int p1), .val (.int p2), .val (.int (3 : Int32)), .val (.ref z4), .val (.int (10 : Int32)), .val (.double (13840687554816376832 : UInt64)), .second, .val (.ref r529), .val (.int (Int32.ofNat i560)), .unset, .unset]) rfl (pc' := 126) rfl ?_
    refine g_iloadN A552 at_126 rfl (pc' := 127) rfl ?_
    refine g_ldcI A552 hZ hown (hw _ (List.mem_of_getElem? (i := 0) rfl)) at_127 (pc' := 129) rfl ?_
    refine g_iand A552 at_129 (pc' := 130) rfl ?_
    refine g_iload A552 at_130 rfl (pc' := 132) rfl ?_
    refine g_irem A552 at_132 (by decide) (pc' := 133) rfl ?_
    obtain ⟨i564, hi565, hk566⟩ := own_mod p2 10 (by decide) (by decide)
    have hk567 : ((p2 &&& (2147483647 : Int32)) % (10 : Int32)) = Int32.ofNat i564 := hk566
    rw [hk567]
    refine g_istore A552 at_133 (ls' := #[.val (.int p0), .val (.int p1), .val (.int p2), .val (.int (3 : Int32)), .val (.ref z4), .val (.int (10 : Int32)), .val (.double (13840687554816376832 : UInt64)), .second, .val (.ref r529), .val (.int (Int32.ofNat i560)), .val (.int (Int32.ofNat i564)), .unset]) rfl (pc' := 135) rfl ?_
    refine g_aload A552 at_135 rfl rfl (pc' := 137) rfl ?_
    refine g_iload A552 at_137 rfl (pc' := 139) rfl ?_
    refine g_daload A552 hZ rfl V533 (i := i560) hi561 rfl (x := (own_u (13840687554816376832 : UInt64) i560)) rfl at_139 (pc' := 140) rfl ?_
    refine g_iload A552 at_140 rfl (pc' := 142) rfl ?_
    refine g_dload A552 at_142 rfl (pc' := 144) rfl ?_
    obtain ⟨_, _, ⟨T568, L568, k568, n568⟩, -, X568, ⟨L568c, hQ568, l568, y568, z568⟩, st568⟩ := Jvm.LawKit.callS X527 hx (y := (⟨"com/example/tradewind/tradewind/benchmark/ZdtLowerPinLaw", "expected", "(ID)D"⟩ : MethodName)) hown (mvT hZ (hw _ (List.mem_of_getElem? (i := 21) rfl))) (mvT hZ (hw _ (List.mem_of_getElem? (i := 22) rfl))) (mvT hZ (hw _ (List.mem_of_getElem? (i := 23) rfl))) (mvT hZ (hw _ (List.mem_of_getElem? (i := 24) rfl))) (by decide) (backOf (W := 2) (rm4 l Z a0 hw [] (Int32.ofNat i560) (13840687554816376832 : UInt64) T527.heap n0 Z550 ) hZ (hw _ (List.mem_of_getElem? (i := 24) rfl)) (hw _ (List.mem_of_getElem? (i := 23) rfl)) (by decide) (by decide)) (g := (mkF m 144 #[.val (.int p0), .val (.int p1), .val (.int p2), .val (.int (3 : Int32)), .val (.ref z4), .val (.int (10 : Int32)), .val (.double (13840687554816376832 : UInt64)), .second, .val (.ref r529), .val (.int (Int32.ofNat i560)), .val (.int (Int32.ofNat i564)), .unset] [(.double (13840687554816376832 : UInt64)), (.int (Int32.ofNat i560)), (.double (own_u (13840687554816376832 : UInt64) i560))])) rfl (by rw [hml]; rfl) (argsL := [(.int (Int32.ofNat i560)), (.double (13840687554816376832 : UInt64))]) (rest := [(.double (own_u (13840687554816376832 : UInt64) i560))]) (lenOf pd_3 rfl) rfl (by show 2 * 0 + _ ≤ _; exact Nat.le_of_eq rfl) (hb hby at_144) (fun _ _ => ⟨rfl, rfl, (by decide : 1 + 0 ≤ _), (by decide : 10 + 0 ≤ _)⟩)
    dsimp only [Pt.U, Pt.locs, Pt.cells, Pt.slots] at X568 l568 y568 z568 st568 hQ568
    subst l568 y568 z568
    obtain ⟨rfl, Nq569, Kq570⟩ := hQ568
    have N571 := Fr.app N534 Nq569
    refine Go.of (g' := (mkF m 147 #[.val (.int p0), .val (.int p1), .val (.int p2), .val (.int (3 : Int32)), .val (.ref z4), .val (.int (10 : Int32)), .val (.double (13840687554816376832 : UInt64)), .second, .val (.ref r529), .val (.int (Int32.ofNat i560)), .val (.int (Int32.ofNat i564)), .unset] [(.double (own_r_rm4 (Int32.ofNat i560) (13840687554816376832 : UInt64))), (.double (own_u (13840687554816376832 : UInt64) i560))])) st568 ?_
    have e572 : T568.heap = T527.heap := Kq570
    have A573 := (⟨X568, hx, hby⟩ : Ax _ _ _ _ _ _ _ _ _ _ _ _ _ _ _)
    refine g_dcmp A573 at_147 (pc' := 148) rfl ?_
    refine g_ifN A573 at_148 (d_l_ne_f (own_low i560 (by omega))) (pc' := 151) rfl ?_
    refine g_aload A573 at_151 rfl rfl (pc' := 153) rfl ?_
    refine g_iload A573 at_153 rfl (pc' := 155) rfl ?_
    refine g_daload A573 hZ e572 V533 (i := i564) hi565 rfl (x := (own_u (13840687554816376832 : UInt64) i564)) rfl at_155 (pc' := 156) rfl ?_
    refine g_iload A573 at_156 rfl (pc' := 158) rfl ?_
    refine g_dload A573 at_158 rfl (pc' := 160) rfl ?_
    obtain ⟨_, _, ⟨T574, L574, k574, n574⟩, -, X574, ⟨L574c, hQ574, l574, y574, z574⟩, st574⟩ := Jvm.LawKit.callS X568 hx (y := (⟨"com/example/tradewind/tradewind/benchmark/ZdtLowerPinLaw", "expected", "(ID)D"⟩ : MethodName)) hown (mvT hZ (hw _ (List.mem_of_getElem? (i := 21) rfl))) (mvT hZ (hw _ (List.mem_of_getElem? (i := 22) rfl))) (mvT hZ (hw _ (List.mem_of_getElem? (i := 23) rfl))) (mvT hZ (hw _ (List.mem_of_getElem? (i := 24) rfl))) (by decide) (backOf (W := 2) (rm4 l Z a0 hw [] (Int32.ofNat i564) (13840687554816376832 : UInt64) T527.heap n0 Z550 ) hZ (hw _ (List.mem_of_getElem? (i := 24) rfl)) (hw _ (List.mem_of_getElem? (i := 23) rfl)) (by decide) (by decide)) (g := (mkF m 160 #[.val (.int p0), .val (.int p1), .val (.int p2), .val (.int (3 : Int32)), .val (.ref z4), .val (.int (10 : Int32)), .val (.double (13840687554816376832 : UInt64)), .second, .val (.ref r529), .val (.int (Int32.ofNat i560)), .val (.int (Int32.ofNat i564)), .unset] [(.double (13840687554816376832 : UInt64)), (.int (Int32.ofNat i564)), (.double (own_u (13840687554816376832 : UInt64) i564))])) rfl (by rw [hml]; rfl) (argsL := [(.int (Int32.ofNat i564)), (.double (13840687554816376832 : UInt64))]) (rest := [(.double (own_u (13840687554816376832 : UInt64) i564))]) (lenOf pd_3 rfl) rfl (by show 2 * 0 + _ ≤ _; exact Nat.le_of_eq rfl) (hb hby at_160) (fun _ _ => ⟨rfl, e572, (by decide : 1 + 0 ≤ _), (by decide : 10 + 0 ≤ _)⟩)
    dsimp only [Pt.U, Pt.locs, Pt.cells, Pt.slots] at X574 l574 y574 z574 st574 hQ574
    subst l574 y574 z574
    obtain ⟨rfl, Nq575, Kq576⟩ := hQ574
    have N577 := Fr.app N571 Nq575
    refine Go.of (g' := (mkF m 163 #[.val (.int p0), .val (.int p1), .val (.int p2), .val (.int (3 : Int32)), .val (.ref z4), .val (.int (10 : Int32)), .val (.double (13840687554816376832 : UInt64)), .second, .val (.ref r529), .val (.int (Int32.ofNat i560)), .val (.int (Int32.ofNat i564)), .unset] [(.double (own_r_rm4 (Int32.ofNat i564) (13840687554816376832 : UInt64))), (.double (own_u (13840687554816376832 : UInt64) i564))])) st574 ?_
    have e578 : T574.heap = T527.heap := Kq576
    have A579 := (⟨X574, hx, hby⟩ : Ax _ _ _ _ _ _ _ _ _ _ _ _ _ _ _)
    refine g_dcmp A579 at_163 (pc' := 164) rfl ?_
    refine g_ifY A579 at_164 (d_l_eq_t (own_low i564 (by omega))) (pc' := 169) rfl ?_
    refine g_aload A579 at_169 rfl rfl (pc' := 171) rfl ?_
    refine g_iload A579 at_171 rfl (pc' := 173) rfl ?_
    refine g_ldcD A579 hZ hown (hw _ (List.mem_of_getElem? (i := 25) rfl)) at_173 (pc' := 176) rfl ?_
    obtain ⟨T580, h580, A580, e580, W580, st580⟩ := s_dastore A579 hZ e578 (ls := #[.val (.int p0), .val (.int p1), .val (.int p2), .val (.int (3 : Int32)), .val (.ref z4), .val (.int (10 : Int32)), .val (.double (13840687554816376832 : UInt64)), .second, .val (.ref r529), .val (.int (Int32.ofNat i560)), .val (.int (Int32.ofNat i564)), .unset]) (st := []) (x := (4619567317775286272 : UInt64)) V533 (i := i560) hi561 (j := (Int32.ofNat i560)) rfl at_176 (pc' := 177) rfl
    have N581 := Fr.snoc A580.1 N577 g553
    have K582 : Keep h0 h580 [] := K551.wr W580 (Or.inr gh554)
    have E583 : Exa Z h580 z1 "com/example/tradewind/tradewind/benchmark/Zdt" := Exa.wr W580 E535
    have F584 : Fld Z h580 z1 "com/example/tradewind/tradewind/benchmark/Zdt" "variables" "I" (.int (30 : Int32)) := Fld.other W580 F536 (Or.inl ne555)
    have F585 : Fld Z h580 z1 "com/example/tradewind/tradewind/benchmark/Zdt" "restLower" "D" (.double (0 : UInt64)) := Fld.other W580 F537 (Or.inl ne555)
    have E586 : Exa Z h580 z2 "com/example/tradewind/tradewind/benchmark/Zdt" := Exa.wr W580 E538
    have F587 : Fld Z h580 z2 "com/example/tradewind/tradewind/benchmark/Zdt" "variables" "I" (.int (30 : Int32)) := Fld.other W580 F539 (Or.inl ne556)
    have F588 : Fld Z h580 z2 "com/example/tradewind/tradewind/benchmark/Zdt" "restLower" "D" (.double (0 : UInt64)) := Fld.other W580 F540 (Or.inl ne556)
    have E589 : Exa Z h580 z3 "com/example/tradewind/tradewind/benchmark/Zdt" := Exa.wr W580 E541
    have F590 : Fld Z h580 z3 "com/example/tradewind/tradewind/benchmark/Zdt" "variables" "I" (.int (30 : Int32)) := Fld.other W580 F542 (Or.inl ne557)
    have F591 : Fld Z h580 z3 "com/example/tradewind/tradewind/benchmark/Zdt" "restLower" "D" (.double (0 : UInt64)) := Fld.other W580 F543 (Or.inl ne557)
    have E592 : Exa Z h580 z4 "com/example/tradewind/tradewind/benchmark/Zdt" := Exa.wr W580 E544
    have F593 : Fld Z h580 z4 "com/example/tradewind/tradewind/benchmark/Zdt" "variables" "I" (.int (10 : Int32)) := Fld.other W580 F545 (Or.inl ne558)
    have F594 : Fld Z h580 z4 "com/example/tradewind/tradewind/benchmark/Zdt" "restLower" "D" (.double (13840687554816376832 : UInt64)) := Fld.other W580 F546 (Or.inl ne558)
    have E595 : Exa Z h580 z6 "com/example/tradewind/tradewind/benchmark/Zdt" := Exa.wr W580 E547
    have F596 : Fld Z h580 z6 "com/example/tradewind/tradewind/benchmark/Zdt" "variables" "I" (.int (10 : Int32)) := Fld.other W580 F548 (Or.inl ne559)
    have F597 : Fld Z h580 z6 "com/example/tradewind/tradewind/benchmark/Zdt" "restLower" "D" (.double (0 : UInt64)) := Fld.other W580 F549 (Or.inl ne559)
    have V598 : Dar Z h580 r529 .double 10 (fun j => if j = i560 then .double (4619567317775286272 : UInt64) else (fun j => .double (own_u (13840687554816376832 : UInt64) j)) j) := Dar.set V533 W580 (fun _ _ => rfl)
    have Z599 : n0 ≤ h580.size := by rw [W580.size]; exact Z550
    refine st580 ?_
    refine g_aload A580 at_177 rfl rfl (pc' := 179) rfl ?_
    refine g_iload A580 at_179 rfl (pc' := 181) rfl ?_
    refine g_ldcD A580 hZ hown (hw _ (List.mem_of_getElem? (i := 25) rfl)) at_181 (pc' := 184) rfl ?_
    obtain ⟨T600, h600, A600, e600, W600, st600⟩ := s_dastore A580 hZ e580 (ls := #[.val (.int p0), .val (.int p1), .val (.int p2), .val (.int (3 : Int32)), .val (.ref z4), .val (.int (10 : Int32)), .val (.double (13840687554816376832 : UInt64)), .second, .val (.ref r529), .val (.int (Int32.ofNat i560)), .val (.int (Int32.ofNat i564)), .unset]) (st := []) (x := (4619567317775286272 : UInt64)) V598 (i := i564) hi565 (j := (Int32.ofNat i564)) rfl at_184 (pc' := 185) rfl
    have N601 := Fr.snoc A600.1 N581 g553
    have K602 : Keep h0 h600 [] := K582.wr W600 (Or.inr gh554)
    have E603 : Exa Z h600 z1 "com/example/tradewind/tradewind/benchmark/Zdt" := Exa.wr W600 E583
    have F604 : Fld Z h600 z1 "com/example/tradewind/tradewind/benchmark/Zdt" "variables" "I" (.int (30 : Int32)) := Fld.other W600 F584 (Or.inl ne555)
    have F605 : Fld Z h600 z1 "com/example/tradewind/tradewind/benchmark/Zdt" "restLower" "D" (.double (0 : UInt64)) := Fld.other W600 F585 (Or.inl ne555)
    have E606 : Exa Z h600 z2 "com/example/tradewind/tradewind/benchmark/Zdt" := Exa.wr W600 E586
    have F607 : Fld Z h600 z2 "com/example/tradewind/tradewind/benchmark/Zdt" "variables" "I" (.int (30 : Int32)) := Fld.other W600 F587 (Or.inl ne556)
    have F608 : Fld Z h600 z2 "com/example/tradewind/tradewind/benchmark/Zdt" "restLower" "D" (.double (0 : UInt64)) := Fld.other W600 F588 (Or.inl ne556)
    have E609 : Exa Z h600 z3 "com/example/tradewind/tradewind/benchmark/Zdt" := Exa.wr W600 E589
    have F610 : Fld Z h600 z3 "com/example/tradewind/tradewind/benchmark/Zdt" "variables" "I" (.int (30 : Int32)) := Fld.other W600 F590 (Or.inl ne557)
    have F611 : Fld Z h600 z3 "com/example/tradewind/tradewind/benchmark/Zdt" "restLower" "D" (.double (0 : UInt64)) := Fld.other W600 F591 (Or.inl ne557)
    have E612 : Exa Z h600 z4 "com/example/tradewind/tradewind/benchmark/Zdt" := Exa.wr W600 E592
    have F613 : Fld Z h600 z4 "com/example/tradewind/tradewind/benchmark/Zdt" "variables" "I" (.int (10 : Int32)) := Fld.other W600 F593 (Or.inl ne558)
    have F614 : Fld Z h600 z4 "com/example/tradewind/tradewind/benchmark/Zdt" "restLower" "D" (.double (13840687554816376832 : UInt64)) := Fld.other W600 F594 (Or.inl ne558)
    have E615 : Exa Z h600 z6 "com/example/tradewind/tradewind/benchmark/Zdt" := Exa.wr W600 E595
    have F616 : Fld Z h600 z6 "com/example/tradewind/tradewind/benchmark/Zdt" "variables" "I" (.int (10 : Int32)) := Fld.other W600 F596 (Or.inl ne559)
    have F617 : Fld Z h600 z6 "com/example/tradewind/tradewind/benchmark/Zdt" "restLower" "D" (.double (0 : UInt64)) := Fld.other W600 F597 (Or.inl ne559)
    have V618 : Dar Z h600 r529 .double 10 (fun j => if j = i564 then .double (4619567317775286272 : UInt64) else (fun j => if j = i560 then .double (4619567317775286272 : UInt64) else (fun j => .double (own_u (13840687554816376832 : UInt64) j)) j) j) := Dar.set V598 W600 (fun _ _ => rfl)
    have Z619 : n0 ≤ h600.size := by rw [W600.size]; exact Z599
    refine st600 ?_
    refine g_aload A600 at_185 rfl rfl (pc' := 187) rfl ?_
    obtain ⟨cq621, kq621, q621a, q621b, q621c⟩ := isOf hZ e600 E612
    obtain ⟨_, _, ⟨T620, L620, k620, n620⟩, -, X620, ⟨L620c, hQ620, l620, y620, z620⟩, st620⟩ := A600.1.virtualBack hx (y := (⟨"com/example/tradewind/tradewind/benchmark/Zdt", "lower", "()[D"⟩ : MethodName)) (z := (⟨"com/example/tradewind/tradewind/benchmark/Zdt", "lower", "()[D"⟩ : MethodName)) hown (mvT hZ (hw _ (List.mem_of_getElem? (i := 4) rfl))) (mvT hZ (hw _ (List.mem_of_getElem? (i := 5) rfl))) (notFace_of_selects (args := #[]) (mvT hZ (hw _ (List.mem_of_getElem? (i := 7) rfl)))) (mvT hZ (hw _ (List.mem_of_getElem? (i := 7) rfl))) (mvT hZ (hw _ (List.mem_of_getElem? (i := 6) rfl))) (by decide) (backOf (W := 0) (rmB10 l Z a0 hw [] z4 (13840687554816376832 : UInt64) h600 n0 Z619 F613 F614) hZ (hw _ (List.mem_of_getElem? (i := 8) rfl)) (hw _ (List.mem_of_getElem? (i := 2) rfl)) (by decide) (by decide)) q621a q621c (g := (mkF m 187 #[.val (.int p0), .val (.int p1), .val (.int p2), .val (.int (3 : Int32)), .val (.ref z4), .val (.int (10 : Int32)), .val (.double (13840687554816376832 : UInt64)), .second, .val (.ref r529), .val (.int (Int32.ofNat i560)), .val (.int (Int32.ofNat i564)), .unset] [(.ref z4)])) rfl (by rw [hml]; rfl) (Steps.refl _) (argsL := []) (rest := []) (lenOf pd_2 rfl) rfl (by show 2 * 0 + _ ≤ _; exact Nat.le_of_eq rfl) (hb hby at_187) (fun _ _ => ⟨rfl, e600, (by decide : 1 + 1 ≤ _), (by decide : 10 + 10 ≤ _)⟩)
    dsimp only [Pt.U, Pt.locs, Pt.cells, Pt.slots] at X620 l620 y620 z620 st620 hQ620
    subst l620 y620 z620
    obtain ⟨r622, rfl, Nq623, Kq624, gx625, V626⟩ := hQ620
    have N627 := Fr.app N601 Nq623
    refine Go.tr (g' := (mkF m 190 #[.val (.int p0), .val (.int p1), .val (.int p2), .val (.int (3 : Int32)), .val (.ref z4), .val (.int (10 : Int32)), .val (.double (13840687554816376832 : UInt64)), .second, .val (.ref r529), .val (.int (Int32.ofNat i560)), .val (.int (Int32.ofNat i564)), .unset] [(.ref r622)])) st620 ?_
    have E628 : Exa Z T620.heap z1 "com/example/tradewind/tradewind/benchmark/Zdt" := Exa.keep E603 Kq624
    have F629 : Fld Z T620.heap z1 "com/example/tradewind/tradewind/benchmark/Zdt" "variables" "I" (.int (30 : Int32)) := Fld.keep F604 Kq624 nin0
    have F630 : Fld Z T620.heap z1 "com/example/tradewind/tradewind/benchmark/Zdt" "restLower" "D" (.double (0 : UInt64)) := Fld.keep F605 Kq624 nin0
    have E631 : Exa Z T620.heap z2 "com/example/tradewind/tradewind/benchmark/Zdt" := Exa.keep E606 Kq624
    have F632 : Fld Z T620.heap z2 "com/example/tradewind/tradewind/benchmark/Zdt" "variables" "I" (.int (30 : Int32)) := Fld.keep F607 Kq624 nin0
    have F633 : Fld Z T620.heap z2 "com/example/tradewind/tradewind/benchmark/Zdt" "restLower" "D" (.double (0 : UInt64)) := Fld.keep F608 Kq624 nin0
    have E634 : Exa Z T620.heap z3 "com/example/tradewind/tradewind/benchmark/Zdt" := Exa.keep E609 Kq624
    have F635 : Fld Z T620.heap z3 "com/example/tradewind/tradewind/benchmark/Zdt" "variables" "I" (.int (30 : Int32)) := Fld.keep F610 Kq624 nin0
    have F636 : Fld Z T620.heap z3 "com/example/tradewind/tradewind/benchmark/Zdt" "restLower" "D" (.double (0 : UInt64)) := Fld.keep F611 Kq624 nin0
    have E637 : Exa Z T620.heap z4 "com/example/tradewind/tradewind/benchmark/Zdt" := Exa.keep E612 Kq624
    have F638 : Fld Z T620.heap z4 "com/example/tradewind/tradewind/benchmark/Zdt" "variables" "I" (.int (10 : Int32)) := Fld.keep F613 Kq624 nin0
    have F639 : Fld Z T620.heap z4 "com/example/tradewind/tradewind/benchmark/Zdt" "restLower" "D" (.double (13840687554816376832 : UInt64)) := Fld.keep F614 Kq624 nin0
    have E640 : Exa Z T620.heap z6 "com/example/tradewind/tradewind/benchmark/Zdt" := Exa.keep E615 Kq624
    have F641 : Fld Z T620.heap z6 "com/example/tradewind/tradewind/benchmark/Zdt" "variables" "I" (.int (10 : Int32)) := Fld.keep F616 Kq624 nin0
    have F642 : Fld Z T620.heap z6 "com/example/tradewind/tradewind/benchmark/Zdt" "restLower" "D" (.double (0 : UInt64)) := Fld.keep F617 Kq624 nin0
    have V643 : Dar Z T620.heap r529 .double 10 (fun j => if j = i564 then .double (4619567317775286272 : UInt64) else (fun j => if j = i560 then .double (4619567317775286272 : UInt64) else (fun j => .double (own_u (13840687554816376832 : UInt64) j)) j) j) := Dar.keep V618 Kq624 nin0
    have Z644 : n0 ≤ T620.heap.size := Nat.le_trans Z619 Kq624.1
    have K645 : Keep h0 T620.heap [] := K602.trans Kq624 all0
    have A646 := (⟨X620, hx, hby⟩ : Ax _ _ _ _ _ _ _ _ _ _ _ _ _ _ _)
    have g647 : n0 ≤ r622 := Nat.le_trans Z619 gx625
    have gh648 : h0.size ≤ r622 := Nat.le_trans K602.1 gx625
    have ne649 : r529 ≠ r622 := Nat.ne_of_lt (Nat.lt_of_lt_of_le V618.lt gx625)
    have ne650 : z1 ≠ r622 := Nat.ne_of_lt (Nat.lt_of_lt_of_le E603.lt gx625)
    have ne651 : z2 ≠ r622 := Nat.ne_of_lt (Nat.lt_of_lt_of_le E606.lt gx625)
    have ne652 : z3 ≠ r622 := Nat.ne_of_lt (Nat.lt_of_lt_of_le E609.lt gx625)
    have ne653 : z4 ≠ r622 := Nat.ne_of_lt (Nat.lt_of_lt_of_le E612.lt gx625)
    have ne654 : z6 ≠ r622 := Nat.ne_of_lt (Nat.lt_of_lt_of_le E615.lt gx625)
    refine g_astore A646 at_190 rfl (ls' := #[.val (.int p0), .val (.int p1), .val (.int p2), .val (.int (3 : Int32)), .val (.ref z4), .val (.int (10 : Int32)), .val (.double (13840687554816376832 : UInt64)), .second, .val (.ref r529), .val (.int (Int32.ofNat i560)), .val (.int (Int32.ofNat i564)), .val (.ref r622)]) rfl (pc' := 192) rfl ?_
    refine g_aload A646 at_192 rfl rfl (pc' := 194) rfl ?_
    refine g_alen A646 hZ rfl V626 at_194 (z := (10 : Int32)) rfl (pc' := 195) rfl ?_
    refine g_iload A646 at_195 rfl (pc' := 197) rfl ?_
    refine g_icY A646 at_197 (c2_eq_t rfl) (pc' := 202) rfl ?_
    refine g_aload A646 at_202 rfl rfl (pc' := 204) rfl ?_
    refine g_iload A646 at_204 rfl (pc' := 206) rfl ?_
    refine g_daload A646 hZ rfl V626 (i := i560) hi561 rfl (x := (own_u (13840687554816376832 : UInt64) i560)) rfl at_206 (pc' := 207) rfl ?_
    refine g_iload A646 at_207 rfl (pc' := 209) rfl ?_
    refine g_dload A646 at_209 rfl (pc' := 211) rfl ?_
    obtain ⟨_, _, ⟨T655, L655, k655, n655⟩, -, X655, ⟨L655c, hQ655, l655, y655, z655⟩, st655⟩ := Jvm.LawKit.callS X620 hx (y := (⟨"com/example/tradewind/tradewind/benchmark/ZdtLowerPinLaw", "expected", "(ID)D"⟩ : MethodName)) hown (mvT hZ (hw _ (List.mem_of_getElem? (i := 21) rfl))) (mvT hZ (hw _ (List.mem_of_getElem? (i := 22) rfl))) (mvT hZ (hw _ (List.mem_of_getElem? (i := 23) rfl))) (mvT hZ (hw _ (List.mem_of_getElem? (i := 24) rfl))) (by decide) (backOf (W := 2) (rm4 l Z a0 hw [] (Int32.ofNat i560) (13840687554816376832 : UInt64) T620.heap n0 Z644 ) hZ (hw _ (List.mem_of_getElem? (i := 24) rfl)) (hw _ (List.mem_of_getElem? (i := 23) rfl)) (by decide) (by decide)) (g := (mkF m 211 #[.val (.int p0), .val (.int p1), .val (.int p2), .val (.int (3 : Int32)), .val (.ref z4), .val (.int (10 : Int32)), .val (.double (13840687554816376832 : UInt64)), .second, .val (.ref r529), .val (.int (Int32.ofNat i560)), .val (.int (Int32.ofNat i564)), .val (.ref r622)] [(.double (13840687554816376832 : UInt64)), (.int (Int32.ofNat i560)), (.double (own_u (13840687554816376832 : UInt64) i560))])) rfl (by rw [hml]; rfl) (argsL := [(.int (Int32.ofNat i560)), (.double (13840687554816376832 : UInt64))]) (rest := [(.double (own_u (13840687554816376832 : UInt64) i560))]) (lenOf pd_3 rfl) rfl (by show 2 * 0 + _ ≤ _; exact Nat.le_of_eq rfl) (hb hby at_211) (fun _ _ => ⟨rfl, rfl, (by decide : 2 + 0 ≤ _), (by decide : 20 + 0 ≤ _)⟩)
    dsimp only [Pt.U, Pt.locs, Pt.cells, Pt.slots] at X655 l655 y655 z655 st655 hQ655
    subst l655 y655 z655
    obtain ⟨rfl, Nq656, Kq657⟩ := hQ655
    have N658 := Fr.app N627 Nq656
    refine Go.of (g' := (mkF m 214 #[.val (.int p0), .val (.int p1), .val (.int p2), .val (.int (3 : Int32)), .val (.ref z4), .val (.int (10 : Int32)), .val (.double (13840687554816376832 : UInt64)), .second, .val (.ref r529), .val (.int (Int32.ofNat i560)), .val (.int (Int32.ofNat i564)), .val (.ref r622)] [(.double (own_r_rm4 (Int32.ofNat i560) (13840687554816376832 : UInt64))), (.double (own_u (13840687554816376832 : UInt64) i560))])) st655 ?_
    have e659 : T655.heap = T620.heap := Kq657
    have A660 := (⟨X655, hx, hby⟩ : Ax _ _ _ _ _ _ _ _ _ _ _ _ _ _ _)
    refine g_dcmp A660 at_214 (pc' := 215) rfl ?_
    refine g_ifN A660 at_215 (d_l_ne_f (own_low i560 (by omega))) (pc' := 218) rfl ?_
    refine g_aload A660 at_218 rfl rfl (pc' := 220) rfl ?_
    refine g_iload A660 at_220 rfl (pc' := 222) rfl ?_
    refine g_daload A660 hZ e659 V626 (i := i564) hi565 rfl (x := (own_u (13840687554816376832 : UInt64) i564)) rfl at_222 (pc' := 223) rfl ?_
    refine g_iload A660 at_223 rfl (pc' := 225) rfl ?_
    refine g_dload A660 at_225 rfl (pc' := 227) rfl ?_
    obtain ⟨_, _, ⟨T661, L661, k661, n661⟩, -, X661, ⟨L661c, hQ661, l661, y661, z661⟩, st661⟩ := Jvm.LawKit.callS X655 hx (y := (⟨"com/example/tradewind/tradewind/benchmark/ZdtLowerPinLaw", "expected", "(ID)D"⟩ : MethodName)) hown (mvT hZ (hw _ (List.mem_of_getElem? (i := 21) rfl))) (mvT hZ (hw _ (List.mem_of_getElem? (i := 22) rfl))) (mvT hZ (hw _ (List.mem_of_getElem? (i := 23) rfl))) (mvT hZ (hw _ (List.mem_of_getElem? (i := 24) rfl))) (by decide) (backOf (W := 2) (rm4 l Z a0 hw [] (Int32.ofNat i564) (13840687554816376832 : UInt64) T620.heap n0 Z644 ) hZ (hw _ (List.mem_of_getElem? (i := 24) rfl)) (hw _ (List.mem_of_getElem? (i := 23) rfl)) (by decide) (by decide)) (g := (mkF m 227 #[.val (.int p0), .val (.int p1), .val (.int p2), .val (.int (3 : Int32)), .val (.ref z4), .val (.int (10 : Int32)), .val (.double (13840687554816376832 : UInt64)), .second, .val (.ref r529), .val (.int (Int32.ofNat i560)), .val (.int (Int32.ofNat i564)), .val (.ref r622)] [(.double (13840687554816376832 : UInt64)), (.int (Int32.ofNat i564)), (.double (own_u (13840687554816376832 : UInt64) i564))])) rfl (by rw [hml]; rfl) (argsL := [(.int (Int32.ofNat i564)), (.double (13840687554816376832 : UInt64))]) (rest := [(.double (own_u (13840687554816376832 : UInt64) i564))]) (lenOf pd_3 rfl) rfl (by show 2 * 0 + _ ≤ _; exact Nat.le_of_eq rfl) (hb hby at_227) (fun _ _ => ⟨rfl, e659, (by decide : 2 + 0 ≤ _), (by decide : 20 + 0 ≤ _)⟩)
    dsimp only [Pt.U, Pt.locs, Pt.cells, Pt.slots] at X661 l661 y661 z661 st661 hQ661
    subst l661 y661 z661
    obtain ⟨rfl, Nq662, Kq663⟩ := hQ661
    have N664 := Fr.app N658 Nq662
    refine Go.of (g' := (mkF m 230 #[.val (.int p0), .val (.int p1), .val (.int p2), .val (.int (3 : Int32)), .val (.ref z4), .val (.int (10 : Int32)), .val (.double (13840687554816376832 : UInt64)), .second, .val (.ref r529), .val (.int (Int32.ofNat i560)), .val (.int (Int32.ofNat i564)), .val (.ref r622)] [(.double (own_r_rm4 (Int32.ofNat i564) (13840687554816376832 : UInt64))), (.double (own_u (13840687554816376832 : UInt64) i564))])) st661 ?_
    have e665 : T661.heap = T620.heap := Kq663
    have A666 := (⟨X661, hx, hby⟩ : Ax _ _ _ _ _ _ _ _ _ _ _ _ _ _ _)
    refine g_dcmp A666 at_230 (pc' := 231) rfl ?_
    refine g_ifN A666 at_231 (d_l_ne_f (own_low i564 (by omega))) (pc' := 234) rfl ?_
    refine g_iconst A666 at_234 (v := (1 : Int32)) rfl (pc' := 235) rfl ?_
    refine g_goto A666 at_235 (pc' := 239) rfl ?_
    exact g_ret (Q := Q0 Z p0 p1 p2 z1 z2 z3 z4 z6 h0 n0) A666 at_239 Bd.notSynchronized Bd.returns rfl (Or.inl ⟨rfl, by simp, _, rfl⟩) (by decide) (by decide) (by rw [e665]; exact ⟨rfl, N664⟩)
  · skip
    rw [hg98]
    refine g_istoreN A0 at_6 (ls' := #[.val (.int p0), .val (.int p1), .val (.int p2), .val (.int (4 : Int32)), .unset, .unset, .unset, .unset, .unset, .unset, .unset, .unset]) rfl (pc' := 7) rfl ?_
    refine g_iloadN A0 at_7 rfl (pc' := 8) rfl ?_
    refine g_ifY A0 at_8 (c0_ne_t (by decide)) (pc' := 26) rfl ?_
    refine g_iloadN A0 at_26 rfl (pc' := 27) rfl ?_
    refine g_iconst A0 at_27 (v := (1 : Int32)) rfl (pc' := 28) rfl ?_
    refine g_icY A0 at_28 (c2_ne_t (by decide)) (pc' := 46) rfl ?_
    refine g_iloadN A0 at_46 rfl (pc' := 47) rfl ?_
    refine g_iconst A0 at_47 (v := (2 : Int32)) rfl (pc' := 48) rfl ?_
    refine g_icY A0 at_48 (c2_ne_t (by decide)) (pc' := 66) rfl ?_
    refine g_iloadN A0 at_66 rfl (pc' := 67) rfl ?_
    refine g_iconst A0 at_67 (v := (3 : Int32)) rfl (pc' := 68) rfl ?_
    refine g_icY A0 at_68 (c2_ne_t (by decide)) (pc' := 88) rfl ?_
    obtain ⟨T667, X667, e667, st667⟩ := getS X0 hx hZ hown (host := "") (hw _ (List.mem_of_getElem? (i := 28) rfl)) Via.refl e0 S93 (g := (mkF m 88 #[.val (.int p0), .val (.int p1), .val (.int p2), .val (.int (4 : Int32)), .unset, .unset, .unset, .unset, .unset, .unset, .unset, .unset] [])) rfl (hb hby at_88)
    refine Go.of (g' := (mkF m 91 #[.val (.int p0), .val (.int p1), .val (.int p2), .val (.int (4 : Int32)), .unset, .unset, .unset, .unset, .unset, .unset, .unset, .unset] [(.ref z6)])) st667 ?_
    have A668 := (⟨X667, hx, hby⟩ : Ax _ _ _ _ _ _ _ _ _ _ _ _ _ _ _)
    refine g_astore A668 at_91 rfl (ls' := #[.val (.int p0), .val (.int p1), .val (.int p2), .val (.int (4 : Int32)), .val (.ref z6), .unset, .unset, .unset, .unset, .unset, .unset, .unset]) rfl (pc' := 93) rfl ?_
    refine g_bipush A668 at_93 (v := (10 : Int32)) rfl (pc' := 95) rfl ?_
    refine g_istore A668 at_95 (ls' := #[.val (.int p0), .val (.int p1), .val (.int p2), .val (.int (4 : Int32)), .val (.ref z6), .val (.int (10 : Int32)), .unset, .unset, .unset, .unset, .unset, .unset]) rfl (pc' := 97) rfl ?_
    refine g_dconst0 A668 at_97 (pc' := 98) rfl ?_
    refine g_dstore A668 at_98 (ls' := #[.val (.int p0), .val (.int p1), .val (.int p2), .val (.int (4 : Int32)), .val (.ref z6), .val (.int (10 : Int32)), .val (.double (0 : UInt64)), .second, .unset, .unset, .unset, .unset]) rfl (pc' := 100) rfl ?_
    refine g_aload A668 at_100 rfl rfl (pc' := 102) rfl ?_
    obtain ⟨cq670, kq670, q670a, q670b, q670c⟩ := isOf hZ e667 E94
    obtain ⟨_, _, ⟨T669, L669, k669, n669⟩, -, X669, ⟨L669c, hQ669, l669, y669, z669⟩, st669⟩ := X667.virtualBack hx (y := (⟨"com/example/tradewind/tradewind/benchmark/Zdt", "lower", "()[D"⟩ : MethodName)) (z := (⟨"com/example/tradewind/tradewind/benchmark/Zdt", "lower", "()[D"⟩ : MethodName)) hown (mvT hZ (hw _ (List.mem_of_getElem? (i := 4) rfl))) (mvT hZ (hw _ (List.mem_of_getElem? (i := 5) rfl))) (notFace_of_selects (args := #[]) (mvT hZ (hw _ (List.mem_of_getElem? (i := 7) rfl)))) (mvT hZ (hw _ (List.mem_of_getElem? (i := 7) rfl))) (mvT hZ (hw _ (List.mem_of_getElem? (i := 6) rfl))) (by decide) (backOf (W := 0) (rmB10 l Z a0 hw [] z6 (0 : UInt64) h0 n0 Z0 F95 F96) hZ (hw _ (List.mem_of_getElem? (i := 8) rfl)) (hw _ (List.mem_of_getElem? (i := 2) rfl)) (by decide) (by decide)) q670a q670c (g := (mkF m 102 #[.val (.int p0), .val (.int p1), .val (.int p2), .val (.int (4 : Int32)), .val (.ref z6), .val (.int (10 : Int32)), .val (.double (0 : UInt64)), .second, .unset, .unset, .unset, .unset] [(.ref z6)])) rfl (by rw [hml]; rfl) (Steps.refl _) (argsL := []) (rest := []) (lenOf pd_2 rfl) rfl (by show 2 * 0 + _ ≤ _; exact Nat.le_of_eq rfl) (hb hby at_102) (fun _ _ => ⟨rfl, e667, (by decide : 0 + 1 ≤ _), (by decide : 0 + 10 ≤ _)⟩)
    dsimp only [Pt.U, Pt.locs, Pt.cells, Pt.slots] at X669 l669 y669 z669 st669 hQ669
    subst l669 y669 z669
    obtain ⟨r671, rfl, Nq672, Kq673, gx674, V675⟩ := hQ669
    have N676 := Fr.app N0 Nq672
    refine Go.tr (g' := (mkF m 105 #[.val (.int p0), .val (.int p1), .val (.int p2), .val (.int (4 : Int32)), .val (.ref z6), .val (.int (10 : Int32)), .val (.double (0 : UInt64)), .second, .unset, .unset, .unset, .unset] [(.ref r671)])) st669 ?_
    have E677 : Exa Z T669.heap z1 "com/example/tradewind/tradewind/benchmark/Zdt" := Exa.keep E78 Kq673
    have F678 : Fld Z T669.heap z1 "com/example/tradewind/tradewind/benchmark/Zdt" "variables" "I" (.int (30 : Int32)) := Fld.keep F79 Kq673 nin0
    have F679 : Fld Z T669.heap z1 "com/example/tradewind/tradewind/benchmark/Zdt" "restLower" "D" (.double (0 : UInt64)) := Fld.keep F80 Kq673 nin0
    have E680 : Exa Z T669.heap z2 "com/example/tradewind/tradewind/benchmark/Zdt" := Exa.keep E82 Kq673
    have F681 : Fld Z T669.heap z2 "com/example/tradewind/tradewind/benchmark/Zdt" "variables" "I" (.int (30 : Int32)) := Fld.keep F83 Kq673 nin0
    have F682 : Fld Z T669.heap z2 "com/example/tradewind/tradewind/benchmark/Zdt" "restLower" "D" (.double (0 : UInt64)) := Fld.keep F84 Kq673 nin0
    have E683 : Exa Z T669.heap z3 "com/example/tradewind/tradewind/benchmark/Zdt" := Exa.keep E86 Kq673
    have F684 : Fld Z T669.heap z3 "com/example/tradewind/tradewind/benchmark/Zdt" "variables" "I" (.int (30 : Int32)) := Fld.keep F87 Kq673 nin0
    have F685 : Fld Z T669.heap z3 "com/example/tradewind/tradewind/benchmark/Zdt" "restLower" "D" (.double (0 : UInt64)) := Fld.keep F88 Kq673 nin0
    have E686 : Exa Z T669.heap z4 "com/example/tradewind/tradewind/benchmark/Zdt" := Exa.keep E90 Kq673
    have F687 : Fld Z T669.heap z4 "com/example/tradewind/tradewind/benchmark/Zdt" "variables" "I" (.int (10 : Int32)) := Fld.keep F91 Kq673 nin0
    have F688 : Fld Z T669.heap z4 "com/example/tradewind/tradewind/benchmark/Zdt" "restLower" "D" (.double (13840687554816376832 : UInt64)) := Fld.keep F92 Kq673 nin0
    have E689 : Exa Z T669.heap z6 "com/example/tradewind/tradewind/benchmark/Zdt" := Exa.keep E94 Kq673
    have F690 : Fld Z T669.heap z6 "com/example/tradewind/tradewind/benchmark/Zdt" "variables" "I" (.int (10 : Int32)) := Fld.keep F95 Kq673 nin0
    have F691 : Fld Z T669.heap z6 "com/example/tradewind/tradewind/benchmark/Zdt" "restLower" "D" (.double (0 : UInt64)) := Fld.keep F96 Kq673 nin0
    have Z692 : n0 ≤ T669.heap.size := Nat.le_trans Z0 Kq673.1
    have K693 : Keep h0 T669.heap [] := (Keep.refl h0 []).trans Kq673 all0
    have A694 := (⟨X669, hx, hby⟩ : Ax _ _ _ _ _ _ _ _ _ _ _ _ _ _ _)
    have g695 : n0 ≤ r671 := Nat.le_trans Z0 gx674
    have gh696 : h0.size ≤ r671 := Nat.le_trans (Keep.refl h0 []).1 gx674
    have ne697 : z1 ≠ r671 := Nat.ne_of_lt (Nat.lt_of_lt_of_le E78.lt gx674)
    have ne698 : z2 ≠ r671 := Nat.ne_of_lt (Nat.lt_of_lt_of_le E82.lt gx674)
    have ne699 : z3 ≠ r671 := Nat.ne_of_lt (Nat.lt_of_lt_of_le E86.lt gx674)
    have ne700 : z4 ≠ r671 := Nat.ne_of_lt (Nat.lt_of_lt_of_le E90.lt gx674)
    have ne701 : z6 ≠ r671 := Nat.ne_of_lt (Nat.lt_of_lt_of_le E94.lt gx674)
    refine g_astore A694 at_105 rfl (ls' := #[.val (.int p0), .val (.int p1), .val (.int p2), .val (.int (4 : Int32)), .val (.ref z6), .val (.int (10 : Int32)), .val (.double (0 : UInt64)), .second, .val (.ref r671), .unset, .unset, .unset]) rfl (pc' := 107) rfl ?_
    refine g_aload A694 at_107 rfl rfl (pc' := 109) rfl ?_
    refine g_alen A694 hZ rfl V675 at_109 (z := (10 : Int32)) rfl (pc' := 110) rfl ?_
    refine g_iload A694 at_110 rfl (pc' := 112) rfl ?_
    refine g_icY A694 at_112 (c2_eq_t rfl) (pc' := 117) rfl ?_
    refine g_iloadN A694 at_117 rfl (pc' := 118) rfl ?_
    refine g_ldcI A694 hZ hown (hw _ (List.mem_of_getElem? (i := 0) rfl)) at_118 (pc' := 120) rfl ?_
    refine g_iand A694 at_120 (pc' := 121) rfl ?_
    refine g_iload A694 at_121 rfl (pc' := 123) rfl ?_
    refine g_irem A694 at_123 (by decide) (pc' := 124) rfl ?_
    obtain ⟨i702, hi703, hk704⟩ := own_mod p1 10 (by decide) (by decide)
    have hk705 : ((p1 &&& (2147483647 : Int32)) % (10 : Int32)) = Int32.ofNat i702 := hk704
    rw [hk705]
    refine g_istore A694 at_124 (ls' := #[.val (.int p0), .val (.int p1), .val (.int p2), .val (.int (4 : Int32)), .val (.ref z6), .val (.int (10 : Int32)), .val (.double (0 : UInt64)), .second, .val (.ref r671), .val (.int (Int32.ofNat i702)), .unset, .unset]) rfl (pc' := 126) rfl ?_
    refine g_iloadN A694 at_126 rfl (pc' := 127) rfl ?_
    refine g_ldcI A694 hZ hown (hw _ (List.mem_of_getElem? (i := 0) rfl)) at_127 (pc' := 129) rfl ?_
    refine g_iand A694 at_129 (pc' := 130) rfl ?_
    refine g_iload A694 at_130 rfl (pc' := 132) rfl ?_
    refine g_irem A694 at_132 (by decide) (pc' := 133) rfl ?_
    obtain ⟨i706, hi707, hk708⟩ := own_mod p2 10 (by decide) (by decide)
    have hk709 : ((p2 &&& (2147483647 : Int32)) % (10 : Int32)) = Int32.ofNat i706 := hk708
    rw [hk709]
    refine g_istore A694 at_133 (ls' := #[.val (.int p0), .val (.int p1), .val (.int p2), .val (.int (4 : Int32)), .val (.ref z6), .val (.int (10 : Int32)), .val (.double (0 : UInt64)), .second, .val (.ref r671), .val (.int (Int32.ofNat i702)), .val (.int (Int32.ofNat i706)), .unset]) rfl (pc' := 135) rfl ?_
    refine g_aload A694 at_135 rfl rfl (pc' := 137) rfl ?_
    refine g_iload A694 at_137 rfl (pc' := 139) rfl ?_
    refine g_daload A694 hZ rfl V675 (i := i702) hi703 rfl (x := (own_u (0 : UInt64) i702)) rfl at_139 (pc' := 140) rfl ?_
    refine g_iload A694 at_140 rfl (pc' := 142) rfl ?_
    refine g_dload A694 at_142 rfl (pc' := 144) rfl ?_
    obtain ⟨_, _, ⟨T710, L710, k710, n710⟩, -, X710, ⟨L710c, hQ710, l710, y710, z710⟩, st710⟩ := Jvm.LawKit.callS X669 hx (y := (⟨"com/example/tradewind/tradewind/benchmark/ZdtLowerPinLaw", "expected", "(ID)D"⟩ : MethodName)) hown (mvT hZ (hw _ (List.mem_of_getElem? (i := 21) rfl))) (mvT hZ (hw _ (List.mem_of_getElem? (i := 22) rfl))) (mvT hZ (hw _ (List.mem_of_getElem? (i := 23) rfl))) (mvT hZ (hw _ (List.mem_of_getElem? (i := 24) rfl))) (by decide) (backOf (W := 2) (rm4 l Z a0 hw [] (Int32.ofNat i702) (0 : UInt64) T669.heap n0 Z692 ) hZ (hw _ (List.mem_of_getElem? (i := 24) rfl)) (hw _ (List.mem_of_getElem? (i := 23) rfl)) (by decide) (by decide)) (g := (mkF m 144 #[.val (.int p0), .val (.int p1), .val (.int p2), .val (.int (4 : Int32)), .val (.ref z6), .val (.int (10 : Int32)), .val (.double (0 : UInt64)), .second, .val (.ref r671), .val (.int (Int32.ofNat i702)), .val (.int (Int32.ofNat i706)), .unset] [(.double (0 : UInt64)), (.int (Int32.ofNat i702)), (.double (own_u (0 : UInt64) i702))])) rfl (by rw [hml]; rfl) (argsL := [(.int (Int32.ofNat i702)), (.double (0 : UInt64))]) (rest := [(.double (own_u (0 : UInt64) i702))]) (lenOf pd_3 rfl) rfl (by show 2 * 0 + _ ≤ _; exact Nat.le_of_eq rfl) (hb hby at_144) (fun _ _ => ⟨rfl, rfl, (by decide : 1 + 0 ≤ _), (by decide : 10 + 0 ≤ _)⟩)
    dsimp only [Pt.U, Pt.locs, Pt.cells, Pt.slots] at X710 l710 y710 z710 st710 hQ710
    subst l710 y710 z710
    obtain ⟨rfl, Nq711, Kq712⟩ := hQ710
    have N713 := Fr.app N676 Nq711
    refine Go.of (g' := (mkF m 147 #[.val (.int p0), .val (.int p1), .val (.int p2), .val (.int (4 : Int32)), .val (.ref z6), .val (.int (10 : Int32)), .val (.double (0 : UInt64)), .second, .val (.ref r671), .val (.int (Int32.ofNat i702)), .val (.int (Int32.ofNat i706)), .unset] [(.double (own_r_rm4 (Int32.ofNat i702) (0 : UInt64))), (.double (own_u (0 : UInt64) i702))])) st710 ?_
    have e714 : T710.heap = T669.heap := Kq712
    have A715 := (⟨X710, hx, hby⟩ : Ax _ _ _ _ _ _ _ _ _ _ _ _ _ _ _)
    refine g_dcmp A715 at_147 (pc' := 148) rfl ?_
    refine g_ifN A715 at_148 (d_l_ne_f (own_low i702 (by omega))) (pc' := 151) rfl ?_
    refine g_aload A715 at_151 rfl rfl (pc' := 153) rfl ?_
    refine g_iload A715 at_153 rfl (pc' := 155) rfl ?_
    refine g_daload A715 hZ e714 V675 (i := i706) hi707 rfl (x := (own_u (0 : UInt64) i706)) rfl at_155 (pc' := 156) rfl ?_
    refine g_iload A715 at_156 rfl (pc' := 158) rfl ?_
    refine g_dload A715 at_158 rfl (pc' := 160) rfl ?_
    obtain ⟨_, _, ⟨T716, L716, k716, n716⟩, -, X716, ⟨L716c, hQ716, l716, y716, z716⟩, st716⟩ := Jvm.LawKit.callS X710 hx (y := (⟨"com/example/tradewind/tradewind/benchmark/ZdtLowerPinLaw", "expected", "(ID)D"⟩ : MethodName)) hown (mvT hZ (hw _ (List.mem_of_getElem? (i := 21) rfl))) (mvT hZ (hw _ (List.mem_of_getElem? (i := 22) rfl))) (mvT hZ (hw _ (List.mem_of_getElem? (i := 23) rfl))) (mvT hZ (hw _ (List.mem_of_getElem? (i := 24) rfl))) (by decide) (backOf (W := 2) (rm4 l Z a0 hw [] (Int32.ofNat i706) (0 : UInt64) T669.heap n0 Z692 ) hZ (hw _ (List.mem_of_getElem? (i := 24) rfl)) (hw _ (List.mem_of_getElem? (i := 23) rfl)) (by decide) (by decide)) (g := (mkF m 160 #[.val (.int p0), .val (.int p1), .val (.int p2), .val (.int (4 : Int32)), .val (.ref z6), .val (.int (10 : Int32)), .val (.double (0 : UInt64)), .second, .val (.ref r671), .val (.int (Int32.ofNat i702)), .val (.int (Int32.ofNat i706)), .unset] [(.double (0 : UInt64)), (.int (Int32.ofNat i706)), (.double (own_u (0 : UInt64) i706))])) rfl (by rw [hml]; rfl) (argsL := [(.int (Int32.ofNat i706)), (.double (0 : UInt64))]) (rest := [(.double (own_u (0 : UInt64) i706))]) (lenOf pd_3 rfl) rfl (by show 2 * 0 + _ ≤ _; exact Nat.le_of_eq rfl) (hb hby at_160) (fun _ _ => ⟨rfl, e714, (by decide : 1 + 0 ≤ _), (by decide : 10 + 0 ≤ _)⟩)
    dsimp only [Pt.U, Pt.locs, Pt.cells, Pt.slots] at X716 l716 y716 z716 st716 hQ716
    subst l716 y716 z716
    obtain ⟨rfl, Nq717, Kq718⟩ := hQ716
    have N719 := Fr.app N713 Nq717
    refine Go.of (g' := (mkF m 163 #[.val (.int p0), .val (.int p1), .val (.int p2), .val (.int (4 : Int32)), .val (.ref z6), .val (.int (10 : Int32)), .val (.double (0 : UInt64)), .second, .val (.ref r671), .val (.int (Int32.ofNat i702)), .val (.int (Int32.ofNat i706)), .unset] [(.double (own_r_rm4 (Int32.ofNat i706) (0 : UInt64))), (.double (own_u (0 : UInt64) i706))])) st716 ?_
    have e720 : T716.heap = T669.heap := Kq718
    have A721 := (⟨X716, hx, hby⟩ : Ax _ _ _ _ _ _ _ _ _ _ _ _ _ _ _)
    refine g_dcmp A721 at_163 (pc' := 164) rfl ?_
    refine g_ifY A721 at_164 (d_l_eq_t (own_low i706 (by omega))) (pc' := 169) rfl ?_
    refine g_aload A721 at_169 rfl rfl (pc' := 171) rfl ?_
    refine g_iload A721 at_171 rfl (pc' := 173) rfl ?_
    refine g_ldcD A721 hZ hown (hw _ (List.mem_of_getElem? (i := 25) rfl)) at_173 (pc' := 176) rfl ?_
    obtain ⟨T722, h722, A722, e722, W722, st722⟩ := s_dastore A721 hZ e720 (ls := #[.val (.int p0), .val (.int p1), .val (.int p2), .val (.int (4 : Int32)), .val (.ref z6), .val (.int (10 : Int32)), .val (.double (0 : UInt64)), .second, .val (.ref r671), .val (.int (Int32.ofNat i702)), .val (.int (Int32.ofNat i706)), .unset]) (st := []) (x := (4619567317775286272 : UInt64)) V675 (i := i702) hi703 (j := (Int32.ofNat i702)) rfl at_176 (pc' := 177) rfl
    have N723 := Fr.snoc A722.1 N719 g695
    have K724 : Keep h0 h722 [] := K693.wr W722 (Or.inr gh696)
    have E725 : Exa Z h722 z1 "com/example/tradewind/tradewind/benchmark/Zdt" := Exa.wr W722 E677
    have F726 : Fld Z h722 z1 "com/example/tradewind/tradewind/benchmark/Zdt" "variables" "I" (.int (30 : Int32)) := Fld.other W722 F678 (Or.inl ne697)
    have F727 : Fld Z h722 z1 "com/example/tradewind/tradewind/benchmark/Zdt" "restLower" "D" (.double (0 : UInt64)) := Fld.other W722 F679 (Or.inl ne697)
    have E728 : Exa Z h722 z2 "com/example/tradewind/tradewind/benchmark/Zdt" := Exa.wr W722 E680
    have F729 : Fld Z h722 z2 "com/example/tradewind/tradewind/benchmark/Zdt" "variables" "I" (.int (30 : Int32)) := Fld.other W722 F681 (Or.inl ne698)
    have F730 : Fld Z h722 z2 "com/example/tradewind/tradewind/benchmark/Zdt" "restLower" "D" (.double (0 : UInt64)) := Fld.other W722 F682 (Or.inl ne698)
    have E731 : Exa Z h722 z3 "com/example/tradewind/tradewind/benchmark/Zdt" := Exa.wr W722 E683
    have F732 : Fld Z h722 z3 "com/example/tradewind/tradewind/benchmark/Zdt" "variables" "I" (.int (30 : Int32)) := Fld.other W722 F684 (Or.inl ne699)
    have F733 : Fld Z h722 z3 "com/example/tradewind/tradewind/benchmark/Zdt" "restLower" "D" (.double (0 : UInt64)) := Fld.other W722 F685 (Or.inl ne699)
    have E734 : Exa Z h722 z4 "com/example/tradewind/tradewind/benchmark/Zdt" := Exa.wr W722 E686
    have F735 : Fld Z h722 z4 "com/example/tradewind/tradewind/benchmark/Zdt" "variables" "I" (.int (10 : Int32)) := Fld.other W722 F687 (Or.inl ne700)
    have F736 : Fld Z h722 z4 "com/example/tradewind/tradewind/benchmark/Zdt" "restLower" "D" (.double (13840687554816376832 : UInt64)) := Fld.other W722 F688 (Or.inl ne700)
    have E737 : Exa Z h722 z6 "com/example/tradewind/tradewind/benchmark/Zdt" := Exa.wr W722 E689
    have F738 : Fld Z h722 z6 "com/example/tradewind/tradewind/benchmark/Zdt" "variables" "I" (.int (10 : Int32)) := Fld.other W722 F690 (Or.inl ne701)
    have F739 : Fld Z h722 z6 "com/example/tradewind/tradewind/benchmark/Zdt" "restLower" "D" (.double (0 : UInt64)) := Fld.other W722 F691 (Or.inl ne701)
    have V740 : Dar Z h722 r671 .double 10 (fun j => if j = i702 then .double (4619567317775286272 : UInt64) else (fun j => .double (own_u (0 : UInt64) j)) j) := Dar.set V675 W722 (fun _ _ => rfl)
    have Z741 : n0 ≤ h722.size := by rw [W722.size]; exact Z692
    refine st722 ?_
    refine g_aload A722 at_177 rfl rfl (pc' := 179) rfl ?_
    refine g_iload A722 at_179 rfl (pc' := 181) rfl ?_
    refine g_ldcD A722 hZ hown (hw _ (List.mem_of_getElem? (i := 25) rfl)) at_181 (pc' := 184) rfl ?_
    obtain ⟨T742, h742, A742, e742, W742, st742⟩ := s_dastore A722 hZ e722 (ls := #[.val (.int p0), .val (.int p1), .val (.int p2), .val (.int (4 : Int32)), .val (.ref z6), .val (.int (10 : Int32)), .val (.double (0 : UInt64)), .second, .val (.ref r671), .val (.int (Int32.ofNat i702)), .val (.int (Int32.ofNat i706)), .unset]) (st := []) (x := (4619567317775286272 : UInt64)) V740 (i := i706) hi707 (j := (Int32.ofNat i706)) rfl at_184 (pc' := 185) rfl
    have N743 := Fr.snoc A742.1 N723 g695
    have K744 : Keep h0 h742 [] := K724.wr W742 (Or.inr gh696)
    have E745 : Exa Z h742 z1 "com/example/tradewind/tradewind/benchmark/Zdt" := Exa.wr W742 E725
    have F746 : Fld Z h742 z1 "com/example/tradewind/tradewind/benchmark/Zdt" "variables" "I" (.int (30 : Int32)) := Fld.other W742 F726 (Or.inl ne697)
    have F747 : Fld Z h742 z1 "com/example/tradewind/tradewind/benchmark/Zdt" "restLower" "D" (.double (0 : UInt64)) := Fld.other W742 F727 (Or.inl ne697)
    have E748 : Exa Z h742 z2 "com/example/tradewind/tradewind/benchmark/Zdt" := Exa.wr W742 E728
    have F749 : Fld Z h742 z2 "com/example/tradewind/tradewind/benchmark/Zdt" "variables" "I" (.int (30 : Int32)) := Fld.other W742 F729 (Or.inl ne698)
    have F750 : Fld Z h742 z2 "com/example/tradewind/tradewind/benchmark/Zdt" "restLower" "D" (.double (0 : UInt64)) := Fld.other W742 F730 (Or.inl ne698)
    have E751 : Exa Z h742 z3 "com/example/tradewind/tradewind/benchmark/Zdt" := Exa.wr W742 E731
    have F752 : Fld Z h742 z3 "com/example/tradewind/tradewind/benchmark/Zdt" "variables" "I" (.int (30 : Int32)) := Fld.other W742 F732 (Or.inl ne699)
    have F753 : Fld Z h742 z3 "com/example/tradewind/tradewind/benchmark/Zdt" "restLower" "D" (.double (0 : UInt64)) := Fld.other W742 F733 (Or.inl ne699)
    have E754 : Exa Z h742 z4 "com/example/tradewind/tradewind/benchmark/Zdt" := Exa.wr W742 E734
    have F755 : Fld Z h742 z4 "com/example/tradewind/tradewind/benchmark/Zdt" "variables" "I" (.int (10 : Int32)) := Fld.other W742 F735 (Or.inl ne700)
    have F756 : Fld Z h742 z4 "com/example/tradewind/tradewind/benchmark/Zdt" "restLower" "D" (.double (13840687554816376832 : UInt64)) := Fld.other W742 F736 (Or.inl ne700)
    have E757 : Exa Z h742 z6 "com/example/tradewind/tradewind/benchmark/Zdt" := Exa.wr W742 E737
    have F758 : Fld Z h742 z6 "com/example/tradewind/tradewind/benchmark/Zdt" "variables" "I" (.int (10 : Int32)) := Fld.other W742 F738 (Or.inl ne701)
    have F759 : Fld Z h742 z6 "com/example/tradewind/tradewind/benchmark/Zdt" "restLower" "D" (.double (0 : UInt64)) := Fld.other W742 F739 (Or.inl ne701)
    have V760 : Dar Z h742 r671 .double 10 (fun j => if j = i706 then .double (4619567317775286272 : UInt64) else (fun j => if j = i702 then .double (4619567317775286272 : UInt64) else (fun j => .double (own_u (0 : UInt64) j)) j) j) := Dar.set V740 W742 (fun _ _ => rfl)
    have Z761 : n0 ≤ h742.size := by rw [W742.size]; exact Z741
    refine st742 ?_
    refine g_aload A742 at_185 rfl rfl (pc' := 187) rfl ?_
    obtain ⟨cq763, kq763, q763a, q763b, q763c⟩ := isOf hZ e742 E757
    obtain ⟨_, _, ⟨T762, L762, k762, n762⟩, -, X762, ⟨L762c, hQ762, l762, y762, z762⟩, st762⟩ := A742.1.virtualBack hx (y := (⟨"com/example/tradewind/tradewind/benchmark/Zdt", "lower", "()[D"⟩ : MethodName)) (z := (⟨"com/example/tradewind/tradewind/benchmark/Zdt", "lower", "()[D"⟩ : MethodName)) hown (mvT hZ (hw _ (List.mem_of_getElem? (i := 4) rfl))) (mvT hZ (hw _ (List.mem_of_getElem? (i := 5) rfl))) (notFace_of_selects (args := #[]) (mvT hZ (hw _ (List.mem_of_getElem? (i := 7) rfl)))) (mvT hZ (hw _ (List.mem_of_getElem? (i := 7) rfl))) (mvT hZ (hw _ (List.mem_of_getElem? (i := 6) rfl))) (by decide) (backOf (W := 0) (rmB10 l Z a0 hw [] z6 (0 : UInt64) h742 n0 Z761 F758 F759) hZ (hw _ (List.mem_of_getElem? (i := 8) rfl)) (hw _ (List.mem_of_getElem? (i := 2) rfl)) (by decide) (by decide)) q763a q763c (g := (mkF m 187 #[.val (.int p0), .val (.int p1), .val (.int p2), .val (.int (4 : Int32)), .val (.ref z6), .val (.int (10 : Int32)), .val (.double (0 : UInt64)), .second, .val (.ref r671), .val (.int (Int32.ofNat i702)), .val (.int (Int32.ofNat i706)), .unset] [(.ref z6)])) rfl (by rw [hml]; rfl) (Steps.refl _) (argsL := []) (rest := []) (lenOf pd_2 rfl) rfl (by show 2 * 0 + _ ≤ _; exact Nat.le_of_eq rfl) (hb hby at_187) (fun _ _ => ⟨rfl, e742, (by decide : 1 + 1 ≤ _), (by decide : 10 + 10 ≤ _)⟩)
    dsimp only [Pt.U, Pt.locs, Pt.cells, Pt.slots] at X762 l762 y762 z762 st762 hQ762
    subst l762 y762 z762
    obtain ⟨r764, rfl, Nq765, Kq766, gx767, V768⟩ := hQ762
    have N769 := Fr.app N743 Nq765
    refine Go.tr (g' := (mkF m 190 #[.val (.int p0), .val (.int p1), .val (.int p2), .val (.int (4 : Int32)), .val (.ref z6), .val (.int (10 : Int32)), .val (.double (0 : UInt64)), .second, .val (.ref r671), .val (.int (Int32.ofNat i702)), .val (.int (Int32.ofNat i706)), .unset] [(.ref r764)])) st762 ?_
    have E770 : Exa Z T762.heap z1 "com/example/tradewind/tradewind/benchmark/Zdt" := Exa.keep E745 Kq766
    have F771 : Fld Z T762.heap z1 "com/example/tradewind/tradewind/benchmark/Zdt" "variables" "I" (.int (30 : Int32)) := Fld.keep F746 Kq766 nin0
    have F772 : Fld Z T762.heap z1 "com/example/tradewind/tradewind/benchmark/Zdt" "restLower" "D" (.double (0 : UInt64)) := Fld.keep F747 Kq766 nin0
    have E773 : Exa Z T762.heap z2 "com/example/tradewind/tradewind/benchmark/Zdt" := Exa.keep E748 Kq766
    have F774 : Fld Z T762.heap z2 "com/example/tradewind/tradewind/benchmark/Zdt" "variables" "I" (.int (30 : Int32)) := Fld.keep F749 Kq766 nin0
    have F775 : Fld Z T762.heap z2 "com/example/tradewind/tradewind/benchmark/Zdt" "restLower" "D" (.double (0 : UInt64)) := Fld.keep F750 Kq766 nin0
    have E776 : Exa Z T762.heap z3 "com/example/tradewind/tradewind/benchmark/Zdt" := Exa.keep E751 Kq766
    have F777 : Fld Z T762.heap z3 "com/example/tradewind/tradewind/benchmark/Zdt" "variables" "I" (.int (30 : Int32)) := Fld.keep F752 Kq766 nin0
    have F778 : Fld Z T762.heap z3 "com/example/tradewind/tradewind/benchmark/Zdt" "restLower" "D" (.double (0 : UInt64)) := Fld.keep F753 Kq766 nin0
    have E779 : Exa Z T762.heap z4 "com/example/tradewind/tradewind/benchmark/Zdt" := Exa.keep E754 Kq766
    have F780 : Fld Z T762.heap z4 "com/example/tradewind/tradewind/benchmark/Zdt" "variables" "I" (.int (10 : Int32)) := Fld.keep F755 Kq766 nin0
    have F781 : Fld Z T762.heap z4 "com/example/tradewind/tradewind/benchmark/Zdt" "restLower" "D" (.double (13840687554816376832 : UInt64)) := Fld.keep F756 Kq766 nin0
    have E782 : Exa Z T762.heap z6 "com/example/tradewind/tradewind/benchmark/Zdt" := Exa.keep E757 Kq766
    have F783 : Fld Z T762.heap z6 "com/example/tradewind/tradewind/benchmark/Zdt" "variables" "I" (.int (10 : Int32)) := Fld.keep F758 Kq766 nin0
    have F784 : Fld Z T762.heap z6 "com/example/tradewind/tradewind/benchmark/Zdt" "restLower" "D" (.double (0 : UInt64)) := Fld.keep F759 Kq766 nin0
    have V785 : Dar Z T762.heap r671 .double 10 (fun j => if j = i706 then .double (4619567317775286272 : UInt64) else (fun j => if j = i702 then .double (4619567317775286272 : UInt64) else (fun j => .double (own_u (0 : UInt64) j)) j) j) := Dar.keep V760 Kq766 nin0
    have Z786 : n0 ≤ T762.heap.size := Nat.le_trans Z761 Kq766.1
    have K787 : Keep h0 T762.heap [] := K744.trans Kq766 all0
    have A788 := (⟨X762, hx, hby⟩ : Ax _ _ _ _ _ _ _ _ _ _ _ _ _ _ _)
    have g789 : n0 ≤ r764 := Nat.le_trans Z761 gx767
    have gh790 : h0.size ≤ r764 := Nat.le_trans K744.1 gx767
    have ne791 : r671 ≠ r764 := Nat.ne_of_lt (Nat.lt_of_lt_of_le V760.lt gx767)
    have ne792 : z1 ≠ r764 := Nat.ne_of_lt (Nat.lt_of_lt_of_le E745.lt gx767)
    have ne793 : z2 ≠ r764 := Nat.ne_of_lt (Nat.lt_of_lt_of_le E748.lt gx767)
    have ne794 : z3 ≠ r764 := Nat.ne_of_lt (Nat.lt_of_lt_of_le E751.lt gx767)
    have ne795 : z4 ≠ r764 := Nat.ne_of_lt (Nat.lt_of_lt_of_le E754.lt gx767)
    have ne796 : z6 ≠ r764 := Nat.ne_of_lt (Nat.lt_of_lt_of_le E757.lt gx767)
    refine g_astore A788 at_190 rfl (ls' := #[.val (.int p0), .val (.int p1), .val (.int p2), .val (.int (4 : Int32)), .val (.ref z6), .val (.int (10 : Int32)), .val (.double (0 : UInt64)), .second, .val (.ref r671), .val (.int (Int32.ofNat i702)), .val (.int (Int32.ofNat i706)), .val (.ref r764)]) rfl (pc' := 192) rfl ?_
    refine g_aload A788 at_192 rfl rfl (pc' := 194) rfl ?_
    refine g_alen A788 hZ rfl V768 at_194 (z := (10 : Int32)) rfl (pc' := 195) rfl ?_
    refine g_iload A788 at_195 rfl (pc' := 197) rfl ?_
    refine g_icY A788 at_197 (c2_eq_t rfl) (pc' := 202) rfl ?_
    refine g_aload A788 at_202 rfl rfl (pc' := 204) rfl ?_
    refine g_iload A788 at_204 rfl (pc' := 206) rfl ?_
    refine g_daload A788 hZ rfl V768 (i := i702) hi703 rfl (x := (own_u (0 : UInt64) i702)) rfl at_206 (pc' := 207) rfl ?_
    refine g_iload A788 at_207 rfl (pc' := 209) rfl ?_
    refine g_dload A788 at_209 rfl (pc' := 211) rfl ?_
    obtain ⟨_, _, ⟨T797, L797, k797, n797⟩, -, X797, ⟨L797c, hQ797, l797, y797, z797⟩, st797⟩ := Jvm.LawKit.callS X762 hx (y := (⟨"com/example/tradewind/tradewind/benchmark/ZdtLowerPinLaw", "expected", "(ID)D"⟩ : MethodName)) hown (mvT hZ (hw _ (List.mem_of_getElem? (i := 21) rfl))) (mvT hZ (hw _ (List.mem_of_getElem? (i := 22) rfl))) (mvT hZ (hw _ (List.mem_of_getElem? (i := 23) rfl))) (mvT hZ (hw _ (List.mem_of_getElem? (i := 24) rfl))) (by decide) (backOf (W := 2) (rm4 l Z a0 hw [] (Int32.ofNat i702) (0 : UInt64) T762.heap n0 Z786 ) hZ (hw _ (List.mem_of_getElem? (i := 24) rfl)) (hw _ (List.mem_of_getElem? (i := 23) rfl)) (by decide) (by decide)) (g := (mkF m 211 #[.val (.int p0), .val (.int p1), .val (.int p2), .val (.int (4 : Int32)), .val (.ref z6), .val (.int (10 : Int32)), .val (.double (0 : UInt64)), .second, .val (.ref r671), .val (.int (Int32.ofNat i702)), .val (.int (Int32.ofNat i706)), .val (.ref r764)] [(.double (0 : UInt64)), (.int (Int32.ofNat i702)), (.double (own_u (0 : UInt64) i702))])) rfl (by rw [hml]; rfl) (argsL := [(.int (Int32.ofNat i702)), (.double (0 : UInt64))]) (rest := [(.double (own_u (0 : UInt64) i702))]) (lenOf pd_3 rfl) rfl (by show 2 * 0 + _ ≤ _; exact Nat.le_of_eq rfl) (hb hby at_211) (fun _ _ => ⟨rfl, rfl, (by decide : 2 + 0 ≤ _), (by decide : 20 + 0 ≤ _)⟩)
    dsimp only [Pt.U, Pt.locs, Pt.cells, Pt.slots] at X797 l797 y797 z797 st797 hQ797
    subst l797 y797 z797
    obtain ⟨rfl, Nq798, Kq799⟩ := hQ797
    have N800 := Fr.app N769 Nq798
    refine Go.of (g' := (mkF m 214 #[.val (.int p0), .val (.int p1), .val (.int p2), .val (.int (4 : Int32)), .val (.ref z6), .val (.int (10 : Int32)), .val (.double (0 : UInt64)), .second, .val (.ref r671), .val (.int (Int32.ofNat i702)), .val (.int (Int32.ofNat i706)), .val (.ref r764)] [(.double (own_r_rm4 (Int32.ofNat i702) (0 : UInt64))), (.double (own_u (0 : UInt64) i702))])) st797 ?_
    have e801 : T797.heap = T762.heap := Kq799
    have A802 := (⟨X797, hx, hby⟩ : Ax _ _ _ _ _ _ _ _ _ _ _ _ _ _ _)
    refine g_dcmp A802 at_214 (pc' := 215) rfl ?_
    refine g_ifN A802 at_215 (d_l_ne_f (own_low i702 (by omega))) (pc' := 218) rfl ?_
    refine g_aload A802 at_218 rfl rfl (pc' := 220) rfl ?_
    refine g_iload A802 at_220 rfl (pc' := 222) rfl ?_
    refine g_daload A802 hZ e801 V768 (i := i706) hi707 rfl (x := (own_u (0 : UInt64) i706)) rfl at_222 (pc' := 223) rfl ?_
    refine g_iload A802 at_223 rfl (pc' := 225) rfl ?_
    refine g_dload A802 at_225 rfl (pc' := 227) rfl ?_
    obtain ⟨_, _, ⟨T803, L803, k803, n803⟩, -, X803, ⟨L803c, hQ803, l803, y803, z803⟩, st803⟩ := Jvm.LawKit.callS X797 hx (y := (⟨"com/example/tradewind/tradewind/benchmark/ZdtLowerPinLaw", "expected", "(ID)D"⟩ : MethodName)) hown (mvT hZ (hw _ (List.mem_of_getElem? (i := 21) rfl))) (mvT hZ (hw _ (List.mem_of_getElem? (i := 22) rfl))) (mvT hZ (hw _ (List.mem_of_getElem? (i := 23) rfl))) (mvT hZ (hw _ (List.mem_of_getElem? (i := 24) rfl))) (by decide) (backOf (W := 2) (rm4 l Z a0 hw [] (Int32.ofNat i706) (0 : UInt64) T762.heap n0 Z786 ) hZ (hw _ (List.mem_of_getElem? (i := 24) rfl)) (hw _ (List.mem_of_getElem? (i := 23) rfl)) (by decide) (by decide)) (g := (mkF m 227 #[.val (.int p0), .val (.int p1), .val (.int p2), .val (.int (4 : Int32)), .val (.ref z6), .val (.int (10 : Int32)), .val (.double (0 : UInt64)), .second, .val (.ref r671), .val (.int (Int32.ofNat i702)), .val (.int (Int32.ofNat i706)), .val (.ref r764)] [(.double (0 : UInt64)), (.int (Int32.ofNat i706)), (.double (own_u (0 : UInt64) i706))])) rfl (by rw [hml]; rfl) (argsL := [(.int (Int32.ofNat i706)), (.double (0 : UInt64))]) (rest := [(.double (own_u (0 : UInt64) i706))]) (lenOf pd_3 rfl) rfl (by show 2 * 0 + _ ≤ _; exact Nat.le_of_eq rfl) (hb hby at_227) (fun _ _ => ⟨rfl, e801, (by decide : 2 + 0 ≤ _), (by decide : 20 + 0 ≤ _)⟩)
    dsimp only [Pt.U, Pt.locs, Pt.cells, Pt.slots] at X803 l803 y803 z803 st803 hQ803
    subst l803 y803 z803
    obtain ⟨rfl, Nq804, Kq805⟩ := hQ803
    have N806 := Fr.app N800 Nq804
    refine Go.of (g' := (mkF m 230 #[.val (.int p0), .val (.int p1), .val (.int p2), .val (.int (4 : Int32)), .val (.ref z6), .val (.int (10 : Int32)), .val (.double (0 : UInt64)), .second, .val (.ref r671), .val (.int (Int32.ofNat i702)), .val (.int (Int32.ofNat i706)), .val (.ref r764)] [(.double (own_r_rm4 (Int32.ofNat i706) (0 : UInt64))), (.double (own_u (0 : UInt64) i706))])) st803 ?_
    have e807 : T803.heap = T762.heap := Kq805
    have A808 := (⟨X803, hx, hby⟩ : Ax _ _ _ _ _ _ _ _ _ _ _ _ _ _ _)
    refine g_dcmp A808 at_230 (pc' := 231) rfl ?_
    refine g_ifN A808 at_231 (d_l_ne_f (own_low i706 (by omega))) (pc' := 234) rfl ?_
    refine g_iconst A808 at_234 (v := (1 : Int32)) rfl (pc' := 235) rfl ?_
    refine g_goto A808 at_235 (pc' := 239) rfl ?_
    exact g_ret (Q := Q0 Z p0 p1 p2 z1 z2 z3 z4 z6 h0 n0) A808 at_239 Bd.notSynchronized Bd.returns rfl (Or.inl ⟨rfl, by simp, _, rfl⟩) (by decide) (by decide) (by rw [e807]; exact ⟨rfl, N806⟩)
set_option maxRecDepth 65536 in
set_option maxHeartbeats 40000000 in
theorem comes_1 {Post : Tables → Env → Array Value → State → Outcome → State → Prop} (hpost : ∀ tb e args s v u, (limb_1_1.after args s (.returned v) u = true ∧ limb_1_2.after args s (.returned v) u = true ∧ True) → FrameEnd s (.returned v) u (Jvm.fieldLocs frame_1_writes args s ++ Jvm.arrayLocs frame_1_arrays args s ++ Jvm.staticLocs frame_1_statics s) 16 192 → Post tb e args s (.returned v) u) :
    ArmFor flags0 classFile x code maxLocals ret World_1 tables_1 room_1 Calls_1 rest_1 Pre_1 Post := by
  intro l hfl _ _ p e ha hc hk s m args below hf hA hF happ hP
  obtain ⟨hcalls, hrest, hpre⟩ := hP
  obtain ⟨-, -, -, hnamed, -, -, -, hat⟩ := (Spec.applies_iff hf).mp happ
  obtain ⟨hg, hn⟩ := and_e (Cond.before_iff.mp (show (Jvm.Cond.and given_1 narrow_1).before args s = true from hpre))
  obtain ⟨g0, hg1⟩ := and_e hg
  obtain ⟨w0, w1, w2, rfl⟩ : ∃ w0 w1 w2 : Value, args = #[w0, w1, w2] := by
    have hs : args.size = 3 := by simpa [Cond.value, given_1] using g0
    obtain ⟨L⟩ := args
    match L, hs with
    | [w0, w1, w2], _ => exact ⟨w0, w1, w2, rfl⟩
  have hw := fun d (hd : d ∈ tables_1) => atoms_spec (ws := Jvm.Cond.code x code maxLocals ret :: tables_1) hat d (List.mem_cons_of_mem _ hd)
  have hfit : Fit s := fun {y c} hc i hi => by
    obtain ⟨ha, rfl⟩ := Array.getElem?_eq_some_iff.mp hc
    have q := List.all_eq_true.mp ((Array.all_eq_true_iff_forall_mem.mp hF) _ (Array.getElem_mem ha)) i (List.mem_range.mpr hi)
    simpa [Array.getElem?_eq_getElem hi] using q
  obtain ⟨k0, hg2⟩ := and_e hg1
  obtain ⟨i0, j0⟩ := is_v k0
  obtain rfl : w0 = (.int i0) := Option.some.inj j0
  obtain ⟨k1, hg3⟩ := and_e hg2
  obtain ⟨i1, j1⟩ := is_v k1
  obtain rfl : w1 = (.int i1) := Option.some.inj j1
  obtain ⟨i2, j2⟩ := is_v hg3
  obtain rfl : w2 = (.int i2) := Option.some.inj j2
  obtain ⟨y0, hn1⟩ := and_e hn
  obtain ⟨y1, hn2⟩ := and_e hn1
  obtain ⟨y2, hn3⟩ := and_e hn2
  obtain ⟨y3, hn4⟩ := and_e hn3
  obtain ⟨y4, hn5⟩ := and_e hn4
  obtain ⟨y5, hn6⟩ := and_e hn5
  obtain ⟨y6, hn7⟩ := and_e hn6
  obtain ⟨y7, hn8⟩ := and_e hn7
  obtain ⟨y8, hn9⟩ := and_e hn8
  obtain ⟨y9, hn10⟩ := and_e hn9
  obtain ⟨y10, hn11⟩ := and_e hn10
  obtain ⟨y11, hn12⟩ := and_e hn11
  obtain ⟨y12, hn13⟩ := and_e hn12
  obtain ⟨y13, hn14⟩ := and_e hn13
  obtain ⟨z1, evz1⟩ := exa_v y0
  have Sz1 : Sta s s.heap "com/example/tradewind/tradewind/benchmark/Zdt" "ZDT1" "Lcom/example/tradewind/tradewind/benchmark/Zdt;" (.ref z1) := Sta.start evz1 (Or.inr ⟨(hw _ (List.mem_of_getElem? (i := 2) rfl)), (hw _ (List.mem_of_getElem? (i := 3) rfl))⟩)
  have Ez1 : Exa s s.heap z1 "com/example/tradewind/tradewind/benchmark/Zdt" := Exa.start evz1 y0
  have Fnz1 : Fld s s.heap z1 "com/example/tradewind/tradewind/benchmark/Zdt" "variables" "I" (.int (30 : Int32)) := own_fld evz1 (own_ints y1)
  have Fxz1 : Fld s s.heap z1 "com/example/tradewind/tradewind/benchmark/Zdt" "restLower" "D" (.double (0 : UInt64)) := own_fld evz1 (own_bits y2)
  obtain ⟨z2, evz2⟩ := exa_v y3
  have Sz2 : Sta s s.heap "com/example/tradewind/tradewind/benchmark/Zdt" "ZDT2" "Lcom/example/tradewind/tradewind/benchmark/Zdt;" (.ref z2) := Sta.start evz2 (Or.inr ⟨(hw _ (List.mem_of_getElem? (i := 2) rfl)), (hw _ (List.mem_of_getElem? (i := 27) rfl))⟩)
  have Ez2 : Exa s s.heap z2 "com/example/tradewind/tradewind/benchmark/Zdt" := Exa.start evz2 y3
  have Fnz2 : Fld s s.heap z2 "com/example/tradewind/tradewind/benchmark/Zdt" "variables" "I" (.int (30 : Int32)) := own_fld evz2 (own_ints y4)
  have Fxz2 : Fld s s.heap z2 "com/example/tradewind/tradewind/benchmark/Zdt" "restLower" "D" (.double (0 : UInt64)) := own_fld evz2 (own_bits y5)
  obtain ⟨z3, evz3⟩ := exa_v y12
  have Sz3 : Sta s s.heap "com/example/tradewind/tradewind/benchmark/Zdt" "ZDT3" "Lcom/example/tradewind/tradewind/benchmark/Zdt;" (.ref z3) := Sta.start evz3 (Or.inr ⟨(hw _ (List.mem_of_getElem? (i := 2) rfl)), (hw _ (List.mem_of_getElem? (i := 34) rfl))⟩)
  have Ez3 : Exa s s.heap z3 "com/example/tradewind/tradewind/benchmark/Zdt" := Exa.start evz3 y12
  have Fnz3 : Fld s s.heap z3 "com/example/tradewind/tradewind/benchmark/Zdt" "variables" "I" (.int (30 : Int32)) := own_fld evz3 (own_ints y13)
  have Fxz3 : Fld s s.heap z3 "com/example/tradewind/tradewind/benchmark/Zdt" "restLower" "D" (.double (0 : UInt64)) := own_fld evz3 (own_bits hn14)
  obtain ⟨z4, evz4⟩ := exa_v y9
  have Sz4 : Sta s s.heap "com/example/tradewind/tradewind/benchmark/Zdt" "ZDT4" "Lcom/example/tradewind/tradewind/benchmark/Zdt;" (.ref z4) := Sta.start evz4 (Or.inr ⟨(hw _ (List.mem_of_getElem? (i := 2) rfl)), (hw _ (List.mem_of_getElem? (i := 31) rfl))⟩)
  have Ez4 : Exa s s.heap z4 "com/example/tradewind/tradewind/benchmark/Zdt" := Exa.start evz4 y9
  have Fnz4 : Fld s s.heap z4 "com/example/tradewind/tradewind/benchmark/Zdt" "variables" "I" (.int (10 : Int32)) := own_fld evz4 (own_ints y10)
  have Fxz4 : Fld s s.heap z4 "com/example/tradewind/tradewind/benchmark/Zdt" "restLower" "D" (.double (13840687554816376832 : UInt64)) := own_fld evz4 (own_bits y11)
  obtain ⟨z6, evz6⟩ := exa_v y6
  have Sz6 : Sta s s.heap "com/example/tradewind/tradewind/benchmark/Zdt" "ZDT6" "Lcom/example/tradewind/tradewind/benchmark/Zdt;" (.ref z6) := Sta.start evz6 (Or.inr ⟨(hw _ (List.mem_of_getElem? (i := 2) rfl)), (hw _ (List.mem_of_getElem? (i := 29) rfl))⟩)
  have Ez6 : Exa s s.heap z6 "com/example/tradewind/tradewind/benchmark/Zdt" := Exa.start evz6 y6
  have Fnz6 : Fld s s.heap z6 "com/example/tradewind/tradewind/benchmark/Zdt" "variables" "I" (.int (10 : Int32)) := own_fld evz6 (own_ints y7)
  have Fxz6 : Fld s s.heap z6 "com/example/tradewind/tradewind/benchmark/Zdt" "restLower" "D" (.double (0 : UInt64)) := own_fld evz6 (own_bits y8)
  obtain ⟨n, o, h1, h2, h3, _, L, rfl, ⟨rfl, N⟩, hq⟩ := rm0 l s _ hw tables_1 i0 i1 i2 z1 z2 z3 z4 z6 s.heap s.heap.size (Nat.le_refl _) Sz1 Ez1 Fnz1 Fxz1 Sz2 Ez2 Fnz2 Fxz2 Sz3 Ez3 Fnz3 Fxz3 Sz4 Ez4 Fnz4 Fxz4 Sz6 Ez6 Fnz6 Fxz6 p e ha hc hk s m _ below hf ((Spec.applies_iff_loose hf).mp happ).1 ⟨rfl, State.Warmed39.refl s, rfl⟩ trivial
  refine ⟨n, _, h1, h2, h3, hpost _ _ _ _ _ _ ⟨Cond.after_iff.mpr rfl, Cond.after_iff.mpr (eq_i res_at (Term.int_eval (1)) rfl), trivial⟩ ⟨hq.1, hq.2.1, (hq.2.2.sift fun y hy => Or.inr (N y hy)).mono (by decide) (by decide)⟩⟩
theorem main_1_1 : Claimed_1_1 := comes_1 fun _ _ _ _ _ _ h hF => ⟨h.1, hF⟩
theorem main_1_2 : Claimed_1_2 := comes_1 fun _ _ _ _ _ _ h hF => ⟨h.2.1, hF⟩
end Jvm.Pilot.@@N@@
namespace Jvm.Pilot.@@N@@
open Jvm Jvm.ClassFile Sem Op Lib Jvm.Free Jvm.Stand Jvm.Pilot.@@N@@.Jvm.D
/-! MADE BY PROGRAM (witnessworld.py) out of the Statement's table words and the real class files: 15 classes; the members and pool entries that the words name. The judged class is class 1, her method 1. -/
namespace start1
open Jvm.ClassFile
def u (s : String) : CpInfo := .utf8 (stringToUtf16 s)
/-- a pool by its gaps: so many unusable entries, then the entry; so many at the end -/
def gap : Nat → List CpInfo → List CpInfo
  | 0, r => r
  | n + 1, r => .unusable :: gap n r
def poolList (es : List (Nat × CpInfo)) (last : Nat) : List CpInfo := es.foldr (fun e r => gap e.1 (e.2 :: r)) (gap last [])
def pool (es : List (Nat × CpInfo)) (last : Nat) : Array CpInfo := ⟨poolList es last⟩
def fileOf (pool : Array CpInfo) (this : Nat) (attrs : Array Attribute := #[]) (ms : Array MethodInfo := #[]) (fl : Nat := 33) (sup : Nat := 0) (ifs : Array Nat := #[]) (fds : Array FieldInfo := #[]) : ClassFile where
  minorVersion := 0
  majorVersion := 65
  constantPool := pool
  accessFlags := fl
  thisClass := this
  superClass := sup
  interfaces := ifs
  fields := fds
  methods := ms
  attributes := attrs
def plain (name : String) (sup : Option ClassId) : Class where
  name := name
  kind := .ordinary
  loader := none
  accessFlags := 33
  super := sup
  interfaces := #[]
  cf := none
  fields := #[]
  methods := #[]
  instanceTypes := #[]
  staticTypes := #[]
  resolved := #[]
  callSites := []
  init := .initialized
  statics := none
  mirror := none

def pool0 : Array CpInfo := pool [(5, u "<init>"), (0, u "()V"), (1, .class_ 10), (1, u "java/lang/Object")] 113

def k0m0 : Method := { name := "<init>", desc := "()V", sig := { parameters := [], returnType := none }, accessFlags := 1, code := none }
/-- java/lang/Object -/
def k0 : Class := { plain "java/lang/Object" none with
  accessFlags := 33
  interfaces := #[]
  cf := some (fileOf pool0 8 #[] #[{ accessFlags := 1, nameIndex := 5, descriptorIndex := 6, attributes := #[] }] 33 0 #[] #[])
  fields := #[]
  methods := #[k0m0]
  instanceTypes := #[]
  staticTypes := #[]
  resolved := Array.replicate 124 none
  statics := none }

def pool1 : Array CpInfo := pool [(2, .class_ 4), (1, u "java/lang/Object"), (0, u "<init>"), (0, u "()V"), (0, .integer 2147483647), (0, .fieldref 9 10), (0, .class_ 11), (0, .nameAndType 12 13), (0, u "com/example/tradewind/tradewind/benchmark/Zdt"), (0, u "ZDT1"), (0, u "Lcom/example/tradewind/tradewind/benchmark/Zdt;"), (0, .fieldref 9 15), (0, .nameAndType 16 13), (0, u "ZDT2"), (0, .fieldref 9 18), (0, .nameAndType 19 13), (0, u "ZDT3"), (0, .fieldref 9 21), (0, .nameAndType 22 13), (0, u "ZDT4"), (0, .double 13840687554816376832), (1, .fieldref 9 26), (0, .nameAndType 27 13), (0, u "ZDT6"), (0, .methodref 9 29), (0, .nameAndType 30 31), (0, u "lower"), (0, u "()[D"), (0, .methodref 33 34), (0, .class_ 35), (0, .nameAndType 36 37), (0, u "com/example/tradewind/tradewind/benchmark/ZdtLowerPinLaw"), (0, u "expected"), (0, u "(ID)D"), (0, .double 4619567317775286272), (3, u "law"), (0, u "(III)Z")] 5

def k1m0 : Method := { name := "<init>", desc := "()V", sig := { parameters := [], returnType := none }, accessFlags := 1, code := none }
def k1c1 : Code := { maxStack := 5, maxLocals := 12, code := code, exceptionTable := #[], attributes := #[] }
def k1m1 : Method := { name := "law", desc := "(III)Z", sig := { parameters := [.int, .int, .int], returnType := some .boolean }, accessFlags := 9, code := some k1c1 }
def k1c2 : Code := { maxStack := 2, maxLocals := 3, code := method_3_code, exceptionTable := #[], attributes := #[] }
def k1m2 : Method := { name := "expected", desc := "(ID)D", sig := { parameters := [.int, .double], returnType := some .double }, accessFlags := 10, code := some k1c2 }
/-- com/example/tradewind/tradewind/benchmark/ZdtLowerPinLaw -/
def k1 : Class := { plain "com/example/tradewind/tradewind/benchmark/ZdtLowerPinLaw" (some 0) with
  accessFlags := 49
  interfaces := #[]
  cf := some (fileOf pool1 33 #[] #[{ accessFlags := 1, nameIndex := 5, descriptorIndex := 6, attributes := #[] }, { accessFlags := 9, nameIndex := 42, descriptorIndex := 43, attributes := #[] }, { accessFlags := 10, nameIndex := 36, descriptorIndex := 37, attributes := #[] }] 49 2 #[] #[])
  fields := #[]
  methods := #[k1m0, k1m1, k1m2]
  instanceTypes := #[]
  staticTypes := #[]
  resolved := Array.replicate 49 none
  statics := none }

def pool2 : Array CpInfo := pool [(1, .class_ 2), (0, u "java/lang/constant/Constable"), (0, .class_ 4), (0, u "java/lang/Object")] 6

/-- java/lang/constant/Constable -/
def k2 : Class := { plain "java/lang/constant/Constable" (some 0) with
  accessFlags := 1537
  interfaces := #[]
  cf := some (fileOf pool2 1 #[] #[] 1537 3 #[] #[])
  fields := #[]
  methods := #[]
  instanceTypes := #[]
  staticTypes := #[]
  resolved := Array.replicate 11 none
  statics := none }

def pool3 : Array CpInfo := pool [(1, .class_ 2), (0, u "java/lang/Comparable"), (0, .class_ 4), (0, u "java/lang/Object")] 7

/-- java/lang/Comparable -/
def k3 : Class := { plain "java/lang/Comparable" (some 0) with
  accessFlags := 1537
  interfaces := #[]
  cf := some (fileOf pool3 1 #[] #[] 1537 3 #[] #[])
  fields := #[]
  methods := #[]
  instanceTypes := #[]
  staticTypes := #[]
  resolved := Array.replicate 12 none
  statics := none }

def pool4 : Array CpInfo := pool [(1, .class_ 2), (0, u "java/io/Serializable"), (0, .class_ 4), (0, u "java/lang/Object")] 2

/-- java/io/Serializable -/
def k4 : Class := { plain "java/io/Serializable" (some 0) with
  accessFlags := 1537
  interfaces := #[]
  cf := some (fileOf pool4 1 #[] #[] 1537 3 #[] #[])
  fields := #[]
  methods := #[]
  instanceTypes := #[]
  staticTypes := #[]
  resolved := Array.replicate 7 none
  statics := none }

def pool5 : Array CpInfo := pool [(2, .class_ 4), (1, u "java/lang/Enum"), (0, u "name"), (0, u "Ljava/lang/String;"), (2, u "ordinal"), (0, u "I"), (1, .class_ 14), (1, u "java/lang/Object"), (4, u "hash"), (86, .class_ 108), (1, u "java/lang/Enum$EnumDesc"), (2, .class_ 112), (0, u "java/lang/constant/Constable"), (0, .class_ 114), (0, u "java/lang/Comparable"), (0, .class_ 116), (0, u "java/io/Serializable")] 87

/-- java/lang/Enum -/
def k5 : Class := { plain "java/lang/Enum" (some 0) with
  accessFlags := 1057
  interfaces := #[2, 3, 4]
  cf := some (fileOf pool5 2 #[.nestMembers #[106]] #[] 1057 12 #[111, 113, 115] #[{ accessFlags := 18, nameIndex := 5, descriptorIndex := 6, attributes := #[] }, { accessFlags := 18, nameIndex := 9, descriptorIndex := 10, attributes := #[] }, { accessFlags := 2, nameIndex := 19, descriptorIndex := 10, attributes := #[] }])
  fields := #[{ name := "name", type := (.object "java/lang/String"), accessFlags := 18, slot := 0, constantValue := 0 }, { name := "ordinal", type := .int, accessFlags := 18, slot := 1, constantValue := 0 }, { name := "hash", type := .int, accessFlags := 2, slot := 2, constantValue := 0 }]
  methods := #[]
  instanceTypes := #[(.object "java/lang/String"), .int, .int]
  staticTypes := #[]
  resolved := Array.replicate 204 none
  statics := none }

def pool6 : Array CpInfo := pool [(1, .class_ 2), (0, u "com/example/tradewind/tradewind/benchmark/Zdt"), (2, u "ZDT1"), (0, u "Lcom/example/tradewind/tradewind/benchmark/Zdt;"), (2, u "ZDT2"), (2, u "ZDT3"), (2, u "ZDT4"), (2, u "ZDT6"), (2, u "$VALUES"), (0, u "[Lcom/example/tradewind/tradewind/benchmark/Zdt;"), (6, .class_ 31), (1, u "java/lang/Enum"), (8, u "id"), (0, u "Ljava/lang/String;"), (0, .fieldref 1 43), (0, .nameAndType 44 45), (0, u "variables"), (0, u "I"), (0, .fieldref 1 47), (0, .nameAndType 48 49), (0, u "restLower"), (0, u "D"), (2, u "restUpper"), (2, u "f1"), (0, u "Ljava/util/function/DoubleUnaryOperator;"), (2, u "g"), (0, u "Ljava/util/function/ToDoubleFunction;"), (2, u "h"), (0, u "Ljava/util/function/DoubleBinaryOperator;"), (2, u "frontFirst"), (2, u "frontLast"), (5, .class_ 78), (1, u "java/util/Arrays"), (18, u "OBJECTIVES"), (0, u "Ljava/util/List;"), (0, .methodref 76 100), (0, .nameAndType 101 102), (0, u "fill"), (0, u "([DIID)V"), (178, u "FRONT_POINTS"), (16, u "lower"), (0, u "()[D")] 107

def k6c0 : Code := { maxStack := 5, maxLocals := 2, code := prog_1_method_8_code, exceptionTable := #[], attributes := #[] }
def k6m0 : Method := { name := "lower", desc := "()[D", sig := { parameters := [], returnType := some (.array .double) }, accessFlags := 1, code := some k6c0 }
/-- com/example/tradewind/tradewind/benchmark/Zdt -/
def k6 : Class := { plain "com/example/tradewind/tradewind/benchmark/Zdt" (some 5) with
  accessFlags := 16433
  interfaces := #[]
  cf := some (fileOf pool6 1 #[] #[{ accessFlags := 1, nameIndex := 298, descriptorIndex := 299, attributes := #[] }] 16433 29 #[] #[{ accessFlags := 16409, nameIndex := 5, descriptorIndex := 6, attributes := #[] }, { accessFlags := 16409, nameIndex := 9, descriptorIndex := 6, attributes := #[] }, { accessFlags := 16409, nameIndex := 12, descriptorIndex := 6, attributes := #[] }, { accessFlags := 16409, nameIndex := 15, descriptorIndex := 6, attributes := #[] }, { accessFlags := 16409, nameIndex := 18, descriptorIndex := 6, attributes := #[] }, { accessFlags := 26, nameIndex := 97, descriptorIndex := 98, attributes := #[] }, { accessFlags := 26, nameIndex := 281, descriptorIndex := 45, attributes := #[] }, { accessFlags := 18, nameIndex := 40, descriptorIndex := 41, attributes := #[] }, { accessFlags := 18, nameIndex := 44, descriptorIndex := 45, attributes := #[] }, { accessFlags := 18, nameIndex := 48, descriptorIndex := 49, attributes := #[] }, { accessFlags := 18, nameIndex := 52, descriptorIndex := 49, attributes := #[] }, { accessFlags := 18, nameIndex := 55, descriptorIndex := 56, attributes := #[] }, { accessFlags := 18, nameIndex := 59, descriptorIndex := 60, attributes := #[] }, { accessFlags := 18, nameIndex := 63, descriptorIndex := 64, attributes := #[] }, { accessFlags := 18, nameIndex := 67, descriptorIndex := 49, attributes := #[] }, { accessFlags := 18, nameIndex := 70, descriptorIndex := 49, attributes := #[] }, { accessFlags := 4122, nameIndex := 21, descriptorIndex := 22, attributes := #[] }])
  fields := #[{ name := "ZDT1", type := (.object "com/example/tradewind/tradewind/benchmark/Zdt"), accessFlags := 16409, slot := 0, constantValue := 0 }, { name := "ZDT2", type := (.object "com/example/tradewind/tradewind/benchmark/Zdt"), accessFlags := 16409, slot := 1, constantValue := 0 }, { name := "ZDT3", type := (.object "com/example/tradewind/tradewind/benchmark/Zdt"), accessFlags := 16409, slot := 2, constantValue := 0 }, { name := "ZDT4", type := (.object "com/example/tradewind/tradewind/benchmark/Zdt"), accessFlags := 16409, slot := 3, constantValue := 0 }, { name := "ZDT6", type := (.object "com/example/tradewind/tradewind/benchmark/Zdt"), accessFlags := 16409, slot := 4, constantValue := 0 }, { name := "OBJECTIVES", type := (.object "java/util/List"), accessFlags := 26, slot := 5, constantValue := 0 }, { name := "FRONT_POINTS", type := .int, accessFlags := 26, slot := 6, constantValue := 0 }, { name := "id", type := (.object "java/lang/String"), accessFlags := 18, slot := 3, constantValue := 0 }, { name := "variables", type := .int, accessFlags := 18, slot := 4, constantValue := 0 }, { name := "restLower", type := .double, accessFlags := 18, slot := 5, constantValue := 0 }, { name := "restUpper", type := .double, accessFlags := 18, slot := 6, constantValue := 0 }, { name := "f1", type := (.object "java/util/function/DoubleUnaryOperator"), accessFlags := 18, slot := 7, constantValue := 0 }, { name := "g", type := (.object "java/util/function/ToDoubleFunction"), accessFlags := 18, slot := 8, constantValue := 0 }, { name := "h", type := (.object "java/util/function/DoubleBinaryOperator"), accessFlags := 18, slot := 9, constantValue := 0 }, { name := "frontFirst", type := .double, accessFlags := 18, slot := 10, constantValue := 0 }, { name := "frontLast", type := .double, accessFlags := 18, slot := 11, constantValue := 0 }, { name := "$VALUES", type := (.array (.object "com/example/tradewind/tradewind/benchmark/Zdt")), accessFlags := 4122, slot := 7, constantValue := 0 }]
  methods := #[k6m0]
  instanceTypes := #[(.object "java/lang/String"), .int, .int, (.object "java/lang/String"), .int, .double, .double, (.object "java/util/function/DoubleUnaryOperator"), (.object "java/util/function/ToDoubleFunction"), (.object "java/util/function/DoubleBinaryOperator"), .double, .double]
  staticTypes := #[(.object "com/example/tradewind/tradewind/benchmark/Zdt"), (.object "com/example/tradewind/tradewind/benchmark/Zdt"), (.object "com/example/tradewind/tradewind/benchmark/Zdt"), (.object "com/example/tradewind/tradewind/benchmark/Zdt"), (.object "com/example/tradewind/tradewind/benchmark/Zdt"), (.object "java/util/List"), .int, (.array (.object "com/example/tradewind/tradewind/benchmark/Zdt"))]
  resolved := Array.replicate 407 none
  statics := some 0 }

def pool7 : Array CpInfo := pool [(2, .class_ 4), (1, u "java/lang/Object"), (0, u "<init>"), (0, u "()V"), (6, .methodref 14 15), (0, .class_ 16), (0, .nameAndType 17 18), (0, u "java/util/Arrays"), (0, u "rangeCheck"), (0, u "(III)V"), (55, .class_ 76), (1, u "java/util/Arrays$NaturalOrder"), (36, .class_ 115), (1, u "java/util/Arrays$LegacyMergeSort"), (1, u "Z"), (257, .class_ 376), (0, u "java/util/Arrays$ArrayList"), (68, u "$assertionsDisabled"), (269, u "MIN_ARRAY_SORT_GRAN"), (0, u "I"), (2, u "INSERTIONSORT_THRESHOLD"), (120, u "fill"), (14, u "([DIID)V"), (119, .class_ 976), (0, u "java/util/Arrays$ArrayItr")] 52

def k7m0 : Method := { name := "<init>", desc := "()V", sig := { parameters := [], returnType := none }, accessFlags := 2, code := none }
def k7c1 : Code := { maxStack := 4, maxLocals := 3, code := jdk_65_method_30_code, exceptionTable := #[], attributes := #[] }
def k7m1 : Method := { name := "rangeCheck", desc := "(III)V", sig := { parameters := [.int, .int, .int], returnType := none }, accessFlags := 8, code := some k7c1 }
def k7c2 : Code := { maxStack := 4, maxLocals := 6, code := jdk_65_method_114_code, exceptionTable := #[], attributes := #[] }
def k7m2 : Method := { name := "fill", desc := "([DIID)V", sig := { parameters := [(.array .double), .int, .int, .double], returnType := none }, accessFlags := 9, code := some k7c2 }
/-- java/util/Arrays -/
def k7 : Class := { plain "java/util/Arrays" (some 0) with
  accessFlags := 49
  interfaces := #[]
  cf := some (fileOf pool7 14 #[.nestMembers #[975, 375, 113, 74]] #[{ accessFlags := 2, nameIndex := 5, descriptorIndex := 6, attributes := #[] }, { accessFlags := 8, nameIndex := 17, descriptorIndex := 18, attributes := #[] }, { accessFlags := 9, nameIndex := 840, descriptorIndex := 855, attributes := #[] }] 49 2 #[] #[{ accessFlags := 26, nameIndex := 715, descriptorIndex := 716, attributes := #[] }, { accessFlags := 26, nameIndex := 719, descriptorIndex := 716, attributes := #[] }, { accessFlags := 4120, nameIndex := 445, descriptorIndex := 117, attributes := #[] }])
  fields := #[{ name := "MIN_ARRAY_SORT_GRAN", type := .int, accessFlags := 26, slot := 0, constantValue := 0 }, { name := "INSERTIONSORT_THRESHOLD", type := .int, accessFlags := 26, slot := 1, constantValue := 0 }, { name := "$assertionsDisabled", type := .boolean, accessFlags := 4120, slot := 2, constantValue := 0 }]
  methods := #[k7m0, k7m1, k7m2]
  instanceTypes := #[]
  staticTypes := #[.int, .int, .boolean]
  resolved := Array.replicate 1029 none
  statics := none }

def pool8 : Array CpInfo := pool [(1, u "java/lang/Cloneable"), (0, .class_ 1), (0, u "java/lang/Object"), (0, .class_ 3)] 3

/-- java/lang/Cloneable -/
def k8 : Class := { plain "java/lang/Cloneable" (some 0) with
  accessFlags := 1537
  interfaces := #[]
  cf := some (fileOf pool8 2 #[] #[] 1537 4 #[] #[])
  fields := #[]
  methods := #[]
  instanceTypes := #[]
  staticTypes := #[]
  resolved := Array.replicate 8 none
  statics := none }

/-- the primitive byte -/
def k9 : Class := { plain "byte" none with kind := .primitive 'B', accessFlags := 0x411 }
/-- [B -/
def k10 : Class := { plain "[B" (some 0) with kind := .array 9 .byte, interfaces := #[8, 4], accessFlags := 1041 }

/-- the primitive double -/
def k11 : Class := { plain "double" none with kind := .primitive 'D', accessFlags := 0x411 }
/-- [D -/
def k12 : Class := { plain "[D" (some 0) with kind := .array 11 .double, interfaces := #[8, 4], accessFlags := 1041 }

/-- the primitive int -/
def k13 : Class := { plain "int" none with kind := .primitive 'I', accessFlags := 0x411 }
/-- [I -/
def k14 : Class := { plain "[I" (some 0) with kind := .array 13 .int, interfaces := #[8, 4], accessFlags := 1041 }

def heap : Heap := #[{ cls := 6, slots := #[.ref 1, .ref 2, .ref 3, .ref 4, .ref 5, .null, .int 0, .null], vm := .statics 6 },
  { cls := 6, slots := #[.null, .int 0, .int 0, .null, .int 30, .double 0, .double 0, .null, .null, .null, .double 0, .double 0], vm := .none },
  { cls := 6, slots := #[.null, .int 1, .int 0, .null, .int 30, .double 0, .double 0, .null, .null, .null, .double 0, .double 0], vm := .none },
  { cls := 6, slots := #[.null, .int 2, .int 0, .null, .int 30, .double 0, .double 0, .null, .null, .null, .double 0, .double 0], vm := .none },
  { cls := 6, slots := #[.null, .int 3, .int 0, .null, .int 10, .double 13840687554816376832, .double 0, .null, .null, .null, .double 0, .double 0], vm := .none },
  { cls := 6, slots := #[.null, .int 4, .int 0, .null, .int 10, .double 0, .double 0, .null, .null, .null, .double 0, .double 0], vm := .none }]
def classes : Array Class := #[k0, k1, k2, k3, k4, k5, k6, k7, k8, k9, k10, k11, k12, k13, k14]
def interned : List (Array UInt16 × Addr) := []
def slotsUsed : Nat := 68
def theMethod : MethodId := ⟨1, 1⟩
def args0 : Array Value := #[.int 5, .int 3, .int 1]
def aboutOver (below : List Frame) : State where
  vm := { classes := classes, interned := interned.toArray }
  heap := heap
  slotsUsed := slotsUsed
  threads := #[{ frames := .invoking theMethod args0 :: below }]
def below0 : List Frame := [.native { method := ⟨0, 0⟩, args := #[] }]
def about1 : State := aboutOver below0
def p0 : Program := .bare "" "" ""
def e0 : Env := launch0.env 0 0 0
theorem w_frames : about1.frames = Frame.invoking theMethod args0 :: below0 := rfl
set_option maxRecDepth 65536 in
theorem w_args : argsFit about1.vm theMethod args0 = true := by decide +kernel
set_option maxRecDepth 65536 in
theorem w_heap : heapFits about1 = true := by decide +kernel
set_option maxRecDepth 65536 in
theorem w_runnable : about1.curStatus? = some .runnable := by decide +kernel
set_option maxRecDepth 65536 in
theorem w_alone : about1.alone = true := by decide +kernel
set_option maxRecDepth 65536 in
theorem w_named : about1.methodNamed? x = some theMethod := by decide +kernel
set_option maxRecDepth 65536 in
theorem w_hears : about1.hears theMethod below0 = true := by decide +kernel
set_option maxRecDepth 65536 in
theorem w_ripe : about1.ripe theMethod args0 below0 = true := by decide +kernel
theorem w_running : about1.status = .running := rfl
set_option maxRecDepth 65536 in
theorem w_room : about1.hasRoom e0.platform room_1 = true :=
  launch0.hasRoom_least _ room_1 (by decide +kernel) (by decide +kernel) (by decide +kernel) (by decide +kernel) (by decide +kernel) (by decide +kernel)
theorem allAtoms_all (ts : List Jvm.Cond) (a : Array Jvm.Value) (st : Jvm.State) : (allAtoms ts).before a st = ts.all (fun c => c.before a st) := by
  induction ts with
  | nil => rfl
  | cons c t ih =>
    show (Jvm.Cond.and c (allAtoms t)).before a st = _
    rw [Jvm.Cond.before_and, ih, List.all_cons]
def words1 : List Jvm.Cond := Jvm.Cond.code x code maxLocals ret :: tables_1
/-- a 'code' word, met by the world's own term for the bytes: nothing is compared byte by byte -/
theorem code_word {y : MethodName} {bytes : ByteArray} {mx : Nat} {rt : Option FieldType} {a : Array Value} {s : State} {m : MethodId} {meth : Method} {c : Code} (h1 : s.methodNamed? y = some m) (h2 : s.vm.method? m = some meth) (h3 : meth.code = some c) (h4 : c.code = bytes)
    (h5 : (c.maxLocals == mx && c.exceptionTable.isEmpty && decide (c.maxStack ≤ mostOperands) && decide (meth.sig.returnType = rt) && !meth.locks && decide (parseMethodDescriptor y.desc = some meth.sig)) = true) : (Jvm.Cond.code y bytes mx rt).before a s = true := by
  simp only [Bool.and_eq_true, beq_iff_eq, Bool.not_eq_true', decide_eq_true_eq] at h5
  obtain ⟨⟨⟨⟨⟨g1, g2⟩, g3⟩, g4⟩, g5⟩, g6⟩ := h5
  simp [Cond.before, Cond.holds, Cond.value, h1, h2, h3, h4, g1, g2, g3, g4, g5, g6]
def isCode : Jvm.Cond → Bool
  | .code _ _ _ _ => true
  | _ => false
theorem all_split {L : List Jvm.Cond} {P : Jvm.Cond → Bool} (h1 : L.all (fun c => isCode c || P c) = true) (h2 : ∀ c ∈ L.filter isCode, P c = true) : L.all P = true := by
  refine List.all_eq_true.mpr fun c hc => ?_
  have h := List.all_eq_true.mp h1 c hc
  rcases Bool.eq_false_or_eq_true (isCode c) with hi | hi
  · exact h2 c (List.mem_filter.mpr ⟨hc, hi⟩)
  · simpa [hi] using h
set_option maxRecDepth 65536 in
theorem w_c0 : (Jvm.Cond.code x code maxLocals ret).before args0 about1 = true := code_word (m := ⟨1, 1⟩) (meth := k1m1) (c := k1c1) (by decide +kernel) rfl rfl rfl (by decide +kernel)
set_option maxRecDepth 65536 in
theorem w_c1 : (Jvm.Cond.code ({ cls := "com/example/tradewind/tradewind/benchmark/Zdt", name := "lower", desc := "()[D" } : Jvm.MethodName) prog_1_method_8_code (2 : Nat) (Option.some (Jvm.ClassFile.FieldType.array Jvm.ClassFile.FieldType.double))).before args0 about1 = true := code_word (m := ⟨6, 0⟩) (meth := k6m0) (c := k6c0) (by decide +kernel) rfl rfl rfl (by decide +kernel)
set_option maxRecDepth 65536 in
theorem w_c2 : (Jvm.Cond.code ({ cls := "java/util/Arrays", name := "fill", desc := "([DIID)V" } : Jvm.MethodName) jdk_65_method_114_code (6 : Nat) (Option.none : Option Jvm.ClassFile.FieldType)).before args0 about1 = true := code_word (m := ⟨7, 2⟩) (meth := k7m2) (c := k7c2) (by decide +kernel) rfl rfl rfl (by decide +kernel)
set_option maxRecDepth 65536 in
theorem w_c3 : (Jvm.Cond.code ({ cls := "java/util/Arrays", name := "rangeCheck", desc := "(III)V" } : Jvm.MethodName) jdk_65_method_30_code (3 : Nat) (Option.none : Option Jvm.ClassFile.FieldType)).before args0 about1 = true := code_word (m := ⟨7, 1⟩) (meth := k7m1) (c := k7c1) (by decide +kernel) rfl rfl rfl (by decide +kernel)
set_option maxRecDepth 65536 in
theorem w_c4 : (Jvm.Cond.code ({ cls := "com/example/tradewind/tradewind/benchmark/ZdtLowerPinLaw", name := "expected", desc := "(ID)D" } : Jvm.MethodName) method_3_code (3 : Nat) (Option.some Jvm.ClassFile.FieldType.double)).before args0 about1 = true := code_word (m := ⟨1, 2⟩) (meth := k1m2) (c := k1c2) (by decide +kernel) rfl rfl rfl (by decide +kernel)
def codes1 : List Jvm.Cond := [Jvm.Cond.code x code maxLocals ret, Jvm.Cond.code ({ cls := "com/example/tradewind/tradewind/benchmark/Zdt", name := "lower", desc := "()[D" } : Jvm.MethodName) prog_1_method_8_code (2 : Nat) (Option.some (Jvm.ClassFile.FieldType.array Jvm.ClassFile.FieldType.double)), Jvm.Cond.code ({ cls := "java/util/Arrays", name := "fill", desc := "([DIID)V" } : Jvm.MethodName) jdk_65_method_114_code (6 : Nat) (Option.none : Option Jvm.ClassFile.FieldType), Jvm.Cond.code ({ cls := "java/util/Arrays", name := "rangeCheck", desc := "(III)V" } : Jvm.MethodName) jdk_65_method_30_code (3 : Nat) (Option.none : Option Jvm.ClassFile.FieldType), Jvm.Cond.code ({ cls := "com/example/tradewind/tradewind/benchmark/ZdtLowerPinLaw", name := "expected", desc := "(ID)D" } : Jvm.MethodName) method_3_code (3 : Nat) (Option.some Jvm.ClassFile.FieldType.double)]
set_option maxRecDepth 65536 in
theorem codes_eq : words1.filter isCode = codes1 := rfl
theorem w_codes : ∀ c ∈ words1.filter isCode, c.before args0 about1 = true := by
  rw [codes_eq]
  intro c hc
  simp only [codes1, List.mem_cons, List.not_mem_nil, or_false] at hc
  rcases hc with rfl | rfl | rfl | rfl | rfl
  · exact w_c0
  · exact w_c1
  · exact w_c2
  · exact w_c3
  · exact w_c4
set_option maxRecDepth 65536 in
theorem w_t1 : (words1.take 24).all (fun c => isCode c || c.before args0 about1) = true := by decide +kernel
set_option maxRecDepth 65536 in
theorem w_t2 : (words1.drop 24).all (fun c => isCode c || c.before args0 about1) = true := by decide +kernel
theorem w_tables : (allAtoms (Jvm.Cond.code x code maxLocals ret :: tables_1)).before args0 about1 = true := by
  rw [allAtoms_all]
  show words1.all (fun c => c.before args0 about1) = true
  refine all_split ?_ w_codes
  rw [← List.take_append_drop 24 words1, List.all_append, w_t1, w_t2]
  rfl
set_option maxRecDepth 65536 in
theorem w_case : (Jvm.Cond.and given_1 narrow_1).before args0 about1 = true := by decide +kernel
theorem w_applies : (headSpec (Jvm.Cond.code x code maxLocals ret :: tables_1) room_1).applies x e0.platform about1 = true :=
  (Spec.applies_iff w_frames).mpr ⟨w_running, w_runnable, w_alone, w_named, w_hears, w_ripe, w_room, w_tables⟩
theorem atStart : AtStart classFile x code maxLocals ret World_1 tables_1 room_1 Calls_1 rest_1 Pre_1 launch0 p0 e0 about1 theMethod args0 below0 :=
  ⟨lists_1, trivial, launch0.admits_env _ _ _, launch0.least_env, fairChoices_fair.cas, fairChoices_fair.clock, w_frames, w_args, w_heap, w_applies, trivial, trivial, w_case⟩
end start1
theorem witness_1 : WitnessClaimed_1 := ⟨start1.p0, start1.e0, start1.about1, start1.theMethod, start1.args0, start1.below0, start1.atStart⟩
end Jvm.Pilot.@@N@@
