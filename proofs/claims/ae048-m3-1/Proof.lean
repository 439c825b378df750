import JvmDerived
import JvmDerived.Pilot.@@N@@Statement
import JvmDerived.Pilot.@@N@@Code
set_option linter.unusedVariables false
set_option linter.unusedSimpArgs false
namespace Jvm.Pilot.@@N@@
open Jvm Jvm.ClassFile Sem Op Lib Jvm.Free Jvm.Free.Fl Jvm.Stand Jvm.LawKit Jvm.RoadKit Bundle Jvm.Pilot.@@N@@.Jvm.D
section own_go
/-- where the walk stands, with the two facts that every step asks -/
def Ax (p : Program) (l : Launch) (e : Env) (R : Room) (s : State) (m : MethodId) (args : Array Value) (below : List Frame) (meth : Method) (c : Code) (T : State) (locs : List Loc) (cells slots : Nat) (B : ByteArray) : Prop := Stand p l e R s m args below meth c T locs cells slots ∧ p.tables.exec = Jvm.exec ∧ c.code = B
/-- from this frame the run ends, and P holds of its end -/
def Go (p : Program) (e : Env) (below : List Frame) (P : State → Outcome → Prop) (T : State) (g : JFrame) : Prop := ∃ U o, Steps p.tables e below (T.setTop g) U ∧ U.status = .running ∧ Ended U below o ∧ P U o
variable {p : Program} {l : Launch} {e : Env} {R : Room} {s : State} {m : MethodId} {args : Array Value} {below : List Frame} {meth : Method} {c : Code} {T : State} {locs : List Loc} {cells slots : Nat} {P : State → Outcome → Prop} {B : ByteArray} {pc pc' : Nat} {ls ls' : Array Slot} {st : List Value}
theorem Go.of {T' : State} {g g' : JFrame} (k : ∀ t, Steps p.tables e below (T'.setTop g') t → Steps p.tables e below (T.setTop g) t) (h : Go p e below P T' g') : Go p e below P T g := by
  obtain ⟨U, o, h1, h2⟩ := h
  exact ⟨U, o, k _ h1, h2⟩
theorem Go.tr {T' : State} {g g' : JFrame} (k : Steps p.tables e below (T.setTop g) (T'.setTop g')) (h : Go p e below P T' g') : Go p e below P T g := Go.of (fun _ h => k.trans h) h
theorem Go.cast {g g' : JFrame} (q : g = g') (h : Go p e below P T g') : Go p e below P T g := q ▸ h

theorem g_iadd (A : Ax p l e R s m args below meth c T locs cells slots B) {x : Int32} {y : Int32} (hd : decode B pc = .ok (.iadd, 1)) (hp : pc + 1 = pc') (k : Go p e below P T (mkF m pc' ls (.int (x + y) :: st))) : Go p e below P T (mkF m pc ls (.int y :: .int x :: st)) := by
  subst hp; exact Go.of (fun _ k' => XS.iadd A.1.here A.2.1 rfl (hb A.2.2 hd) rfl k') k
theorem g_isub (A : Ax p l e R s m args below meth c T locs cells slots B) {x : Int32} {y : Int32} (hd : decode B pc = .ok (.isub, 1)) (hp : pc + 1 = pc') (k : Go p e below P T (mkF m pc' ls (.int (x - y) :: st))) : Go p e below P T (mkF m pc ls (.int y :: .int x :: st)) := by
  subst hp; exact Go.of (fun _ k' => XS.isub A.1.here A.2.1 rfl (hb A.2.2 hd) rfl k') k
theorem g_iand (A : Ax p l e R s m args below meth c T locs cells slots B) {x : Int32} {y : Int32} (hd : decode B pc = .ok (.iand, 1)) (hp : pc + 1 = pc') (k : Go p e below P T (mkF m pc' ls (.int (x &&& y) :: st))) : Go p e below P T (mkF m pc ls (.int y :: .int x :: st)) := by
  subst hp; exact Go.of (fun _ k' => XS.iand A.1.here A.2.1 rfl (hb A.2.2 hd) rfl k') k
theorem g_imul (A : Ax p l e R s m args below meth c T locs cells slots B) {x : Int32} {y : Int32} (hd : decode B pc = .ok (.imul, 1)) (hp : pc + 1 = pc') (k : Go p e below P T (mkF m pc' ls (.int (x * y) :: st))) : Go p e below P T (mkF m pc ls (.int y :: .int x :: st)) := by
  subst hp; exact Go.of (fun _ k' => XS.imul A.1.here A.2.1 rfl (hb A.2.2 hd) rfl k') k
theorem g_ixor (A : Ax p l e R s m args below meth c T locs cells slots B) {x : Int32} {y : Int32} (hd : decode B pc = .ok (.ixor, 1)) (hp : pc + 1 = pc') (k : Go p e below P T (mkF m pc' ls (.int (x ^^^ y) :: st))) : Go p e below P T (mkF m pc ls (.int y :: .int x :: st)) := by
  subst hp; exact Go.of (fun _ k' => XT.ixor A.1.here A.2.1 rfl (hb A.2.2 hd) rfl k') k
theorem g_ior (A : Ax p l e R s m args below meth c T locs cells slots B) {x : Int32} {y : Int32} (hd : decode B pc = .ok (.ior, 1)) (hp : pc + 1 = pc') (k : Go p e below P T (mkF m pc' ls (.int (x ||| y) :: st))) : Go p e below P T (mkF m pc ls (.int y :: .int x :: st)) := by
  subst hp; exact Go.of (fun _ k' => XT.ior A.1.here A.2.1 rfl (hb A.2.2 hd) rfl k') k
theorem g_ishl (A : Ax p l e R s m args below meth c T locs cells slots B) {x : Int32} {y : Int32} (hd : decode B pc = .ok (.ishl, 1)) (hp : pc + 1 = pc') (k : Go p e below P T (mkF m pc' ls (.int (x <<< (y &&& 31)) :: st))) : Go p e below P T (mkF m pc ls (.int y :: .int x :: st)) := by
  subst hp; exact Go.of (fun _ k' => XT.ishl A.1.here A.2.1 rfl (hb A.2.2 hd) rfl k') k
theorem g_ishr (A : Ax p l e R s m args below meth c T locs cells slots B) {x : Int32} {y : Int32} (hd : decode B pc = .ok (.ishr, 1)) (hp : pc + 1 = pc') (k : Go p e below P T (mkF m pc' ls (.int (x >>> (y &&& 31)) :: st))) : Go p e below P T (mkF m pc ls (.int y :: .int x :: st)) := by
  subst hp; exact Go.of (fun _ k' => XT.ishr A.1.here A.2.1 rfl (hb A.2.2 hd) rfl k') k
theorem g_iushr (A : Ax p l e R s m args below meth c T locs cells slots B) {x : Int32} {y : Int32} (hd : decode B pc = .ok (.iushr, 1)) (hp : pc + 1 = pc') (k : Go p e below P T (mkF m pc' ls (.int (XT.ushr x y) :: st))) : Go p e below P T (mkF m pc ls (.int y :: .int x :: st)) := by
  subst hp; exact Go.of (fun _ k' => XT.iushr A.1.here A.2.1 rfl (hb A.2.2 hd) rfl k') k
theorem g_idiv (A : Ax p l e R s m args below meth c T locs cells slots B) {x : Int32} {y : Int32} (hd : decode B pc = .ok (.idiv, 1)) (hy : y ≠ 0) (hp : pc + 1 = pc') (k : Go p e below P T (mkF m pc' ls (.int (x / y) :: st))) : Go p e below P T (mkF m pc ls (.int y :: .int x :: st)) := by
  subst hp; exact Go.of (fun _ k' => XS.idiv A.1.here A.2.1 rfl (hb A.2.2 hd) rfl hy k') k
theorem g_ladd (A : Ax p l e R s m args below meth c T locs cells slots B) {x : Int64} {y : Int64} (hd : decode B pc = .ok (.ladd, 1)) (hp : pc + 1 = pc') (k : Go p e below P T (mkF m pc' ls (.long (x + y) :: st))) : Go p e below P T (mkF m pc ls (.long y :: .long x :: st)) := by
  subst hp; exact Go.of (fun _ k' => XT.ladd A.1.here A.2.1 rfl (hb A.2.2 hd) rfl k') k
theorem g_lsub (A : Ax p l e R s m args below meth c T locs cells slots B) {x : Int64} {y : Int64} (hd : decode B pc = .ok (.lsub, 1)) (hp : pc + 1 = pc') (k : Go p e below P T (mkF m pc' ls (.long (x - y) :: st))) : Go p e below P T (mkF m pc ls (.long y :: .long x :: st)) := by
  subst hp; exact Go.of (fun _ k' => XT.lsub A.1.here A.2.1 rfl (hb A.2.2 hd) rfl k') k
theorem g_lmul (A : Ax p l e R s m args below meth c T locs cells slots B) {x : Int64} {y : Int64} (hd : decode B pc = .ok (.lmul, 1)) (hp : pc + 1 = pc') (k : Go p e below P T (mkF m pc' ls (.long (x * y) :: st))) : Go p e below P T (mkF m pc ls (.long y :: .long x :: st)) := by
  subst hp; exact Go.of (fun _ k' => XT.lmul A.1.here A.2.1 rfl (hb A.2.2 hd) rfl k') k
theorem g_land (A : Ax p l e R s m args below meth c T locs cells slots B) {x : Int64} {y : Int64} (hd : decode B pc = .ok (.land, 1)) (hp : pc + 1 = pc') (k : Go p e below P T (mkF m pc' ls (.long (x &&& y) :: st))) : Go p e below P T (mkF m pc ls (.long y :: .long x :: st)) := by
  subst hp; exact Go.of (fun _ k' => XT.land A.1.here A.2.1 rfl (hb A.2.2 hd) rfl k') k
theorem g_lor (A : Ax p l e R s m args below meth c T locs cells slots B) {x : Int64} {y : Int64} (hd : decode B pc = .ok (.lor, 1)) (hp : pc + 1 = pc') (k : Go p e below P T (mkF m pc' ls (.long (x ||| y) :: st))) : Go p e below P T (mkF m pc ls (.long y :: .long x :: st)) := by
  subst hp; exact Go.of (fun _ k' => XT.lor A.1.here A.2.1 rfl (hb A.2.2 hd) rfl k') k
theorem g_lxor (A : Ax p l e R s m args below meth c T locs cells slots B) {x : Int64} {y : Int64} (hd : decode B pc = .ok (.lxor, 1)) (hp : pc + 1 = pc') (k : Go p e below P T (mkF m pc' ls (.long (x ^^^ y) :: st))) : Go p e below P T (mkF m pc ls (.long y :: .long x :: st)) := by
  subst hp; exact Go.of (fun _ k' => XT.lxor A.1.here A.2.1 rfl (hb A.2.2 hd) rfl k') k
theorem g_lshl (A : Ax p l e R s m args below meth c T locs cells slots B) {x : Int64} {y : Int32} (hd : decode B pc = .ok (.lshl, 1)) (hp : pc + 1 = pc') (k : Go p e below P T (mkF m pc' ls (.long (x <<< (y.toInt64 &&& 63)) :: st))) : Go p e below P T (mkF m pc ls (.int y :: .long x :: st)) := by
  subst hp; exact Go.of (fun _ k' => XT.lshl A.1.here A.2.1 rfl (hb A.2.2 hd) rfl k') k
theorem g_lshr (A : Ax p l e R s m args below meth c T locs cells slots B) {x : Int64} {y : Int32} (hd : decode B pc = .ok (.lshr, 1)) (hp : pc + 1 = pc') (k : Go p e below P T (mkF m pc' ls (.long (x >>> (y.toInt64 &&& 63)) :: st))) : Go p e below P T (mkF m pc ls (.int y :: .long x :: st)) := by
  subst hp; exact Go.of (fun _ k' => XT.lshr A.1.here A.2.1 rfl (hb A.2.2 hd) rfl k') k
theorem g_lushr (A : Ax p l e R s m args below meth c T locs cells slots B) {x : Int64} {y : Int32} (hd : decode B pc = .ok (.lushr, 1)) (hp : pc + 1 = pc') (k : Go p e below P T (mkF m pc' ls (.long (XT.ushrL x y) :: st))) : Go p e below P T (mkF m pc ls (.int y :: .long x :: st)) := by
  subst hp; exact Go.of (fun _ k' => XT.lushr A.1.here A.2.1 rfl (hb A.2.2 hd) rfl k') k
theorem g_ldiv (A : Ax p l e R s m args below meth c T locs cells slots B) {x : Int64} {y : Int64} (hd : decode B pc = .ok (.ldiv, 1)) (hy : y ≠ 0) (hp : pc + 1 = pc') (k : Go p e below P T (mkF m pc' ls (.long (x / y) :: st))) : Go p e below P T (mkF m pc ls (.long y :: .long x :: st)) := by
  subst hp; exact Go.of (fun _ k' => XT.ldiv A.1.here A.2.1 rfl (hb A.2.2 hd) rfl hy k') k
theorem g_lrem (A : Ax p l e R s m args below meth c T locs cells slots B) {x y : Int64} (hd : decode B pc = .ok (.lrem, 1)) (hy : y ≠ 0) (hp : pc + 1 = pc') (k : Go p e below P T (mkF m pc' ls (.long (x % y) :: st))) : Go p e below P T (mkF m pc ls (.long y :: .long x :: st)) := by
  subst hp; rw [← lrem_mod] at k; exact Go.of (fun _ k' => XT.lrem A.1.here A.2.1 rfl (hb A.2.2 hd) rfl hy k') k
theorem g_i2s (A : Ax p l e R s m args below meth c T locs cells slots B) {x : Int32} (hd : decode B pc = .ok (.i2s, 1)) (hp : pc + 1 = pc') (k : Go p e below P T (mkF m pc' ls (.int (x.toInt16.toInt32) :: st))) : Go p e below P T (mkF m pc ls (.int x :: st)) := by
  subst hp; exact Go.of (fun _ k' => XT.i2s A.1.here A.2.1 rfl (hb A.2.2 hd) rfl k') k
theorem g_i2b (A : Ax p l e R s m args below meth c T locs cells slots B) {x : Int32} (hd : decode B pc = .ok (.i2b, 1)) (hp : pc + 1 = pc') (k : Go p e below P T (mkF m pc' ls (.int (x.toInt8.toInt32) :: st))) : Go p e below P T (mkF m pc ls (.int x :: st)) := by
  subst hp; exact Go.of (fun _ k' => XT.i2b A.1.here A.2.1 rfl (hb A.2.2 hd) rfl k') k
theorem g_i2c (A : Ax p l e R s m args below meth c T locs cells slots B) {x : Int32} (hd : decode B pc = .ok (.i2c, 1)) (hp : pc + 1 = pc') (k : Go p e below P T (mkF m pc' ls (.int (x.toUInt32.toUInt16.toUInt32.toInt32) :: st))) : Go p e below P T (mkF m pc ls (.int x :: st)) := by
  subst hp; exact Go.of (fun _ k' => XT.i2c A.1.here A.2.1 rfl (hb A.2.2 hd) rfl k') k
theorem g_ineg (A : Ax p l e R s m args below meth c T locs cells slots B) {x : Int32} (hd : decode B pc = .ok (.ineg, 1)) (hp : pc + 1 = pc') (k : Go p e below P T (mkF m pc' ls (.int (-x) :: st))) : Go p e below P T (mkF m pc ls (.int x :: st)) := by
  subst hp; exact Go.of (fun _ k' => XS.ineg A.1.here A.2.1 rfl (hb A.2.2 hd) rfl k') k
theorem g_lneg (A : Ax p l e R s m args below meth c T locs cells slots B) {x : Int64} (hd : decode B pc = .ok (.lneg, 1)) (hp : pc + 1 = pc') (k : Go p e below P T (mkF m pc' ls (.long (-x) :: st))) : Go p e below P T (mkF m pc ls (.long x :: st)) := by
  subst hp; exact Go.of (fun _ k' => XT.lneg A.1.here A.2.1 rfl (hb A.2.2 hd) rfl k') k
theorem g_i2l (A : Ax p l e R s m args below meth c T locs cells slots B) {x : Int32} (hd : decode B pc = .ok (.i2l, 1)) (hp : pc + 1 = pc') (k : Go p e below P T (mkF m pc' ls (.long (x.toInt64) :: st))) : Go p e below P T (mkF m pc ls (.int x :: st)) := by
  subst hp; exact Go.of (fun _ k' => XT.i2l A.1.here A.2.1 rfl (hb A.2.2 hd) rfl k') k
theorem g_l2i (A : Ax p l e R s m args below meth c T locs cells slots B) {x : Int64} (hd : decode B pc = .ok (.l2i, 1)) (hp : pc + 1 = pc') (k : Go p e below P T (mkF m pc' ls (.int (x.toInt32) :: st))) : Go p e below P T (mkF m pc ls (.long x :: st)) := by
  subst hp; exact Go.of (fun _ k' => XT.l2i A.1.here A.2.1 rfl (hb A.2.2 hd) rfl k') k
theorem g_irem (A : Ax p l e R s m args below meth c T locs cells slots B) {x y : Int32} (hd : decode B pc = .ok (.irem, 1)) (hy : y ≠ 0) (hp : pc + 1 = pc') (k : Go p e below P T (mkF m pc' ls (.int (x % y) :: st))) : Go p e below P T (mkF m pc ls (.int y :: .int x :: st)) := by
  subst hp; exact Go.of (fun _ k' => iremM A.1 A.2.1 rfl (hb A.2.2 hd) rfl hy k') k
theorem g_iloadN (A : Ax p l e R s m args below meth c T locs cells slots B) {k : Fin 4} {v : Int32} (hd : decode B pc = .ok (.iload_n k, 1)) (hl : ls[k.val]? = some (.val (.int v))) (hp : pc + 1 = pc') (k : Go p e below P T (mkF m pc' ls (.int v :: st))) : Go p e below P T (mkF m pc ls st) := by
  subst hp; exact Go.of (fun _ k' => XS.iloadN A.1.here A.2.1 rfl (hb A.2.2 hd) hl k') k
theorem g_iload (A : Ax p l e R s m args below meth c T locs cells slots B) {k : Nat} {v : Int32} (hd : decode B pc = .ok (.iload k, 2)) (hl : ls[k]? = some (.val (.int v))) (hp : pc + 2 = pc') (k : Go p e below P T (mkF m pc' ls (.int v :: st))) : Go p e below P T (mkF m pc ls st) := by
  subst hp; exact Go.of (fun _ k' => XS.iload A.1.here A.2.1 rfl (hb A.2.2 hd) hl k') k
theorem g_lloadN (A : Ax p l e R s m args below meth c T locs cells slots B) {k : Fin 4} {v : Int64} (hd : decode B pc = .ok (.lload_n k, 1)) (hl : ls[k.val]? = some (.val (.long v))) (hp : pc + 1 = pc') (k : Go p e below P T (mkF m pc' ls (.long v :: st))) : Go p e below P T (mkF m pc ls st) := by
  subst hp; exact Go.of (fun _ k' => XT.lloadN A.1.here A.2.1 rfl (hb A.2.2 hd) hl k') k
theorem g_lload (A : Ax p l e R s m args below meth c T locs cells slots B) {k : Nat} {v : Int64} (hd : decode B pc = .ok (.lload k, 2)) (hl : ls[k]? = some (.val (.long v))) (hp : pc + 2 = pc') (k : Go p e below P T (mkF m pc' ls (.long v :: st))) : Go p e below P T (mkF m pc ls st) := by
  subst hp; exact Go.of (fun _ k' => XT.lload A.1.here A.2.1 rfl (hb A.2.2 hd) hl k') k
theorem g_aloadN (A : Ax p l e R s m args below meth c T locs cells slots B) {k : Fin 4} {v : Value} (hd : decode B pc = .ok (.aload_n k, 1)) (hl : ls[k.val]? = some (.val v)) (hv : v.isRef = true) (hp : pc + 1 = pc') (k : Go p e below P T (mkF m pc' ls (v :: st))) : Go p e below P T (mkF m pc ls st) := by
  subst hp; exact Go.of (fun _ k' => XS.aloadN A.1.here A.2.1 rfl (hb A.2.2 hd) hl hv k') k
theorem g_aload (A : Ax p l e R s m args below meth c T locs cells slots B) {k : Nat} {v : Value} (hd : decode B pc = .ok (.aload k, 2)) (hl : ls[k]? = some (.val v)) (hv : v.isRef = true) (hp : pc + 2 = pc') (k : Go p e below P T (mkF m pc' ls (v :: st))) : Go p e below P T (mkF m pc ls st) := by
  subst hp; exact Go.of (fun _ k' => XS.aload A.1.here A.2.1 rfl (hb A.2.2 hd) hl hv k') k
theorem g_dloadN (A : Ax p l e R s m args below meth c T locs cells slots B) {k : Fin 4} {v : UInt64} (hd : decode B pc = .ok (.dload_n k, 1)) (hl : ls[k.val]? = some (.val (.double v))) (hp : pc + 1 = pc') (k : Go p e below P T (mkF m pc' ls (.double v :: st))) : Go p e below P T (mkF m pc ls st) := by
  subst hp
  refine Go.of (fun t k' => ?_) k
  have h := A.1.here
  have hx := A.2.1
  have hd' := hb A.2.2 hd
  show Steps p.tables e below (T.setTop { method := m, pc := pc, locals := ls, stack := st, locked := none }) _
  jvm_step h [h.top, hx, hd', hl]
  exact k'
theorem g_dload (A : Ax p l e R s m args below meth c T locs cells slots B) {k : Nat} {v : UInt64} (hd : decode B pc = .ok (.dload k, 2)) (hl : ls[k]? = some (.val (.double v))) (hp : pc + 2 = pc') (k : Go p e below P T (mkF m pc' ls (.double v :: st))) : Go p e below P T (mkF m pc ls st) := by
  subst hp
  refine Go.of (fun t k' => ?_) k
  have h := A.1.here
  have hx := A.2.1
  have hd' := hb A.2.2 hd
  show Steps p.tables e below (T.setTop { method := m, pc := pc, locals := ls, stack := st, locked := none }) _
  jvm_step h [h.top, hx, hd', hl]
  exact k'
theorem g_istoreN (A : Ax p l e R s m args below meth c T locs cells slots B) {k : Fin 4} {x : Int32} (hd : decode B pc = .ok (.istore_n k, 1)) (hl : storeLocals ls k.val (.int x) = some ls') (hp : pc + 1 = pc') (k : Go p e below P T (mkF m pc' ls' st)) : Go p e below P T (mkF m pc ls (.int x :: st)) := by
  subst hp; exact Go.of (fun _ k' => XS.istoreN A.1.here A.2.1 rfl (hb A.2.2 hd) rfl hl k') k
theorem g_istore (A : Ax p l e R s m args below meth c T locs cells slots B) {k : Nat} {x : Int32} (hd : decode B pc = .ok (.istore k, 2)) (hl : storeLocals ls k (.int x) = some ls') (hp : pc + 2 = pc') (k : Go p e below P T (mkF m pc' ls' st)) : Go p e below P T (mkF m pc ls (.int x :: st)) := by
  subst hp; exact Go.of (fun _ k' => XS.istore A.1.here A.2.1 rfl (hb A.2.2 hd) rfl hl k') k
theorem g_lstoreN (A : Ax p l e R s m args below meth c T locs cells slots B) {k : Fin 4} {x : Int64} (hd : decode B pc = .ok (.lstore_n k, 1)) (hl : storeLocals ls k.val (.long x) = some ls') (hp : pc + 1 = pc') (k : Go p e below P T (mkF m pc' ls' st)) : Go p e below P T (mkF m pc ls (.long x :: st)) := by
  subst hp; exact Go.of (fun _ k' => XT.lstoreN A.1.here A.2.1 rfl (hb A.2.2 hd) rfl hl k') k
theorem g_lstore (A : Ax p l e R s m args below meth c T locs cells slots B) {k : Nat} {x : Int64} (hd : decode B pc = .ok (.lstore k, 2)) (hl : storeLocals ls k (.long x) = some ls') (hp : pc + 2 = pc') (k : Go p e below P T (mkF m pc' ls' st)) : Go p e below P T (mkF m pc ls (.long x :: st)) := by
  subst hp; exact Go.of (fun _ k' => XT.lstore A.1.here A.2.1 rfl (hb A.2.2 hd) rfl hl k') k
theorem g_astoreN (A : Ax p l e R s m args below meth c T locs cells slots B) {k : Fin 4} {x : Value} (hd : decode B pc = .ok (.astore_n k, 1)) (hv : x.isRef = true) (hl : storeLocals ls k.val x = some ls') (hp : pc + 1 = pc') (k : Go p e below P T (mkF m pc' ls' st)) : Go p e below P T (mkF m pc ls (x :: st)) := by
  subst hp; exact Go.of (fun _ k' => XS.astoreN A.1.here A.2.1 rfl (hb A.2.2 hd) rfl hv hl k') k
theorem g_astore (A : Ax p l e R s m args below meth c T locs cells slots B) {k : Nat} {x : Value} (hd : decode B pc = .ok (.astore k, 2)) (hv : x.isRef = true) (hl : storeLocals ls k x = some ls') (hp : pc + 2 = pc') (k : Go p e below P T (mkF m pc' ls' st)) : Go p e below P T (mkF m pc ls (x :: st)) := by
  subst hp; exact Go.of (fun _ k' => XS.astore A.1.here A.2.1 rfl (hb A.2.2 hd) rfl hv hl k') k
theorem g_dstoreN (A : Ax p l e R s m args below meth c T locs cells slots B) {k : Fin 4} {x : UInt64} (hd : decode B pc = .ok (.dstore_n k, 1)) (hl : storeLocals ls k.val (.double x) = some ls') (hp : pc + 1 = pc') (k : Go p e below P T (mkF m pc' ls' st)) : Go p e below P T (mkF m pc ls (.double x :: st)) := by
  subst hp
  refine Go.of (fun t k' => ?_) k
  have h := A.1.here
  have hx := A.2.1
  have hd' := hb A.2.2 hd
  show Steps p.tables e below (T.setTop { method := m, pc := pc, locals := ls, stack := .double x :: st, locked := none }) _
  jvm_step h [h.top, hx, hd']
  exact ⟨ls', hl, k'⟩
theorem g_dstore (A : Ax p l e R s m args below meth c T locs cells slots B) {k : Nat} {x : UInt64} (hd : decode B pc = .ok (.dstore k, 2)) (hl : storeLocals ls k (.double x) = some ls') (hp : pc + 2 = pc') (k : Go p e below P T (mkF m pc' ls' st)) : Go p e below P T (mkF m pc ls (.double x :: st)) := by
  subst hp
  refine Go.of (fun t k' => ?_) k
  have h := A.1.here
  have hx := A.2.1
  have hd' := hb A.2.2 hd
  show Steps p.tables e below (T.setTop { method := m, pc := pc, locals := ls, stack := .double x :: st, locked := none }) _
  jvm_step h [h.top, hx, hd']
  exact ⟨ls', hl, k'⟩
theorem g_iconst (A : Ax p l e R s m args below meth c T locs cells slots B) {i : Int} {v : Int32} (hd : decode B pc = .ok (.iconst i, 1)) (hv : Int32.ofInt i = v) (hp : pc + 1 = pc') (k : Go p e below P T (mkF m pc' ls (.int v :: st))) : Go p e below P T (mkF m pc ls st) := by
  subst hp hv; exact Go.of (fun _ k' => XS.iconst A.1.here A.2.1 rfl (hb A.2.2 hd) k') k
theorem g_bipush (A : Ax p l e R s m args below meth c T locs cells slots B) {i : Int} {v : Int32} (hd : decode B pc = .ok (.bipush i, 2)) (hv : (Int8.ofInt i).toInt32 = v) (hp : pc + 2 = pc') (k : Go p e below P T (mkF m pc' ls (.int v :: st))) : Go p e below P T (mkF m pc ls st) := by
  subst hp hv; exact Go.of (fun _ k' => XS.bipush A.1.here A.2.1 rfl (hb A.2.2 hd) k') k
theorem g_sipush (A : Ax p l e R s m args below meth c T locs cells slots B) {i : Int} {v : Int32} (hd : decode B pc = .ok (.sipush i, 3)) (hv : (Int16.ofInt i).toInt32 = v) (hp : pc + 3 = pc') (k : Go p e below P T (mkF m pc' ls (.int v :: st))) : Go p e below P T (mkF m pc ls st) := by
  subst hp hv; exact Go.of (fun _ k' => XS.sipush A.1.here A.2.1 rfl (hb A.2.2 hd) k') k
theorem g_aconst (A : Ax p l e R s m args below meth c T locs cells slots B) (hd : decode B pc = .ok (.aconst_null, 1)) (hp : pc + 1 = pc') (k : Go p e below P T (mkF m pc' ls (.null :: st))) : Go p e below P T (mkF m pc ls st) := by
  subst hp; exact Go.of (fun _ k' => XS.aconstNull A.1.here A.2.1 rfl (hb A.2.2 hd) k') k
theorem g_lconst (A : Ax p l e R s m args below meth c T locs cells slots B) {i : Fin 2} {v : Int64} (hd : decode B pc = .ok (.lconst i, 1)) (hv : Int64.ofNat i = v) (hp : pc + 1 = pc') (k : Go p e below P T (mkF m pc' ls (.long v :: st))) : Go p e below P T (mkF m pc ls st) := by
  subst hp hv; exact Go.of (fun _ k' => XT.lconst A.1.here A.2.1 rfl (hb A.2.2 hd) k') k
theorem g_dconst0 (A : Ax p l e R s m args below meth c T locs cells slots B) (hd : decode B pc = .ok (.dconst 0, 1)) (hp : pc + 1 = pc') (k : Go p e below P T (mkF m pc' ls (.double (0 : UInt64) :: st))) : Go p e below P T (mkF m pc ls st) := by
  subst hp
  refine Go.of (fun t k' => ?_) k
  have h := A.1.here
  have hx := A.2.1
  have hd' := hb A.2.2 hd
  show Steps p.tables e below (T.setTop { method := m, pc := pc, locals := ls, stack := st, locked := none }) _
  jvm_step h [h.top, hx, hd']
  exact k'
theorem g_dconst1 (A : Ax p l e R s m args below meth c T locs cells slots B) (hd : decode B pc = .ok (.dconst 1, 1)) (hp : pc + 1 = pc') (k : Go p e below P T (mkF m pc' ls (.double (4607182418800017408 : UInt64) :: st))) : Go p e below P T (mkF m pc ls st) := by
  subst hp
  refine Go.of (fun t k' => ?_) k
  have h := A.1.here
  have hx := A.2.1
  have hd' := hb A.2.2 hd
  show Steps p.tables e below (T.setTop { method := m, pc := pc, locals := ls, stack := st, locked := none }) _
  jvm_step h [h.top, hx, hd']
  exact k'
theorem g_dadd (A : Ax p l e R s m args below meth c T locs cells slots B) {x y : UInt64} (hd : decode B pc = .ok (.dadd, 1)) (hn : NoNaN64 (FP.dadd x y)) (hp : pc + 1 = pc') (k : Go p e below P T (mkF m pc' ls (.double (FP.dadd x y) :: st))) : Go p e below P T (mkF m pc ls (.double y :: .double x :: st)) := by
  subst hp
  refine Go.of (fun t k' => ?_) k
  have h := A.1.here
  have hx := A.2.1
  have hd' := hb A.2.2 hd
  show Steps p.tables e below (T.setTop { method := m, pc := pc, locals := ls, stack := .double y :: .double x :: st, locked := none }) _
  jvm_step h [h.top, hx, hd', Op.dadd.at_number h.top hn]
  exact k'
theorem g_dsub (A : Ax p l e R s m args below meth c T locs cells slots B) {x y : UInt64} (hd : decode B pc = .ok (.dsub, 1)) (hn : NoNaN64 (FP.dsub x y)) (hp : pc + 1 = pc') (k : Go p e below P T (mkF m pc' ls (.double (FP.dsub x y) :: st))) : Go p e below P T (mkF m pc ls (.double y :: .double x :: st)) := by
  subst hp
  refine Go.of (fun t k' => ?_) k
  have h := A.1.here
  have hx := A.2.1
  have hd' := hb A.2.2 hd
  show Steps p.tables e below (T.setTop { method := m, pc := pc, locals := ls, stack := .double y :: .double x :: st, locked := none }) _
  jvm_step h [h.top, hx, hd', Op.dsub.at_number h.top hn]
  exact k'
theorem g_dmul (A : Ax p l e R s m args below meth c T locs cells slots B) {x y : UInt64} (hd : decode B pc = .ok (.dmul, 1)) (hn : NoNaN64 (FP.dmul x y)) (hp : pc + 1 = pc') (k : Go p e below P T (mkF m pc' ls (.double (FP.dmul x y) :: st))) : Go p e below P T (mkF m pc ls (.double y :: .double x :: st)) := by
  subst hp
  refine Go.of (fun t k' => ?_) k
  have h := A.1.here
  have hx := A.2.1
  have hd' := hb A.2.2 hd
  show Steps p.tables e below (T.setTop { method := m, pc := pc, locals := ls, stack := .double y :: .double x :: st, locked := none }) _
  jvm_step h [h.top, hx, hd', Op.dmul.at_number h.top hn]
  exact k'
theorem g_ddiv (A : Ax p l e R s m args below meth c T locs cells slots B) {x y : UInt64} (hd : decode B pc = .ok (.ddiv, 1)) (hn : NoNaN64 (FP.ddiv x y)) (hp : pc + 1 = pc') (k : Go p e below P T (mkF m pc' ls (.double (FP.ddiv x y) :: st))) : Go p e below P T (mkF m pc ls (.double y :: .double x :: st)) := by
  subst hp
  refine Go.of (fun t k' => ?_) k
  have h := A.1.here
  have hx := A.2.1
  have hd' := hb A.2.2 hd
  show Steps p.tables e below (T.setTop { method := m, pc := pc, locals := ls, stack := .double y :: .double x :: st, locked := none }) _
  jvm_step h [h.top, hx, hd', Op.ddiv.at_number h.top hn]
  exact k'
theorem g_dneg (A : Ax p l e R s m args below meth c T locs cells slots B) {x : UInt64} (hd : decode B pc = .ok (.dneg, 1)) (hp : pc + 1 = pc') (k : Go p e below P T (mkF m pc' ls (.double (FP.dneg x) :: st))) : Go p e below P T (mkF m pc ls (.double x :: st)) := by
  subst hp
  refine Go.of (fun t k' => ?_) k
  have h := A.1.here
  have hx := A.2.1
  have hd' := hb A.2.2 hd
  show Steps p.tables e below (T.setTop { method := m, pc := pc, locals := ls, stack := .double x :: st, locked := none }) _
  jvm_step h [h.top, hx, hd']
  exact k'
theorem g_i2d (A : Ax p l e R s m args below meth c T locs cells slots B) {x : Int32} (hd : decode B pc = .ok (.i2d, 1)) (hp : pc + 1 = pc') (k : Go p e below P T (mkF m pc' ls (.double (FP.i2d x) :: st))) : Go p e below P T (mkF m pc ls (.int x :: st)) := by
  subst hp
  refine Go.of (fun t k' => ?_) k
  have h := A.1.here
  have hx := A.2.1
  have hd' := hb A.2.2 hd
  show Steps p.tables e below (T.setTop { method := m, pc := pc, locals := ls, stack := .int x :: st, locked := none }) _
  jvm_step h [h.top, hx, hd']
  exact k'
theorem g_l2d (A : Ax p l e R s m args below meth c T locs cells slots B) {x : Int64} (hd : decode B pc = .ok (.l2d, 1)) (hp : pc + 1 = pc') (k : Go p e below P T (mkF m pc' ls (.double (FP.l2d x) :: st))) : Go p e below P T (mkF m pc ls (.long x :: st)) := by
  subst hp
  refine Go.of (fun t k' => ?_) k
  have h := A.1.here
  have hx := A.2.1
  have hd' := hb A.2.2 hd
  show Steps p.tables e below (T.setTop { method := m, pc := pc, locals := ls, stack := .long x :: st, locked := none }) _
  jvm_step h [h.top, hx, hd']
  exact k'
theorem g_dcmp (A : Ax p l e R s m args below meth c T locs cells slots B) {x y : UInt64} {op : CmpOp} (hd : decode B pc = .ok (.dcmp op, 1)) (hp : pc + 1 = pc') (k : Go p e below P T (mkF m pc' ls (.int (cmpValue (FP.dcmp x y) op) :: st))) : Go p e below P T (mkF m pc ls (.double y :: .double x :: st)) := by
  subst hp
  refine Go.of (fun t k' => ?_) k
  have h := A.1.here
  have hx := A.2.1
  have hd' := hb A.2.2 hd
  show Steps p.tables e below (T.setTop { method := m, pc := pc, locals := ls, stack := .double y :: .double x :: st, locked := none }) _
  jvm_step h [h.top, hx, hd']
  exact k'
theorem g_lcmp (A : Ax p l e R s m args below meth c T locs cells slots B) {x y : Int64} (hd : decode B pc = .ok (.lcmp, 1)) (hp : pc + 1 = pc') (k : Go p e below P T (mkF m pc' ls (.int (XT.cmpL x y) :: st))) : Go p e below P T (mkF m pc ls (.long y :: .long x :: st)) := by
  subst hp; exact Go.of (fun _ k' => XT.lcmp A.1.here A.2.1 rfl (hb A.2.2 hd) rfl k') k
theorem g_dup (A : Ax p l e R s m args below meth c T locs cells slots B) {x : Value} (hd : decode B pc = .ok (.dup, 1)) (hc : x.category = 1) (hp : pc + 1 = pc') (k : Go p e below P T (mkF m pc' ls (x :: x :: st))) : Go p e below P T (mkF m pc ls (x :: st)) := by
  subst hp; exact Go.of (fun _ k' => XS.dup A.1.here A.2.1 rfl (hb A.2.2 hd) rfl hc k') k
theorem g_pop (A : Ax p l e R s m args below meth c T locs cells slots B) {x : Value} (hd : decode B pc = .ok (.pop, 1)) (hc : x.category = 1) (hp : pc + 1 = pc') (k : Go p e below P T (mkF m pc' ls st)) : Go p e below P T (mkF m pc ls (x :: st)) := by
  subst hp; exact Go.of (fun _ k' => XT.pop A.1.here A.2.1 rfl (hb A.2.2 hd) rfl hc k') k
theorem g_iinc (A : Ax p l e R s m args below meth c T locs cells slots B) {k : Nat} {i : Int} {x y : Int32} (hd : decode B pc = .ok (.iinc k i, 3)) (hl : ls[k]? = some (.val (.int x))) (hy : x + Int32.ofInt i = y) (hl' : storeLocals ls k (.int y) = some ls') (hp : pc + 3 = pc') (k : Go p e below P T (mkF m pc' ls' st)) : Go p e below P T (mkF m pc ls st) := by
  subst hp hy; exact Go.of (fun _ k' => XS.iinc A.1.here A.2.1 rfl (hb A.2.2 hd) hl hl' k') k
theorem own_off {pc pc' : Nat} {o : Int} (h : (pc : Int) + o = (pc' : Int)) : 0 ≤ (pc : Int) + o ∧ ((pc : Int) + o).toNat = pc' := by omega
theorem g_goto (A : Ax p l e R s m args below meth c T locs cells slots B) {o : Int} (hd : decode B pc = .ok (.goto o, 3)) (hp : (pc : Int) + o = (pc' : Int)) (k : Go p e below P T (mkF m pc' ls st)) : Go p e below P T (mkF m pc ls st) := Go.of (fun _ k' => XS.goto A.1.here A.2.1 rfl rfl (hb A.2.2 hd) (own_off hp).1 (own_off hp).2 k') k
theorem g_ifY (A : Ax p l e R s m args below meth c T locs cells slots B) {o : Int} {cd : ClassFile.Cond} {x : Int32} (hd : decode B pc = .ok (.ifCond cd o, 3)) (hc : ifCond.holds cd x = true) (hp : (pc : Int) + o = (pc' : Int)) (k : Go p e below P T (mkF m pc' ls st)) : Go p e below P T (mkF m pc ls (.int x :: st)) := Go.of (fun _ k' => XS.ifYes A.1.here A.2.1 rfl rfl (hb A.2.2 hd) rfl hc (own_off hp).1 (own_off hp).2 k') k
theorem g_ifN (A : Ax p l e R s m args below meth c T locs cells slots B) {o : Int} {cd : ClassFile.Cond} {x : Int32} (hd : decode B pc = .ok (.ifCond cd o, 3)) (hc : ifCond.holds cd x = false) (hp : pc + 3 = pc') (k : Go p e below P T (mkF m pc' ls st)) : Go p e below P T (mkF m pc ls (.int x :: st)) := by
  subst hp; exact Go.of (fun _ k' => XS.ifNo A.1.here A.2.1 rfl (hb A.2.2 hd) rfl hc k') k
theorem g_icY (A : Ax p l e R s m args below meth c T locs cells slots B) {o : Int} {cd : ClassFile.Cond} {x y : Int32} (hd : decode B pc = .ok (.if_icmp cd o, 3)) (hc : if_icmp.holds cd x y = true) (hp : (pc : Int) + o = (pc' : Int)) (k : Go p e below P T (mkF m pc' ls st)) : Go p e below P T (mkF m pc ls (.int y :: .int x :: st)) := Go.of (fun _ k' => XS.icmpYes A.1.here A.2.1 rfl rfl (hb A.2.2 hd) rfl hc (own_off hp).1 (own_off hp).2 k') k
theorem g_icN (A : Ax p l e R s m args below meth c T locs cells slots B) {o : Int} {cd : ClassFile.Cond} {x y : Int32} (hd : decode B pc = .ok (.if_icmp cd o, 3)) (hc : if_icmp.holds cd x y = false) (hp : pc + 3 = pc') (k : Go p e below P T (mkF m pc' ls st)) : Go p e below P T (mkF m pc ls (.int y :: .int x :: st)) := by
  subst hp; exact Go.of (fun _ k' => XS.icmpNo A.1.here A.2.1 rfl (hb A.2.2 hd) rfl hc k') k
theorem c0_eq_t {x : Int32} (h : x = 0) : ifCond.holds .eq x = true := (if0 _ _).trans (teq h).1
theorem c0_eq_f {x : Int32} (h : ¬ x = 0) : ifCond.holds .eq x = false := (if0 _ _).trans (feq h).1
theorem c0_ne_t {x : Int32} (h : ¬ x = 0) : ifCond.holds .ne x = true := (if0 _ _).trans (feq h).2
theorem c0_ne_f {x : Int32} (h : x = 0) : ifCond.holds .ne x = false := (if0 _ _).trans (teq h).2
theorem c0_lt_t {x : Int32} (h : x < 0) : ifCond.holds .lt x = true := (if0 _ _).trans (tlt h).1
theorem c0_lt_f {x : Int32} (h : ¬ x < 0) : ifCond.holds .lt x = false := (if0 _ _).trans (flt h).1
theorem c0_ge_t {x : Int32} (h : ¬ x < 0) : ifCond.holds .ge x = true := (if0 _ _).trans (flt h).2.1
theorem c0_ge_f {x : Int32} (h : x < 0) : ifCond.holds .ge x = false := (if0 _ _).trans (tlt h).2.1
theorem c0_gt_t {x : Int32} (h : 0 < x) : ifCond.holds .gt x = true := (if0 _ _).trans (tlt h).2.2.1
theorem c0_gt_f {x : Int32} (h : ¬ 0 < x) : ifCond.holds .gt x = false := (if0 _ _).trans (flt h).2.2.1
theorem c0_le_t {x : Int32} (h : ¬ 0 < x) : ifCond.holds .le x = true := (if0 _ _).trans (flt h).2.2.2
theorem c0_le_f {x : Int32} (h : 0 < x) : ifCond.holds .le x = false := (if0 _ _).trans (tlt h).2.2.2
theorem c2_eq_t {x y : Int32} (h : x = y) : if_icmp.holds .eq x y = true := (teq h).1
theorem c2_eq_f {x y : Int32} (h : ¬ x = y) : if_icmp.holds .eq x y = false := (feq h).1
theorem c2_ne_t {x y : Int32} (h : ¬ x = y) : if_icmp.holds .ne x y = true := (feq h).2
theorem c2_ne_f {x y : Int32} (h : x = y) : if_icmp.holds .ne x y = false := (teq h).2
theorem c2_lt_t {x y : Int32} (h : x < y) : if_icmp.holds .lt x y = true := (tlt h).1
theorem c2_lt_f {x y : Int32} (h : ¬ x < y) : if_icmp.holds .lt x y = false := (flt h).1
theorem c2_ge_t {x y : Int32} (h : ¬ x < y) : if_icmp.holds .ge x y = true := (flt h).2.1
theorem c2_ge_f {x y : Int32} (h : x < y) : if_icmp.holds .ge x y = false := (tlt h).2.1
theorem c2_gt_t {x y : Int32} (h : y < x) : if_icmp.holds .gt x y = true := (tlt h).2.2.1
theorem c2_gt_f {x y : Int32} (h : ¬ y < x) : if_icmp.holds .gt x y = false := (flt h).2.2.1
theorem c2_le_t {x y : Int32} (h : ¬ y < x) : if_icmp.holds .le x y = true := (flt h).2.2.2
theorem c2_le_f {x y : Int32} (h : y < x) : if_icmp.holds .le x y = false := (tlt h).2.2.2
theorem b0_eq_t {C : Prop} [Decidable C] {v : Int32} (e : v = if C then 1 else 0) (h : ¬ C) : ifCond.holds .eq v = true := c0_eq_t (by rw [e, if_neg h])
theorem b0_eq_f {C : Prop} [Decidable C] {v : Int32} (e : v = if C then 1 else 0) (h : C) : ifCond.holds .eq v = false := c0_eq_f (by rw [e, if_pos h]; decide)
theorem b0_ne_t {C : Prop} [Decidable C] {v : Int32} (e : v = if C then 1 else 0) (h : C) : ifCond.holds .ne v = true := c0_ne_t (by rw [e, if_pos h]; decide)
theorem b0_ne_f {C : Prop} [Decidable C] {v : Int32} (e : v = if C then 1 else 0) (h : ¬ C) : ifCond.holds .ne v = false := c0_ne_f (by rw [e, if_neg h])
theorem own_b01 {C : Prop} [Decidable C] {v : Int32} (e : v = if C then 1 else 0) : narrow .boolean (.int v) = .int v := by
  subst e; by_cases h : C
  · rw [if_pos h]; rfl
  · rw [if_neg h]; rfl
theorem own_fb {C : Prop} [Decidable C] {v : Int32} (e : v = if C then 1 else 0) : fits .boolean (.int v) = true := by
  subst e; by_cases h : C
  · rw [if_pos h]; rfl
  · rw [if_neg h]; rfl
theorem own_ndadd {x y : UInt64} (h1 : Fin64 x) (h2 : Fin64 y) : NoNaN64 (FP.dadd x y) := dadd_out h1.noNaN h2
theorem own_ndsub {x y : UInt64} (h1 : Fin64 x) (h2 : Fin64 y) : NoNaN64 (FP.dsub x y) := dsub_out h1.noNaN h2
theorem own_ndmul {x y : UInt64} (h1 : Fin64 x) (h2 : Fin64 y) : NoNaN64 (FP.dmul x y) := dmul_out h1 h2
theorem own_fin {x : UInt64} : Fin64 x ↔ FP.Core.DFin x := fin64_core
theorem own_fneg {x : UInt64} (h : Fin64 x) : Fin64 (FP.dneg x) := by
  obtain ⟨s, c, q, e⟩ := fin64_core.mp h
  exact fin64_core.mpr ⟨!s, c, q, (FP.val64_dneg x).trans (by rw [e]; rfl)⟩
theorem own_self {x : UInt64} (h : Fin64 x) : FP.dcmp x x = some .eq := FP.Core.dcmp_self (fin64_core.mp h).ne_nan
theorem own_sgt {x : UInt64} (h : Fin64 x) : ¬ FP.dcmp x x = some .gt := by rw [own_self h]; decide
theorem own_slt {x : UInt64} (h : Fin64 x) : ¬ FP.dcmp x x = some .lt := by rw [own_self h]; decide
theorem own_and {c d : Jvm.Cond} {a : Array Value} {s : State} (h1 : c.before a s = true) (h2 : d.before a s = true) : (Jvm.Cond.and c d).before a s = true := by rw [Cond.before_and, h1, h2]; rfl
theorem own_isfin {x : UInt64} (h : Fin64 x) : some (Value.int (if Jvm.Free.Fl.relLe (FP.dcmp (x &&& 0x7fffffffffffffff) Jvm.Free.Fl.maxD) = true then (1 : Int32) else 0)) = some (.int (1 : Int32)) := by rw [if_pos ((le_max_iff h.noNaN).mpr h)]
theorem own_isinf {x : UInt64} (h : Fin64 x) : some (Value.int (if Jvm.Free.Fl.relGt (FP.dcmp (x &&& 0x7fffffffffffffff) Jvm.Free.Fl.maxD) = true then (1 : Int32) else 0)) = some (.int (0 : Int32)) := by rw [if_neg (fun h4 => (gt_max_iff h.noNaN).mp h4 h)]
theorem own_dfin {i : Int} {x : UInt64} (h : FP.Core.DInt i x) : Fin64 x := by
  refine fin64_core.mpr ?_
  have q : FP.Core.Whole i (FP.Core.val64 x) := h
  cases e : FP.Core.val64 x with
  | nan => rw [e] at q; exact q.elim
  | inf s => rw [e] at q; exact q.elim
  | fin s c q => exact ⟨s, c, q, e⟩
theorem own_fn {v : Int32} (h : narrow .boolean (.int v) = .int v) : fits .boolean (.int v) = true := by
  have q : v &&& 1 = v := Value.int.inj h
  rcases and_one v with z | z <;> rw [z] at q <;> subst q <;> rfl
/-- a double less than, equal to .. another, as the code asks it -/
abbrev oGe (o : Option Ordering) : Prop := o = some .gt ∨ o = some .eq
abbrev oLe (o : Option Ordering) : Prop := o = some .lt ∨ o = some .eq
theorem d_l_eq_t {o : Option Ordering} (h : o = some .eq) : ifCond.holds .eq (cmpValue o .l) = true := by
  rcases o with _ | _ | _ | _ <;> first | rfl | decide | (exfalso; revert h; decide)
theorem d_l_eq_f {o : Option Ordering} (h : ¬ o = some .eq) : ifCond.holds .eq (cmpValue o .l) = false := by
  rcases o with _ | _ | _ | _ <;> first | rfl | decide | (exfalso; revert h; decide)
theorem d_l_ne_t {o : Option Ordering} (h : ¬ o = some .eq) : ifCond.holds .ne (cmpValue o .l) = true := by
  rcases o with _ | _ | _ | _ <;> first | rfl | decide | (exfalso; revert h; decide)
theorem d_l_ne_f {o : Option Ordering} (h : o = some .eq) : ifCond.holds .ne (cmpValue o .l) = false := by
  rcases o with _ | _ | _ | _ <;> first | rfl | decide | (exfalso; revert h; decide)
theorem d_g_eq_t {o : Option Ordering} (h : o = some .eq) : ifCond.holds .eq (cmpValue o .g) = true := by
  rcases o with _ | _ | _ | _ <;> first | rfl | decide | (exfalso; revert h; decide)
theorem d_g_eq_f {o : Option Ordering} (h : ¬ o = some .eq) : ifCond.holds .eq (cmpValue o .g) = false := by
  rcases o with _ | _ | _ | _ <;> first | rfl | decide | (exfalso; revert h; decide)
theorem d_g_ne_t {o : Option Ordering} (h : ¬ o = some .eq) : ifCond.holds .ne (cmpValue o .g) = true := by
  rcases o with _ | _ | _ | _ <;> first | rfl | decide | (exfalso; revert h; decide)
theorem d_g_ne_f {o : Option Ordering} (h : o = some .eq) : ifCond.holds .ne (cmpValue o .g) = false := by
  rcases o with _ | _ | _ | _ <;> first | rfl | decide | (exfalso; revert h; decide)
theorem d_l_lt_t {o : Option Ordering} (h : ¬ oGe o) : ifCond.holds .lt (cmpValue o .l) = true := by
  rcases o with _ | _ | _ | _ <;> first | rfl | decide | (exfalso; revert h; decide)
theorem d_l_lt_f {o : Option Ordering} (h : oGe o) : ifCond.holds .lt (cmpValue o .l) = false := by
  rcases o with _ | _ | _ | _ <;> first | rfl | decide | (exfalso; revert h; decide)
theorem d_l_ge_t {o : Option Ordering} (h : oGe o) : ifCond.holds .ge (cmpValue o .l) = true := by
  rcases o with _ | _ | _ | _ <;> first | rfl | decide | (exfalso; revert h; decide)
theorem d_l_ge_f {o : Option Ordering} (h : ¬ oGe o) : ifCond.holds .ge (cmpValue o .l) = false := by
  rcases o with _ | _ | _ | _ <;> first | rfl | decide | (exfalso; revert h; decide)
theorem d_l_gt_t {o : Option Ordering} (h : o = some .gt) : ifCond.holds .gt (cmpValue o .l) = true := by
  rcases o with _ | _ | _ | _ <;> first | rfl | decide | (exfalso; revert h; decide)
theorem d_l_gt_f {o : Option Ordering} (h : ¬ o = some .gt) : ifCond.holds .gt (cmpValue o .l) = false := by
  rcases o with _ | _ | _ | _ <;> first | rfl | decide | (exfalso; revert h; decide)
theorem d_l_le_t {o : Option Ordering} (h : ¬ o = some .gt) : ifCond.holds .le (cmpValue o .l) = true := by
  rcases o with _ | _ | _ | _ <;> first | rfl | decide | (exfalso; revert h; decide)
theorem d_l_le_f {o : Option Ordering} (h : o = some .gt) : ifCond.holds .le (cmpValue o .l) = false := by
  rcases o with _ | _ | _ | _ <;> first | rfl | decide | (exfalso; revert h; decide)
theorem d_g_lt_t {o : Option Ordering} (h : o = some .lt) : ifCond.holds .lt (cmpValue o .g) = true := by
  rcases o with _ | _ | _ | _ <;> first | rfl | decide | (exfalso; revert h; decide)
theorem d_g_lt_f {o : Option Ordering} (h : ¬ o = some .lt) : ifCond.holds .lt (cmpValue o .g) = false := by
  rcases o with _ | _ | _ | _ <;> first | rfl | decide | (exfalso; revert h; decide)
theorem d_g_ge_t {o : Option Ordering} (h : ¬ o = some .lt) : ifCond.holds .ge (cmpValue o .g) = true := by
  rcases o with _ | _ | _ | _ <;> first | rfl | decide | (exfalso; revert h; decide)
theorem d_g_ge_f {o : Option Ordering} (h : o = some .lt) : ifCond.holds .ge (cmpValue o .g) = false := by
  rcases o with _ | _ | _ | _ <;> first | rfl | decide | (exfalso; revert h; decide)
theorem d_g_gt_t {o : Option Ordering} (h : ¬ oLe o) : ifCond.holds .gt (cmpValue o .g) = true := by
  rcases o with _ | _ | _ | _ <;> first | rfl | decide | (exfalso; revert h; decide)
theorem d_g_gt_f {o : Option Ordering} (h : oLe o) : ifCond.holds .gt (cmpValue o .g) = false := by
  rcases o with _ | _ | _ | _ <;> first | rfl | decide | (exfalso; revert h; decide)
theorem d_g_le_t {o : Option Ordering} (h : oLe o) : ifCond.holds .le (cmpValue o .g) = true := by
  rcases o with _ | _ | _ | _ <;> first | rfl | decide | (exfalso; revert h; decide)
theorem d_g_le_f {o : Option Ordering} (h : ¬ oLe o) : ifCond.holds .le (cmpValue o .g) = false := by
  rcases o with _ | _ | _ | _ <;> first | rfl | decide | (exfalso; revert h; decide)
theorem l_eq (x y : Int64) : XT.cmpL x y = 0 ↔ x = y := lw_eq x y
theorem l_lt (x y : Int64) : XT.cmpL x y < 0 ↔ x < y := lw_lt x y
theorem l_gt (x y : Int64) : 0 < XT.cmpL x y ↔ y < x := lw_gt x y
theorem g_ret (A : Ax p l e R s m args below meth c T locs cells slots B) {w : Value} {t : FieldType} {i : Instr} {Q : Option Value → Heap → List Loc → Prop} {K S : Nat} (hd : decode B pc = .ok (i, 1)) (hlk : meth.locks = false) (hret : meth.sig.returnType = some t) (hn : narrow t w = w)
    (hi : (i = .ireturn ∧ (t = .int ∨ t = .boolean ∨ t = .byte ∨ t = .char ∨ t = .short) ∧ ∃ z, w = .int z) ∨ (i = .lreturn ∧ t = .long ∧ ∃ z, w = .long z) ∨ (i = .dreturn ∧ t = .double ∧ ∃ z, w = .double z) ∨ (i = .freturn ∧ t = .float ∧ ∃ z, w = .float z) ∨ (i = .areturn ∧ t.isReference = true ∧ w.isRef = true))
    (hK : cells ≤ K) (hS : slots ≤ S) (hQ : Q (some w) T.heap locs) : Go p e below (fun U o => ∃ v L, o = .returned v ∧ Q v U.heap L ∧ FrameEnd s o U L K S) T (mkF m pc ls (w :: st)) := by
  obtain ⟨fs, hr, hrun, hended, hW, hsame⟩ := A.1.leave (v := some w) (fun h => by rw [hret] at h; cases h) hlk
  exact ⟨_, _, retOut A.1 A.2.1 hret hn hi (hb A.2.2 hd) hr, hrun, hended, _, _, rfl, hQ, ⟨_, rfl⟩, hW, hsame.mono hK hS⟩
theorem g_retV (A : Ax p l e R s m args below meth c T locs cells slots B) {Q : Option Value → Heap → List Loc → Prop} {K S : Nat} (hd : decode B pc = .ok (.return_, 1)) (hlk : meth.locks = false) (hret : meth.sig.returnType = none)
    (hK : cells ≤ K) (hS : slots ≤ S) (hQ : Q none T.heap locs) : Go p e below (fun U o => ∃ v L, o = .returned v ∧ Q v U.heap L ∧ FrameEnd s o U L K S) T (mkF m pc ls []) := by
  obtain ⟨fs, hr, hrun, hended, hW, hsame⟩ := A.1.leave (v := none) (fun _ => rfl) hlk
  exact ⟨_, _, A.1.returnOut A.2.1 hret (hb A.2.2 hd) hr, hrun, hended, _, _, rfl, hQ, ⟨_, rfl⟩, hW, hsame.mono hK hS⟩
theorem g_ldcI (A : Ax p l e R s m args below meth c T locs cells slots B) {Z : State} {a0 : Array Value} {own : String} {i : Nat} {v : Int32} (hZ : Z.Warmed39 s.vm) (hown : s.vm.findClass own = some m.cls) (w : (Jvm.Cond.constant own i v).before a0 Z = true) (hd : decode B pc = .ok (.ldc i, 2)) (hp : pc + 2 = pc') (k : Go p e below P T (mkF m pc' ls (.int v :: st))) : Go p e below P T (mkF m pc ls st) := by
  subst hp; exact Go.of (A.1.ldcInt A.2.1 hown (mvT hZ w) (g := mkF m pc ls st) rfl (hb A.2.2 hd)) k
theorem g_ldcD (A : Ax p l e R s m args below meth c T locs cells slots B) {Z : State} {a0 : Array Value} {own : String} {i : Nat} {v : UInt64} (hZ : Z.Warmed39 s.vm) (hown : s.vm.findClass own = some m.cls) (w : (Jvm.Cond.constantDouble own i v).before a0 Z = true) (hd : decode B pc = .ok (.ldc2_w i, 3)) (hp : pc + 3 = pc') (k : Go p e below P T (mkF m pc' ls (.double v :: st))) : Go p e below P T (mkF m pc ls st) := by
  subst hp; exact Go.of (A.1.ldc2DoubleC A.2.1 hown (mvT hZ w) (g := mkF m pc ls st) rfl (hb A.2.2 hd)) k
theorem g_ldcL (A : Ax p l e R s m args below meth c T locs cells slots B) {Z : State} {a0 : Array Value} {own : String} {i : Nat} {v : Int64} (hZ : Z.Warmed39 s.vm) (hown : s.vm.findClass own = some m.cls) (w : (Jvm.Cond.constantLong own i v).before a0 Z = true) (hd : decode B pc = .ok (.ldc2_w i, 3)) (hp : pc + 3 = pc') (k : Go p e below P T (mkF m pc' ls (.long v :: st))) : Go p e below P T (mkF m pc ls st) := by
  subst hp; exact Go.of (A.1.ldc2Long A.2.1 hown (mvT hZ w) (g := mkF m pc ls st) rfl (hb A.2.2 hd)) k
theorem g_nnY (A : Ax p l e R s m args below meth c T locs cells slots B) {o : Int} {b : Addr} (hd : decode B pc = .ok (.ifnonnull o, 3)) (hp : (pc : Int) + o = (pc' : Int)) (k : Go p e below P T (mkF m pc' ls st)) : Go p e below P T (mkF m pc ls (.ref b :: st)) := Go.of (fun _ k' => XT.ifnonnullYes A.1.here A.2.1 rfl rfl (hb A.2.2 hd) rfl (own_off hp).1 (own_off hp).2 k') k
theorem g_nnN (A : Ax p l e R s m args below meth c T locs cells slots B) {o : Int} (hd : decode B pc = .ok (.ifnonnull o, 3)) (hp : pc + 3 = pc') (k : Go p e below P T (mkF m pc' ls st)) : Go p e below P T (mkF m pc ls (.null :: st)) := by
  subst hp; exact Go.of (fun _ k' => XT.ifnonnullNo A.1.here A.2.1 rfl (hb A.2.2 hd) rfl k') k
theorem g_nuY (A : Ax p l e R s m args below meth c T locs cells slots B) {o : Int} (hd : decode B pc = .ok (.ifnull o, 3)) (hp : (pc : Int) + o = (pc' : Int)) (k : Go p e below P T (mkF m pc' ls st)) : Go p e below P T (mkF m pc ls (.null :: st)) := Go.of (fun _ k' => XS.ifnullYes A.1.here A.2.1 rfl rfl (hb A.2.2 hd) rfl (own_off hp).1 (own_off hp).2 k') k
theorem g_nuN (A : Ax p l e R s m args below meth c T locs cells slots B) {o : Int} {b : Addr} (hd : decode B pc = .ok (.ifnull o, 3)) (hp : pc + 3 = pc') (k : Go p e below P T (mkF m pc' ls st)) : Go p e below P T (mkF m pc ls (.ref b :: st)) := by
  subst hp; exact Go.of (fun _ k' => XS.ifnullNo A.1.here A.2.1 rfl (hb A.2.2 hd) rfl k') k
theorem g_acY (A : Ax p l e R s m args below meth c T locs cells slots B) {o : Int} {cd : ClassFile.ACond} {x y : Value} (hd : decode B pc = .ok (.if_acmp cd o, 3)) (h1 : x.isRef = true) (h2 : y.isRef = true) (hc : XT.acmp cd x y = true) (hp : (pc : Int) + o = (pc' : Int)) (k : Go p e below P T (mkF m pc' ls st)) : Go p e below P T (mkF m pc ls (y :: x :: st)) := Go.of (fun _ k' => XT.acmpYes A.1.here A.2.1 rfl rfl (hb A.2.2 hd) rfl h1 h2 hc (own_off hp).1 (own_off hp).2 k') k
theorem g_acN (A : Ax p l e R s m args below meth c T locs cells slots B) {o : Int} {cd : ClassFile.ACond} {x y : Value} (hd : decode B pc = .ok (.if_acmp cd o, 3)) (h1 : x.isRef = true) (h2 : y.isRef = true) (hc : XT.acmp cd x y = false) (hp : pc + 3 = pc') (k : Go p e below P T (mkF m pc' ls st)) : Go p e below P T (mkF m pc ls (y :: x :: st)) := by
  subst hp; exact Go.of (fun _ k' => XT.acmpNo A.1.here A.2.1 rfl (hb A.2.2 hd) rfl h1 h2 hc k') k
/-- an array of n places: its i-th holds f i -/
def Dar (Z : State) (h : Heap) (a : Addr) (ty : FieldType) (n : Nat) (f : Nat → Value) : Prop := ∃ cl : Cell, RoadKit.Arr Z h a cl ty ∧ cl.slots.size = n ∧ n < 2147483648 ∧ ∀ i, i < n → cl.slots[i]? = some (f i)
variable {Z : State} {h h' : Heap} {a b : Addr} {ty : FieldType} {n : Nat} {f g : Nat → Value} {sl : Nat} {v : Value} {ws : List Addr}
theorem Dar.lt (F : Dar Z h a ty n f) : a < h.size := by obtain ⟨cl, A, -⟩ := F; exact A.lt
theorem Dar.ext (E : Ext h h') (F : Dar Z h a ty n f) : Dar Z h' a ty n f := by obtain ⟨cl, A, r⟩ := F; exact ⟨cl, A.ext E, r⟩
theorem Dar.other (W : Wr h h' b sl v) (F : Dar Z h a ty n f) (q : a ≠ b) : Dar Z h' a ty n f := by obtain ⟨cl, A, r⟩ := F; exact ⟨cl, A.other W q, r⟩
theorem Dar.keep (F : Dar Z h a ty n f) (K : Keep h h' ws) (q : a ∉ ws) : Dar Z h' a ty n f := by obtain ⟨cl, A, r⟩ := F; exact ⟨cl, ⟨K.2.1 a cl A.1 q, A.2⟩, r⟩
theorem Dar.congr (F : Dar Z h a ty n f) (q : ∀ i, i < n → f i = g i) : Dar Z h a ty n g := by obtain ⟨cl, A, r1, r2, r3⟩ := F; exact ⟨cl, A, r1, r2, fun i hi => by rw [← q i hi]; exact r3 i hi⟩
theorem Dar.new {cA : ClassId} {z : Int32} (A : RoadKit.Arr Z h a (newA cA ty z) ty) (hz : z.toNatClampNeg = n) : Dar Z h a ty n (fun _ => defaultValue ty) := by
  refine ⟨_, A, (sz_new _ _ _).trans hz, ?_, fun i hi => by subst hz; simp [newA, hi]⟩
  have := z.toInt_lt
  rw [← hz, Int32.toNatClampNeg]; omega
theorem Dar.ne_exa {a0 : Array Value} {k : Nat} {C : String} (F : Dar Z h a ty n f) (E : Exa Z h b C) (wi : (Jvm.Cond.instantiable C k).before a0 Z = true) : a ≠ b := by obtain ⟨cl, A, -⟩ := F; exact fun q => ne_arr E wi A q.symm
theorem own_ne {a b : Nat} {h : Heap} (g : a = h.size) (q : b < h.size) : b ≠ a := by rw [g]; exact Nat.ne_of_lt q
theorem own_clamp {i : Nat} (hi : i < 2147483648) : (Int32.ofNat i).toNatClampNeg = i ∧ ¬ Int32.ofNat i < 0 := by
  have e : (Int32.ofNat i).toInt = i := Int32.toInt_ofNat_of_lt hi
  refine ⟨by rw [Int32.toNatClampNeg, e]; omega, fun q => ?_⟩
  rw [Int32.lt_iff_toInt_lt, e] at q
  have : (0 : Int32).toInt = 0 := rfl
  omega
theorem Dar.set {i : Nat} (F : Dar Z h a ty n f) (W : Wr h h' a i v) (q : ∀ j, j < n → g j = if j = i then v else f j) : Dar Z h' a ty n g := by
  obtain ⟨cl, A, r1, r2, r3⟩ := F
  refine ⟨_, A.same W, (sz_set _ _ _).trans r1, r2, fun j hj => ?_⟩
  rw [q j hj]
  by_cases e : j = i
  · subst e; rw [if_pos rfl]; simp [Cell.setSlot, r1, hj]
  · rw [if_neg e]; exact (Array.getElem?_setIfInBounds_ne (Ne.symm e)).trans (r3 j hj)
theorem own_in {cl : Cell} {i : Nat} (S : cl.slots.size = n) (hn : n < 2147483648) (hi : i < n) : ¬ (Int32.ofNat i < 0 ∨ cl.slots.size ≤ (Int32.ofNat i).toNatClampNeg) := by
  obtain ⟨q1, q2⟩ := own_clamp (i := i) (by omega)
  rw [q1, S]; exact fun z => z.elim q2 (by omega)
theorem g_daload (A : Ax p l e R s m args below meth c T locs cells slots B) (hZ : Z.Warmed39 s.vm) (eT : T.heap = h) {j : Int32} {i : Nat} {x : UInt64} (F : Dar Z h a .double n f) (hi : i < n) (hj : j = Int32.ofNat i) (hv : f i = .double x) (hd : decode B pc = .ok (.daload, 1)) (hp : pc + 1 = pc') (k : Go p e below P T (mkF m pc' ls (.double x :: st))) : Go p e below P T (mkF m pc ls (.int j :: .ref a :: st)) := by
  subst hp hj
  obtain ⟨cl, A2, r1, r2, r3⟩ := F
  have q := (own_clamp (i := i) (by omega)).1
  exact Go.of (fun t k' => A.1.daload A.2.1 (j := Int32.ofNat i) (v := .double x) (by rw [eT]; exact A2.1) (State.isArrayOf_alike hZ.alike A2.2.1) A2.2.2 (own_in r1 r2 hi) (by rw [q, ← hv]; exact r3 i hi) (g := mkF m pc ls (.int (Int32.ofNat i) :: .ref a :: st)) rfl rfl (hb A.2.2 hd) t k') k
theorem g_iaload (A : Ax p l e R s m args below meth c T locs cells slots B) (hZ : Z.Warmed39 s.vm) (eT : T.heap = h) {j : Int32} {i : Nat} {x : Int32} (F : Dar Z h a .int n f) (hi : i < n) (hj : j = Int32.ofNat i) (hv : f i = .int x) (hd : decode B pc = .ok (.iaload, 1)) (hp : pc + 1 = pc') (k : Go p e below P T (mkF m pc' ls (.int x :: st))) : Go p e below P T (mkF m pc ls (.int j :: .ref a :: st)) := by
  subst hp hj
  obtain ⟨cl, A2, r1, r2, r3⟩ := F
  have q := (own_clamp (i := i) (by omega)).1
  exact Go.of (fun t k' => A.1.iaload A.2.1 (j := Int32.ofNat i) (v := .int x) (by rw [eT]; exact A2.1) (State.isArrayOf_alike hZ.alike A2.2.1) A2.2.2 (own_in r1 r2 hi) (by rw [q, ← hv]; exact r3 i hi) (g := mkF m pc ls (.int (Int32.ofNat i) :: .ref a :: st)) rfl rfl (hb A.2.2 hd) t k') k
theorem g_baload (A : Ax p l e R s m args below meth c T locs cells slots B) (hZ : Z.Warmed39 s.vm) (eT : T.heap = h) {j : Int32} {i : Nat} {x : Int32} (F : Dar Z h a .boolean n f) (hi : i < n) (hj : j = Int32.ofNat i) (hv : f i = .int x) (hd : decode B pc = .ok (.baload, 1)) (hp : pc + 1 = pc') (k : Go p e below P T (mkF m pc' ls (.int x :: st))) : Go p e below P T (mkF m pc ls (.int j :: .ref a :: st)) := by
  subst hp hj
  obtain ⟨cl, A2, r1, r2, r3⟩ := F
  have q := (own_clamp (i := i) (by omega)).1
  exact Go.of (fun t k' => A.1.baloadBooleans A.2.1 (j := Int32.ofNat i) (v := .int x) (by rw [eT]; exact A2.1) (State.isArrayOf_alike hZ.alike A2.2.1) A2.2.2 (own_in r1 r2 hi) (by rw [q, ← hv]; exact r3 i hi) (g := mkF m pc ls (.int (Int32.ofNat i) :: .ref a :: st)) rfl rfl (hb A.2.2 hd) t k') k
theorem g_alen (A : Ax p l e R s m args below meth c T locs cells slots B) (hZ : Z.Warmed39 s.vm) (eT : T.heap = h) (F : Dar Z h a ty n f) (hd : decode B pc = .ok (.arraylength, 1)) {z : Int32} (hz : Int32.ofNat n = z) (hp : pc + 1 = pc') (k : Go p e below P T (mkF m pc' ls (.int z :: st))) : Go p e below P T (mkF m pc ls (.ref a :: st)) := by
  subst hp hz
  obtain ⟨cl, A2, r1, r2, r3⟩ := F
  exact Go.of (fun t k' => A.1.arraylength A.2.1 (cell := cl) (by rw [eT]; exact A2.1) (State.isArrayOf_alike hZ.alike A2.2.1) (g := mkF m pc ls (.ref a :: st)) rfl (rest := st) rfl (hb A.2.2 hd) t (by rw [r1]; exact k')) k
theorem s_dastore (A : Ax p l e R s m args below meth c T locs cells slots B) (hZ : Z.Warmed39 s.vm) (eT : T.heap = h) {j : Int32} {i : Nat} {x : UInt64} (F : Dar Z h a .double n f) (hi : i < n) (hj : j = Int32.ofNat i) (hd : decode B pc = .ok (.dastore, 1)) (hp : pc + 1 = pc') :
    ∃ T' h', Ax p l e R s m args below meth c T' (locs ++ [⟨a, i⟩]) cells slots B ∧ T'.heap = h' ∧ Wr h h' a i (.double x) ∧ ∀ {P : State → Outcome → Prop}, Go p e below P T' (mkF m pc' ls st) → Go p e below P T (mkF m pc ls (.double x :: .int j :: .ref a :: st)) := by
  subst hp hj
  obtain ⟨cl, A2, r1, r2, r3⟩ := F
  have q := (own_clamp (i := i) (by omega)).1
  obtain ⟨X', st'⟩ := A.1.dastore A.2.1 (by rw [eT]; exact A2.1) (State.isArrayOf_alike hZ.alike A2.2.1) A2.2.2 (own_in r1 r2 hi) (x := x) (g := mkF m pc ls (.double x :: .int (Int32.ofNat i) :: .ref a :: st)) rfl rfl (hb A.2.2 hd)
  rw [q] at X' st'
  exact ⟨_, _, ⟨X', A.2⟩, rfl, ⟨cl, A2.1, A2.plain, by rw [r1]; exact hi, by rw [← eT]; rfl⟩, fun k => Go.of st' k⟩
theorem s_iastore (A : Ax p l e R s m args below meth c T locs cells slots B) (hZ : Z.Warmed39 s.vm) (eT : T.heap = h) {j : Int32} {i : Nat} {x : Int32} (F : Dar Z h a .int n f) (hi : i < n) (hj : j = Int32.ofNat i) (hd : decode B pc = .ok (.iastore, 1)) (hp : pc + 1 = pc') :
    ∃ T' h', Ax p l e R s m args below meth c T' (locs ++ [⟨a, i⟩]) cells slots B ∧ T'.heap = h' ∧ Wr h h' a i (.int x) ∧ ∀ {P : State → Outcome → Prop}, Go p e below P T' (mkF m pc' ls st) → Go p e below P T (mkF m pc ls (.int x :: .int j :: .ref a :: st)) := by
  subst hp hj
  obtain ⟨cl, A2, r1, r2, r3⟩ := F
  have q := (own_clamp (i := i) (by omega)).1
  obtain ⟨T', h', X', e', W, st'⟩ := stI A.1 A.2.1 hZ eT A2 (own_in r1 r2 hi) (x := x) (g := mkF m pc ls (.int x :: .int (Int32.ofNat i) :: .ref a :: st)) rfl rfl (hb A.2.2 hd)
  rw [q] at X' W
  exact ⟨_, _, ⟨X', A.2⟩, e', W, fun k => Go.of st' k⟩
theorem s_zastore (A : Ax p l e R s m args below meth c T locs cells slots B) (hZ : Z.Warmed39 s.vm) (eT : T.heap = h) {j : Int32} {i : Nat} {x : Int32} (F : Dar Z h a .boolean n f) (hi : i < n) (hj : j = Int32.ofNat i) (hx1 : narrow .boolean (.int x) = .int x) (hd : decode B pc = .ok (.bastore, 1)) (hp : pc + 1 = pc') :
    ∃ T' h', Ax p l e R s m args below meth c T' (locs ++ [⟨a, i⟩]) cells slots B ∧ T'.heap = h' ∧ Wr h h' a i (.int x) ∧ ∀ {P : State → Outcome → Prop}, Go p e below P T' (mkF m pc' ls st) → Go p e below P T (mkF m pc ls (.int x :: .int j :: .ref a :: st)) := by
  subst hp hj
  obtain ⟨cl, A2, r1, r2, r3⟩ := F
  have q := (own_clamp (i := i) (by omega)).1
  obtain ⟨T', h', X', e', W, st'⟩ := stZ A.1 A.2.1 hZ eT A2 (own_in r1 r2 hi) (x := x) (g := mkF m pc ls (.int x :: .int (Int32.ofNat i) :: .ref a :: st)) rfl rfl (hb A.2.2 hd)
  have q2 : nar .boolean x = x := Value.int.inj hx1
  rw [q] at X' W; rw [q2] at W
  exact ⟨_, _, ⟨X', A.2⟩, e', W, fun k => Go.of st' k⟩
end own_go
theorem d2_0 : decode jdk_117_method_6_code 0 = .ok (.dload_n 0, 1) := by decide +kernel
theorem d2_1 : decode jdk_117_method_6_code 1 = .ok (.dload_n 0, 1) := by decide +kernel
theorem d2_2 : decode jdk_117_method_6_code 2 = .ok (.dcmp .l, 1) := by decide +kernel
theorem d2_3 : decode jdk_117_method_6_code 3 = .ok (.ifCond .eq 7, 3) := by decide +kernel
theorem d2_6 : decode jdk_117_method_6_code 6 = .ok (.iconst 1, 1) := by decide +kernel
theorem d2_7 : decode jdk_117_method_6_code 7 = .ok (.goto 4, 3) := by decide +kernel
theorem d2_10 : decode jdk_117_method_6_code 10 = .ok (.iconst 0, 1) := by decide +kernel
theorem d2_11 : decode jdk_117_method_6_code 11 = .ok (.ireturn, 1) := by decide +kernel
theorem pn_0 : plainName "java/lang/Double" = true := by first | (simp [plainName, overriddenIn]; done) | decide +kernel
theorem ef1 (m : MethodId) (x1 : UInt64) : entryFrame m #[(.double x1)] 2 = mkF m 0 #[.val (.double x1), .second] [] := by first | (simp [entryFrame, mkF, argsToLocals, Value.category]; done) | rfl
def Q2 (Z : State) (x1 : UInt64) (h0 : Heap) (n0 : Nat) (v : Option Value) (h : Heap) (L : List Loc) : Prop := v = some (.int (0 : Int32)) ∧ Fr n0 L ∧ h = h0
set_option maxRecDepth 65536 in
set_option maxHeartbeats 40000000 in
theorem rm2 (l : Launch) (Z : State) (a0 : Array Value) (hw : ∀ d ∈ tables_1, d.before a0 Z = true) (ws : List Jvm.Cond) (x1 : UInt64) (h0 : Heap) (n0 : Nat) (Z0 : n0 ≤ h0.size) (hf : Fin64 x1) :
    MetFree l (⟨"java/lang/Double", "isNaN", "(D)Z"⟩ : MethodName) (head1 (Jvm.Cond.code (⟨"java/lang/Double", "isNaN", "(D)Z"⟩ : MethodName) jdk_117_method_6_code 2 (some .boolean) :: ws) ({ frames := 0, cells := 0, slots := 0, locals := 0 } : Room)) (fun a U => a = #[(.double x1)] ∧ Z.Warmed39 U.vm ∧ U.heap = h0) (fun _ _ _ _ _ => True) (fun _ U o U' => ∃ v L, o = .returned v ∧ Q2 Z x1 h0 n0 v U'.heap L ∧ FrameEnd U o U' L 0 0) := by
  refine MetFree.of_bodySF (plainFor_of_name pn_0) hisR ?_
  intro p e s m args below meth c s₁ Bd hml0 hP hK
  obtain ⟨rfl, hZ, hh⟩ := hP
  have hx := Bd.exec
  have hby := Bd.bytes
  have hml : c.maxLocals = 2 := hml0
  have hown : s.vm.findClass "java/lang/Double" = some m.cls := findClass_of_methodNamed Bd.named
  have hnm := (name_of_methodNamed Bd.named Bd.method).1
  have X0 : Stand p l e ({ frames := 0, cells := 0, slots := 0, locals := 0 } : Room) s m #[(.double x1)] below meth c s₁ [] 0 0 := Stand.of_body Bd
  have e0 : s₁.heap = h0 := by rw [← hh, Bd.state]; rfl
  have N0 := Fr.nil n0
  have A0 := (⟨X0, hx, hby⟩ : Ax _ _ _ _ _ _ _ _ _ _ _ _ _ _ _)
  show Go p e below (fun U o => ∃ v L, o = .returned v ∧ Q2 Z x1 h0 n0 v U.heap L ∧ FrameEnd s o U L 0 0) s₁ (entryFrame m #[(.double x1)] 2)
  refine Go.cast (ef1 m x1) ?_
  refine g_dloadN A0 d2_0 rfl (pc' := 1) rfl ?_
  refine g_dloadN A0 d2_1 rfl (pc' := 2) rfl ?_
  refine g_dcmp A0 d2_2 (pc' := 3) rfl ?_
  refine g_ifY A0 d2_3 (d_l_eq_t (own_self hf)) (pc' := 10) rfl ?_
  refine g_iconst A0 d2_10 (v := (0 : Int32)) rfl (pc' := 11) rfl ?_
  exact g_ret (Q := Q2 Z x1 h0 n0) A0 d2_11 Bd.notSynchronized Bd.returns rfl (Or.inl ⟨rfl, by simp, _, rfl⟩) (by decide) (by decide) (by rw [e0]; exact ⟨rfl, N0, rfl⟩)
theorem own_orb {x y : Int32} {C D : Prop} [Decidable C] [Decidable D] (hx : x = if C then 1 else 0) (hy : y = if D then 1 else 0) : (x ||| y) = if (C ∨ D) then 1 else 0 := by
  by_cases c : C
  · rw [hx, hy, if_pos c, if_pos (Or.inl c)]; by_cases d : D
    · rw [if_pos d]; rfl
    · rw [if_neg d]; rfl
  · rw [hx, hy, if_neg c]; by_cases d : D
    · rw [if_pos d, if_pos (Or.inr d)]; rfl
    · rw [if_neg d, if_neg (fun q => q.elim c d)]; rfl
theorem own_or0 {y : Int32} {D : Prop} [Decidable D] (hy : y = if D then 1 else 0) : ((0 : Int32) ||| y) = if D then 1 else 0 := by
  rw [hy]; by_cases d : D
  · rw [if_pos d]; rfl
  · rw [if_neg d]; rfl
def own_r_rmK1 (x0 : UInt64) (y0 : UInt64) : Int32 := (if FP.dcmp x0 y0 = some .lt then (if FP.dcmp y0 x0 = some .lt then (0 : Int32) else (-1 : Int32)) else (if FP.dcmp y0 x0 = some .lt then (1 : Int32) else (0 : Int32)))
theorem d1_0 : decode prog_9_method_3_code 0 = .ok (.aload_n 0, 1) := by decide +kernel
theorem d1_1 : decode prog_9_method_3_code 1 = .ok (.arraylength, 1) := by decide +kernel
theorem d1_2 : decode prog_9_method_3_code 2 = .ok (.aload_n 1, 1) := by decide +kernel
theorem d1_3 : decode prog_9_method_3_code 3 = .ok (.arraylength, 1) := by decide +kernel
theorem d1_4 : decode prog_9_method_3_code 4 = .ok (.if_icmp .eq 20, 3) := by decide +kernel
theorem d1_7 : decode prog_9_method_3_code 7 = .ok (.new 13, 3) := by decide +kernel
theorem d1_10 : decode prog_9_method_3_code 10 = .ok (.dup, 1) := by decide +kernel
theorem d1_11 : decode prog_9_method_3_code 11 = .ok (.aload_n 0, 1) := by decide +kernel
theorem d1_12 : decode prog_9_method_3_code 12 = .ok (.arraylength, 1) := by decide +kernel
theorem d1_13 : decode prog_9_method_3_code 13 = .ok (.aload_n 1, 1) := by decide +kernel
theorem d1_14 : decode prog_9_method_3_code 14 = .ok (.arraylength, 1) := by decide +kernel
theorem d1_15 : decode prog_9_method_3_code 15 = .ok (.invokedynamic 15, 5) := by decide +kernel
theorem d1_20 : decode prog_9_method_3_code 20 = .ok (.invokespecial 19, 3) := by decide +kernel
theorem d1_23 : decode prog_9_method_3_code 23 = .ok (.athrow, 1) := by decide +kernel
theorem d1_24 : decode prog_9_method_3_code 24 = .ok (.aload_n 0, 1) := by decide +kernel
theorem d1_25 : decode prog_9_method_3_code 25 = .ok (.arraylength, 1) := by decide +kernel
theorem d1_26 : decode prog_9_method_3_code 26 = .ok (.ifCond .ne 13, 3) := by decide +kernel
theorem d1_29 : decode prog_9_method_3_code 29 = .ok (.new 13, 3) := by decide +kernel
theorem d1_32 : decode prog_9_method_3_code 32 = .ok (.dup, 1) := by decide +kernel
theorem d1_33 : decode prog_9_method_3_code 33 = .ok (.ldc 22, 2) := by decide +kernel
theorem d1_35 : decode prog_9_method_3_code 35 = .ok (.invokespecial 19, 3) := by decide +kernel
theorem d1_38 : decode prog_9_method_3_code 38 = .ok (.athrow, 1) := by decide +kernel
theorem d1_39 : decode prog_9_method_3_code 39 = .ok (.iconst 0, 1) := by decide +kernel
theorem d1_40 : decode prog_9_method_3_code 40 = .ok (.istore_n 2, 1) := by decide +kernel
theorem d1_41 : decode prog_9_method_3_code 41 = .ok (.iload_n 2, 1) := by decide +kernel
theorem d1_42 : decode prog_9_method_3_code 42 = .ok (.aload_n 0, 1) := by decide +kernel
theorem d1_43 : decode prog_9_method_3_code 43 = .ok (.arraylength, 1) := by decide +kernel
theorem d1_44 : decode prog_9_method_3_code 44 = .ok (.if_icmp .ge 41, 3) := by decide +kernel
theorem d1_47 : decode prog_9_method_3_code 47 = .ok (.aload_n 0, 1) := by decide +kernel
theorem d1_48 : decode prog_9_method_3_code 48 = .ok (.iload_n 2, 1) := by decide +kernel
theorem d1_49 : decode prog_9_method_3_code 49 = .ok (.daload, 1) := by decide +kernel
theorem d1_50 : decode prog_9_method_3_code 50 = .ok (.invokestatic 24, 3) := by decide +kernel
theorem d1_53 : decode prog_9_method_3_code 53 = .ok (.ifCond .ne 12, 3) := by decide +kernel
theorem d1_56 : decode prog_9_method_3_code 56 = .ok (.aload_n 1, 1) := by decide +kernel
theorem d1_57 : decode prog_9_method_3_code 57 = .ok (.iload_n 2, 1) := by decide +kernel
theorem d1_58 : decode prog_9_method_3_code 58 = .ok (.daload, 1) := by decide +kernel
theorem d1_59 : decode prog_9_method_3_code 59 = .ok (.invokestatic 24, 3) := by decide +kernel
theorem d1_62 : decode prog_9_method_3_code 62 = .ok (.ifCond .eq 17, 3) := by decide +kernel
theorem d1_65 : decode prog_9_method_3_code 65 = .ok (.new 13, 3) := by decide +kernel
theorem d1_68 : decode prog_9_method_3_code 68 = .ok (.dup, 1) := by decide +kernel
theorem d1_69 : decode prog_9_method_3_code 69 = .ok (.iload_n 2, 1) := by decide +kernel
theorem d1_70 : decode prog_9_method_3_code 70 = .ok (.invokedynamic 30, 5) := by decide +kernel
theorem d1_75 : decode prog_9_method_3_code 75 = .ok (.invokespecial 19, 3) := by decide +kernel
theorem d1_78 : decode prog_9_method_3_code 78 = .ok (.athrow, 1) := by decide +kernel
theorem d1_79 : decode prog_9_method_3_code 79 = .ok (.iinc 2 1, 3) := by decide +kernel
theorem d1_82 : decode prog_9_method_3_code 82 = .ok (.goto (-41), 3) := by decide +kernel
theorem d1_85 : decode prog_9_method_3_code 85 = .ok (.iconst 0, 1) := by decide +kernel
theorem d1_86 : decode prog_9_method_3_code 86 = .ok (.istore_n 2, 1) := by decide +kernel
theorem d1_87 : decode prog_9_method_3_code 87 = .ok (.iconst 0, 1) := by decide +kernel
theorem d1_88 : decode prog_9_method_3_code 88 = .ok (.istore_n 3, 1) := by decide +kernel
theorem d1_89 : decode prog_9_method_3_code 89 = .ok (.iconst 0, 1) := by decide +kernel
theorem d1_90 : decode prog_9_method_3_code 90 = .ok (.istore 4, 2) := by decide +kernel
theorem d1_92 : decode prog_9_method_3_code 92 = .ok (.iload 4, 2) := by decide +kernel
theorem d1_94 : decode prog_9_method_3_code 94 = .ok (.aload_n 0, 1) := by decide +kernel
theorem d1_95 : decode prog_9_method_3_code 95 = .ok (.arraylength, 1) := by decide +kernel
theorem d1_96 : decode prog_9_method_3_code 96 = .ok (.if_icmp .ge 49, 3) := by decide +kernel
theorem d1_99 : decode prog_9_method_3_code 99 = .ok (.iload_n 2, 1) := by decide +kernel
theorem d1_100 : decode prog_9_method_3_code 100 = .ok (.aload_n 0, 1) := by decide +kernel
theorem d1_101 : decode prog_9_method_3_code 101 = .ok (.iload 4, 2) := by decide +kernel
theorem d1_103 : decode prog_9_method_3_code 103 = .ok (.daload, 1) := by decide +kernel
theorem d1_104 : decode prog_9_method_3_code 104 = .ok (.aload_n 1, 1) := by decide +kernel
theorem d1_105 : decode prog_9_method_3_code 105 = .ok (.iload 4, 2) := by decide +kernel
theorem d1_107 : decode prog_9_method_3_code 107 = .ok (.daload, 1) := by decide +kernel
theorem d1_108 : decode prog_9_method_3_code 108 = .ok (.dcmp .g, 1) := by decide +kernel
theorem d1_109 : decode prog_9_method_3_code 109 = .ok (.ifCond .ge 7, 3) := by decide +kernel
theorem d1_112 : decode prog_9_method_3_code 112 = .ok (.iconst 1, 1) := by decide +kernel
theorem d1_113 : decode prog_9_method_3_code 113 = .ok (.goto 4, 3) := by decide +kernel
theorem d1_116 : decode prog_9_method_3_code 116 = .ok (.iconst 0, 1) := by decide +kernel
theorem d1_117 : decode prog_9_method_3_code 117 = .ok (.ior, 1) := by decide +kernel
theorem d1_118 : decode prog_9_method_3_code 118 = .ok (.istore_n 2, 1) := by decide +kernel
theorem d1_119 : decode prog_9_method_3_code 119 = .ok (.iload_n 3, 1) := by decide +kernel
theorem d1_120 : decode prog_9_method_3_code 120 = .ok (.aload_n 1, 1) := by decide +kernel
theorem d1_121 : decode prog_9_method_3_code 121 = .ok (.iload 4, 2) := by decide +kernel
theorem d1_123 : decode prog_9_method_3_code 123 = .ok (.daload, 1) := by decide +kernel
theorem d1_124 : decode prog_9_method_3_code 124 = .ok (.aload_n 0, 1) := by decide +kernel
theorem d1_125 : decode prog_9_method_3_code 125 = .ok (.iload 4, 2) := by decide +kernel
theorem d1_127 : decode prog_9_method_3_code 127 = .ok (.daload, 1) := by decide +kernel
theorem d1_128 : decode prog_9_method_3_code 128 = .ok (.dcmp .g, 1) := by decide +kernel
theorem d1_129 : decode prog_9_method_3_code 129 = .ok (.ifCond .ge 7, 3) := by decide +kernel
theorem d1_132 : decode prog_9_method_3_code 132 = .ok (.iconst 1, 1) := by decide +kernel
theorem d1_133 : decode prog_9_method_3_code 133 = .ok (.goto 4, 3) := by decide +kernel
theorem d1_136 : decode prog_9_method_3_code 136 = .ok (.iconst 0, 1) := by decide +kernel
theorem d1_137 : decode prog_9_method_3_code 137 = .ok (.ior, 1) := by decide +kernel
theorem d1_138 : decode prog_9_method_3_code 138 = .ok (.istore_n 3, 1) := by decide +kernel
theorem d1_139 : decode prog_9_method_3_code 139 = .ok (.iinc 4 1, 3) := by decide +kernel
theorem d1_142 : decode prog_9_method_3_code 142 = .ok (.goto (-50), 3) := by decide +kernel
theorem d1_145 : decode prog_9_method_3_code 145 = .ok (.iconst 0, 1) := by decide +kernel
theorem d1_146 : decode prog_9_method_3_code 146 = .ok (.istore 4, 2) := by decide +kernel
theorem d1_148 : decode prog_9_method_3_code 148 = .ok (.iload_n 2, 1) := by decide +kernel
theorem d1_149 : decode prog_9_method_3_code 149 = .ok (.ifCond .eq 13, 3) := by decide +kernel
theorem d1_152 : decode prog_9_method_3_code 152 = .ok (.iload_n 3, 1) := by decide +kernel
theorem d1_153 : decode prog_9_method_3_code 153 = .ok (.ifCond .ne 9, 3) := by decide +kernel
theorem d1_156 : decode prog_9_method_3_code 156 = .ok (.iconst (-1), 1) := by decide +kernel
theorem d1_157 : decode prog_9_method_3_code 157 = .ok (.istore 4, 2) := by decide +kernel
theorem d1_159 : decode prog_9_method_3_code 159 = .ok (.goto 14, 3) := by decide +kernel
theorem d1_162 : decode prog_9_method_3_code 162 = .ok (.iload_n 3, 1) := by decide +kernel
theorem d1_163 : decode prog_9_method_3_code 163 = .ok (.ifCond .eq 10, 3) := by decide +kernel
theorem d1_166 : decode prog_9_method_3_code 166 = .ok (.iload_n 2, 1) := by decide +kernel
theorem d1_167 : decode prog_9_method_3_code 167 = .ok (.ifCond .ne 6, 3) := by decide +kernel
theorem d1_170 : decode prog_9_method_3_code 170 = .ok (.iconst 1, 1) := by decide +kernel
theorem d1_171 : decode prog_9_method_3_code 171 = .ok (.istore 4, 2) := by decide +kernel
theorem d1_173 : decode prog_9_method_3_code 173 = .ok (.iload 4, 2) := by decide +kernel
theorem d1_175 : decode prog_9_method_3_code 175 = .ok (.ireturn, 1) := by decide +kernel
theorem pn_1 : plainName "com/example/tradewind/tradewind/front/Dominance" = true := by first | (simp [plainName, overriddenIn]; done) | decide +kernel
theorem ef2 (m : MethodId) (a1 : Addr) (a2 : Addr) (f : Nat → Value) (g : Nat → Value) (x0 : UInt64) (y0 : UInt64) : entryFrame m #[(.ref a1), (.ref a2)] 5 = mkF m 0 #[.val (.ref a1), .val (.ref a2), .unset, .unset, .unset] [] := by first | (simp [entryFrame, mkF, argsToLocals, Value.category]; done) | rfl
def QK1 (Z : State) (a1 : Addr) (a2 : Addr) (f : Nat → Value) (g : Nat → Value) (x0 : UInt64) (y0 : UInt64) (h0 : Heap) (n0 : Nat) (v : Option Value) (h : Heap) (L : List Loc) : Prop := v = some (.int (own_r_rmK1 x0 y0)) ∧ Fr n0 L ∧ h = h0
theorem pd_0 : parseMethodDescriptor "(D)Z" = some ⟨[.double], some .boolean⟩ := by decide +kernel
set_option maxRecDepth 65536 in
set_option maxHeartbeats 40000000 in
theorem rmK1 (l : Launch) (Z : State) (a0 : Array Value) (hw : ∀ d ∈ tables_1, d.before a0 Z = true) (ws : List Jvm.Cond) (a1 : Addr) (a2 : Addr) (f : Nat → Value) (g : Nat → Value) (x0 : UInt64) (y0 : UInt64) (h0 : Heap) (n0 : Nat) (Z0 : n0 ≤ h0.size) (V3 : Dar Z h0 a1 .double 1 f) (V4 : Dar Z h0 a2 .double 1 g) (hf0 : f 0 = .double x0) (hg0 : g 0 = .double y0) (hx0 : Fin64 x0) (hy0 : Fin64 y0) :
    MetFree l (⟨"com/example/tradewind/tradewind/front/Dominance", "compare", "([D[D)I"⟩ : MethodName) (head1 (Jvm.Cond.code (⟨"com/example/tradewind/tradewind/front/Dominance", "compare", "([D[D)I"⟩ : MethodName) prog_9_method_3_code 5 (some .int) :: ws) ({ frames := 1, cells := 0, slots := 0, locals := 13 } : Room)) (fun a U => a = #[(.ref a1), (.ref a2)] ∧ Z.Warmed39 U.vm ∧ U.heap = h0) (fun _ _ _ _ _ => True) (fun _ U o U' => ∃ v L, o = .returned v ∧ QK1 Z a1 a2 f g x0 y0 h0 n0 v U'.heap L ∧ FrameEnd U o U' L 0 0) := by
  refine MetFree.of_bodySF (plainFor_of_name pn_1) hisR ?_
  intro p e s m args below meth c s₁ Bd hml0 hP hK
  obtain ⟨rfl, hZ, hh⟩ := hP
  have hx := Bd.exec
  have hby := Bd.bytes
  have hml : c.maxLocals = 5 := hml0
  have hown : s.vm.findClass "com/example/tradewind/tradewind/front/Dominance" = some m.cls := findClass_of_methodNamed Bd.named
  have hnm := (name_of_methodNamed Bd.named Bd.method).1
  have X0 : Stand p l e ({ frames := 1, cells := 0, slots := 0, locals := 13 } : Room) s m #[(.ref a1), (.ref a2)] below meth c s₁ [] 0 0 := Stand.of_body Bd
  have e0 : s₁.heap = h0 := by rw [← hh, Bd.state]; rfl
  have N0 := Fr.nil n0
  have A0 := (⟨X0, hx, hby⟩ : Ax _ _ _ _ _ _ _ _ _ _ _ _ _ _ _)
  show Go p e below (fun U o => ∃ v L, o = .returned v ∧ QK1 Z a1 a2 f g x0 y0 h0 n0 v U.heap L ∧ FrameEnd s o U L 0 0) s₁ (entryFrame m #[(.ref a1), (.ref a2)] 5)
  refine Go.cast (ef2 m a1 a2 f g x0 y0) ?_
  refine g_aloadN A0 d1_0 rfl rfl (pc' := 1) rfl ?_
  refine g_alen A0 hZ e0 V3 d1_1 (z := (1 : Int32)) rfl (pc' := 2) rfl ?_
  refine g_aloadN A0 d1_2 rfl rfl (pc' := 3) rfl ?_
  refine g_alen A0 hZ e0 V4 d1_3 (z := (1 : Int32)) rfl (pc' := 4) rfl ?_
  refine g_icY A0 d1_4 (c2_eq_t rfl) (pc' := 24) rfl ?_
  refine g_aloadN A0 d1_24 rfl rfl (pc' := 25) rfl ?_
  refine g_alen A0 hZ e0 V3 d1_25 (z := (1 : Int32)) rfl (pc' := 26) rfl ?_
  refine g_ifY A0 d1_26 (c0_ne_t (by decide)) (pc' := 39) rfl ?_
  refine g_iconst A0 d1_39 (v := (0 : Int32)) rfl (pc' := 40) rfl ?_
  refine g_istoreN A0 d1_40 (ls' := #[.val (.ref a1), .val (.ref a2), .val (.int (0 : Int32)), .unset, .unset]) rfl (pc' := 41) rfl ?_
  refine g_iloadN A0 d1_41 rfl (pc' := 42) rfl ?_
  refine g_aloadN A0 d1_42 rfl rfl (pc' := 43) rfl ?_
  refine g_alen A0 hZ e0 V3 d1_43 (z := (1 : Int32)) rfl (pc' := 44) rfl ?_
  refine g_icN A0 d1_44 (c2_ge_f (by decide)) (pc' := 47) rfl ?_
  refine g_aloadN A0 d1_47 rfl rfl (pc' := 48) rfl ?_
  refine g_iloadN A0 d1_48 rfl (pc' := 49) rfl ?_
  refine g_daload A0 hZ e0 V3 (i := 0) (by decide) rfl (x := x0) hf0 d1_49 (pc' := 50) rfl ?_
  obtain ⟨_, _, ⟨T5, L5, k5, n5⟩, -, X5, ⟨L5c, hQ5, l5, y5, z5⟩, st5⟩ := Jvm.LawKit.callS X0 hx (y := (⟨"java/lang/Double", "isNaN", "(D)Z"⟩ : MethodName)) hown (mvT hZ (hw _ (List.mem_of_getElem? (i := 6) rfl))) (mvT hZ (hw _ (List.mem_of_getElem? (i := 7) rfl))) (mvT hZ (hw _ (List.mem_of_getElem? (i := 8) rfl))) (mvT hZ (hw _ (List.mem_of_getElem? (i := 9) rfl))) (by decide) (backOf (W := 0) (rm2 l Z a0 hw [] x0 h0 n0 Z0 hx0) hZ (hw _ (List.mem_of_getElem? (i := 9) rfl)) (hw _ (List.mem_of_getElem? (i := 8) rfl)) (by decide) (by decide)) (g := (mkF m 50 #[.val (.ref a1), .val (.ref a2), .val (.int (0 : Int32)), .unset, .unset] [(.double x0)])) rfl (by rw [hml]; rfl) (argsL := [(.double x0)]) (rest := []) (lenOf pd_0 rfl) rfl (by show 2 * 0 + _ ≤ _; exact Nat.le_of_eq rfl) (hb hby d1_50) (fun _ _ => ⟨rfl, e0, (by decide : 0 + 0 ≤ _), (by decide : 0 + 0 ≤ _)⟩)
  dsimp only [Pt.U, Pt.locs, Pt.cells, Pt.slots] at X5 l5 y5 z5 st5 hQ5
  subst l5 y5 z5
  obtain ⟨rfl, Nq6, Kq7⟩ := hQ5
  have N8 := Fr.app N0 Nq6
  refine Go.of (g' := (mkF m 53 #[.val (.ref a1), .val (.ref a2), .val (.int (0 : Int32)), .unset, .unset] [(.int (0 : Int32))])) st5 ?_
  have e9 : T5.heap = h0 := Kq7
  have A10 := (⟨X5, hx, hby⟩ : Ax _ _ _ _ _ _ _ _ _ _ _ _ _ _ _)
  refine g_ifN A10 d1_53 (c0_ne_f (by decide)) (pc' := 56) rfl ?_
  refine g_aloadN A10 d1_56 rfl rfl (pc' := 57) rfl ?_
  refine g_iloadN A10 d1_57 rfl (pc' := 58) rfl ?_
  refine g_daload A10 hZ e9 V4 (i := 0) (by decide) rfl (x := y0) hg0 d1_58 (pc' := 59) rfl ?_
  obtain ⟨_, _, ⟨T11, L11, k11, n11⟩, -, X11, ⟨L11c, hQ11, l11, y11, z11⟩, st11⟩ := Jvm.LawKit.callS X5 hx (y := (⟨"java/lang/Double", "isNaN", "(D)Z"⟩ : MethodName)) hown (mvT hZ (hw _ (List.mem_of_getElem? (i := 6) rfl))) (mvT hZ (hw _ (List.mem_of_getElem? (i := 7) rfl))) (mvT hZ (hw _ (List.mem_of_getElem? (i := 8) rfl))) (mvT hZ (hw _ (List.mem_of_getElem? (i := 9) rfl))) (by decide) (backOf (W := 0) (rm2 l Z a0 hw [] y0 h0 n0 Z0 hy0) hZ (hw _ (List.mem_of_getElem? (i := 9) rfl)) (hw _ (List.mem_of_getElem? (i := 8) rfl)) (by decide) (by decide)) (g := (mkF m 59 #[.val (.ref a1), .val (.ref a2), .val (.int (0 : Int32)), .unset, .unset] [(.double y0)])) rfl (by rw [hml]; rfl) (argsL := [(.double y0)]) (rest := []) (lenOf pd_0 rfl) rfl (by show 2 * 0 + _ ≤ _; exact Nat.le_of_eq rfl) (hb hby d1_59) (fun _ _ => ⟨rfl, e9, (by decide : 0 + 0 ≤ _), (by decide : 0 + 0 ≤ _)⟩)
  dsimp only [Pt.U, Pt.locs, Pt.cells, Pt.slots] at X11 l11 y11 z11 st11 hQ11
  subst l11 y11 z11
  obtain ⟨rfl, Nq12, Kq13⟩ := hQ11
  have N14 := Fr.app N8 Nq12
  refine Go.of (g' := (mkF m 62 #[.val (.ref a1), .val (.ref a2), .val (.int (0 : Int32)), .unset, .unset] [(.int (0 : Int32))])) st11 ?_
  have e15 : T11.heap = h0 := Kq13
  have A16 := (⟨X11, hx, hby⟩ : Ax _ _ _ _ _ _ _ _ _ _ _ _ _ _ _)
  refine g_ifY A16 d1_62 (c0_eq_t (by decide)) (pc' := 79) rfl ?_
  refine g_iinc A16 d1_79 rfl (y := (1 : Int32)) (by decide) (ls' := #[.val (.ref a1), .val (.ref a2), .val (.int (1 : Int32)), .unset, .unset]) rfl (pc' := 82) rfl ?_
  refine g_goto A16 d1_82 (pc' := 41) rfl ?_
  refine g_iloadN A16 d1_41 rfl (pc' := 42) rfl ?_
  refine g_aloadN A16 d1_42 rfl rfl (pc' := 43) rfl ?_
  refine g_alen A16 hZ e15 V3 d1_43 (z := (1 : Int32)) rfl (pc' := 44) rfl ?_
  refine g_icY A16 d1_44 (c2_ge_t (by decide)) (pc' := 85) rfl ?_
  refine g_iconst A16 d1_85 (v := (0 : Int32)) rfl (pc' := 86) rfl ?_
  refine g_istoreN A16 d1_86 (ls' := #[.val (.ref a1), .val (.ref a2), .val (.int (0 : Int32)), .unset, .unset]) rfl (pc' := 87) rfl ?_
  refine g_iconst A16 d1_87 (v := (0 : Int32)) rfl (pc' := 88) rfl ?_
  refine g_istoreN A16 d1_88 (ls' := #[.val (.ref a1), .val (.ref a2), .val (.int (0 : Int32)), .val (.int (0 : Int32)), .unset]) rfl (pc' := 89) rfl ?_
  refine g_iconst A16 d1_89 (v := (0 : Int32)) rfl (pc' := 90) rfl ?_
  refine g_istore A16 d1_90 (ls' := #[.val (.ref a1), .val (.ref a2), .val (.int (0 : Int32)), .val (.int (0 : Int32)), .val (.int (0 : Int32))]) rfl (pc' := 92) rfl ?_
  refine g_iload A16 d1_92 rfl (pc' := 94) rfl ?_
  refine g_aloadN A16 d1_94 rfl rfl (pc' := 95) rfl ?_
  refine g_alen A16 hZ e15 V3 d1_95 (z := (1 : Int32)) rfl (pc' := 96) rfl ?_
  refine g_icN A16 d1_96 (c2_ge_f (by decide)) (pc' := 99) rfl ?_
  refine g_iloadN A16 d1_99 rfl (pc' := 100) rfl ?_
  refine g_aloadN A16 d1_100 rfl rfl (pc' := 101) rfl ?_
  refine g_iload A16 d1_101 rfl (pc' := 103) rfl ?_
  refine g_daload A16 hZ e15 V3 (i := 0) (by decide) rfl (x := x0) hf0 d1_103 (pc' := 104) rfl ?_
  refine g_aloadN A16 d1_104 rfl rfl (pc' := 105) rfl ?_
  refine g_iload A16 d1_105 rfl (pc' := 107) rfl ?_
  refine g_daload A16 hZ e15 V4 (i := 0) (by decide) rfl (x := y0) hg0 d1_107 (pc' := 108) rfl ?_
  refine g_dcmp A16 d1_108 (pc' := 109) rfl ?_
  obtain ⟨v17, hv17⟩ : ∃ z : Int32, z = if FP.dcmp x0 y0 = some .lt then (1 : Int32) else 0 := ⟨_, rfl⟩
  have sg18 : ∀ {P : State → Outcome → Prop}, Go p e below P T11 (mkF m 117 #[.val (.ref a1), .val (.ref a2), .val (.int (0 : Int32)), .val (.int (0 : Int32)), .val (.int (0 : Int32))] [(.int v17), (.int (0 : Int32))]) → Go p e below P T11 (mkF m 109 #[.val (.ref a1), .val (.ref a2), .val (.int (0 : Int32)), .val (.int (0 : Int32)), .val (.int (0 : Int32))] [(.int (cmpValue (FP.dcmp x0 y0) .g)), (.int (0 : Int32))]) := by
    intro P hr
    by_cases c19 : FP.dcmp x0 y0 = some .lt
    · skip
      refine g_ifN A16 d1_109 (d_g_ge_f c19) (pc' := 112) rfl ?_
      refine g_iconst A16 d1_112 (v := (1 : Int32)) rfl (pc' := 113) rfl ?_
      refine g_goto A16 d1_113 (pc' := 117) rfl ?_
      obtain rfl : v17 = (1 : Int32) := hv17.trans (if_pos c19)
      exact hr
    · skip
      refine g_ifY A16 d1_109 (d_g_ge_t c19) (pc' := 116) rfl ?_
      refine g_iconst A16 d1_116 (v := (0 : Int32)) rfl (pc' := 117) rfl ?_
      obtain rfl : v17 = (0 : Int32) := hv17.trans (if_neg c19)
      exact hr
  refine sg18 ?_
  refine g_ior A16 d1_117 (pc' := 118) rfl ?_
  obtain ⟨o20, ho20⟩ : ∃ z : Int32, z = ((0 : Int32) ||| v17) := ⟨_, rfl⟩
  rw [← ho20]
  have bo20 : o20 = if FP.dcmp x0 y0 = some .lt then (1 : Int32) else 0 := by rw [ho20]; exact own_or0 hv17
  refine g_istoreN A16 d1_118 (ls' := #[.val (.ref a1), .val (.ref a2), .val (.int o20), .val (.int (0 : Int32)), .val (.int (0 : Int32))]) rfl (pc' := 119) rfl ?_
  refine g_iloadN A16 d1_119 rfl (pc' := 120) rfl ?_
  refine g_aloadN A16 d1_120 rfl rfl (pc' := 121) rfl ?_
  refine g_iload A16 d1_121 rfl (pc' := 123) rfl ?_
  refine g_daload A16 hZ e15 V4 (i := 0) (by decide) rfl (x := y0) hg0 d1_123 (pc' := 124) rfl ?_
  refine g_aloadN A16 d1_124 rfl rfl (pc' := 125) rfl ?_
  refine g_iload A16 d1_125 rfl (pc' := 127) rfl ?_
  refine g_daload A16 hZ e15 V3 (i := 0) (by decide) rfl (x := x0) hf0 d1_127 (pc' := 128) rfl ?_
  refine g_dcmp A16 d1_128 (pc' := 129) rfl ?_
  obtain ⟨v21, hv21⟩ : ∃ z : Int32, z = if FP.dcmp y0 x0 = some .lt then (1 : Int32) else 0 := ⟨_, rfl⟩
  have sg22 : ∀ {P : State → Outcome → Prop}, Go p e below P T11 (mkF m 137 #[.val (.ref a1), .val (.ref a2), .val (.int o20), .val (.int (0 : Int32)), .val (.int (0 : Int32))] [(.int v21), (.int (0 : Int32))]) → Go p e below P T11 (mkF m 129 #[.val (.ref a1), .val (.ref a2), .val (.int o20), .val (.int (0 : Int32)), .val (.int (0 : Int32))] [(.int (cmpValue (FP.dcmp y0 x0) .g)), (.int (0 : Int32))]) := by
    intro P hr
    by_cases c23 : FP.dcmp y0 x0 = some .lt
    · skip
      refine g_ifN A16 d1_129 (d_g_ge_f c23) (pc' := 132) rfl ?_
      refine g_iconst A16 d1_132 (v := (1 : Int32)) rfl (pc' := 133) rfl ?_
      refine g_goto A16 d1_133 (pc' := 137) rfl ?_
      obtain rfl : v21 = (1 : Int32) := hv21.trans (if_pos c23)
      exact hr
    · skip
      refine g_ifY A16 d1_129 (d_g_ge_t c23) (pc' := 136) rfl ?_
      refine g_iconst A16 d1_136 (v := (0 : Int32)) rfl (pc' := 137) rfl ?_
      obtain rfl : v21 = (0 : Int32) := hv21.trans (if_neg c23)
      exact hr
  refine sg22 ?_
  refine g_ior A16 d1_137 (pc' := 138) rfl ?_
  obtain ⟨o24, ho24⟩ : ∃ z : Int32, z = ((0 : Int32) ||| v21) := ⟨_, rfl⟩
  rw [← ho24]
  have bo24 : o24 = if FP.dcmp y0 x0 = some .lt then (1 : Int32) else 0 := by rw [ho24]; exact own_or0 hv21
  refine g_istoreN A16 d1_138 (ls' := #[.val (.ref a1), .val (.ref a2), .val (.int o20), .val (.int o24), .val (.int (0 : Int32))]) rfl (pc' := 139) rfl ?_
  refine g_iinc A16 d1_139 rfl (y := (1 : Int32)) (by decide) (ls' := #[.val (.ref a1), .val (.ref a2), .val (.int o20), .val (.int o24), .val (.int (1 : Int32))]) rfl (pc' := 142) rfl ?_
  refine g_goto A16 d1_142 (pc' := 92) rfl ?_
  refine g_iload A16 d1_92 rfl (pc' := 94) rfl ?_
  refine g_aloadN A16 d1_94 rfl rfl (pc' := 95) rfl ?_
  refine g_alen A16 hZ e15 V3 d1_95 (z := (1 : Int32)) rfl (pc' := 96) rfl ?_
  refine g_icY A16 d1_96 (c2_ge_t (by decide)) (pc' := 145) rfl ?_
  refine g_iconst A16 d1_145 (v := (0 : Int32)) rfl (pc' := 146) rfl ?_
  refine g_istore A16 d1_146 (ls' := #[.val (.ref a1), .val (.ref a2), .val (.int o20), .val (.int o24), .val (.int (0 : Int32))]) rfl (pc' := 148) rfl ?_
  refine g_iloadN A16 d1_148 rfl (pc' := 149) rfl ?_
  by_cases hc25 : FP.dcmp x0 y0 = some .lt
  · skip
    refine g_ifN A16 d1_149 (b0_eq_f bo20 hc25) (pc' := 152) rfl ?_
    refine g_iloadN A16 d1_152 rfl (pc' := 153) rfl ?_
    by_cases hc26 : FP.dcmp y0 x0 = some .lt
    · skip
      refine g_ifY A16 d1_153 (b0_ne_t bo24 hc26) (pc' := 162) rfl ?_
      refine g_iloadN A16 d1_162 rfl (pc' := 163) rfl ?_
      refine g_ifN A16 d1_163 (b0_eq_f bo24 hc26) (pc' := 166) rfl ?_
      refine g_iloadN A16 d1_166 rfl (pc' := 167) rfl ?_
      refine g_ifY A16 d1_167 (b0_ne_t bo20 hc25) (pc' := 173) rfl ?_
      refine g_iload A16 d1_173 rfl (pc' := 175) rfl ?_
      exact g_ret (Q := QK1 Z a1 a2 f g x0 y0 h0 n0) A16 d1_175 Bd.notSynchronized Bd.returns rfl (Or.inl ⟨rfl, by simp, _, rfl⟩) (by decide) (by decide) (by rw [e15]; exact ⟨(congrArg (fun z => some (Value.int z)) (by rw [own_r_rmK1, if_pos hc25, if_pos hc26])), N14, rfl⟩)
    · skip
      refine g_ifN A16 d1_153 (b0_ne_f bo24 hc26) (pc' := 156) rfl ?_
      refine g_iconst A16 d1_156 (v := (-1 : Int32)) rfl (pc' := 157) rfl ?_
      refine g_istore A16 d1_157 (ls' := #[.val (.ref a1), .val (.ref a2), .val (.int o20), .val (.int o24), .val (.int (-1 : Int32))]) rfl (pc' := 159) rfl ?_
      refine g_goto A16 d1_159 (pc' := 173) rfl ?_
      refine g_iload A16 d1_173 rfl (pc' := 175) rfl ?_
      exact g_ret (Q := QK1 Z a1 a2 f g x0 y0 h0 n0) A16 d1_175 Bd.notSynchronized Bd.returns rfl (Or.inl ⟨rfl, by simp, _, rfl⟩) (by decide) (by decide) (by rw [e15]; exact ⟨(congrArg (fun z => some (Value.int z)) (by rw [own_r_rmK1, if_pos hc25, if_neg hc26])), N14, rfl⟩)
  · skip
    refine g_ifY A16 d1_149 (b0_eq_t bo20 hc25) (pc' := 162) rfl ?_
    refine g_iloadN A16 d1_162 rfl (pc' := 163) rfl ?_
    by_cases hc27 : FP.dcmp y0 x0 = some .lt
    · skip
      refine g_ifN A16 d1_163 (b0_eq_f bo24 hc27) (pc' := 166) rfl ?_
      refine g_iloadN A16 d1_166 rfl (pc' := 167) rfl ?_
      refine g_ifN A16 d1_167 (b0_ne_f bo20 hc25) (pc' := 170) rfl ?_
      refine g_iconst A16 d1_170 (v := (1 : Int32)) rfl (pc' := 171) rfl ?_
      refine g_istore A16 d1_171 (ls' := #[.val (.ref a1), .val (.ref a2), .val (.int o20), .val (.int o24), .val (.int (1 : Int32))]) rfl (pc' := 173) rfl ?_
      refine g_iload A16 d1_173 rfl (pc' := 175) rfl ?_
      exact g_ret (Q := QK1 Z a1 a2 f g x0 y0 h0 n0) A16 d1_175 Bd.notSynchronized Bd.returns rfl (Or.inl ⟨rfl, by simp, _, rfl⟩) (by decide) (by decide) (by rw [e15]; exact ⟨(congrArg (fun z => some (Value.int z)) (by rw [own_r_rmK1, if_neg hc25, if_pos hc27])), N14, rfl⟩)
    · skip
      refine g_ifY A16 d1_163 (b0_eq_t bo24 hc27) (pc' := 173) rfl ?_
      refine g_iload A16 d1_173 rfl (pc' := 175) rfl ?_
      exact g_ret (Q := QK1 Z a1 a2 f g x0 y0 h0 n0) A16 d1_175 Bd.notSynchronized Bd.returns rfl (Or.inl ⟨rfl, by simp, _, rfl⟩) (by decide) (by decide) (by rw [e15]; exact ⟨(congrArg (fun z => some (Value.int z)) (by rw [own_r_rmK1, if_neg hc25, if_neg hc27])), N14, rfl⟩)
def own_r_rmK2 (x0 : UInt64) (x1 : UInt64) (y0 : UInt64) (y1 : UInt64) : Int32 := (if ((FP.dcmp x0 y0 = some .lt) ∨ (FP.dcmp x1 y1 = some .lt)) then (if ((FP.dcmp y0 x0 = some .lt) ∨ (FP.dcmp y1 x1 = some .lt)) then (0 : Int32) else (-1 : Int32)) else (if ((FP.dcmp y0 x0 = some .lt) ∨ (FP.dcmp y1 x1 = some .lt)) then (1 : Int32) else (0 : Int32)))
theorem ef28 (m : MethodId) (a1 : Addr) (a2 : Addr) (f : Nat → Value) (g : Nat → Value) (x0 : UInt64) (x1 : UInt64) (y0 : UInt64) (y1 : UInt64) : entryFrame m #[(.ref a1), (.ref a2)] 5 = mkF m 0 #[.val (.ref a1), .val (.ref a2), .unset, .unset, .unset] [] := by first | (simp [entryFrame, mkF, argsToLocals, Value.category]; done) | rfl
def QK2 (Z : State) (a1 : Addr) (a2 : Addr) (f : Nat → Value) (g : Nat → Value) (x0 : UInt64) (x1 : UInt64) (y0 : UInt64) (y1 : UInt64) (h0 : Heap) (n0 : Nat) (v : Option Value) (h : Heap) (L : List Loc) : Prop := v = some (.int (own_r_rmK2 x0 x1 y0 y1)) ∧ Fr n0 L ∧ h = h0
set_option maxRecDepth 65536 in
set_option maxHeartbeats 40000000 in
theorem rmK2 (l : Launch) (Z : State) (a0 : Array Value) (hw : ∀ d ∈ tables_1, d.before a0 Z = true) (ws : List Jvm.Cond) (a1 : Addr) (a2 : Addr) (f : Nat → Value) (g : Nat → Value) (x0 : UInt64) (x1 : UInt64) (y0 : UInt64) (y1 : UInt64) (h0 : Heap) (n0 : Nat) (Z0 : n0 ≤ h0.size) (V29 : Dar Z h0 a1 .double 2 f) (V30 : Dar Z h0 a2 .double 2 g) (hf0 : f 0 = .double x0) (hg0 : g 0 = .double y0) (hx0 : Fin64 x0) (hy0 : Fin64 y0) (hf1 : f 1 = .double x1) (hg1 : g 1 = .double y1) (hx1 : Fin64 x1) (hy1 : Fin64 y1) :
    MetFree l (⟨"com/example/tradewind/tradewind/front/Dominance", "compare", "([D[D)I"⟩ : MethodName) (head1 (Jvm.Cond.code (⟨"com/example/tradewind/tradewind/front/Dominance", "compare", "([D[D)I"⟩ : MethodName) prog_9_method_3_code 5 (some .int) :: ws) ({ frames := 1, cells := 0, slots := 0, locals := 13 } : Room)) (fun a U => a = #[(.ref a1), (.ref a2)] ∧ Z.Warmed39 U.vm ∧ U.heap = h0) (fun _ _ _ _ _ => True) (fun _ U o U' => ∃ v L, o = .returned v ∧ QK2 Z a1 a2 f g x0 x1 y0 y1 h0 n0 v U'.heap L ∧ FrameEnd U o U' L 0 0) := by
  refine MetFree.of_bodySF (plainFor_of_name pn_1) hisR ?_
  intro p e s m args below meth c s₁ Bd hml0 hP hK
  obtain ⟨rfl, hZ, hh⟩ := hP
  have hx := Bd.exec
  have hby := Bd.bytes
  have hml : c.maxLocals = 5 := hml0
  have hown : s.vm.findClass "com/example/tradewind/tradewind/front/Dominance" = some m.cls := findClass_of_methodNamed Bd.named
  have hnm := (name_of_methodNamed Bd.named Bd.method).1
  have X0 : Stand p l e ({ frames := 1, cells := 0, slots := 0, locals := 13 } : Room) s m #[(.ref a1), (.ref a2)] below meth c s₁ [] 0 0 := Stand.of_body Bd
  have e0 : s₁.heap = h0 := by rw [← hh, Bd.state]; rfl
  have N0 := Fr.nil n0
  have A0 := (⟨X0, hx, hby⟩ : Ax _ _ _ _ _ _ _ _ _ _ _ _ _ _ _)
  show Go p e below (fun U o => ∃ v L, o = .returned v ∧ QK2 Z a1 a2 f g x0 x1 y0 y1 h0 n0 v U.heap L ∧ FrameEnd s o U L 0 0) s₁ (entryFrame m #[(.ref a1), (.ref a2)] 5)
  refine Go.cast (ef28 m a1 a2 f g x0 x1 y0 y1) ?_
  refine g_aloadN A0 d1_0 rfl rfl (pc' := 1) rfl ?_
  refine g_alen A0 hZ e0 V29 d1_1 (z := (2 : Int32)) rfl (pc' := 2) rfl ?_
  refine g_aloadN A0 d1_2 rfl rfl (pc' := 3) rfl ?_
  refine g_alen A0 hZ e0 V30 d1_3 (z := (2 : Int32)) rfl (pc' := 4) rfl ?_
  refine g_icY A0 d1_4 (c2_eq_t rfl) (pc' := 24) rfl ?_
  refine g_aloadN A0 d1_24 rfl rfl (pc' := 25) rfl ?_
  refine g_alen A0 hZ e0 V29 d1_25 (z := (2 : Int32)) rfl (pc' := 26) rfl ?_
  refine g_ifY A0 d1_26 (c0_ne_t (by decide)) (pc' := 39) rfl ?_
  refine g_iconst A0 d1_39 (v := (0 : Int32)) rfl (pc' := 40) rfl ?_
  refine g_istoreN A0 d1_40 (ls' := #[.val (.ref a1), .val (.ref a2), .val (.int (0 : Int32)), .unset, .unset]) rfl (pc' := 41) rfl ?_
  refine g_iloadN A0 d1_41 rfl (pc' := 42) rfl ?_
  refine g_aloadN A0 d1_42 rfl rfl (pc' := 43) rfl ?_
  refine g_alen A0 hZ e0 V29 d1_43 (z := (2 : Int32)) rfl (pc' := 44) rfl ?_
  refine g_icN A0 d1_44 (c2_ge_f (by decide)) (pc' := 47) rfl ?_
  refine g_aloadN A0 d1_47 rfl rfl (pc' := 48) rfl ?_
  refine g_iloadN A0 d1_48 rfl (pc' := 49) rfl ?_
  refine g_daload A0 hZ e0 V29 (i := 0) (by decide) rfl (x := x0) hf0 d1_49 (pc' := 50) rfl ?_
  obtain ⟨_, _, ⟨T31, L31, k31, n31⟩, -, X31, ⟨L31c, hQ31, l31, y31, z31⟩, st31⟩ := Jvm.LawKit.callS X0 hx (y := (⟨"java/lang/Double", "isNaN", "(D)Z"⟩ : MethodName)) hown (mvT hZ (hw _ (List.mem_of_getElem? (i := 6) rfl))) (mvT hZ (hw _ (List.mem_of_getElem? (i := 7) rfl))) (mvT hZ (hw _ (List.mem_of_getElem? (i := 8) rfl))) (mvT hZ (hw _ (List.mem_of_getElem? (i := 9) rfl))) (by decide) (backOf (W := 0) (rm2 l Z a0 hw [] x0 h0 n0 Z0 hx0) hZ (hw _ (List.mem_of_getElem? (i := 9) rfl)) (hw _ (List.mem_of_getElem? (i := 8) rfl)) (by decide) (by decide)) (g := (mkF m 50 #[.val (.ref a1), .val (.ref a2), .val (.int (0 : Int32)), .unset, .unset] [(.double x0)])) rfl (by rw [hml]; rfl) (argsL := [(.double x0)]) (rest := []) (lenOf pd_0 rfl) rfl (by show 2 * 0 + _ ≤ _; exact Nat.le_of_eq rfl) (hb hby d1_50) (fun _ _ => ⟨rfl, e0, (by decide : 0 + 0 ≤ _), (by decide : 0 + 0 ≤ _)⟩)
  dsimp only [Pt.U, Pt.locs, Pt.cells, Pt.slots] at X31 l31 y31 z31 st31 hQ31
  subst l31 y31 z31
  obtain ⟨rfl, Nq32, Kq33⟩ := hQ31
  have N34 := Fr.app N0 Nq32
  refine Go.of (g' := (mkF m 53 #[.val (.ref a1), .val (.ref a2), .val (.int (0 : Int32)), .unset, .unset] [(.int (0 : Int32))])) st31 ?_
  have e35 : T31.heap = h0 := Kq33
  have A36 := (⟨X31, hx, hby⟩ : Ax _ _ _ _ _ _ _ _ _ _ _ _ _ _ _)
  refine g_ifN A36 d1_53 (c0_ne_f (by decide)) (pc' := 56) rfl ?_
  refine g_aloadN A36 d1_56 rfl rfl (pc' := 57) rfl ?_
  refine g_iloadN A36 d1_57 rfl (pc' := 58) rfl ?_
  refine g_daload A36 hZ e35 V30 (i := 0) (by decide) rfl (x := y0) hg0 d1_58 (pc' := 59) rfl ?_
  obtain ⟨_, _, ⟨T37, L37, k37, n37⟩, -, X37, ⟨L37c, hQ37, l37, y37, z37⟩, st37⟩ := Jvm.LawKit.callS X31 hx (y := (⟨"java/lang/Double", "isNaN", "(D)Z"⟩ : MethodName)) hown (mvT hZ (hw _ (List.mem_of_getElem? (i := 6) rfl))) (mvT hZ (hw _ (List.mem_of_getElem? (i := 7) rfl))) (mvT hZ (hw _ (List.mem_of_getElem? (i := 8) rfl))) (mvT hZ (hw _ (List.mem_of_getElem? (i := 9) rfl))) (by decide) (backOf (W := 0) (rm2 l Z a0 hw [] y0 h0 n0 Z0 hy0) hZ (hw _ (List.mem_of_getElem? (i := 9) rfl)) (hw _ (List.mem_of_getElem? (i := 8) rfl)) (by decide) (by decide)) (g := (mkF m 59 #[.val (.ref a1), .val (.ref a2), .val (.int (0 : Int32)), .unset, .unset] [(.double y0)])) rfl (by rw [hml]; rfl) (argsL := [(.double y0)]) (rest := []) (lenOf pd_0 rfl) rfl (by show 2 * 0 + _ ≤ _; exact Nat.le_of_eq rfl) (hb hby d1_59) (fun _ _ => ⟨rfl, e35, (by decide : 0 + 0 ≤ _), (by decide : 0 + 0 ≤ _)⟩)
  dsimp only [Pt.U, Pt.locs, Pt.cells, Pt.slots] at X37 l37 y37 z37 st37 hQ37
  subst l37 y37 z37
  obtain ⟨rfl, Nq38, Kq39⟩ := hQ37
  have N40 := Fr.app N34 Nq38
  refine Go.of (g' := (mkF m 62 #[.val (.ref a1), .val (.ref a2), .val (.int (0 : Int32)), .unset, .unset] [(.int (0 : Int32))])) st37 ?_
  have e41 : T37.heap = h0 := Kq39
  have A42 := (⟨X37, hx, hby⟩ : Ax _ _ _ _ _ _ _ _ _ _ _ _ _ _ _)
  refine g_ifY A42 d1_62 (c0_eq_t (by decide)) (pc' := 79) rfl ?_
  refine g_iinc A42 d1_79 rfl (y := (1 : Int32)) (by decide) (ls' := #[.val (.ref a1), .val (.ref a2), .val (.int (1 : Int32)), .unset, .unset]) rfl (pc' := 82) rfl ?_
  refine g_goto A42 d1_82 (pc' := 41) rfl ?_
  refine g_iloadN A42 d1_41 rfl (pc' := 42) rfl ?_
  refine g_aloadN A42 d1_42 rfl rfl (pc' := 43) rfl ?_
  refine g_alen A42 hZ e41 V29 d1_43 (z := (2 : Int32)) rfl (pc' := 44) rfl ?_
  refine g_icN A42 d1_44 (c2_ge_f (by decide)) (pc' := 47) rfl ?_
  refine g_aloadN A42 d1_47 rfl rfl (pc' := 48) rfl ?_
  refine g_iloadN A42 d1_48 rfl (pc' := 49) rfl ?_
  refine g_daload A42 hZ e41 V29 (i := 1) (by decide) rfl (x := x1) hf1 d1_49 (pc' := 50) rfl ?_
  obtain ⟨_, _, ⟨T43, L43, k43, n43⟩, -, X43, ⟨L43c, hQ43, l43, y43, z43⟩, st43⟩ := Jvm.LawKit.callS X37 hx (y := (⟨"java/lang/Double", "isNaN", "(D)Z"⟩ : MethodName)) hown (mvT hZ (hw _ (List.mem_of_getElem? (i := 6) rfl))) (mvT hZ (hw _ (List.mem_of_getElem? (i := 7) rfl))) (mvT hZ (hw _ (List.mem_of_getElem? (i := 8) rfl))) (mvT hZ (hw _ (List.mem_of_getElem? (i := 9) rfl))) (by decide) (backOf (W := 0) (rm2 l Z a0 hw [] x1 h0 n0 Z0 hx1) hZ (hw _ (List.mem_of_getElem? (i := 9) rfl)) (hw _ (List.mem_of_getElem? (i := 8) rfl)) (by decide) (by decide)) (g := (mkF m 50 #[.val (.ref a1), .val (.ref a2), .val (.int (1 : Int32)), .unset, .unset] [(.double x1)])) rfl (by rw [hml]; rfl) (argsL := [(.double x1)]) (rest := []) (lenOf pd_0 rfl) rfl (by show 2 * 0 + _ ≤ _; exact Nat.le_of_eq rfl) (hb hby d1_50) (fun _ _ => ⟨rfl, e41, (by decide : 0 + 0 ≤ _), (by decide : 0 + 0 ≤ _)⟩)
  dsimp only [Pt.U, Pt.locs, Pt.cells, Pt.slots] at X43 l43 y43 z43 st43 hQ43
  subst l43 y43 z43
  obtain ⟨rfl, Nq44, Kq45⟩ := hQ43
  have N46 := Fr.app N40 Nq44
  refine Go.of (g' := (mkF m 53 #[.val (.ref a1), .val (.ref a2), .val (.int (1 : Int32)), .unset, .unset] [(.int (0 : Int32))])) st43 ?_
  have e47 : T43.heap = h0 := Kq45
  have A48 := (⟨X43, hx, hby⟩ : Ax _ _ _ _ _ _ _ _ _ _ _ _ _ _ _)
  refine g_ifN A48 d1_53 (c0_ne_f (by decide)) (pc' := 56) rfl ?_
  refine g_aloadN A48 d1_56 rfl rfl (pc' := 57) rfl ?_
  refine g_iloadN A48 d1_57 rfl (pc' := 58) rfl ?_
  refine g_daload A48 hZ e47 V30 (i := 1) (by decide) rfl (x := y1) hg1 d1_58 (pc' := 59) rfl ?_
  obtain ⟨_, _, ⟨T49, L49, k49, n49⟩, -, X49, ⟨L49c, hQ49, l49, y49, z49⟩, st49⟩ := Jvm.LawKit.callS X43 hx (y := (⟨"java/lang/Double", "isNaN", "(D)Z"⟩ : MethodName)) hown (mvT hZ (hw _ (List.mem_of_getElem? (i := 6) rfl))) (mvT hZ (hw _ (List.mem_of_getElem? (i := 7) rfl))) (mvT hZ (hw _ (List.mem_of_getElem? (i := 8) rfl))) (mvT hZ (hw _ (List.mem_of_getElem? (i := 9) rfl))) (by decide) (backOf (W := 0) (rm2 l Z a0 hw [] y1 h0 n0 Z0 hy1) hZ (hw _ (List.mem_of_getElem? (i := 9) rfl)) (hw _ (List.mem_of_getElem? (i := 8) rfl)) (by decide) (by decide)) (g := (mkF m 59 #[.val (.ref a1), .val (.ref a2), .val (.int (1 : Int32)), .unset, .unset] [(.double y1)])) rfl (by rw [hml]; rfl) (argsL := [(.double y1)]) (rest := []) (lenOf pd_0 rfl) rfl (by show 2 * 0 + _ ≤ _; exact Nat.le_of_eq rfl) (hb hby d1_59) (fun _ _ => ⟨rfl, e47, (by decide : 0 + 0 ≤ _), (by decide : 0 + 0 ≤ _)⟩)
  dsimp only [Pt.U, Pt.locs, Pt.cells, Pt.slots] at X49 l49 y49 z49 st49 hQ49
  subst l49 y49 z49
  obtain ⟨rfl, Nq50, Kq51⟩ := hQ49
  have N52 := Fr.app N46 Nq50
  refine Go.of (g' := (mkF m 62 #[.val (.ref a1), .val (.ref a2), .val (.int (1 : Int32)), .unset, .unset] [(.int (0 : Int32))])) st49 ?_
  have e53 : T49.heap = h0 := Kq51
  have A54 := (⟨X49, hx, hby⟩ : Ax _ _ _ _ _ _ _ _ _ _ _ _ _ _ _)
  refine g_ifY A54 d1_62 (c0_eq_t (by decide)) (pc' := 79) rfl ?_
  refine g_iinc A54 d1_79 rfl (y := (2 : Int32)) (by decide) (ls' := #[.val (.ref a1), .val (.ref a2), .val (.int (2 : Int32)), .unset, .unset]) rfl (pc' := 82) rfl ?_
  refine g_goto A54 d1_82 (pc' := 41) rfl ?_
  refine g_iloadN A54 d1_41 rfl (pc' := 42) rfl ?_
  refine g_aloadN A54 d1_42 rfl rfl (pc' := 43) rfl ?_
  refine g_alen A54 hZ e53 V29 d1_43 (z := (2 : Int32)) rfl (pc' := 44) rfl ?_
  refine g_icY A54 d1_44 (c2_ge_t (by decide)) (pc' := 85) rfl ?_
  refine g_iconst A54 d1_85 (v := (0 : Int32)) rfl (pc' := 86) rfl ?_
  refine g_istoreN A54 d1_86 (ls' := #[.val (.ref a1), .val (.ref a2), .val (.int (0 : Int32)), .unset, .unset]) rfl (pc' := 87) rfl ?_
  refine g_iconst A54 d1_87 (v := (0 : Int32)) rfl (pc' := 88) rfl ?_
  refine g_istoreN A54 d1_88 (ls' := #[.val (.ref a1), .val (.ref a2), .val (.int (0 : Int32)), .val (.int (0 : Int32)), .unset]) rfl (pc' := 89) rfl ?_
  refine g_iconst A54 d1_89 (v := (0 : Int32)) rfl (pc' := 90) rfl ?_
  refine g_istore A54 d1_90 (ls' := #[.val (.ref a1), .val (.ref a2), .val (.int (0 : Int32)), .val (.int (0 : Int32)), .val (.int (0 : Int32))]) rfl (pc' := 92) rfl ?_
  refine g_iload A54 d1_92 rfl (pc' := 94) rfl ?_
  refine g_aloadN A54 d1_94 rfl rfl (pc' := 95) rfl ?_
  refine g_alen A54 hZ e53 V29 d1_95 (z := (2 : Int32)) rfl (pc' := 96) rfl ?_
  refine g_icN A54 d1_96 (c2_ge_f (by decide)) (pc' := 99) rfl ?_
  refine g_iloadN A54 d1_99 rfl (pc' := 100) rfl ?_
  refine g_aloadN A54 d1_100 rfl rfl (pc' := 101) rfl ?_
  refine g_iload A54 d1_101 rfl (pc' := 103) rfl ?_
  refine g_daload A54 hZ e53 V29 (i := 0) (by decide) rfl (x := x0) hf0 d1_103 (pc' := 104) rfl ?_
  refine g_aloadN A54 d1_104 rfl rfl (pc' := 105) rfl ?_
  refine g_iload A54 d1_105 rfl (pc' := 107) rfl ?_
  refine g_daload A54 hZ e53 V30 (i := 0) (by decide) rfl (x := y0) hg0 d1_107 (pc' := 108) rfl ?_
  refine g_dcmp A54 d1_108 (pc' := 109) rfl ?_
  obtain ⟨v55, hv55⟩ : ∃ z : Int32, z = if FP.dcmp x0 y0 = some .lt then (1 : Int32) else 0 := ⟨_, rfl⟩
  have sg56 : ∀ {P : State → Outcome → Prop}, Go p e below P T49 (mkF m 117 #[.val (.ref a1), .val (.ref a2), .val (.int (0 : Int32)), .val (.int (0 : Int32)), .val (.int (0 : Int32))] [(.int v55), (.int (0 : Int32))]) → Go p e below P T49 (mkF m 109 #[.val (.ref a1), .val (.ref a2), .val (.int (0 : Int32)), .val (.int (0 : Int32)), .val (.int (0 : Int32))] [(.int (cmpValue (FP.dcmp x0 y0) .g)), (.int (0 : Int32))]) := by
    intro P hr
    by_cases c57 : FP.dcmp x0 y0 = some .lt
    · skip
      refine g_ifN A54 d1_109 (d_g_ge_f c57) (pc' := 112) rfl ?_
      refine g_iconst A54 d1_112 (v := (1 : Int32)) rfl (pc' := 113) rfl ?_
      refine g_goto A54 d1_113 (pc' := 117) rfl ?_
      obtain rfl : v55 = (1 : Int32) := hv55.trans (if_pos c57)
      exact hr
    · skip
      refine g_ifY A54 d1_109 (d_g_ge_t c57) (pc' := 116) rfl ?_
      refine g_iconst A54 d1_116 (v := (0 : Int32)) rfl (pc' := 117) rfl ?_
      obtain rfl : v55 = (0 : Int32) := hv55.trans (if_neg c57)
      exact hr
  refine sg56 ?_
  refine g_ior A54 d1_117 (pc' := 118) rfl ?_
  obtain ⟨o58, ho58⟩ : ∃ z : Int32, z = ((0 : Int32) ||| v55) := ⟨_, rfl⟩
  rw [← ho58]
  have bo58 : o58 = if FP.dcmp x0 y0 = some .lt then (1 : Int32) else 0 := by rw [ho58]; exact own_or0 hv55
  refine g_istoreN A54 d1_118 (ls' := #[.val (.ref a1), .val (.ref a2), .val (.int o58), .val (.int (0 : Int32)), .val (.int (0 : Int32))]) rfl (pc' := 119) rfl ?_
  refine g_iloadN A54 d1_119 rfl (pc' := 120) rfl ?_
  refine g_aloadN A54 d1_120 rfl rfl (pc' := 121) rfl ?_
  refine g_iload A54 d1_121 rfl (pc' := 123) rfl ?_
  refine g_daload A54 hZ e53 V30 (i := 0) (by decide) rfl (x := y0) hg0 d1_123 (pc' := 124) rfl ?_
  refine g_aloadN A54 d1_124 rfl rfl (pc' := 125) rfl ?_
  refine g_iload A54 d1_125 rfl (pc' := 127) rfl ?_
  refine g_daload A54 hZ e53 V29 (i := 0) (by decide) rfl (x := x0) hf0 d1_127 (pc' := 128) rfl ?_
  refine g_dcmp A54 d1_128 (pc' := 129) rfl ?_
  obtain ⟨v59, hv59⟩ : ∃ z : Int32, z = if FP.dcmp y0 x0 = some .lt then (1 : Int32) else 0 := ⟨_, rfl⟩
  have sg60 : ∀ {P : State → Outcome → Prop}, Go p e below P T49 (mkF m 137 #[.val (.ref a1), .val (.ref a2), .val (.int o58), .val (.int (0 : Int32)), .val (.int (0 : Int32))] [(.int v59), (.int (0 : Int32))]) → Go p e below P T49 (mkF m 129 #[.val (.ref a1), .val (.ref a2), .val (.int o58), .val (.int (0 : Int32)), .val (.int (0 : Int32))] [(.int (cmpValue (FP.dcmp y0 x0) .g)), (.int (0 : Int32))]) := by
    intro P hr
    by_cases c61 : FP.dcmp y0 x0 = some .lt
    · skip
      refine g_ifN A54 d1_129 (d_g_ge_f c61) (pc' := 132) rfl ?_
      refine g_iconst A54 d1_132 (v := (1 : Int32)) rfl (pc' := 133) rfl ?_
      refine g_goto A54 d1_133 (pc' := 137) rfl ?_
      obtain rfl : v59 = (1 : Int32) := hv59.trans (if_pos c61)
      exact hr
    · skip
      refine g_ifY A54 d1_129 (d_g_ge_t c61) (pc' := 136) rfl ?_
      refine g_iconst A54 d1_136 (v := (0 : Int32)) rfl (pc' := 137) rfl ?_
      obtain rfl : v59 = (0 : Int32) := hv59.trans (if_neg c61)
      exact hr
  refine sg60 ?_
  refine g_ior A54 d1_137 (pc' := 138) rfl ?_
  obtain ⟨o62, ho62⟩ : ∃ z : Int32, z = ((0 : Int32) ||| v59) := ⟨_, rfl⟩
  rw [← ho62]
  have bo62 : o62 = if FP.dcmp y0 x0 = some .lt then (1 : Int32) else 0 := by rw [ho62]; exact own_or0 hv59
  refine g_istoreN A54 d1_138 (ls' := #[.val (.ref a1), .val (.ref a2), .val (.int o58), .val (.int o62), .val (.int (0 : Int32))]) rfl (pc' := 139) rfl ?_
  refine g_iinc A54 d1_139 rfl (y := (1 : Int32)) (by decide) (ls' := #[.val (.ref a1), .val (.ref a2), .val (.int o58), .val (.int o62), .val (.int (1 : Int32))]) rfl (pc' := 142) rfl ?_
  refine g_goto A54 d1_142 (pc' := 92) rfl ?_
  refine g_iload A54 d1_92 rfl (pc' := 94) rfl ?_
  refine g_aloadN A54 d1_94 rfl rfl (pc' := 95) rfl ?_
  refine g_alen A54 hZ e53 V29 d1_95 (z := (2 : Int32)) rfl (pc' := 96) rfl ?_
  refine g_icN A54 d1_96 (c2_ge_f (by decide)) (pc' := 99) rfl ?_
  refine g_iloadN A54 d1_99 rfl (pc' := 100) rfl ?_
  refine g_aloadN A54 d1_100 rfl rfl (pc' := 101) rfl ?_
  refine g_iload A54 d1_101 rfl (pc' := 103) rfl ?_
  refine g_daload A54 hZ e53 V29 (i := 1) (by decide) rfl (x := x1) hf1 d1_103 (pc' := 104) rfl ?_
  refine g_aloadN A54 d1_104 rfl rfl (pc' := 105) rfl ?_
  refine g_iload A54 d1_105 rfl (pc' := 107) rfl ?_
  refine g_daload A54 hZ e53 V30 (i := 1) (by decide) rfl (x := y1) hg1 d1_107 (pc' := 108) rfl ?_
  refine g_dcmp A54 d1_108 (pc' := 109) rfl ?_
  obtain ⟨v63, hv63⟩ : ∃ z : Int32, z = if FP.dcmp x1 y1 = some .lt then (1 : Int32) else 0 := ⟨_, rfl⟩
  have sg64 : ∀ {P : State → Outcome → Prop}, Go p e below P T49 (mkF m 117 #[.val (.ref a1), .val (.ref a2), .val (.int o58), .val (.int o62), .val (.int (1 : Int32))] [(.int v63), (.int o58)]) → Go p e below P T49 (mkF m 109 #[.val (.ref a1), .val (.ref a2), .val (.int o58), .val (.int o62), .val (.int (1 : Int32))] [(.int (cmpValue (FP.dcmp x1 y1) .g)), (.int o58)]) := by
    intro P hr
    by_cases c65 : FP.dcmp x1 y1 = some .lt
    · skip
      refine g_ifN A54 d1_109 (d_g_ge_f c65) (pc' := 112) rfl ?_
      refine g_iconst A54 d1_112 (v := (1 : Int32)) rfl (pc' := 113) rfl ?_
      refine g_goto A54 d1_113 (pc' := 117) rfl ?_
      obtain rfl : v63 = (1 : Int32) := hv63.trans (if_pos c65)
      exact hr
    · skip
      refine g_ifY A54 d1_109 (d_g_ge_t c65) (pc' := 116) rfl ?_
      refine g_iconst A54 d1_116 (v := (0 : Int32)) rfl (pc' := 117) rfl ?_
      obtain rfl : v63 = (0 : Int32) := hv63.trans (if_neg c65)
      exact hr
  refine sg64 ?_
  refine g_ior A54 d1_117 (pc' := 118) rfl ?_
  obtain ⟨o66, ho66⟩ : ∃ z : Int32, z = (o58 ||| v63) := ⟨_, rfl⟩
  rw [← ho66]
  have bo66 : o66 = if ((FP.dcmp x0 y0 = some .lt) ∨ (FP.dcmp x1 y1 = some .lt)) then (1 : Int32) else 0 := by rw [ho66]; exact own_orb bo58 hv63
  refine g_istoreN A54 d1_118 (ls' := #[.val (.ref a1), .val (.ref a2), .val (.int o66), .val (.int o62), .val (.int (1 : Int32))]) rfl (pc' := 119) rfl ?_
  refine g_iloadN A54 d1_119 rfl (pc' := 120) rfl ?_
  refine g_aloadN A54 d1_120 rfl rfl (pc' := 121) rfl ?_
  refine g_iload A54 d1_121 rfl (pc' := 123) rfl ?_
  refine g_daload A54 hZ e53 V30 (i := 1) (by decide) rfl (x := y1) hg1 d1_123 (pc' := 124) rfl ?_
  refine g_aloadN A54 d1_124 rfl rfl (pc' := 125) rfl ?_
  refine g_iload A54 d1_125 rfl (pc' := 127) rfl ?_
  refine g_daload A54 hZ e53 V29 (i := 1) (by decide) rfl (x := x1) hf1 d1_127 (pc' := 128) rfl ?_
  refine g_dcmp A54 d1_128 (pc' := 129) rfl ?_
  obtain ⟨v67, hv67⟩ : ∃ z : Int32, z = if FP.dcmp y1 x1 = some .lt then (1 : Int32) else 0 := ⟨_, rfl⟩
  have sg68 : ∀ {P : State → Outcome → Prop}, Go p e below P T49 (mkF m 137 #[.val (.ref a1), .val (.ref a2), .val (.int o66), .val (.int o62), .val (.int (1 : Int32))] [(.int v67), (.int o62)]) → Go p e below P T49 (mkF m 129 #[.val (.ref a1), .val (.ref a2), .val (.int o66), .val (.int o62), .val (.int (1 : Int32))] [(.int (cmpValue (FP.dcmp y1 x1) .g)), (.int o62)]) := by
    intro P hr
    by_cases c69 : FP.dcmp y1 x1 = some .lt
    · skip
      refine g_ifN A54 d1_129 (d_g_ge_f c69) (pc' := 132) rfl ?_
      refine g_iconst A54 d1_132 (v := (1 : Int32)) rfl (pc' := 133) rfl ?_
      refine g_goto A54 d1_133 (pc' := 137) rfl ?_
      obtain rfl : v67 = (1 : Int32) := hv67.trans (if_pos c69)
      exact hr
    · skip
      refine g_ifY A54 d1_129 (d_g_ge_t c69) (pc' := 136) rfl ?_
      refine g_iconst A54 d1_136 (v := (0 : Int32)) rfl (pc' := 137) rfl ?_
      obtain rfl : v67 = (0 : Int32) := hv67.trans (if_neg c69)
      exact hr
  refine sg68 ?_
  refine g_ior A54 d1_137 (pc' := 138) rfl ?_
  obtain ⟨o70, ho70⟩ : ∃ z : Int32, z = (o62 ||| v67) := ⟨_, rfl⟩
  rw [← ho70]
  have bo70 : o70 = if ((FP.dcmp y0 x0 = some .lt) ∨ (FP.dcmp y1 x1 = some .lt)) then (1 : Int32) else 0 := by rw [ho70]; exact own_orb bo62 hv67
  refine g_istoreN A54 d1_138 (ls' := #[.val (.ref a1), .val (.ref a2), .val (.int o66), .val (.int o70), .val (.int (1 : Int32))]) rfl (pc' := 139) rfl ?_
  refine g_iinc A54 d1_139 rfl (y := (2 : Int32)) (by decide) (ls' := #[.val (.ref a1), .val (.ref a2), .val (.int o66), .val (.int o70), .val (.int (2 : Int32))]) rfl (pc' := 142) rfl ?_
  refine g_goto A54 d1_142 (pc' := 92) rfl ?_
  refine g_iload A54 d1_92 rfl (pc' := 94) rfl ?_
  refine g_aloadN A54 d1_94 rfl rfl (pc' := 95) rfl ?_
  refine g_alen A54 hZ e53 V29 d1_95 (z := (2 : Int32)) rfl (pc' := 96) rfl ?_
  refine g_icY A54 d1_96 (c2_ge_t (by decide)) (pc' := 145) rfl ?_
  refine g_iconst A54 d1_145 (v := (0 : Int32)) rfl (pc' := 146) rfl ?_
  refine g_istore A54 d1_146 (ls' := #[.val (.ref a1), .val (.ref a2), .val (.int o66), .val (.int o70), .val (.int (0 : Int32))]) rfl (pc' := 148) rfl ?_
  refine g_iloadN A54 d1_148 rfl (pc' := 149) rfl ?_
  by_cases hc71 : ((FP.dcmp x0 y0 = some .lt) ∨ (FP.dcmp x1 y1 = some .lt))
  · skip
    refine g_ifN A54 d1_149 (b0_eq_f bo66 hc71) (pc' := 152) rfl ?_
    refine g_iloadN A54 d1_152 rfl (pc' := 153) rfl ?_
    by_cases hc72 : ((FP.dcmp y0 x0 = some .lt) ∨ (FP.dcmp y1 x1 = some .lt))
    · skip
      refine g_ifY A54 d1_153 (b0_ne_t bo70 hc72) (pc' := 162) rfl ?_
      refine g_iloadN A54 d1_162 rfl (pc' := 163) rfl ?_
      refine g_ifN A54 d1_163 (b0_eq_f bo70 hc72) (pc' := 166) rfl ?_
      refine g_iloadN A54 d1_166 rfl (pc' := 167) rfl ?_
      refine g_ifY A54 d1_167 (b0_ne_t bo66 hc71) (pc' := 173) rfl ?_
      refine g_iload A54 d1_173 rfl (pc' := 175) rfl ?_
      exact g_ret (Q := QK2 Z a1 a2 f g x0 x1 y0 y1 h0 n0) A54 d1_175 Bd.notSynchronized Bd.returns rfl (Or.inl ⟨rfl, by simp, _, rfl⟩) (by decide) (by decide) (by rw [e53]; exact ⟨(congrArg (fun z => some (Value.int z)) (by rw [own_r_rmK2, if_pos hc71, if_pos hc72])), N52, rfl⟩)
    · skip
      refine g_ifN A54 d1_153 (b0_ne_f bo70 hc72) (pc' := 156) rfl ?_
      refine g_iconst A54 d1_156 (v := (-1 : Int32)) rfl (pc' := 157) rfl ?_
      refine g_istore A54 d1_157 (ls' := #[.val (.ref a1), .val (.ref a2), .val (.int o66), .val (.int o70), .val (.int (-1 : Int32))]) rfl (pc' := 159) rfl ?_
      refine g_goto A54 d1_159 (pc' := 173) rfl ?_
      refine g_iload A54 d1_173 rfl (pc' := 175) rfl ?_
      exact g_ret (Q := QK2 Z a1 a2 f g x0 x1 y0 y1 h0 n0) A54 d1_175 Bd.notSynchronized Bd.returns rfl (Or.inl ⟨rfl, by simp, _, rfl⟩) (by decide) (by decide) (by rw [e53]; exact ⟨(congrArg (fun z => some (Value.int z)) (by rw [own_r_rmK2, if_pos hc71, if_neg hc72])), N52, rfl⟩)
  · skip
    refine g_ifY A54 d1_149 (b0_eq_t bo66 hc71) (pc' := 162) rfl ?_
    refine g_iloadN A54 d1_162 rfl (pc' := 163) rfl ?_
    by_cases hc73 : ((FP.dcmp y0 x0 = some .lt) ∨ (FP.dcmp y1 x1 = some .lt))
    · skip
      refine g_ifN A54 d1_163 (b0_eq_f bo70 hc73) (pc' := 166) rfl ?_
      refine g_iloadN A54 d1_166 rfl (pc' := 167) rfl ?_
      refine g_ifN A54 d1_167 (b0_ne_f bo66 hc71) (pc' := 170) rfl ?_
      refine g_iconst A54 d1_170 (v := (1 : Int32)) rfl (pc' := 171) rfl ?_
      refine g_istore A54 d1_171 (ls' := #[.val (.ref a1), .val (.ref a2), .val (.int o66), .val (.int o70), .val (.int (1 : Int32))]) rfl (pc' := 173) rfl ?_
      refine g_iload A54 d1_173 rfl (pc' := 175) rfl ?_
      exact g_ret (Q := QK2 Z a1 a2 f g x0 x1 y0 y1 h0 n0) A54 d1_175 Bd.notSynchronized Bd.returns rfl (Or.inl ⟨rfl, by simp, _, rfl⟩) (by decide) (by decide) (by rw [e53]; exact ⟨(congrArg (fun z => some (Value.int z)) (by rw [own_r_rmK2, if_neg hc71, if_pos hc73])), N52, rfl⟩)
    · skip
      refine g_ifY A54 d1_163 (b0_eq_t bo70 hc73) (pc' := 173) rfl ?_
      refine g_iload A54 d1_173 rfl (pc' := 175) rfl ?_
      exact g_ret (Q := QK2 Z a1 a2 f g x0 x1 y0 y1 h0 n0) A54 d1_175 Bd.notSynchronized Bd.returns rfl (Or.inl ⟨rfl, by simp, _, rfl⟩) (by decide) (by decide) (by rw [e53]; exact ⟨(congrArg (fun z => some (Value.int z)) (by rw [own_r_rmK2, if_neg hc71, if_neg hc73])), N52, rfl⟩)
def own_r_rmK3 (x0 : UInt64) (x1 : UInt64) (x2 : UInt64) (y0 : UInt64) (y1 : UInt64) (y2 : UInt64) : Int32 := (if ((((FP.dcmp x0 y0 = some .lt) ∨ (FP.dcmp x1 y1 = some .lt))) ∨ (FP.dcmp x2 y2 = some .lt)) then (if ((((FP.dcmp y0 x0 = some .lt) ∨ (FP.dcmp y1 x1 = some .lt))) ∨ (FP.dcmp y2 x2 = some .lt)) then (0 : Int32) else (-1 : Int32)) else (if ((((FP.dcmp y0 x0 = some .lt) ∨ (FP.dcmp y1 x1 = some .lt))) ∨ (FP.dcmp y2 x2 = some .lt)) then (1 : Int32) else (0 : Int32)))
theorem ef74 (m : MethodId) (a1 : Addr) (a2 : Addr) (f : Nat → Value) (g : Nat → Value) (x0 : UInt64) (x1 : UInt64) (x2 : UInt64) (y0 : UInt64) (y1 : UInt64) (y2 : UInt64) : entryFrame m #[(.ref a1), (.ref a2)] 5 = mkF m 0 #[.val (.ref a1), .val (.ref a2), .unset, .unset, .unset] [] := by first | (simp [entryFrame, mkF, argsToLocals, Value.category]; done) | rfl
def QK3 (Z : State) (a1 : Addr) (a2 : Addr) (f : Nat → Value) (g : Nat → Value) (x0 : UInt64) (x1 : UInt64) (x2 : UInt64) (y0 : UInt64) (y1 : UInt64) (y2 : UInt64) (h0 : Heap) (n0 : Nat) (v : Option Value) (h : Heap) (L : List Loc) : Prop := v = some (.int (own_r_rmK3 x0 x1 x2 y0 y1 y2)) ∧ Fr n0 L ∧ h = h0
set_option maxRecDepth 65536 in
set_option maxHeartbeats 40000000 in
theorem rmK3 (l : Launch) (Z : State) (a0 : Array Value) (hw : ∀ d ∈ tables_1, d.before a0 Z = true) (ws : List Jvm.Cond) (a1 : Addr) (a2 : Addr) (f : Nat → Value) (g : Nat → Value) (x0 : UInt64) (x1 : UInt64) (x2 : UInt64) (y0 : UInt64) (y1 : UInt64) (y2 : UInt64) (h0 : Heap) (n0 : Nat) (Z0 : n0 ≤ h0.size) (V75 : Dar Z h0 a1 .double 3 f) (V76 : Dar Z h0 a2 .double 3 g) (hf0 : f 0 = .double x0) (hg0 : g 0 = .double y0) (hx0 : Fin64 x0) (hy0 : Fin64 y0) (hf1 : f 1 = .double x1) (hg1 : g 1 = .double y1) (hx1 : Fin64 x1) (hy1 : Fin64 y1) (hf2 : f 2 = .double x2) (hg2 : g 2 = .double y2) (hx2 : Fin64 x2) (hy2 : Fin64 y2) :
    MetFree l (⟨"com/example/tradewind/tradewind/front/Dominance", "compare", "([D[D)I"⟩ : MethodName) (head1 (Jvm.Cond.code (⟨"com/example/tradewind/tradewind/front/Dominance", "compare", "([D[D)I"⟩ : MethodName) prog_9_method_3_code 5 (some .int) :: ws) ({ frames := 1, cells := 0, slots := 0, locals := 13 } : Room)) (fun a U => a = #[(.ref a1), (.ref a2)] ∧ Z.Warmed39 U.vm ∧ U.heap = h0) (fun _ _ _ _ _ => True) (fun _ U o U' => ∃ v L, o = .returned v ∧ QK3 Z a1 a2 f g x0 x1 x2 y0 y1 y2 h0 n0 v U'.heap L ∧ FrameEnd U o U' L 0 0) := by
  refine MetFree.of_bodySF (plainFor_of_name pn_1) hisR ?_
  intro p e s m args below meth c s₁ Bd hml0 hP hK
  obtain ⟨rfl, hZ, hh⟩ := hP
  have hx := Bd.exec
  have hby := Bd.bytes
  have hml : c.maxLocals = 5 := hml0
  have hown : s.vm.findClass "com/example/tradewind/tradewind/front/Dominance" = some m.cls := findClass_of_methodNamed Bd.named
  have hnm := (name_of_methodNamed Bd.named Bd.method).1
  have X0 : Stand p l e ({ frames := 1, cells := 0, slots := 0, locals := 13 } : Room) s m #[(.ref a1), (.ref a2)] below meth c s₁ [] 0 0 := Stand.of_body Bd
  have e0 : s₁.heap = h0 := by rw [← hh, Bd.state]; rfl
  have N0 := Fr.nil n0
  have A0 := (⟨X0, hx, hby⟩ : Ax _ _ _ _ _ _ _ _ _ _ _ _ _ _ _)
  show Go p e below (fun U o => ∃ v L, o = .returned v ∧ QK3 Z a1 a2 f g x0 x1 x2 y0 y1 y2 h0 n0 v U.heap L ∧ FrameEnd s o U L 0 0) s₁ (entryFrame m #[(.ref a1), (.ref a2)] 5)
  refine Go.cast (ef74 m a1 a2 f g x0 x1 x2 y0 y1 y2) ?_
  refine g_aloadN A0 d1_0 rfl rfl (pc' := 1) rfl ?_
  refine g_alen A0 hZ e0 V75 d1_1 (z := (3 : Int32)) rfl (pc' := 2) rfl ?_
  refine g_aloadN A0 d1_2 rfl rfl (pc' := 3) rfl ?_
  refine g_alen A0 hZ e0 V76 d1_3 (z := (3 : Int32)) rfl (pc' := 4) rfl ?_
  refine g_icY A0 d1_4 (c2_eq_t rfl) (pc' := 24) rfl ?_
  refine g_aloadN A0 d1_24 rfl rfl (pc' := 25) rfl ?_
  refine g_alen A0 hZ e0 V75 d1_25 (z := (3 : Int32)) rfl (pc' := 26) rfl ?_
  refine g_ifY A0 d1_26 (c0_ne_t (by decide)) (pc' := 39) rfl ?_
  refine g_iconst A0 d1_39 (v := (0 : Int32)) rfl (pc' := 40) rfl ?_
  refine g_istoreN A0 d1_40 (ls' := #[.val (.ref a1), .val (.ref a2), .val (.int (0 : Int32)), .unset, .unset]) rfl (pc' := 41) rfl ?_
  refine g_iloadN A0 d1_41 rfl (pc' := 42) rfl ?_
  refine g_aloadN A0 d1_42 rfl rfl (pc' := 43) rfl ?_
  refine g_alen A0 hZ e0 V75 d1_43 (z := (3 : Int32)) rfl (pc' := 44) rfl ?_
  refine g_icN A0 d1_44 (c2_ge_f (by decide)) (pc' := 47) rfl ?_
  refine g_aloadN A0 d1_47 rfl rfl (pc' := 48) rfl ?_
  refine g_iloadN A0 d1_48 rfl (pc' := 49) rfl ?_
  refine g_daload A0 hZ e0 V75 (i := 0) (by decide) rfl (x := x0) hf0 d1_49 (pc' := 50) rfl ?_
  obtain ⟨_, _, ⟨T77, L77, k77, n77⟩, -, X77, ⟨L77c, hQ77, l77, y77, z77⟩, st77⟩ := Jvm.LawKit.callS X0 hx (y := (⟨"java/lang/Double", "isNaN", "(D)Z"⟩ : MethodName)) hown (mvT hZ (hw _ (List.mem_of_getElem? (i := 6) rfl))) (mvT hZ (hw _ (List.mem_of_getElem? (i := 7) rfl))) (mvT hZ (hw _ (List.mem_of_getElem? (i := 8) rfl))) (mvT hZ (hw _ (List.mem_of_getElem? (i := 9) rfl))) (by decide) (backOf (W := 0) (rm2 l Z a0 hw [] x0 h0 n0 Z0 hx0) hZ (hw _ (List.mem_of_getElem? (i := 9) rfl)) (hw _ (List.mem_of_getElem? (i := 8) rfl)) (by decide) (by decide)) (g := (mkF m 50 #[.val (.ref a1), .val (.ref a2), .val (.int (0 : Int32)), .unset, .unset] [(.double x0)])) rfl (by rw [hml]; rfl) (argsL := [(.double x0)]) (rest := []) (lenOf pd_0 rfl) rfl (by show 2 * 0 + _ ≤ _; exact Nat.le_of_eq rfl) (hb hby d1_50) (fun _ _ => ⟨rfl, e0, (by decide : 0 + 0 ≤ _), (by decide : 0 + 0 ≤ _)⟩)
  dsimp only [Pt.U, Pt.locs, Pt.cells, Pt.slots] at X77 l77 y77 z77 st77 hQ77
  subst l77 y77 z77
  obtain ⟨rfl, Nq78, Kq79⟩ := hQ77
  have N80 := Fr.app N0 Nq78
  refine Go.of (g' := (mkF m 53 #[.val (.ref a1), .val (.ref a2), .val (.int (0 : Int32)), .unset, .unset] [(.int (0 : Int32))])) st77 ?_
  have e81 : T77.heap = h0 := Kq79
  have A82 := (⟨X77, hx, hby⟩ : Ax _ _ _ _ _ _ _ _ _ _ _ _ _ _ _)
  refine g_ifN A82 d1_53 (c0_ne_f (by decide)) (pc' := 56) rfl ?_
  refine g_aloadN A82 d1_56 rfl rfl (pc' := 57) rfl ?_
  refine g_iloadN A82 d1_57 rfl (pc' := 58) rfl ?_
  refine g_daload A82 hZ e81 V76 (i := 0) (by decide) rfl (x := y0) hg0 d1_58 (pc' := 59) rfl ?_
  obtain ⟨_, _, ⟨T83, L83, k83, n83⟩, -, X83, ⟨L83c, hQ83, l83, y83, z83⟩, st83⟩ := Jvm.LawKit.callS X77 hx (y := (⟨"java/lang/Double", "isNaN", "(D)Z"⟩ : MethodName)) hown (mvT hZ (hw _ (List.mem_of_getElem? (i := 6) rfl))) (mvT hZ (hw _ (List.mem_of_getElem? (i := 7) rfl))) (mvT hZ (hw _ (List.mem_of_getElem? (i := 8) rfl))) (mvT hZ (hw _ (List.mem_of_getElem? (i := 9) rfl))) (by decide) (backOf (W := 0) (rm2 l Z a0 hw [] y0 h0 n0 Z0 hy0) hZ (hw _ (List.mem_of_getElem? (i := 9) rfl)) (hw _ (List.mem_of_getElem? (i := 8) rfl)) (by decide) (by decide)) (g := (mkF m 59 #[.val (.ref a1), .val (.ref a2), .val (.int (0 : Int32)), .unset, .unset] [(.double y0)])) rfl (by rw [hml]; rfl) (argsL := [(.double y0)]) (rest := []) (lenOf pd_0 rfl) rfl (by show 2 * 0 + _ ≤ _; exact Nat.le_of_eq rfl) (hb hby d1_59) (fun _ _ => ⟨rfl, e81, (by decide : 0 + 0 ≤ _), (by decide : 0 + 0 ≤ _)⟩)
  dsimp only [Pt.U, Pt.locs, Pt.cells, Pt.slots] at X83 l83 y83 z83 st83 hQ83
  subst l83 y83 z83
  obtain ⟨rfl, Nq84, Kq85⟩ := hQ83
  have N86 := Fr.app N80 Nq84
  refine Go.of (g' := (mkF m 62 #[.val (.ref a1), .val (.ref a2), .val (.int (0 : Int32)), .unset, .unset] [(.int (0 : Int32))])) st83 ?_
  have e87 : T83.heap = h0 := Kq85
  have A88 := (⟨X83, hx, hby⟩ : Ax _ _ _ _ _ _ _ _ _ _ _ _ _ _ _)
  refine g_ifY A88 d1_62 (c0_eq_t (by decide)) (pc' := 79) rfl ?_
  refine g_iinc A88 d1_79 rfl (y := (1 : Int32)) (by decide) (ls' := #[.val (.ref a1), .val (.ref a2), .val (.int (1 : Int32)), .unset, .unset]) rfl (pc' := 82) rfl ?_
  refine g_goto A88 d1_82 (pc' := 41) rfl ?_
  refine g_iloadN A88 d1_41 rfl (pc' := 42) rfl ?_
  refine g_aloadN A88 d1_42 rfl rfl (pc' := 43) rfl ?_
  refine g_alen A88 hZ e87 V75 d1_43 (z := (3 : Int32)) rfl (pc' := 44) rfl ?_
  refine g_icN A88 d1_44 (c2_ge_f (by decide)) (pc' := 47) rfl ?_
  refine g_aloadN A88 d1_47 rfl rfl (pc' := 48) rfl ?_
  refine g_iloadN A88 d1_48 rfl (pc' := 49) rfl ?_
  refine g_daload A88 hZ e87 V75 (i := 1) (by decide) rfl (x := x1) hf1 d1_49 (pc' := 50) rfl ?_
  obtain ⟨_, _, ⟨T89, L89, k89, n89⟩, -, X89, ⟨L89c, hQ89, l89, y89, z89⟩, st89⟩ := Jvm.LawKit.callS X83 hx (y := (⟨"java/lang/Double", "isNaN", "(D)Z"⟩ : MethodName)) hown (mvT hZ (hw _ (List.mem_of_getElem? (i := 6) rfl))) (mvT hZ (hw _ (List.mem_of_getElem? (i := 7) rfl))) (mvT hZ (hw _ (List.mem_of_getElem? (i := 8) rfl))) (mvT hZ (hw _ (List.mem_of_getElem? (i := 9) rfl))) (by decide) (backOf (W := 0) (rm2 l Z a0 hw [] x1 h0 n0 Z0 hx1) hZ (hw _ (List.mem_of_getElem? (i := 9) rfl)) (hw _ (List.mem_of_getElem? (i := 8) rfl)) (by decide) (by decide)) (g := (mkF m 50 #[.val (.ref a1), .val (.ref a2), .val (.int (1 : Int32)), .unset, .unset] [(.double x1)])) rfl (by rw [hml]; rfl) (argsL := [(.double x1)]) (rest := []) (lenOf pd_0 rfl) rfl (by show 2 * 0 + _ ≤ _; exact Nat.le_of_eq rfl) (hb hby d1_50) (fun _ _ => ⟨rfl, e87, (by decide : 0 + 0 ≤ _), (by decide : 0 + 0 ≤ _)⟩)
  dsimp only [Pt.U, Pt.locs, Pt.cells, Pt.slots] at X89 l89 y89 z89 st89 hQ89
  subst l89 y89 z89
  obtain ⟨rfl, Nq90, Kq91⟩ := hQ89
  have N92 := Fr.app N86 Nq90
  refine Go.of (g' := (mkF m 53 #[.val (.ref a1), .val (.ref a2), .val (.int (1 : Int32)), .unset, .unset] [(.int (0 : Int32))])) st89 ?_
  have e93 : T89.heap = h0 := Kq91
  have A94 := (⟨X89, hx, hby⟩ : Ax _ _ _ _ _ _ _ _ _ _ _ _ _ _ _)
  refine g_ifN A94 d1_53 (c0_ne_f (by decide)) (pc' := 56) rfl ?_
  refine g_aloadN A94 d1_56 rfl rfl (pc' := 57) rfl ?_
  refine g_iloadN A94 d1_57 rfl (pc' := 58) rfl ?_
  refine g_daload A94 hZ e93 V76 (i := 1) (by decide) rfl (x := y1) hg1 d1_58 (pc' := 59) rfl ?_
  obtain ⟨_, _, ⟨T95, L95, k95, n95⟩, -, X95, ⟨L95c, hQ95, l95, y95, z95⟩, st95⟩ := Jvm.LawKit.callS X89 hx (y := (⟨"java/lang/Double", "isNaN", "(D)Z"⟩ : MethodName)) hown (mvT hZ (hw _ (List.mem_of_getElem? (i := 6) rfl))) (mvT hZ (hw _ (List.mem_of_getElem? (i := 7) rfl))) (mvT hZ (hw _ (List.mem_of_getElem? (i := 8) rfl))) (mvT hZ (hw _ (List.mem_of_getElem? (i := 9) rfl))) (by decide) (backOf (W := 0) (rm2 l Z a0 hw [] y1 h0 n0 Z0 hy1) hZ (hw _ (List.mem_of_getElem? (i := 9) rfl)) (hw _ (List.mem_of_getElem? (i := 8) rfl)) (by decide) (by decide)) (g := (mkF m 59 #[.val (.ref a1), .val (.ref a2), .val (.int (1 : Int32)), .unset, .unset] [(.double y1)])) rfl (by rw [hml]; rfl) (argsL := [(.double y1)]) (rest := []) (lenOf pd_0 rfl) rfl (by show 2 * 0 + _ ≤ _; exact Nat.le_of_eq rfl) (hb hby d1_59) (fun _ _ => ⟨rfl, e93, (by decide : 0 + 0 ≤ _), (by decide : 0 + 0 ≤ _)⟩)
  dsimp only [Pt.U, Pt.locs, Pt.cells, Pt.slots] at X95 l95 y95 z95 st95 hQ95
  subst l95 y95 z95
  obtain ⟨rfl, Nq96, Kq97⟩ := hQ95
  have N98 := Fr.app N92 Nq96
  refine Go.of (g' := (mkF m 62 #[.val (.ref a1), .val (.ref a2), .val (.int (1 : Int32)), .unset, .unset] [(.int (0 : Int32))])) st95 ?_
  have e99 : T95.heap = h0 := Kq97
  have A100 := (⟨X95, hx, hby⟩ : Ax _ _ _ _ _ _ _ _ _ _ _ _ _ _ _)
  refine g_ifY A100 d1_62 (c0_eq_t (by decide)) (pc' := 79) rfl ?_
  refine g_iinc A100 d1_79 rfl (y := (2 : Int32)) (by decide) (ls' := #[.val (.ref a1), .val (.ref a2), .val (.int (2 : Int32)), .unset, .unset]) rfl (pc' := 82) rfl ?_
  refine g_goto A100 d1_82 (pc' := 41) rfl ?_
  refine g_iloadN A100 d1_41 rfl (pc' := 42) rfl ?_
  refine g_aloadN A100 d1_42 rfl rfl (pc' := 43) rfl ?_
  refine g_alen A100 hZ e99 V75 d1_43 (z := (3 : Int32)) rfl (pc' := 44) rfl ?_
  refine g_icN A100 d1_44 (c2_ge_f (by decide)) (pc' := 47) rfl ?_
  refine g_aloadN A100 d1_47 rfl rfl (pc' := 48) rfl ?_
  refine g_iloadN A100 d1_48 rfl (pc' := 49) rfl ?_
  refine g_daload A100 hZ e99 V75 (i := 2) (by decide) rfl (x := x2) hf2 d1_49 (pc' := 50) rfl ?_
  obtain ⟨_, _, ⟨T101, L101, k101, n101⟩, -, X101, ⟨L101c, hQ101, l101, y101, z101⟩, st101⟩ := Jvm.LawKit.callS X95 hx (y := (⟨"java/lang/Double", "isNaN", "(D)Z"⟩ : MethodName)) hown (mvT hZ (hw _ (List.mem_of_getElem? (i := 6) rfl))) (mvT hZ (hw _ (List.mem_of_getElem? (i := 7) rfl))) (mvT hZ (hw _ (List.mem_of_getElem? (i := 8) rfl))) (mvT hZ (hw _ (List.mem_of_getElem? (i := 9) rfl))) (by decide) (backOf (W := 0) (rm2 l Z a0 hw [] x2 h0 n0 Z0 hx2) hZ (hw _ (List.mem_of_getElem? (i := 9) rfl)) (hw _ (List.mem_of_getElem? (i := 8) rfl)) (by decide) (by decide)) (g := (mkF m 50 #[.val (.ref a1), .val (.ref a2), .val (.int (2 : Int32)), .unset, .unset] [(.double x2)])) rfl (by rw [hml]; rfl) (argsL := [(.double x2)]) (rest := []) (lenOf pd_0 rfl) rfl (by show 2 * 0 + _ ≤ _; exact Nat.le_of_eq rfl) (hb hby d1_50) (fun _ _ => ⟨rfl, e99, (by decide : 0 + 0 ≤ _), (by decide : 0 + 0 ≤ _)⟩)
  dsimp only [Pt.U, Pt.locs, Pt.cells, Pt.slots] at X101 l101 y101 z101 st101 hQ101
  subst l101 y101 z101
  obtain ⟨rfl, Nq102, Kq103⟩ := hQ101
  have N104 := Fr.app N98 Nq102
  refine Go.of (g' := (mkF m 53 #[.val (.ref a1), .val (.ref a2), .val (.int (2 : Int32)), .unset, .unset] [(.int (0 : Int32))])) st101 ?_
  have e105 : T101.heap = h0 := Kq103
  have A106 := (⟨X101, hx, hby⟩ : Ax _ _ _ _ _ _ _ _ _ _ _ _ _ _ _)
  refine g_ifN A106 d1_53 (c0_ne_f (by decide)) (pc' := 56) rfl ?_
  refine g_aloadN A106 d1_56 rfl rfl (pc' := 57) rfl ?_
  refine g_iloadN A106 d1_57 rfl (pc' := 58) rfl ?_
  refine g_daload A106 hZ e105 V76 (i := 2) (by decide) rfl (x := y2) hg2 d1_58 (pc' := 59) rfl ?_
  obtain ⟨_, _, ⟨T107, L107, k107, n107⟩, -, X107, ⟨L107c, hQ107, l107, y107, z107⟩, st107⟩ := Jvm.LawKit.callS X101 hx (y := (⟨"java/lang/Double", "isNaN", "(D)Z"⟩ : MethodName)) hown (mvT hZ (hw _ (List.mem_of_getElem? (i := 6) rfl))) (mvT hZ (hw _ (List.mem_of_getElem? (i := 7) rfl))) (mvT hZ (hw _ (List.mem_of_getElem? (i := 8) rfl))) (mvT hZ (hw _ (List.mem_of_getElem? (i := 9) rfl))) (by decide) (backOf (W := 0) (rm2 l Z a0 hw [] y2 h0 n0 Z0 hy2) hZ (hw _ (List.mem_of_getElem? (i := 9) rfl)) (hw _ (List.mem_of_getElem? (i := 8) rfl)) (by decide) (by decide)) (g := (mkF m 59 #[.val (.ref a1), .val (.ref a2), .val (.int (2 : Int32)), .unset, .unset] [(.double y2)])) rfl (by rw [hml]; rfl) (argsL := [(.double y2)]) (rest := []) (lenOf pd_0 rfl) rfl (by show 2 * 0 + _ ≤ _; exact Nat.le_of_eq rfl) (hb hby d1_59) (fun _ _ => ⟨rfl, e105, (by decide : 0 + 0 ≤ _), (by decide : 0 + 0 ≤ _)⟩)
  dsimp only [Pt.U, Pt.locs, Pt.cells, Pt.slots] at X107 l107 y107 z107 st107 hQ107
  subst l107 y107 z107
  obtain ⟨rfl, Nq108, Kq109⟩ := hQ107
  have N110 := Fr.app N104 Nq108
  refine Go.of (g' := (mkF m 62 #[.val (.ref a1), .val (.ref a2), .val (.int (2 : Int32)), .unset, .unset] [(.int (0 : Int32))])) st107 ?_
  have e111 : T107.heap = h0 := Kq109
  have A112 := (⟨X107, hx, hby⟩ : Ax _ _ _ _ _ _ _ _ _ _ _ _ _ _ _)
  refine g_ifY A112 d1_62 (c0_eq_t (by decide)) (pc' := 79) rfl ?_
  refine g_iinc A112 d1_79 rfl (y := (3 : Int32)) (by decide) (ls' := #[.val (.ref a1), .val (.ref a2), .val (.int (3 : Int32)), .unset, .unset]) rfl (pc' := 82) rfl ?_
  refine g_goto A112 d1_82 (pc' := 41) rfl ?_
  refine g_iloadN A112 d1_41 rfl (pc' := 42) rfl ?_
  refine g_aloadN A112 d1_42 rfl rfl (pc' := 43) rfl ?_
  refine g_alen A112 hZ e111 V75 d1_43 (z := (3 : Int32)) rfl (pc' := 44) rfl ?_
  refine g_icY A112 d1_44 (c2_ge_t (by decide)) (pc' := 85) rfl ?_
  refine g_iconst A112 d1_85 (v := (0 : Int32)) rfl (pc' := 86) rfl ?_
  refine g_istoreN A112 d1_86 (ls' := #[.val (.ref a1), .val (.ref a2), .val (.int (0 : Int32)), .unset, .unset]) rfl (pc' := 87) rfl ?_
  refine g_iconst A112 d1_87 (v := (0 : Int32)) rfl (pc' := 88) rfl ?_
  refine g_istoreN A112 d1_88 (ls' := #[.val (.ref a1), .val (.ref a2), .val (.int (0 : Int32)), .val (.int (0 : Int32)), .unset]) rfl (pc' := 89) rfl ?_
  refine g_iconst A112 d1_89 (v := (0 : Int32)) rfl (pc' := 90) rfl ?_
  refine g_istore A112 d1_90 (ls' := #[.val (.ref a1), .val (.ref a2), .val (.int (0 : Int32)), .val (.int (0 : Int32)), .val (.int (0 : Int32))]) rfl (pc' := 92) rfl ?_
  refine g_iload A112 d1_92 rfl (pc' := 94) rfl ?_
  refine g_aloadN A112 d1_94 rfl rfl (pc' := 95) rfl ?_
  refine g_alen A112 hZ e111 V75 d1_95 (z := (3 : Int32)) rfl (pc' := 96) rfl ?_
  refine g_icN A112 d1_96 (c2_ge_f (by decide)) (pc' := 99) rfl ?_
  refine g_iloadN A112 d1_99 rfl (pc' := 100) rfl ?_
  refine g_aloadN A112 d1_100 rfl rfl (pc' := 101) rfl ?_
  refine g_iload A112 d1_101 rfl (pc' := 103) rfl ?_
  refine g_daload A112 hZ e111 V75 (i := 0) (by decide) rfl (x := x0) hf0 d1_103 (pc' := 104) rfl ?_
  refine g_aloadN A112 d1_104 rfl rfl (pc' := 105) rfl ?_
  refine g_iload A112 d1_105 rfl (pc' := 107) rfl ?_
  refine g_daload A112 hZ e111 V76 (i := 0) (by decide) rfl (x := y0) hg0 d1_107 (pc' := 108) rfl ?_
  refine g_dcmp A112 d1_108 (pc' := 109) rfl ?_
  obtain ⟨v113, hv113⟩ : ∃ z : Int32, z = if FP.dcmp x0 y0 = some .lt then (1 : Int32) else 0 := ⟨_, rfl⟩
  have sg114 : ∀ {P : State → Outcome → Prop}, Go p e below P T107 (mkF m 117 #[.val (.ref a1), .val (.ref a2), .val (.int (0 : Int32)), .val (.int (0 : Int32)), .val (.int (0 : Int32))] [(.int v113), (.int (0 : Int32))]) → Go p e below P T107 (mkF m 109 #[.val (.ref a1), .val (.ref a2), .val (.int (0 : Int32)), .val (.int (0 : Int32)), .val (.int (0 : Int32))] [(.int (cmpValue (FP.dcmp x0 y0) .g)), (.int (0 : Int32))]) := by
    intro P hr
    by_cases c115 : FP.dcmp x0 y0 = some .lt
    · skip
      refine g_ifN A112 d1_109 (d_g_ge_f c115) (pc' := 112) rfl ?_
      refine g_iconst A112 d1_112 (v := (1 : Int32)) rfl (pc' := 113) rfl ?_
      refine g_goto A112 d1_113 (pc' := 117) rfl ?_
      obtain rfl : v113 = (1 : Int32) := hv113.trans (if_pos c115)
      exact hr
    · skip
      refine g_ifY A112 d1_109 (d_g_ge_t c115) (pc' := 116) rfl ?_
      refine g_iconst A112 d1_116 (v := (0 : Int32)) rfl (pc' := 117) rfl ?_
      obtain rfl : v113 = (0 : Int32) := hv113.trans (if_neg c115)
      exact hr
  refine sg114 ?_
  refine g_ior A112 d1_117 (pc' := 118) rfl ?_
  obtain ⟨o116, ho116⟩ : ∃ z : Int32, z = ((0 : Int32) ||| v113) := ⟨_, rfl⟩
  rw [← ho116]
  have bo116 : o116 = if FP.dcmp x0 y0 = some .lt then (1 : Int32) else 0 := by rw [ho116]; exact own_or0 hv113
  refine g_istoreN A112 d1_118 (ls' := #[.val (.ref a1), .val (.ref a2), .val (.int o116), .val (.int (0 : Int32)), .val (.int (0 : Int32))]) rfl (pc' := 119) rfl ?_
  refine g_iloadN A112 d1_119 rfl (pc' := 120) rfl ?_
  refine g_aloadN A112 d1_120 rfl rfl (pc' := 121) rfl ?_
  refine g_iload A112 d1_121 rfl (pc' := 123) rfl ?_
  refine g_daload A112 hZ e111 V76 (i := 0) (by decide) rfl (x := y0) hg0 d1_123 (pc' := 124) rfl ?_
  refine g_aloadN A112 d1_124 rfl rfl (pc' := 125) rfl ?_
  refine g_iload A112 d1_125 rfl (pc' := 127) rfl ?_
  refine g_daload A112 hZ e111 V75 (i := 0) (by decide) rfl (x := x0) hf0 d1_127 (pc' := 128) rfl ?_
  refine g_dcmp A112 d1_128 (pc' := 129) rfl ?_
  obtain ⟨v117, hv117⟩ : ∃ z : Int32, z = if FP.dcmp y0 x0 = some .lt then (1 : Int32) else 0 := ⟨_, rfl⟩
  have sg118 : ∀ {P : State → Outcome → Prop}, Go p e below P T107 (mkF m 137 #[.val (.ref a1), .val (.ref a2), .val (.int o116), .val (.int (0 : Int32)), .val (.int (0 : Int32))] [(.int v117), (.int (0 : Int32))]) → Go p e below P T107 (mkF m 129 #[.val (.ref a1), .val (.ref a2), .val (.int o116), .val (.int (0 : Int32)), .val (.int (0 : Int32))] [(.int (cmpValue (FP.dcmp y0 x0) .g)), (.int (0 : Int32))]) := by
    intro P hr
    by_cases c119 : FP.dcmp y0 x0 = some .lt
    · skip
      refine g_ifN A112 d1_129 (d_g_ge_f c119) (pc' := 132) rfl ?_
      refine g_iconst A112 d1_132 (v := (1 : Int32)) rfl (pc' := 133) rfl ?_
      refine g_goto A112 d1_133 (pc' := 137) rfl ?_
      obtain rfl : v117 = (1 : Int32) := hv117.trans (if_pos c119)
      exact hr
    · skip
      refine g_ifY A112 d1_129 (d_g_ge_t c119) (pc' := 136) rfl ?_
      refine g_iconst A112 d1_136 (v := (0 : Int32)) rfl (pc' := 137) rfl ?_
      obtain rfl : v117 = (0 : Int32) := hv117.trans (if_neg c119)
      exact hr
  refine sg118 ?_
  refine g_ior A112 d1_137 (pc' := 138) rfl ?_
  obtain ⟨o120, ho120⟩ : ∃ z : Int32, z = ((0 : Int32) ||| v117) := ⟨_, rfl⟩
  rw [← ho120]
  have bo120 : o120 = if FP.dcmp y0 x0 = some .lt then (1 : Int32) else 0 := by rw [ho120]; exact own_or0 hv117
  refine g_istoreN A112 d1_138 (ls' := #[.val (.ref a1), .val (.ref a2), .val (.int o116), .val (.int o120), .val (.int (0 : Int32))]) rfl (pc' := 139) rfl ?_
  refine g_iinc A112 d1_139 rfl (y := (1 : Int32)) (by decide) (ls' := #[.val (.ref a1), .val (.ref a2), .val (.int o116), .val (.int o120), .val (.int (1 : Int32))]) rfl (pc' := 142) rfl ?_
  refine g_goto A112 d1_142 (pc' := 92) rfl ?_
  refine g_iload A112 d1_92 rfl (pc' := 94) rfl ?_
  refine g_aloadN A112 d1_94 rfl rfl (pc' := 95) rfl ?_
  refine g_alen A112 hZ e111 V75 d1_95 (z := (3 : Int32)) rfl (pc' := 96) rfl ?_
  refine g_icN A112 d1_96 (c2_ge_f (by decide)) (pc' := 99) rfl ?_
  refine g_iloadN A112 d1_99 rfl (pc' := 100) rfl ?_
  refine g_aloadN A112 d1_100 rfl rfl (pc' := 101) rfl ?_
  refine g_iload A112 d1_101 rfl (pc' := 103) rfl ?_
  refine g_daload A112 hZ e111 V75 (i := 1) (by decide) rfl (x := x1) hf1 d1_103 (pc' := 104) rfl ?_
  refine g_aloadN A112 d1_104 rfl rfl (pc' := 105) rfl ?_
  refine g_iload A112 d1_105 rfl (pc' := 107) rfl ?_
  refine g_daload A112 hZ e111 V76 (i := 1) (by decide) rfl (x := y1) hg1 d1_107 (pc' := 108) rfl ?_
  refine g_dcmp A112 d1_108 (pc' := 109) rfl ?_
  obtain ⟨v121, hv121⟩ : ∃ z : Int32, z = if FP.dcmp x1 y1 = some .lt then (1 : Int32) else 0 := ⟨_, rfl⟩
  have sg122 : ∀ {P : State → Outcome → Prop}, Go p e below P T107 (mkF m 117 #[.val (.ref a1), .val (.ref a2), .val (.int o116), .val (.int o120), .val (.int (1 : Int32))] [(.int v121), (.int o116)]) → Go p e below P T107 (mkF m 109 #[.val (.ref a1), .val (.ref a2), .val (.int o116), .val (.int o120), .val (.int (1 : Int32))] [(.int (cmpValue (FP.dcmp x1 y1) .g)), (.int o116)]) := by
    intro P hr
    by_cases c123 : FP.dcmp x1 y1 = some .lt
    · skip
      refine g_ifN A112 d1_109 (d_g_ge_f c123) (pc' := 112) rfl ?_
      refine g_iconst A112 d1_112 (v := (1 : Int32)) rfl (pc' := 113) rfl ?_
      refine g_goto A112 d1_113 (pc' := 117) rfl ?_
      obtain rfl : v121 = (1 : Int32) := hv121.trans (if_pos c123)
      exact hr
    · skip
      refine g_ifY A112 d1_109 (d_g_ge_t c123) (pc' := 116) rfl ?_
      refine g_iconst A112 d1_116 (v := (0 : Int32)) rfl (pc' := 117) rfl ?_
      obtain rfl : v121 = (0 : Int32) := hv121.trans (if_neg c123)
      exact hr
  refine sg122 ?_
  refine g_ior A112 d1_117 (pc' := 118) rfl ?_
  obtain ⟨o124, ho124⟩ : ∃ z : Int32, z = (o116 ||| v121) := ⟨_, rfl⟩
  rw [← ho124]
  have bo124 : o124 = if ((FP.dcmp x0 y0 = some .lt) ∨ (FP.dcmp x1 y1 = some .lt)) then (1 : Int32) else 0 := by rw [ho124]; exact own_orb bo116 hv121
  refine g_istoreN A112 d1_118 (ls' := #[.val (.ref a1), .val (.ref a2), .val (.int o124), .val (.int o120), .val (.int (1 : Int32))]) rfl (pc' := 119) rfl ?_
  refine g_iloadN A112 d1_119 rfl (pc' := 120) rfl ?_
  refine g_aloadN A112 d1_120 rfl rfl (pc' := 121) rfl ?_
  refine g_iload A112 d1_121 rfl (pc' := 123) rfl ?_
  refine g_daload A112 hZ e111 V76 (i := 1) (by decide) rfl (x := y1) hg1 d1_123 (pc' := 124) rfl ?_
  refine g_aloadN A112 d1_124 rfl rfl (pc' := 125) rfl ?_
  refine g_iload A112 d1_125 rfl (pc' := 127) rfl ?_
  refine g_daload A112 hZ e111 V75 (i := 1) (by decide) rfl (x := x1) hf1 d1_127 (pc' := 128) rfl ?_
  refine g_dcmp A112 d1_128 (pc' := 129) rfl ?_
  obtain ⟨v125, hv125⟩ : ∃ z : Int32, z = if FP.dcmp y1 x1 = some .lt then (1 : Int32) else 0 := ⟨_, rfl⟩
  have sg126 : ∀ {P : State → Outcome → Prop}, Go p e below P T107 (mkF m 137 #[.val (.ref a1), .val (.ref a2), .val (.int o124), .val (.int o120), .val (.int (1 : Int32))] [(.int v125), (.int o120)]) → Go p e below P T107 (mkF m 129 #[.val (.ref a1), .val (.ref a2), .val (.int o124), .val (.int o120), .val (.int (1 : Int32))] [(.int (cmpValue (FP.dcmp y1 x1) .g)), (.int o120)]) := by
    intro P hr
    by_cases c127 : FP.dcmp y1 x1 = some .lt
    · skip
      refine g_ifN A112 d1_129 (d_g_ge_f c127) (pc' := 132) rfl ?_
      refine g_iconst A112 d1_132 (v := (1 : Int32)) rfl (pc' := 133) rfl ?_
      refine g_goto A112 d1_133 (pc' := 137) rfl ?_
      obtain rfl : v125 = (1 : Int32) := hv125.trans (if_pos c127)
      exact hr
    · skip
      refine g_ifY A112 d1_129 (d_g_ge_t c127) (pc' := 136) rfl ?_
      refine g_iconst A112 d1_136 (v := (0 : Int32)) rfl (pc' := 137) rfl ?_
      obtain rfl : v125 = (0 : Int32) := hv125.trans (if_neg c127)
      exact hr
  refine sg126 ?_
  refine g_ior A112 d1_137 (pc' := 138) rfl ?_
  obtain ⟨o128, ho128⟩ : ∃ z : Int32, z = (o120 ||| v125) := ⟨_, rfl⟩
  rw [← ho128]
  have bo128 : o128 = if ((FP.dcmp y0 x0 = some .lt) ∨ (FP.dcmp y1 x1 = some .lt)) then (1 : Int32) else 0 := by rw [ho128]; exact own_orb bo120 hv125
  refine g_istoreN A112 d1_138 (ls' := #[.val (.ref a1), .val (.ref a2), .val (.int o124), .val (.int o128), .val (.int (1 : Int32))]) rfl (pc' := 139) rfl ?_
  refine g_iinc A112 d1_139 rfl (y := (2 : Int32)) (by decide) (ls' := #[.val (.ref a1), .val (.ref a2), .val (.int o124), .val (.int o128), .val (.int (2 : Int32))]) rfl (pc' := 142) rfl ?_
  refine g_goto A112 d1_142 (pc' := 92) rfl ?_
  refine g_iload A112 d1_92 rfl (pc' := 94) rfl ?_
  refine g_aloadN A112 d1_94 rfl rfl (pc' := 95) rfl ?_
  refine g_alen A112 hZ e111 V75 d1_95 (z := (3 : Int32)) rfl (pc' := 96) rfl ?_
  refine g_icN A112 d1_96 (c2_ge_f (by decide)) (pc' := 99) rfl ?_
  refine g_iloadN A112 d1_99 rfl (pc' := 100) rfl ?_
  refine g_aloadN A112 d1_100 rfl rfl (pc' := 101) rfl ?_
  refine g_iload A112 d1_101 rfl (pc' := 103) rfl ?_
  refine g_daload A112 hZ e111 V75 (i := 2) (by decide) rfl (x := x2) hf2 d1_103 (pc' := 104) rfl ?_
  refine g_aloadN A112 d1_104 rfl rfl (pc' := 105) rfl ?_
  refine g_iload A112 d1_105 rfl (pc' := 107) rfl ?_
  refine g_daload A112 hZ e111 V76 (i := 2) (by decide) rfl (x := y2) hg2 d1_107 (pc' := 108) rfl ?_
  refine g_dcmp A112 d1_108 (pc' := 109) rfl ?_
  obtain ⟨v129, hv129⟩ : ∃ z : Int32, z = if FP.dcmp x2 y2 = some .lt then (1 : Int32) else 0 := ⟨_, rfl⟩
  have sg130 : ∀ {P : State → Outcome → Prop}, Go p e below P T107 (mkF m 117 #[.val (.ref a1), .val (.ref a2), .val (.int o124), .val (.int o128), .val (.int (2 : Int32))] [(.int v129), (.int o124)]) → Go p e below P T107 (mkF m 109 #[.val (.ref a1), .val (.ref a2), .val (.int o124), .val (.int o128), .val (.int (2 : Int32))] [(.int (cmpValue (FP.dcmp x2 y2) .g)), (.int o124)]) := by
    intro P hr
    by_cases c131 : FP.dcmp x2 y2 = some .lt
    · skip
      refine g_ifN A112 d1_109 (d_g_ge_f c131) (pc' := 112) rfl ?_
      refine g_iconst A112 d1_112 (v := (1 : Int32)) rfl (pc' := 113) rfl ?_
      refine g_goto A112 d1_113 (pc' := 117) rfl ?_
      obtain rfl : v129 = (1 : Int32) := hv129.trans (if_pos c131)
      exact hr
    · skip
      refine g_ifY A112 d1_109 (d_g_ge_t c131) (pc' := 116) rfl ?_
      refine g_iconst A112 d1_116 (v := (0 : Int32)) rfl (pc' := 117) rfl ?_
      obtain rfl : v129 = (0 : Int32) := hv129.trans (if_neg c131)
      exact hr
  refine sg130 ?_
  refine g_ior A112 d1_117 (pc' := 118) rfl ?_
  obtain ⟨o132, ho132⟩ : ∃ z : Int32, z = (o124 ||| v129) := ⟨_, rfl⟩
  rw [← ho132]
  have bo132 : o132 = if ((((FP.dcmp x0 y0 = some .lt) ∨ (FP.dcmp x1 y1 = some .lt))) ∨ (FP.dcmp x2 y2 = some .lt)) then (1 : Int32) else 0 := by rw [ho132]; exact own_orb bo124 hv129
  refine g_istoreN A112 d1_118 (ls' := #[.val (.ref a1), .val (.ref a2), .val (.int o132), .val (.int o128), .val (.int (2 : Int32))]) rfl (pc' := 119) rfl ?_
  refine g_iloadN A112 d1_119 rfl (pc' := 120) rfl ?_
  refine g_aloadN A112 d1_120 rfl rfl (pc' := 121) rfl ?_
  refine g_iload A112 d1_121 rfl (pc' := 123) rfl ?_
  refine g_daload A112 hZ e111 V76 (i := 2) (by decide) rfl (x := y2) hg2 d1_123 (pc' := 124) rfl ?_
  refine g_aloadN A112 d1_124 rfl rfl (pc' := 125) rfl ?_
  refine g_iload A112 d1_125 rfl (pc' := 127) rfl ?_
  refine g_daload A112 hZ e111 V75 (i := 2) (by decide) rfl (x := x2) hf2 d1_127 (pc' := 128) rfl ?_
  refine g_dcmp A112 d1_128 (pc' := 129) rfl ?_
  obtain ⟨v133, hv133⟩ : ∃ z : Int32, z = if FP.dcmp y2 x2 = some .lt then (1 : Int32) else 0 := ⟨_, rfl⟩
  have sg134 : ∀ {P : State → Outcome → Prop}, Go p e below P T107 (mkF m 137 #[.val (.ref a1), .val (.ref a2), .val (.int o132), .val (.int o128), .val (.int (2 : Int32))] [(.int v133), (.int o128)]) → Go p e below P T107 (mkF m 129 #[.val (.ref a1), .val (.ref a2), .val (.int o132), .val (.int o128), .val (.int (2 : Int32))] [(.int (cmpValue (FP.dcmp y2 x2) .g)), (.int o128)]) := by
    intro P hr
    by_cases c135 : FP.dcmp y2 x2 = some .lt
    · skip
      refine g_ifN A112 d1_129 (d_g_ge_f c135) (pc' := 132) rfl ?_
      refine g_iconst A112 d1_132 (v := (1 : Int32)) rfl (pc' := 133) rfl ?_
      refine g_goto A112 d1_133 (pc' := 137) rfl ?_
      obtain rfl : v133 = (1 : Int32) := hv133.trans (if_pos c135)
      exact hr
    · skip
      refine g_ifY A112 d1_129 (d_g_ge_t c135) (pc' := 136) rfl ?_
      refine g_iconst A112 d1_136 (v := (0 : Int32)) rfl (pc' := 137) rfl ?_
      obtain rfl : v133 = (0 : Int32) := hv133.trans (if_neg c135)
      exact hr
  refine sg134 ?_
  refine g_ior A112 d1_137 (pc' := 138) rfl ?_
  obtain ⟨o136, ho136⟩ : ∃ z : Int32, z = (o128 ||| v133) := ⟨_, rfl⟩
  rw [← ho136]
  have bo136 : o136 = if ((((FP.dcmp y0 x0 = some .lt) ∨ (FP.dcmp y1 x1 = some .lt))) ∨ (FP.dcmp y2 x2 = some .lt)) then (1 : Int32) else 0 := by rw [ho136]; exact own_orb bo128 hv133
  refine g_istoreN A112 d1_138 (ls' := #[.val (.ref a1), .val (.ref a2), .val (.int o132), .val (.int o136), .val (.int (2 : Int32))]) rfl (pc' := 139) rfl ?_
  refine g_iinc A112 d1_139 rfl (y := (3 : Int32)) (by decide) (ls' := #[.val (.ref a1), .val (.ref a2), .val (.int o132), .val (.int o136), .val (.int (3 : Int32))]) rfl (pc' := 142) rfl ?_
  refine g_goto A112 d1_142 (pc' := 92) rfl ?_
  refine g_iload A112 d1_92 rfl (pc' := 94) rfl ?_
  refine g_aloadN A112 d1_94 rfl rfl (pc' := 95) rfl ?_
  refine g_alen A112 hZ e111 V75 d1_95 (z := (3 : Int32)) rfl (pc' := 96) rfl ?_
  refine g_icY A112 d1_96 (c2_ge_t (by decide)) (pc' := 145) rfl ?_
  refine g_iconst A112 d1_145 (v := (0 : Int32)) rfl (pc' := 146) rfl ?_
  refine g_istore A112 d1_146 (ls' := #[.val (.ref a1), .val (.ref a2), .val (.int o132), .val (.int o136), .val (.int (0 : Int32))]) rfl (pc' := 148) rfl ?_
  refine g_iloadN A112 d1_148 rfl (pc' := 149) rfl ?_
  by_cases hc137 : ((((FP.dcmp x0 y0 = some .lt) ∨ (FP.dcmp x1 y1 = some .lt))) ∨ (FP.dcmp x2 y2 = some .lt))
  · skip
    refine g_ifN A112 d1_149 (b0_eq_f bo132 hc137) (pc' := 152) rfl ?_
    refine g_iloadN A112 d1_152 rfl (pc' := 153) rfl ?_
    by_cases hc138 : ((((FP.dcmp y0 x0 = some .lt) ∨ (FP.dcmp y1 x1 = some .lt))) ∨ (FP.dcmp y2 x2 = some .lt))
    · skip
      refine g_ifY A112 d1_153 (b0_ne_t bo136 hc138) (pc' := 162) rfl ?_
      refine g_iloadN A112 d1_162 rfl (pc' := 163) rfl ?_
      refine g_ifN A112 d1_163 (b0_eq_f bo136 hc138) (pc' := 166) rfl ?_
      refine g_iloadN A112 d1_166 rfl (pc' := 167) rfl ?_
      refine g_ifY A112 d1_167 (b0_ne_t bo132 hc137) (pc' := 173) rfl ?_
      refine g_iload A112 d1_173 rfl (pc' := 175) rfl ?_
      exact g_ret (Q := QK3 Z a1 a2 f g x0 x1 x2 y0 y1 y2 h0 n0) A112 d1_175 Bd.notSynchronized Bd.returns rfl (Or.inl ⟨rfl, by simp, _, rfl⟩) (by decide) (by decide) (by rw [e111]; exact ⟨(congrArg (fun z => some (Value.int z)) (by rw [own_r_rmK3, if_pos hc137, if_pos hc138])), N110, rfl⟩)
    · skip
      refine g_ifN A112 d1_153 (b0_ne_f bo136 hc138) (pc' := 156) rfl ?_
      refine g_iconst A112 d1_156 (v := (-1 : Int32)) rfl (pc' := 157) rfl ?_
      refine g_istore A112 d1_157 (ls' := #[.val (.ref a1), .val (.ref a2), .val (.int o132), .val (.int o136), .val (.int (-1 : Int32))]) rfl (pc' := 159) rfl ?_
      refine g_goto A112 d1_159 (pc' := 173) rfl ?_
      refine g_iload A112 d1_173 rfl (pc' := 175) rfl ?_
      exact g_ret (Q := QK3 Z a1 a2 f g x0 x1 x2 y0 y1 y2 h0 n0) A112 d1_175 Bd.notSynchronized Bd.returns rfl (Or.inl ⟨rfl, by simp, _, rfl⟩) (by decide) (by decide) (by rw [e111]; exact ⟨(congrArg (fun z => some (Value.int z)) (by rw [own_r_rmK3, if_pos hc137, if_neg hc138])), N110, rfl⟩)
  · skip
    refine g_ifY A112 d1_149 (b0_eq_t bo132 hc137) (pc' := 162) rfl ?_
    refine g_iloadN A112 d1_162 rfl (pc' := 163) rfl ?_
    by_cases hc139 : ((((FP.dcmp y0 x0 = some .lt) ∨ (FP.dcmp y1 x1 = some .lt))) ∨ (FP.dcmp y2 x2 = some .lt))
    · skip
      refine g_ifN A112 d1_163 (b0_eq_f bo136 hc139) (pc' := 166) rfl ?_
      refine g_iloadN A112 d1_166 rfl (pc' := 167) rfl ?_
      refine g_ifN A112 d1_167 (b0_ne_f bo132 hc137) (pc' := 170) rfl ?_
      refine g_iconst A112 d1_170 (v := (1 : Int32)) rfl (pc' := 171) rfl ?_
      refine g_istore A112 d1_171 (ls' := #[.val (.ref a1), .val (.ref a2), .val (.int o132), .val (.int o136), .val (.int (1 : Int32))]) rfl (pc' := 173) rfl ?_
      refine g_iload A112 d1_173 rfl (pc' := 175) rfl ?_
      exact g_ret (Q := QK3 Z a1 a2 f g x0 x1 x2 y0 y1 y2 h0 n0) A112 d1_175 Bd.notSynchronized Bd.returns rfl (Or.inl ⟨rfl, by simp, _, rfl⟩) (by decide) (by decide) (by rw [e111]; exact ⟨(congrArg (fun z => some (Value.int z)) (by rw [own_r_rmK3, if_neg hc137, if_pos hc139])), N110, rfl⟩)
    · skip
      refine g_ifY A112 d1_163 (b0_eq_t bo136 hc139) (pc' := 173) rfl ?_
      refine g_iload A112 d1_173 rfl (pc' := 175) rfl ?_
      exact g_ret (Q := QK3 Z a1 a2 f g x0 x1 x2 y0 y1 y2 h0 n0) A112 d1_175 Bd.notSynchronized Bd.returns rfl (Or.inl ⟨rfl, by simp, _, rfl⟩) (by decide) (by decide) (by rw [e111]; exact ⟨(congrArg (fun z => some (Value.int z)) (by rw [own_r_rmK3, if_neg hc137, if_neg hc139])), N110, rfl⟩)
theorem own_lt (a b : Int32) : (FP.dcmp (FP.i2d a) (FP.i2d b) = some .lt) ↔ a < b := by
  rw [show FP.dcmp (FP.i2d a) (FP.i2d b) = some (compare a.toInt b.toInt) from FP.Core.dcmp_int (FP.Core.i2d_int a) (FP.Core.i2d_int b), Option.some.injEq, FP.Core.compare_lt_iff, Int32.lt_iff_toInt_lt]
theorem own_k3 (p : Int32) : (((p &&& (2147483647 : Int32)) % (3 : Int32)) + (1 : Int32)) = 1 ∨ (((p &&& (2147483647 : Int32)) % (3 : Int32)) + (1 : Int32)) = 2 ∨ (((p &&& (2147483647 : Int32)) % (3 : Int32)) + (1 : Int32)) = 3 := by
  have h := c_mask p 2147483647 31 (by decide) (by decide)
  have e : ((3 : Int32)).toInt = 3 := rfl
  have h2 := (c_irem (p &&& 2147483647) 3 3 e).1 (by rw [h]; omega)
  have s := c_iadd ((p &&& (2147483647 : Int32)) % (3 : Int32)) 1
  have r := rng32 (((p &&& (2147483647 : Int32)) % (3 : Int32)) + 1)
  have e1 : (1 : Int32).toInt = 1 := rfl
  have e2 : (2 : Int32).toInt = 2 := rfl
  have e3 : (3 : Int32).toInt = 3 := rfl
  simp only [← Int32.toInt_inj, e1, e2, e3]
  omega
def own_sel (P Q : Prop) [Decidable P] [Decidable Q] : Int32 := if P then (if Q then 0 else -1) else (if Q then 1 else 0)
theorem own_neg (P Q : Prop) [Decidable P] [Decidable Q] : own_sel Q P = - own_sel P Q := by
  unfold own_sel; by_cases p : P <;> by_cases q : Q <;> simp [p, q]
theorem pn_2 : plainName "com/example/tradewind/tradewind/front/DominanceComparePinLaw" = true := by first | (simp [plainName, overriddenIn]; done) | decide +kernel
theorem ef140 (m : MethodId) (p0 : Int32) (p1 : Int32) (p2 : Int32) : entryFrame m #[(.int p0), (.int p1), (.int p2)] maxLocals = mkF m 0 #[.val (.int p0), .val (.int p1), .val (.int p2), .unset, .unset, .unset, .unset, .unset, .unset, .unset, .unset, .unset, .unset, .unset, .unset, .unset, .unset, .unset] [] := by first | (simp [entryFrame, mkF, argsToLocals, Value.category, maxLocals]; done) | rfl
def Q0 (Z : State) (p0 : Int32) (p1 : Int32) (p2 : Int32) (h0 : Heap) (n0 : Nat) (v : Option Value) (h : Heap) (L : List Loc) : Prop := v = some (.int 1) ∧ Fr n0 L
theorem pd_1 : parseMethodDescriptor "([D[D)I" = some ⟨[(.array .double), (.array .double)], some .int⟩ := by decide +kernel
set_option maxRecDepth 65536 in
set_option maxHeartbeats 40000000 in
theorem rm0 (l : Launch) (Z : State) (a0 : Array Value) (hw : ∀ d ∈ tables_1, d.before a0 Z = true) (ws : List Jvm.Cond) (p0 : Int32) (p1 : Int32) (p2 : Int32) (h0 : Heap) (n0 : Nat) (Z0 : n0 ≤ h0.size)  :
    MetFree l x (head1 (Jvm.Cond.code x code maxLocals ret :: ws) room_1) (fun a U => a = #[(.int p0), (.int p1), (.int p2)] ∧ Z.Warmed39 U.vm ∧ U.heap = h0) (fun _ _ _ _ _ => True) (fun _ U o U' => ∃ v L, o = .returned v ∧ Q0 Z p0 p1 p2 h0 n0 v U'.heap L ∧ FrameEnd U o U' L 2 6) := by
  refine MetFree.of_bodySF (plainFor_of_name pn_2) hisR ?_
  intro p e s m args below meth c s₁ Bd hml0 hP hK
  obtain ⟨rfl, hZ, hh⟩ := hP
  have hx := Bd.exec
  have hby := Bd.bytes
  have hml : c.maxLocals = 18 := hml0
  have hown : s.vm.findClass "com/example/tradewind/tradewind/front/DominanceComparePinLaw" = some m.cls := findClass_of_methodNamed Bd.named
  have hnm := (name_of_methodNamed Bd.named Bd.method).1
  have X0 : Stand p l e room_1 s m #[(.int p0), (.int p1), (.int p2)] below meth c s₁ [] 0 0 := Stand.of_body Bd
  have e0 : s₁.heap = h0 := by rw [← hh, Bd.state]; rfl
  have N0 := Fr.nil n0
  have A0 := (⟨X0, hx, hby⟩ : Ax _ _ _ _ _ _ _ _ _ _ _ _ _ _ _)
  show Go p e below (fun U o => ∃ v L, o = .returned v ∧ Q0 Z p0 p1 p2 h0 n0 v U.heap L ∧ FrameEnd s o U L 2 6) s₁ (entryFrame m #[(.int p0), (.int p1), (.int p2)] maxLocals)
  refine Go.cast (ef140 m p0 p1 p2) ?_
  refine g_iloadN A0 at_0 rfl (pc' := 1) rfl ?_
  refine g_ldcI A0 hZ hown (hw _ (List.mem_of_getElem? (i := 0) rfl)) at_1 (pc' := 3) rfl ?_
  refine g_iand A0 at_3 (pc' := 4) rfl ?_
  refine g_iconst A0 at_4 (v := (3 : Int32)) rfl (pc' := 5) rfl ?_
  refine g_irem A0 at_5 (by decide) (pc' := 6) rfl ?_
  refine g_iconst A0 at_6 (v := (1 : Int32)) rfl (pc' := 7) rfl ?_
  refine g_iadd A0 at_7 (pc' := 8) rfl ?_
  obtain ⟨k141, hk141⟩ : ∃ z : Int32, z = (((p2 &&& (2147483647 : Int32)) % (3 : Int32)) + (1 : Int32)) := ⟨_, rfl⟩
  rw [← hk141]
  have k3 := own_k3 p2
  rw [← hk141] at k3
  rcases k3 with hg142 | hg142 | hg142
  · skip
    rw [hg142]
    refine g_istoreN A0 at_8 (ls' := #[.val (.int p0), .val (.int p1), .val (.int p2), .val (.int (1 : Int32)), .unset, .unset, .unset, .unset, .unset, .unset, .unset, .unset, .unset, .unset, .unset, .unset, .unset, .unset]) rfl (pc' := 9) rfl ?_
    refine g_iloadN A0 at_9 rfl (pc' := 10) rfl ?_
    refine g_bipush A0 at_10 (v := (7 : Int32)) rfl (pc' := 12) rfl ?_
    refine g_iand A0 at_12 (pc' := 13) rfl ?_
    refine g_iconst A0 at_13 (v := (4 : Int32)) rfl (pc' := 14) rfl ?_
    refine g_isub A0 at_14 (pc' := 15) rfl ?_
    obtain ⟨z143, hz143⟩ : ∃ z : Int32, z = ((p0 &&& (7 : Int32)) - (4 : Int32)) := ⟨_, rfl⟩
    rw [← hz143]
    refine g_istore A0 at_15 (ls' := #[.val (.int p0), .val (.int p1), .val (.int p2), .val (.int (1 : Int32)), .val (.int z143), .unset, .unset, .unset, .unset, .unset, .unset, .unset, .unset, .unset, .unset, .unset, .unset, .unset]) rfl (pc' := 17) rfl ?_
    refine g_iloadN A0 at_17 rfl (pc' := 18) rfl ?_
    refine g_iconst A0 at_18 (v := (3 : Int32)) rfl (pc' := 19) rfl ?_
    refine g_ishr A0 at_19 (pc' := 20) rfl ?_
    refine g_bipush A0 at_20 (v := (7 : Int32)) rfl (pc' := 22) rfl ?_
    refine g_iand A0 at_22 (pc' := 23) rfl ?_
    refine g_iconst A0 at_23 (v := (4 : Int32)) rfl (pc' := 24) rfl ?_
    refine g_isub A0 at_24 (pc' := 25) rfl ?_
    obtain ⟨z144, hz144⟩ : ∃ z : Int32, z = (((p0 >>> ((3 : Int32) &&& 31)) &&& (7 : Int32)) - (4 : Int32)) := ⟨_, rfl⟩
    rw [← hz144]
    refine g_istore A0 at_25 (ls' := #[.val (.int p0), .val (.int p1), .val (.int p2), .val (.int (1 : Int32)), .val (.int z143), .val (.int z144), .unset, .unset, .unset, .unset, .unset, .unset, .unset, .unset, .unset, .unset, .unset, .unset]) rfl (pc' := 27) rfl ?_
    refine g_iloadN A0 at_27 rfl (pc' := 28) rfl ?_
    refine g_bipush A0 at_28 (v := (6 : Int32)) rfl (pc' := 30) rfl ?_
    refine g_ishr A0 at_30 (pc' := 31) rfl ?_
    refine g_bipush A0 at_31 (v := (7 : Int32)) rfl (pc' := 33) rfl ?_
    refine g_iand A0 at_33 (pc' := 34) rfl ?_
    refine g_iconst A0 at_34 (v := (4 : Int32)) rfl (pc' := 35) rfl ?_
    refine g_isub A0 at_35 (pc' := 36) rfl ?_
    obtain ⟨z145, hz145⟩ : ∃ z : Int32, z = (((p0 >>> ((6 : Int32) &&& 31)) &&& (7 : Int32)) - (4 : Int32)) := ⟨_, rfl⟩
    rw [← hz145]
    refine g_istore A0 at_36 (ls' := #[.val (.int p0), .val (.int p1), .val (.int p2), .val (.int (1 : Int32)), .val (.int z143), .val (.int z144), .val (.int z145), .unset, .unset, .unset, .unset, .unset, .unset, .unset, .unset, .unset, .unset, .unset]) rfl (pc' := 38) rfl ?_
    refine g_iloadN A0 at_38 rfl (pc' := 39) rfl ?_
    refine g_bipush A0 at_39 (v := (7 : Int32)) rfl (pc' := 41) rfl ?_
    refine g_iand A0 at_41 (pc' := 42) rfl ?_
    refine g_iconst A0 at_42 (v := (4 : Int32)) rfl (pc' := 43) rfl ?_
    refine g_isub A0 at_43 (pc' := 44) rfl ?_
    obtain ⟨z146, hz146⟩ : ∃ z : Int32, z = ((p1 &&& (7 : Int32)) - (4 : Int32)) := ⟨_, rfl⟩
    rw [← hz146]
    refine g_istore A0 at_44 (ls' := #[.val (.int p0), .val (.int p1), .val (.int p2), .val (.int (1 : Int32)), .val (.int z143), .val (.int z144), .val (.int z145), .val (.int z146), .unset, .unset, .unset, .unset, .unset, .unset, .unset, .unset, .unset, .unset]) rfl (pc' := 46) rfl ?_
    refine g_iloadN A0 at_46 rfl (pc' := 47) rfl ?_
    refine g_iconst A0 at_47 (v := (3 : Int32)) rfl (pc' := 48) rfl ?_
    refine g_ishr A0 at_48 (pc' := 49) rfl ?_
    refine g_bipush A0 at_49 (v := (7 : Int32)) rfl (pc' := 51) rfl ?_
    refine g_iand A0 at_51 (pc' := 52) rfl ?_
    refine g_iconst A0 at_52 (v := (4 : Int32)) rfl (pc' := 53) rfl ?_
    refine g_isub A0 at_53 (pc' := 54) rfl ?_
    obtain ⟨z147, hz147⟩ : ∃ z : Int32, z = (((p1 >>> ((3 : Int32) &&& 31)) &&& (7 : Int32)) - (4 : Int32)) := ⟨_, rfl⟩
    rw [← hz147]
    refine g_istore A0 at_54 (ls' := #[.val (.int p0), .val (.int p1), .val (.int p2), .val (.int (1 : Int32)), .val (.int z143), .val (.int z144), .val (.int z145), .val (.int z146), .val (.int z147), .unset, .unset, .unset, .unset, .unset, .unset, .unset, .unset, .unset]) rfl (pc' := 56) rfl ?_
    refine g_iloadN A0 at_56 rfl (pc' := 57) rfl ?_
    refine g_bipush A0 at_57 (v := (6 : Int32)) rfl (pc' := 59) rfl ?_
    refine g_ishr A0 at_59 (pc' := 60) rfl ?_
    refine g_bipush A0 at_60 (v := (7 : Int32)) rfl (pc' := 62) rfl ?_
    refine g_iand A0 at_62 (pc' := 63) rfl ?_
    refine g_iconst A0 at_63 (v := (4 : Int32)) rfl (pc' := 64) rfl ?_
    refine g_isub A0 at_64 (pc' := 65) rfl ?_
    obtain ⟨z148, hz148⟩ : ∃ z : Int32, z = (((p1 >>> ((6 : Int32) &&& 31)) &&& (7 : Int32)) - (4 : Int32)) := ⟨_, rfl⟩
    rw [← hz148]
    refine g_istore A0 at_65 (ls' := #[.val (.int p0), .val (.int p1), .val (.int p2), .val (.int (1 : Int32)), .val (.int z143), .val (.int z144), .val (.int z145), .val (.int z146), .val (.int z147), .val (.int z148), .unset, .unset, .unset, .unset, .unset, .unset, .unset, .unset]) rfl (pc' := 67) rfl ?_
    refine g_iloadN A0 at_67 rfl (pc' := 68) rfl ?_
    obtain ⟨T149, h149, k149, X149, e149, E149, Ar149, st149⟩ := newP X0 hx hZ (hw _ (List.mem_of_getElem? (i := 1) rfl)) e0 (g := (mkF m 68 #[.val (.int p0), .val (.int p1), .val (.int p2), .val (.int (1 : Int32)), .val (.int z143), .val (.int z144), .val (.int z145), .val (.int z146), .val (.int z147), .val (.int z148), .unset, .unset, .unset, .unset, .unset, .unset, .unset, .unset] [(.int (1 : Int32))])) rfl (hb hby at_68) rfl (by decide) (cap := 1) (by decide) (by decide) (by decide) (by decide)
    obtain ⟨b150, eb150⟩ : ∃ z, z = h0.size := ⟨_, rfl⟩
    rw [← eb150] at Ar149 st149
    have g151 : n0 ≤ b150 := by rw [eb150]; exact Z0
    have gh152 : h0.size ≤ b150 := by rw [eb150]; exact (Keep.refl h0 []).1
    have K153 : Keep h0 h149 [] := (Keep.refl h0 []).ext E149
    have Z154 : n0 ≤ h149.size := Nat.le_trans Z0 E149.1
    have V155 : Dar Z h149 b150 .double 1 (fun _ => .double (0 : UInt64)) := Dar.new Ar149 (by decide)
    refine Go.of (g' := (mkF m 70 #[.val (.int p0), .val (.int p1), .val (.int p2), .val (.int (1 : Int32)), .val (.int z143), .val (.int z144), .val (.int z145), .val (.int z146), .val (.int z147), .val (.int z148), .unset, .unset, .unset, .unset, .unset, .unset, .unset, .unset] [(.ref b150)])) st149 ?_
    have A156 := (⟨X149, hx, hby⟩ : Ax _ _ _ _ _ _ _ _ _ _ _ _ _ _ _)
    refine g_astore A156 at_70 rfl (ls' := #[.val (.int p0), .val (.int p1), .val (.int p2), .val (.int (1 : Int32)), .val (.int z143), .val (.int z144), .val (.int z145), .val (.int z146), .val (.int z147), .val (.int z148), .val (.ref b150), .unset, .unset, .unset, .unset, .unset, .unset, .unset]) rfl (pc' := 72) rfl ?_
    refine g_iloadN A156 at_72 rfl (pc' := 73) rfl ?_
    obtain ⟨T157, h157, k157, X157, e157, E157, Ar157, st157⟩ := newP X149 hx hZ (hw _ (List.mem_of_getElem? (i := 1) rfl)) e149 (g := (mkF m 73 #[.val (.int p0), .val (.int p1), .val (.int p2), .val (.int (1 : Int32)), .val (.int z143), .val (.int z144), .val (.int z145), .val (.int z146), .val (.int z147), .val (.int z148), .val (.ref b150), .unset, .unset, .unset, .unset, .unset, .unset, .unset] [(.int (1 : Int32))])) rfl (hb hby at_73) rfl (by decide) (cap := 1) (by decide) (by decide) (by decide) (by decide)
    obtain ⟨b158, eb158⟩ : ∃ z, z = h149.size := ⟨_, rfl⟩
    rw [← eb158] at Ar157 st157
    have ne159 : b150 ≠ b158 := own_ne eb158 V155.lt
    have g160 : n0 ≤ b158 := by rw [eb158]; exact Z154
    have gh161 : h0.size ≤ b158 := by rw [eb158]; exact K153.1
    have K162 : Keep h0 h157 [] := K153.ext E157
    have V163 : Dar Z h157 b150 .double 1 (fun _ => .double (0 : UInt64)) := Dar.ext E157 V155
    have Z164 : n0 ≤ h157.size := Nat.le_trans Z154 E157.1
    have V165 : Dar Z h157 b158 .double 1 (fun _ => .double (0 : UInt64)) := Dar.new Ar157 (by decide)
    refine Go.of (g' := (mkF m 75 #[.val (.int p0), .val (.int p1), .val (.int p2), .val (.int (1 : Int32)), .val (.int z143), .val (.int z144), .val (.int z145), .val (.int z146), .val (.int z147), .val (.int z148), .val (.ref b150), .unset, .unset, .unset, .unset, .unset, .unset, .unset] [(.ref b158)])) st157 ?_
    have A166 := (⟨X157, hx, hby⟩ : Ax _ _ _ _ _ _ _ _ _ _ _ _ _ _ _)
    refine g_astore A166 at_75 rfl (ls' := #[.val (.int p0), .val (.int p1), .val (.int p2), .val (.int (1 : Int32)), .val (.int z143), .val (.int z144), .val (.int z145), .val (.int z146), .val (.int z147), .val (.int z148), .val (.ref b150), .val (.ref b158), .unset, .unset, .unset, .unset, .unset, .unset]) rfl (pc' := 77) rfl ?_
    refine g_aload A166 at_77 rfl rfl (pc' := 79) rfl ?_
    refine g_iconst A166 at_79 (v := (0 : Int32)) rfl (pc' := 80) rfl ?_
    refine g_iload A166 at_80 rfl (pc' := 82) rfl ?_
    refine g_i2d A166 at_82 (pc' := 83) rfl ?_
    obtain ⟨T167, h167, A167, e167, W167, st167⟩ := s_dastore A166 hZ e157 (ls := #[.val (.int p0), .val (.int p1), .val (.int p2), .val (.int (1 : Int32)), .val (.int z143), .val (.int z144), .val (.int z145), .val (.int z146), .val (.int z147), .val (.int z148), .val (.ref b150), .val (.ref b158), .unset, .unset, .unset, .unset, .unset, .unset]) (st := []) (x := (FP.i2d z143)) V163 (i := 0) (by decide) (j := (0 : Int32)) rfl at_83 (pc' := 84) rfl
    have N168 := Fr.snoc A167.1 N0 g151
    have K169 : Keep h0 h167 [] := K162.wr W167 (Or.inr gh152)
    have V170 : Dar Z h167 b158 .double 1 (fun _ => .double (0 : UInt64)) := Dar.other W167 V165 (Ne.symm ne159)
    have V171 : Dar Z h167 b150 .double 1 (fun j => if j = 0 then .double (FP.i2d z143) else (fun _ => .double (0 : UInt64)) j) := Dar.set V163 W167 (fun _ _ => rfl)
    have Z172 : n0 ≤ h167.size := by rw [W167.size]; exact Z164
    refine st167 ?_
    refine g_aload A167 at_84 rfl rfl (pc' := 86) rfl ?_
    refine g_iconst A167 at_86 (v := (0 : Int32)) rfl (pc' := 87) rfl ?_
    refine g_iload A167 at_87 rfl (pc' := 89) rfl ?_
    refine g_i2d A167 at_89 (pc' := 90) rfl ?_
    obtain ⟨T173, h173, A173, e173, W173, st173⟩ := s_dastore A167 hZ e167 (ls := #[.val (.int p0), .val (.int p1), .val (.int p2), .val (.int (1 : Int32)), .val (.int z143), .val (.int z144), .val (.int z145), .val (.int z146), .val (.int z147), .val (.int z148), .val (.ref b150), .val (.ref b158), .unset, .unset, .unset, .unset, .unset, .unset]) (st := []) (x := (FP.i2d z146)) V170 (i := 0) (by decide) (j := (0 : Int32)) rfl at_90 (pc' := 91) rfl
    have N174 := Fr.snoc A173.1 N168 g160
    have K175 : Keep h0 h173 [] := K169.wr W173 (Or.inr gh161)
    have V176 : Dar Z h173 b150 .double 1 (fun j => if j = 0 then .double (FP.i2d z143) else (fun _ => .double (0 : UInt64)) j) := Dar.other W173 V171 ne159
    have V177 : Dar Z h173 b158 .double 1 (fun j => if j = 0 then .double (FP.i2d z146) else (fun _ => .double (0 : UInt64)) j) := Dar.set V170 W173 (fun _ _ => rfl)
    have Z178 : n0 ≤ h173.size := by rw [W173.size]; exact Z172
    refine st173 ?_
    refine g_iloadN A173 at_91 rfl (pc' := 92) rfl ?_
    refine g_iconst A173 at_92 (v := (1 : Int32)) rfl (pc' := 93) rfl ?_
    refine g_icY A173 at_93 (c2_le_t (by decide)) (pc' := 110) rfl ?_
    refine g_iloadN A173 at_110 rfl (pc' := 111) rfl ?_
    refine g_iconst A173 at_111 (v := (2 : Int32)) rfl (pc' := 112) rfl ?_
    refine g_icY A173 at_112 (c2_le_t (by decide)) (pc' := 129) rfl ?_
    refine g_iload A173 at_129 rfl (pc' := 131) rfl ?_
    refine g_iload A173 at_131 rfl (pc' := 133) rfl ?_
    obtain ⟨v179, hv179⟩ : ∃ z : Int32, z = if ¬ (z146 < z143) then (1 : Int32) else 0 := ⟨_, rfl⟩
    have sg180 : ∀ {P : State → Outcome → Prop}, Go p e below P T173 (mkF m 165 #[.val (.int p0), .val (.int p1), .val (.int p2), .val (.int (1 : Int32)), .val (.int z143), .val (.int z144), .val (.int z145), .val (.int z146), .val (.int z147), .val (.int z148), .val (.ref b150), .val (.ref b158), .unset, .unset, .unset, .unset, .unset, .unset] [(.int v179)]) → Go p e below P T173 (mkF m 133 #[.val (.int p0), .val (.int p1), .val (.int p2), .val (.int (1 : Int32)), .val (.int z143), .val (.int z144), .val (.int z145), .val (.int z146), .val (.int z147), .val (.int z148), .val (.ref b150), .val (.ref b158), .unset, .unset, .unset, .unset, .unset, .unset] [(.int z146), (.int z143)]) := by
      intro P hr
      by_cases c181 : z146 < z143
      · skip
        refine g_icY A173 at_133 (c2_gt_t c181) (pc' := 164) rfl ?_
        refine g_iconst A173 at_164 (v := (0 : Int32)) rfl (pc' := 165) rfl ?_
        obtain rfl : v179 = (0 : Int32) := hv179.trans (if_neg (fun q => q c181))
        exact hr
      · skip
        refine g_icN A173 at_133 (c2_gt_f c181) (pc' := 136) rfl ?_
        refine g_iloadN A173 at_136 rfl (pc' := 137) rfl ?_
        refine g_iconst A173 at_137 (v := (2 : Int32)) rfl (pc' := 138) rfl ?_
        refine g_icY A173 at_138 (c2_lt_t (by decide)) (pc' := 148) rfl ?_
        refine g_iloadN A173 at_148 rfl (pc' := 149) rfl ?_
        refine g_iconst A173 at_149 (v := (3 : Int32)) rfl (pc' := 150) rfl ?_
        refine g_icY A173 at_150 (c2_lt_t (by decide)) (pc' := 160) rfl ?_
        refine g_iconst A173 at_160 (v := (1 : Int32)) rfl (pc' := 161) rfl ?_
        refine g_goto A173 at_161 (pc' := 165) rfl ?_
        obtain rfl : v179 = (1 : Int32) := hv179.trans (if_pos c181)
        exact hr
    refine sg180 ?_
    refine g_istore A173 at_165 (ls' := #[.val (.int p0), .val (.int p1), .val (.int p2), .val (.int (1 : Int32)), .val (.int z143), .val (.int z144), .val (.int z145), .val (.int z146), .val (.int z147), .val (.int z148), .val (.ref b150), .val (.ref b158), .val (.int v179), .unset, .unset, .unset, .unset, .unset]) rfl (pc' := 167) rfl ?_
    refine g_iload A173 at_167 rfl (pc' := 169) rfl ?_
    refine g_iload A173 at_169 rfl (pc' := 171) rfl ?_
    obtain ⟨v182, hv182⟩ : ∃ z : Int32, z = if ¬ (z143 < z146) then (1 : Int32) else 0 := ⟨_, rfl⟩
    have sg183 : ∀ {P : State → Outcome → Prop}, Go p e below P T173 (mkF m 203 #[.val (.int p0), .val (.int p1), .val (.int p2), .val (.int (1 : Int32)), .val (.int z143), .val (.int z144), .val (.int z145), .val (.int z146), .val (.int z147), .val (.int z148), .val (.ref b150), .val (.ref b158), .val (.int v179), .unset, .unset, .unset, .unset, .unset] [(.int v182)]) → Go p e below P T173 (mkF m 171 #[.val (.int p0), .val (.int p1), .val (.int p2), .val (.int (1 : Int32)), .val (.int z143), .val (.int z144), .val (.int z145), .val (.int z146), .val (.int z147), .val (.int z148), .val (.ref b150), .val (.ref b158), .val (.int v179), .unset, .unset, .unset, .unset, .unset] [(.int z143), (.int z146)]) := by
      intro P hr
      by_cases c184 : z143 < z146
      · skip
        refine g_icY A173 at_171 (c2_gt_t c184) (pc' := 202) rfl ?_
        refine g_iconst A173 at_202 (v := (0 : Int32)) rfl (pc' := 203) rfl ?_
        obtain rfl : v182 = (0 : Int32) := hv182.trans (if_neg (fun q => q c184))
        exact hr
      · skip
        refine g_icN A173 at_171 (c2_gt_f c184) (pc' := 174) rfl ?_
        refine g_iloadN A173 at_174 rfl (pc' := 175) rfl ?_
        refine g_iconst A173 at_175 (v := (2 : Int32)) rfl (pc' := 176) rfl ?_
        refine g_icY A173 at_176 (c2_lt_t (by decide)) (pc' := 186) rfl ?_
        refine g_iloadN A173 at_186 rfl (pc' := 187) rfl ?_
        refine g_iconst A173 at_187 (v := (3 : Int32)) rfl (pc' := 188) rfl ?_
        refine g_icY A173 at_188 (c2_lt_t (by decide)) (pc' := 198) rfl ?_
        refine g_iconst A173 at_198 (v := (1 : Int32)) rfl (pc' := 199) rfl ?_
        refine g_goto A173 at_199 (pc' := 203) rfl ?_
        obtain rfl : v182 = (1 : Int32) := hv182.trans (if_pos c184)
        exact hr
    refine sg183 ?_
    refine g_istore A173 at_203 (ls' := #[.val (.int p0), .val (.int p1), .val (.int p2), .val (.int (1 : Int32)), .val (.int z143), .val (.int z144), .val (.int z145), .val (.int z146), .val (.int z147), .val (.int z148), .val (.ref b150), .val (.ref b158), .val (.int v179), .val (.int v182), .unset, .unset, .unset, .unset]) rfl (pc' := 205) rfl ?_
    refine g_iload A173 at_205 rfl (pc' := 207) rfl ?_
    obtain ⟨v185, hv185⟩ : ∃ z : Int32, z = if ((¬ (z146 < z143)) ∧ (¬ (z143 < z146))) then (1 : Int32) else 0 := ⟨_, rfl⟩
    have sg186 : ∀ {P : State → Outcome → Prop}, Go p e below P T173 (mkF m 220 #[.val (.int p0), .val (.int p1), .val (.int p2), .val (.int (1 : Int32)), .val (.int z143), .val (.int z144), .val (.int z145), .val (.int z146), .val (.int z147), .val (.int z148), .val (.ref b150), .val (.ref b158), .val (.int v179), .val (.int v182), .unset, .unset, .unset, .unset] [(.int v185)]) → Go p e below P T173 (mkF m 207 #[.val (.int p0), .val (.int p1), .val (.int p2), .val (.int (1 : Int32)), .val (.int z143), .val (.int z144), .val (.int z145), .val (.int z146), .val (.int z147), .val (.int z148), .val (.ref b150), .val (.ref b158), .val (.int v179), .val (.int v182), .unset, .unset, .unset, .unset] [(.int v179)]) := by
      intro P hr
      by_cases c187 : z146 < z143
      · skip
        refine g_ifY A173 at_207 (b0_eq_t hv179 (fun q => q c187)) (pc' := 219) rfl ?_
        refine g_iconst A173 at_219 (v := (0 : Int32)) rfl (pc' := 220) rfl ?_
        obtain rfl : v185 = (0 : Int32) := hv185.trans (if_neg (fun q => (fun q => q c187) q.1))
        exact hr
      · skip
        refine g_ifN A173 at_207 (b0_eq_f hv179 c187) (pc' := 210) rfl ?_
        refine g_iload A173 at_210 rfl (pc' := 212) rfl ?_
        by_cases c188 : z143 < z146
        · skip
          refine g_ifY A173 at_212 (b0_eq_t hv182 (fun q => q c188)) (pc' := 219) rfl ?_
          refine g_iconst A173 at_219 (v := (0 : Int32)) rfl (pc' := 220) rfl ?_
          obtain rfl : v185 = (0 : Int32) := hv185.trans (if_neg (fun q => (fun q => q c188) q.2))
          exact hr
        · skip
          refine g_ifN A173 at_212 (b0_eq_f hv182 c188) (pc' := 215) rfl ?_
          refine g_iconst A173 at_215 (v := (1 : Int32)) rfl (pc' := 216) rfl ?_
          refine g_goto A173 at_216 (pc' := 220) rfl ?_
          obtain rfl : v185 = (1 : Int32) := hv185.trans (if_pos ⟨c187, c188⟩)
          exact hr
    refine sg186 ?_
    refine g_istore A173 at_220 (ls' := #[.val (.int p0), .val (.int p1), .val (.int p2), .val (.int (1 : Int32)), .val (.int z143), .val (.int z144), .val (.int z145), .val (.int z146), .val (.int z147), .val (.int z148), .val (.ref b150), .val (.ref b158), .val (.int v179), .val (.int v182), .val (.int v185), .unset, .unset, .unset]) rfl (pc' := 222) rfl ?_
    refine g_iconst A173 at_222 (v := (0 : Int32)) rfl (pc' := 223) rfl ?_
    refine g_istore A173 at_223 (ls' := #[.val (.int p0), .val (.int p1), .val (.int p2), .val (.int (1 : Int32)), .val (.int z143), .val (.int z144), .val (.int z145), .val (.int z146), .val (.int z147), .val (.int z148), .val (.ref b150), .val (.ref b158), .val (.int v179), .val (.int v182), .val (.int v185), .val (.int (0 : Int32)), .unset, .unset]) rfl (pc' := 225) rfl ?_
    refine g_iload A173 at_225 rfl (pc' := 227) rfl ?_
    obtain ⟨v189, hv189⟩ : ∃ z : Int32, z = (if z146 < z143 then (if z143 < z146 then (0 : Int32) else (1 : Int32)) else (if ((¬ (z146 < z143)) ∧ (¬ (z143 < z146))) then (0 : Int32) else (-1 : Int32))) := ⟨_, rfl⟩
    have sg190 : ∀ {P : State → Outcome → Prop}, Go p e below P T173 (mkF m 254 #[.val (.int p0), .val (.int p1), .val (.int p2), .val (.int (1 : Int32)), .val (.int z143), .val (.int z144), .val (.int z145), .val (.int z146), .val (.int z147), .val (.int z148), .val (.ref b150), .val (.ref b158), .val (.int v179), .val (.int v182), .val (.int v185), .val (.int v189), .unset, .unset] []) → Go p e below P T173 (mkF m 227 #[.val (.int p0), .val (.int p1), .val (.int p2), .val (.int (1 : Int32)), .val (.int z143), .val (.int z144), .val (.int z145), .val (.int z146), .val (.int z147), .val (.int z148), .val (.ref b150), .val (.ref b158), .val (.int v179), .val (.int v182), .val (.int v185), .val (.int (0 : Int32)), .unset, .unset] [(.int v179)]) := by
      intro P hr
      by_cases c191 : z146 < z143
      · skip
        refine g_ifY A173 at_227 (b0_eq_t hv179 (fun q => q c191)) (pc' := 241) rfl ?_
        refine g_iload A173 at_241 rfl (pc' := 243) rfl ?_
        by_cases c192 : z143 < z146
        · skip
          refine g_ifY A173 at_243 (b0_eq_t hv182 (fun q => q c192)) (pc' := 254) rfl ?_
          obtain rfl : v189 = (0 : Int32) := hv189.trans ((if_pos c191).trans ((if_pos c192).trans rfl))
          exact hr
        · skip
          refine g_ifN A173 at_243 (b0_eq_f hv182 c192) (pc' := 246) rfl ?_
          refine g_iload A173 at_246 rfl (pc' := 248) rfl ?_
          refine g_ifN A173 at_248 (b0_ne_f hv185 (fun q => (fun q => q c191) q.1)) (pc' := 251) rfl ?_
          refine g_iconst A173 at_251 (v := (1 : Int32)) rfl (pc' := 252) rfl ?_
          refine g_istore A173 at_252 (ls' := #[.val (.int p0), .val (.int p1), .val (.int p2), .val (.int (1 : Int32)), .val (.int z143), .val (.int z144), .val (.int z145), .val (.int z146), .val (.int z147), .val (.int z148), .val (.ref b150), .val (.ref b158), .val (.int v179), .val (.int v182), .val (.int v185), .val (.int (1 : Int32)), .unset, .unset]) rfl (pc' := 254) rfl ?_
          obtain rfl : v189 = (1 : Int32) := hv189.trans ((if_pos c191).trans ((if_neg c192).trans rfl))
          exact hr
      · skip
        refine g_ifN A173 at_227 (b0_eq_f hv179 c191) (pc' := 230) rfl ?_
        refine g_iload A173 at_230 rfl (pc' := 232) rfl ?_
        by_cases c193 : ((¬ (z146 < z143)) ∧ (¬ (z143 < z146)))
        · skip
          refine g_ifY A173 at_232 (b0_ne_t hv185 c193) (pc' := 241) rfl ?_
          refine g_iload A173 at_241 rfl (pc' := 243) rfl ?_
          by_cases c194 : z143 < z146
          · skip
            refine g_ifY A173 at_243 (b0_eq_t hv182 (fun q => q c194)) (pc' := 254) rfl ?_
            obtain rfl : v189 = (0 : Int32) := hv189.trans ((if_neg c191).trans ((if_pos c193).trans rfl))
            exact hr
          · skip
            refine g_ifN A173 at_243 (b0_eq_f hv182 c194) (pc' := 246) rfl ?_
            refine g_iload A173 at_246 rfl (pc' := 248) rfl ?_
            refine g_ifY A173 at_248 (b0_ne_t hv185 c193) (pc' := 254) rfl ?_
            obtain rfl : v189 = (0 : Int32) := hv189.trans ((if_neg c191).trans ((if_pos c193).trans rfl))
            exact hr
        · skip
          refine g_ifN A173 at_232 (b0_ne_f hv185 c193) (pc' := 235) rfl ?_
          refine g_iconst A173 at_235 (v := (-1 : Int32)) rfl (pc' := 236) rfl ?_
          refine g_istore A173 at_236 (ls' := #[.val (.int p0), .val (.int p1), .val (.int p2), .val (.int (1 : Int32)), .val (.int z143), .val (.int z144), .val (.int z145), .val (.int z146), .val (.int z147), .val (.int z148), .val (.ref b150), .val (.ref b158), .val (.int v179), .val (.int v182), .val (.int v185), .val (.int (-1 : Int32)), .unset, .unset]) rfl (pc' := 238) rfl ?_
          refine g_goto A173 at_238 (pc' := 254) rfl ?_
          obtain rfl : v189 = (-1 : Int32) := hv189.trans ((if_neg c191).trans ((if_neg c193).trans rfl))
          exact hr
    refine sg190 ?_
    refine g_aload A173 at_254 rfl rfl (pc' := 256) rfl ?_
    refine g_aload A173 at_256 rfl rfl (pc' := 258) rfl ?_
    obtain ⟨_, _, ⟨T195, L195, k195, n195⟩, -, X195, ⟨L195c, hQ195, l195, y195, z195⟩, st195⟩ := Jvm.LawKit.callS A173.1 hx (y := (⟨"com/example/tradewind/tradewind/front/Dominance", "compare", "([D[D)I"⟩ : MethodName)) hown (mvT hZ (hw _ (List.mem_of_getElem? (i := 2) rfl))) (mvT hZ (hw _ (List.mem_of_getElem? (i := 3) rfl))) (mvT hZ (hw _ (List.mem_of_getElem? (i := 4) rfl))) (mvT hZ (hw _ (List.mem_of_getElem? (i := 5) rfl))) (by decide) (backOf (W := 0) (rmK1 l Z a0 hw [] b150 b158 (fun j => if j = 0 then .double (FP.i2d z143) else (fun _ => .double (0 : UInt64)) j) (fun j => if j = 0 then .double (FP.i2d z146) else (fun _ => .double (0 : UInt64)) j) (FP.i2d z143) (FP.i2d z146) h173 n0 Z178 V176 V177 rfl rfl (i2d_fin z143) (i2d_fin z146)) hZ (hw _ (List.mem_of_getElem? (i := 5) rfl)) (hw _ (List.mem_of_getElem? (i := 4) rfl)) (by decide) (by decide)) (g := (mkF m 258 #[.val (.int p0), .val (.int p1), .val (.int p2), .val (.int (1 : Int32)), .val (.int z143), .val (.int z144), .val (.int z145), .val (.int z146), .val (.int z147), .val (.int z148), .val (.ref b150), .val (.ref b158), .val (.int v179), .val (.int v182), .val (.int v185), .val (.int v189), .unset, .unset] [(.ref b158), (.ref b150)])) rfl (by rw [hml]; rfl) (argsL := [(.ref b150), (.ref b158)]) (rest := []) (lenOf pd_1 rfl) rfl (by show 2 * 0 + _ ≤ _; exact Nat.le_of_eq rfl) (hb hby at_258) (fun _ _ => ⟨rfl, e173, (by decide : 2 + 0 ≤ _), (by decide : 2 + 0 ≤ _)⟩)
    dsimp only [Pt.U, Pt.locs, Pt.cells, Pt.slots] at X195 l195 y195 z195 st195 hQ195
    subst l195 y195 z195
    obtain ⟨rfl, Nq196, Kq197⟩ := hQ195
    have N198 := Fr.app N174 Nq196
    refine Go.of (g' := (mkF m 261 #[.val (.int p0), .val (.int p1), .val (.int p2), .val (.int (1 : Int32)), .val (.int z143), .val (.int z144), .val (.int z145), .val (.int z146), .val (.int z147), .val (.int z148), .val (.ref b150), .val (.ref b158), .val (.int v179), .val (.int v182), .val (.int v185), .val (.int v189), .unset, .unset] [(.int (own_r_rmK1 (FP.i2d z143) (FP.i2d z146)))])) st195 ?_
    have e199 : T195.heap = h173 := Kq197
    have A200 := (⟨X195, hx, hby⟩ : Ax _ _ _ _ _ _ _ _ _ _ _ _ _ _ _)
    refine g_istore A200 at_261 (ls' := #[.val (.int p0), .val (.int p1), .val (.int p2), .val (.int (1 : Int32)), .val (.int z143), .val (.int z144), .val (.int z145), .val (.int z146), .val (.int z147), .val (.int z148), .val (.ref b150), .val (.ref b158), .val (.int v179), .val (.int v182), .val (.int v185), .val (.int v189), .val (.int (own_r_rmK1 (FP.i2d z143) (FP.i2d z146))), .unset]) rfl (pc' := 263) rfl ?_
    refine g_aload A200 at_263 rfl rfl (pc' := 265) rfl ?_
    refine g_aload A200 at_265 rfl rfl (pc' := 267) rfl ?_
    obtain ⟨_, _, ⟨T201, L201, k201, n201⟩, -, X201, ⟨L201c, hQ201, l201, y201, z201⟩, st201⟩ := Jvm.LawKit.callS X195 hx (y := (⟨"com/example/tradewind/tradewind/front/Dominance", "compare", "([D[D)I"⟩ : MethodName)) hown (mvT hZ (hw _ (List.mem_of_getElem? (i := 2) rfl))) (mvT hZ (hw _ (List.mem_of_getElem? (i := 3) rfl))) (mvT hZ (hw _ (List.mem_of_getElem? (i := 4) rfl))) (mvT hZ (hw _ (List.mem_of_getElem? (i := 5) rfl))) (by decide) (backOf (W := 0) (rmK1 l Z a0 hw [] b158 b150 (fun j => if j = 0 then .double (FP.i2d z146) else (fun _ => .double (0 : UInt64)) j) (fun j => if j = 0 then .double (FP.i2d z143) else (fun _ => .double (0 : UInt64)) j) (FP.i2d z146) (FP.i2d z143) h173 n0 Z178 V177 V176 rfl rfl (i2d_fin z146) (i2d_fin z143)) hZ (hw _ (List.mem_of_getElem? (i := 5) rfl)) (hw _ (List.mem_of_getElem? (i := 4) rfl)) (by decide) (by decide)) (g := (mkF m 267 #[.val (.int p0), .val (.int p1), .val (.int p2), .val (.int (1 : Int32)), .val (.int z143), .val (.int z144), .val (.int z145), .val (.int z146), .val (.int z147), .val (.int z148), .val (.ref b150), .val (.ref b158), .val (.int v179), .val (.int v182), .val (.int v185), .val (.int v189), .val (.int (own_r_rmK1 (FP.i2d z143) (FP.i2d z146))), .unset] [(.ref b150), (.ref b158)])) rfl (by rw [hml]; rfl) (argsL := [(.ref b158), (.ref b150)]) (rest := []) (lenOf pd_1 rfl) rfl (by show 2 * 0 + _ ≤ _; exact Nat.le_of_eq rfl) (hb hby at_267) (fun _ _ => ⟨rfl, e199, (by decide : 2 + 0 ≤ _), (by decide : 2 + 0 ≤ _)⟩)
    dsimp only [Pt.U, Pt.locs, Pt.cells, Pt.slots] at X201 l201 y201 z201 st201 hQ201
    subst l201 y201 z201
    obtain ⟨rfl, Nq202, Kq203⟩ := hQ201
    have N204 := Fr.app N198 Nq202
    refine Go.of (g' := (mkF m 270 #[.val (.int p0), .val (.int p1), .val (.int p2), .val (.int (1 : Int32)), .val (.int z143), .val (.int z144), .val (.int z145), .val (.int z146), .val (.int z147), .val (.int z148), .val (.ref b150), .val (.ref b158), .val (.int v179), .val (.int v182), .val (.int v185), .val (.int v189), .val (.int (own_r_rmK1 (FP.i2d z143) (FP.i2d z146))), .unset] [(.int (own_r_rmK1 (FP.i2d z146) (FP.i2d z143)))])) st201 ?_
    have e205 : T201.heap = h173 := Kq203
    have A206 := (⟨X201, hx, hby⟩ : Ax _ _ _ _ _ _ _ _ _ _ _ _ _ _ _)
    refine g_istore A206 at_270 (ls' := #[.val (.int p0), .val (.int p1), .val (.int p2), .val (.int (1 : Int32)), .val (.int z143), .val (.int z144), .val (.int z145), .val (.int z146), .val (.int z147), .val (.int z148), .val (.ref b150), .val (.ref b158), .val (.int v179), .val (.int v182), .val (.int v185), .val (.int v189), .val (.int (own_r_rmK1 (FP.i2d z143) (FP.i2d z146))), .val (.int (own_r_rmK1 (FP.i2d z146) (FP.i2d z143)))]) rfl (pc' := 272) rfl ?_
    refine g_iload A206 at_272 rfl (pc' := 274) rfl ?_
    refine g_iload A206 at_274 rfl (pc' := 276) rfl ?_
    have he : v189 = own_sel (z143 < z146) (z146 < z143) := by
      rw [hv189]; unfold own_sel
      by_cases t0 : z143 < z146 <;> by_cases u0 : z146 < z143
      all_goals simp only [t0, u0, true_or, or_true, false_or, or_false, true_and, and_true, false_and, and_false, not_true, not_false_eq_true, if_true, if_false, or_self, and_self]
    have hr : (own_r_rmK1 (FP.i2d z143) (FP.i2d z146)) = own_sel (z143 < z146) (z146 < z143) := by rw [own_r_rmK1]; simp only [own_lt]; rfl
    have h207 : (own_r_rmK1 (FP.i2d z143) (FP.i2d z146)) = v189 := hr.trans he.symm
    refine g_icN A206 at_276 (c2_ne_f h207) (pc' := 279) rfl ?_
    refine g_iload A206 at_279 rfl (pc' := 281) rfl ?_
    refine g_iload A206 at_281 rfl (pc' := 283) rfl ?_
    refine g_ineg A206 at_283 (pc' := 284) rfl ?_
    have hr2 : (own_r_rmK1 (FP.i2d z146) (FP.i2d z143)) = own_sel (z146 < z143) (z143 < z146) := by rw [own_r_rmK1]; simp only [own_lt]; rfl
    have h208 : (own_r_rmK1 (FP.i2d z146) (FP.i2d z143)) = (-v189) := by rw [hr2, he]; exact own_neg _ _
    refine g_icN A206 at_284 (c2_ne_f h208) (pc' := 287) rfl ?_
    refine g_iconst A206 at_287 (v := (1 : Int32)) rfl (pc' := 288) rfl ?_
    refine g_goto A206 at_288 (pc' := 292) rfl ?_
    exact g_ret (Q := Q0 Z p0 p1 p2 h0 n0) A206 at_292 Bd.notSynchronized Bd.returns rfl (Or.inl ⟨rfl, by simp, _, rfl⟩) (by decide) (by decide) (by rw [e205]; exact ⟨rfl, N204⟩)
  · skip
    rw [hg142]
    refine g_istoreN A0 at_8 (ls' := #[.val (.int p0), .val (.int p1), .val (.int p2), .val (.int (2 : Int32)), .unset, .unset, .unset, .unset, .unset, .unset, .unset, .unset, .unset, .unset, .unset, .unset, .unset, .unset]) rfl (pc' := 9) rfl ?_
    refine g_iloadN A0 at_9 rfl (pc' := 10) rfl ?_
    refine g_bipush A0 at_10 (v := (7 : Int32)) rfl (pc' := 12) rfl ?_
    refine g_iand A0 at_12 (pc' := 13) rfl ?_
    refine g_iconst A0 at_13 (v := (4 : Int32)) rfl (pc' := 14) rfl ?_
    refine g_isub A0 at_14 (pc' := 15) rfl ?_
    obtain ⟨z209, hz209⟩ : ∃ z : Int32, z = ((p0 &&& (7 : Int32)) - (4 : Int32)) := ⟨_, rfl⟩
    rw [← hz209]
    refine g_istore A0 at_15 (ls' := #[.val (.int p0), .val (.int p1), .val (.int p2), .val (.int (2 : Int32)), .val (.int z209), .unset, .unset, .unset, .unset, .unset, .unset, .unset, .unset, .unset, .unset, .unset, .unset, .unset]) rfl (pc' := 17) rfl ?_
    refine g_iloadN A0 at_17 rfl (pc' := 18) rfl ?_
    refine g_iconst A0 at_18 (v := (3 : Int32)) rfl (pc' := 19) rfl ?_
    refine g_ishr A0 at_19 (pc' := 20) rfl ?_
    refine g_bipush A0 at_20 (v := (7 : Int32)) rfl (pc' := 22) rfl ?_
    refine g_iand A0 at_22 (pc' := 23) rfl ?_
    refine g_iconst A0 at_23 (v := (4 : Int32)) rfl (pc' := 24) rfl ?_
    refine g_isub A0 at_24 (pc' := 25) rfl ?_
    obtain ⟨z210, hz210⟩ : ∃ z : Int32, z = (((p0 >>> ((3 : Int32) &&& 31)) &&& (7 : Int32)) - (4 : Int32)) := ⟨_, rfl⟩
    rw [← hz210]
    refine g_istore A0 at_25 (ls' := #[.val (.int p0), .val (.int p1), .val (.int p2), .val (.int (2 : Int32)), .val (.int z209), .val (.int z210), .unset, .unset, .unset, .unset, .unset, .unset, .unset, .unset, .unset, .unset, .unset, .unset]) rfl (pc' := 27) rfl ?_
    refine g_iloadN A0 at_27 rfl (pc' := 28) rfl ?_
    refine g_bipush A0 at_28 (v := (6 : Int32)) rfl (pc' := 30) rfl ?_
    refine g_ishr A0 at_30 (pc' := 31) rfl ?_
    refine g_bipush A0 at_31 (v := (7 : Int32)) rfl (pc' := 33) rfl ?_
    refine g_iand A0 at_33 (pc' := 34) rfl ?_
    refine g_iconst A0 at_34 (v := (4 : Int32)) rfl (pc' := 35) rfl ?_
    refine g_isub A0 at_35 (pc' := 36) rfl ?_
    obtain ⟨z211, hz211⟩ : ∃ z : Int32, z = (((p0 >>> ((6 : Int32) &&& 31)) &&& (7 : Int32)) - (4 : Int32)) := ⟨_, rfl⟩
    rw [← hz211]
    refine g_istore A0 at_36 (ls' := #[.val (.int p0), .val (.int p1), .val (.int p2), .val (.int (2 : Int32)), .val (.int z209), .val (.int z210), .val (.int z211), .unset, .unset, .unset, .unset, .unset, .unset, .unset, .unset, .unset, .unset, .unset]) rfl (pc' := 38) rfl ?_
    refine g_iloadN A0 at_38 rfl (pc' := 39) rfl ?_
    refine g_bipush A0 at_39 (v := (7 : Int32)) rfl (pc' := 41) rfl ?_
    refine g_iand A0 at_41 (pc' := 42) rfl ?_
    refine g_iconst A0 at_42 (v := (4 : Int32)) rfl (pc' := 43) rfl ?_
    refine g_isub A0 at_43 (pc' := 44) rfl ?_
    obtain ⟨z212, hz212⟩ : ∃ z : Int32, z = ((p1 &&& (7 : Int32)) - (4 : Int32)) := ⟨_, rfl⟩
    rw [← hz212]
    refine g_istore A0 at_44 (ls' := #[.val (.int p0), .val (.int p1), .val (.int p2), .val (.int (2 : Int32)), .val (.int z209), .val (.int z210), .val (.int z211), .val (.int z212), .unset, .unset, .unset, .unset, .unset, .unset, .unset, .unset, .unset, .unset]) rfl (pc' := 46) rfl ?_
    refine g_iloadN A0 at_46 rfl (pc' := 47) rfl ?_
    refine g_iconst A0 at_47 (v := (3 : Int32)) rfl (pc' := 48) rfl ?_
    refine g_ishr A0 at_48 (pc' := 49) rfl ?_
    refine g_bipush A0 at_49 (v := (7 : Int32)) rfl (pc' := 51) rfl ?_
    refine g_iand A0 at_51 (pc' := 52) rfl ?_
    refine g_iconst A0 at_52 (v := (4 : Int32)) rfl (pc' := 53) rfl ?_
    refine g_isub A0 at_53 (pc' := 54) rfl ?_
    obtain ⟨z213, hz213⟩ : ∃ z : Int32, z = (((p1 >>> ((3 : Int32) &&& 31)) &&& (7 : Int32)) - (4 : Int32)) := ⟨_, rfl⟩
    rw [← hz213]
    refine g_istore A0 at_54 (ls' := #[.val (.int p0), .val (.int p1), .val (.int p2), .val (.int (2 : Int32)), .val (.int z209), .val (.int z210), .val (.int z211), .val (.int z212), .val (.int z213), .unset, .unset, .unset, .unset, .unset, .unset, .unset, .unset, .unset]) rfl (pc' := 56) rfl ?_
    refine g_iloadN A0 at_56 rfl (pc' := 57) rfl ?_
    refine g_bipush A0 at_57 (v := (6 : Int32)) rfl (pc' := 59) rfl ?_
    refine g_ishr A0 at_59 (pc' := 60) rfl ?_
    refine g_bipush A0 at_60 (v := (7 : Int32)) rfl (pc' := 62) rfl ?_
    refine g_iand A0 at_62 (pc' := 63) rfl ?_
    refine g_iconst A0 at_63 (v := (4 : Int32)) rfl (pc' := 64) rfl ?_
    refine g_isub A0 at_64 (pc' := 65) rfl ?_
    obtain ⟨z214, hz214⟩ : ∃ z : Int32, z = (((p1 >>> ((6 : Int32) &&& 31)) &&& (7 : Int32)) - (4 : Int32)) := ⟨_, rfl⟩
    rw [← hz214]
    refine g_istore A0 at_65 (ls' := #[.val (.int p0), .val (.int p1), .val (.int p2), .val (.int (2 : Int32)), .val (.int z209), .val (.int z210), .val (.int z211), .val (.int z212), .val (.int z213), .val (.int z214), .unset, .unset, .unset, .unset, .unset, .unset, .unset, .unset]) rfl (pc' := 67) rfl ?_
    refine g_iloadN A0 at_67 rfl (pc' := 68) rfl ?_
    obtain ⟨T215, h215, k215, X215, e215, E215, Ar215, st215⟩ := newP X0 hx hZ (hw _ (List.mem_of_getElem? (i := 1) rfl)) e0 (g := (mkF m 68 #[.val (.int p0), .val (.int p1), .val (.int p2), .val (.int (2 : Int32)), .val (.int z209), .val (.int z210), .val (.int z211), .val (.int z212), .val (.int z213), .val (.int z214), .unset, .unset, .unset, .unset, .unset, .unset, .unset, .unset] [(.int (2 : Int32))])) rfl (hb hby at_68) rfl (by decide) (cap := 2) (by decide) (by decide) (by decide) (by decide)
    obtain ⟨b216, eb216⟩ : ∃ z, z = h0.size := ⟨_, rfl⟩
    rw [← eb216] at Ar215 st215
    have g217 : n0 ≤ b216 := by rw [eb216]; exact Z0
    have gh218 : h0.size ≤ b216 := by rw [eb216]; exact (Keep.refl h0 []).1
    have K219 : Keep h0 h215 [] := (Keep.refl h0 []).ext E215
    have Z220 : n0 ≤ h215.size := Nat.le_trans Z0 E215.1
    have V221 : Dar Z h215 b216 .double 2 (fun _ => .double (0 : UInt64)) := Dar.new Ar215 (by decide)
    refine Go.of (g' := (mkF m 70 #[.val (.int p0), .val (.int p1), .val (.int p2), .val (.int (2 : Int32)), .val (.int z209), .val (.int z210), .val (.int z211), .val (.int z212), .val (.int z213), .val (.int z214), .unset, .unset, .unset, .unset, .unset, .unset, .unset, .unset] [(.ref b216)])) st215 ?_
    have A222 := (⟨X215, hx, hby⟩ : Ax _ _ _ _ _ _ _ _ _ _ _ _ _ _ _)
    refine g_astore A222 at_70 rfl (ls' := #[.val (.int p0), .val (.int p1), .val (.int p2), .val (.int (2 : Int32)), .val (.int z209), .val (.int z210), .val (.int z211), .val (.int z212), .val (.int z213), .val (.int z214), .val (.ref b216), .unset, .unset, .unset, .unset, .unset, .unset, .unset]) rfl (pc' := 72) rfl ?_
    refine g_iloadN A222 at_72 rfl (pc' := 73) rfl ?_
    obtain ⟨T223, h223, k223, X223, e223, E223, Ar223, st223⟩ := newP X215 hx hZ (hw _ (List.mem_of_getElem? (i := 1) rfl)) e215 (g := (mkF m 73 #[.val (.int p0), .val (.int p1), .val (.int p2), .val (.int (2 : Int32)), .val (.int z209), .val (.int z210), .val (.int z211), .val (.int z212), .val (.int z213), .val (.int z214), .val (.ref b216), .unset, .unset, .unset, .unset, .unset, .unset, .unset] [(.int (2 : Int32))])) rfl (hb hby at_73) rfl (by decide) (cap := 2) (by decide) (by decide) (by decide) (by decide)
    obtain ⟨b224, eb224⟩ : ∃ z, z = h215.size := ⟨_, rfl⟩
    rw [← eb224] at Ar223 st223
    have ne225 : b216 ≠ b224 := own_ne eb224 V221.lt
    have g226 : n0 ≤ b224 := by rw [eb224]; exact Z220
    have gh227 : h0.size ≤ b224 := by rw [eb224]; exact K219.1
    have K228 : Keep h0 h223 [] := K219.ext E223
    have V229 : Dar Z h223 b216 .double 2 (fun _ => .double (0 : UInt64)) := Dar.ext E223 V221
    have Z230 : n0 ≤ h223.size := Nat.le_trans Z220 E223.1
    have V231 : Dar Z h223 b224 .double 2 (fun _ => .double (0 : UInt64)) := Dar.new Ar223 (by decide)
    refine Go.of (g' := (mkF m 75 #[.val (.int p0), .val (.int p1), .val (.int p2), .val (.int (2 : Int32)), .val (.int z209), .val (.int z210), .val (.int z211), .val (.int z212), .val (.int z213), .val (.int z214), .val (.ref b216), .unset, .unset, .unset, .unset, .unset, .unset, .unset] [(.ref b224)])) st223 ?_
    have A232 := (⟨X223, hx, hby⟩ : Ax _ _ _ _ _ _ _ _ _ _ _ _ _ _ _)
    refine g_astore A232 at_75 rfl (ls' := #[.val (.int p0), .val (.int p1), .val (.int p2), .val (.int (2 : Int32)), .val (.int z209), .val (.int z210), .val (.int z211), .val (.int z212), .val (.int z213), .val (.int z214), .val (.ref b216), .val (.ref b224), .unset, .unset, .unset, .unset, .unset, .unset]) rfl (pc' := 77) rfl ?_
    refine g_aload A232 at_77 rfl rfl (pc' := 79) rfl ?_
    refine g_iconst A232 at_79 (v := (0 : Int32)) rfl (pc' := 80) rfl ?_
    refine g_iload A232 at_80 rfl (pc' := 82) rfl ?_
    refine g_i2d A232 at_82 (pc' := 83) rfl ?_
    obtain ⟨T233, h233, A233, e233, W233, st233⟩ := s_dastore A232 hZ e223 (ls := #[.val (.int p0), .val (.int p1), .val (.int p2), .val (.int (2 : Int32)), .val (.int z209), .val (.int z210), .val (.int z211), .val (.int z212), .val (.int z213), .val (.int z214), .val (.ref b216), .val (.ref b224), .unset, .unset, .unset, .unset, .unset, .unset]) (st := []) (x := (FP.i2d z209)) V229 (i := 0) (by decide) (j := (0 : Int32)) rfl at_83 (pc' := 84) rfl
    have N234 := Fr.snoc A233.1 N0 g217
    have K235 : Keep h0 h233 [] := K228.wr W233 (Or.inr gh218)
    have V236 : Dar Z h233 b224 .double 2 (fun _ => .double (0 : UInt64)) := Dar.other W233 V231 (Ne.symm ne225)
    have V237 : Dar Z h233 b216 .double 2 (fun j => if j = 0 then .double (FP.i2d z209) else (fun _ => .double (0 : UInt64)) j) := Dar.set V229 W233 (fun _ _ => rfl)
    have Z238 : n0 ≤ h233.size := by rw [W233.size]; exact Z230
    refine st233 ?_
    refine g_aload A233 at_84 rfl rfl (pc' := 86) rfl ?_
    refine g_iconst A233 at_86 (v := (0 : Int32)) rfl (pc' := 87) rfl ?_
    refine g_iload A233 at_87 rfl (pc' := 89) rfl ?_
    refine g_i2d A233 at_89 (pc' := 90) rfl ?_
    obtain ⟨T239, h239, A239, e239, W239, st239⟩ := s_dastore A233 hZ e233 (ls := #[.val (.int p0), .val (.int p1), .val (.int p2), .val (.int (2 : Int32)), .val (.int z209), .val (.int z210), .val (.int z211), .val (.int z212), .val (.int z213), .val (.int z214), .val (.ref b216), .val (.ref b224), .unset, .unset, .unset, .unset, .unset, .unset]) (st := []) (x := (FP.i2d z212)) V236 (i := 0) (by decide) (j := (0 : Int32)) rfl at_90 (pc' := 91) rfl
    have N240 := Fr.snoc A239.1 N234 g226
    have K241 : Keep h0 h239 [] := K235.wr W239 (Or.inr gh227)
    have V242 : Dar Z h239 b216 .double 2 (fun j => if j = 0 then .double (FP.i2d z209) else (fun _ => .double (0 : UInt64)) j) := Dar.other W239 V237 ne225
    have V243 : Dar Z h239 b224 .double 2 (fun j => if j = 0 then .double (FP.i2d z212) else (fun _ => .double (0 : UInt64)) j) := Dar.set V236 W239 (fun _ _ => rfl)
    have Z244 : n0 ≤ h239.size := by rw [W239.size]; exact Z238
    refine st239 ?_
    refine g_iloadN A239 at_91 rfl (pc' := 92) rfl ?_
    refine g_iconst A239 at_92 (v := (1 : Int32)) rfl (pc' := 93) rfl ?_
    refine g_icN A239 at_93 (c2_le_f (by decide)) (pc' := 96) rfl ?_
    refine g_aload A239 at_96 rfl rfl (pc' := 98) rfl ?_
    refine g_iconst A239 at_98 (v := (1 : Int32)) rfl (pc' := 99) rfl ?_
    refine g_iload A239 at_99 rfl (pc' := 101) rfl ?_
    refine g_i2d A239 at_101 (pc' := 102) rfl ?_
    obtain ⟨T245, h245, A245, e245, W245, st245⟩ := s_dastore A239 hZ e239 (ls := #[.val (.int p0), .val (.int p1), .val (.int p2), .val (.int (2 : Int32)), .val (.int z209), .val (.int z210), .val (.int z211), .val (.int z212), .val (.int z213), .val (.int z214), .val (.ref b216), .val (.ref b224), .unset, .unset, .unset, .unset, .unset, .unset]) (st := []) (x := (FP.i2d z210)) V242 (i := 1) (by decide) (j := (1 : Int32)) rfl at_102 (pc' := 103) rfl
    have N246 := Fr.snoc A245.1 N240 g217
    have K247 : Keep h0 h245 [] := K241.wr W245 (Or.inr gh218)
    have V248 : Dar Z h245 b224 .double 2 (fun j => if j = 0 then .double (FP.i2d z212) else (fun _ => .double (0 : UInt64)) j) := Dar.other W245 V243 (Ne.symm ne225)
    have V249 : Dar Z h245 b216 .double 2 (fun j => if j = 1 then .double (FP.i2d z210) else (fun j => if j = 0 then .double (FP.i2d z209) else (fun _ => .double (0 : UInt64)) j) j) := Dar.set V242 W245 (fun _ _ => rfl)
    have Z250 : n0 ≤ h245.size := by rw [W245.size]; exact Z244
    refine st245 ?_
    refine g_aload A245 at_103 rfl rfl (pc' := 105) rfl ?_
    refine g_iconst A245 at_105 (v := (1 : Int32)) rfl (pc' := 106) rfl ?_
    refine g_iload A245 at_106 rfl (pc' := 108) rfl ?_
    refine g_i2d A245 at_108 (pc' := 109) rfl ?_
    obtain ⟨T251, h251, A251, e251, W251, st251⟩ := s_dastore A245 hZ e245 (ls := #[.val (.int p0), .val (.int p1), .val (.int p2), .val (.int (2 : Int32)), .val (.int z209), .val (.int z210), .val (.int z211), .val (.int z212), .val (.int z213), .val (.int z214), .val (.ref b216), .val (.ref b224), .unset, .unset, .unset, .unset, .unset, .unset]) (st := []) (x := (FP.i2d z213)) V248 (i := 1) (by decide) (j := (1 : Int32)) rfl at_109 (pc' := 110) rfl
    have N252 := Fr.snoc A251.1 N246 g226
    have K253 : Keep h0 h251 [] := K247.wr W251 (Or.inr gh227)
    have V254 : Dar Z h251 b216 .double 2 (fun j => if j = 1 then .double (FP.i2d z210) else (fun j => if j = 0 then .double (FP.i2d z209) else (fun _ => .double (0 : UInt64)) j) j) := Dar.other W251 V249 ne225
    have V255 : Dar Z h251 b224 .double 2 (fun j => if j = 1 then .double (FP.i2d z213) else (fun j => if j = 0 then .double (FP.i2d z212) else (fun _ => .double (0 : UInt64)) j) j) := Dar.set V248 W251 (fun _ _ => rfl)
    have Z256 : n0 ≤ h251.size := by rw [W251.size]; exact Z250
    refine st251 ?_
    refine g_iloadN A251 at_110 rfl (pc' := 111) rfl ?_
    refine g_iconst A251 at_111 (v := (2 : Int32)) rfl (pc' := 112) rfl ?_
    refine g_icY A251 at_112 (c2_le_t (by decide)) (pc' := 129) rfl ?_
    refine g_iload A251 at_129 rfl (pc' := 131) rfl ?_
    refine g_iload A251 at_131 rfl (pc' := 133) rfl ?_
    obtain ⟨v257, hv257⟩ : ∃ z : Int32, z = if ((¬ (z212 < z209)) ∧ (¬ (z213 < z210))) then (1 : Int32) else 0 := ⟨_, rfl⟩
    have sg258 : ∀ {P : State → Outcome → Prop}, Go p e below P T251 (mkF m 165 #[.val (.int p0), .val (.int p1), .val (.int p2), .val (.int (2 : Int32)), .val (.int z209), .val (.int z210), .val (.int z211), .val (.int z212), .val (.int z213), .val (.int z214), .val (.ref b216), .val (.ref b224), .unset, .unset, .unset, .unset, .unset, .unset] [(.int v257)]) → Go p e below P T251 (mkF m 133 #[.val (.int p0), .val (.int p1), .val (.int p2), .val (.int (2 : Int32)), .val (.int z209), .val (.int z210), .val (.int z211), .val (.int z212), .val (.int z213), .val (.int z214), .val (.ref b216), .val (.ref b224), .unset, .unset, .unset, .unset, .unset, .unset] [(.int z212), (.int z209)]) := by
      intro P hr
      by_cases c259 : z212 < z209
      · skip
        refine g_icY A251 at_133 (c2_gt_t c259) (pc' := 164) rfl ?_
        refine g_iconst A251 at_164 (v := (0 : Int32)) rfl (pc' := 165) rfl ?_
        obtain rfl : v257 = (0 : Int32) := hv257.trans (if_neg (fun q => (fun q => q c259) q.1))
        exact hr
      · skip
        refine g_icN A251 at_133 (c2_gt_f c259) (pc' := 136) rfl ?_
        refine g_iloadN A251 at_136 rfl (pc' := 137) rfl ?_
        refine g_iconst A251 at_137 (v := (2 : Int32)) rfl (pc' := 138) rfl ?_
        refine g_icN A251 at_138 (c2_lt_f (by decide)) (pc' := 141) rfl ?_
        refine g_iload A251 at_141 rfl (pc' := 143) rfl ?_
        refine g_iload A251 at_143 rfl (pc' := 145) rfl ?_
        by_cases c260 : z213 < z210
        · skip
          refine g_icY A251 at_145 (c2_gt_t c260) (pc' := 164) rfl ?_
          refine g_iconst A251 at_164 (v := (0 : Int32)) rfl (pc' := 165) rfl ?_
          obtain rfl : v257 = (0 : Int32) := hv257.trans (if_neg (fun q => (fun q => q c260) q.2))
          exact hr
        · skip
          refine g_icN A251 at_145 (c2_gt_f c260) (pc' := 148) rfl ?_
          refine g_iloadN A251 at_148 rfl (pc' := 149) rfl ?_
          refine g_iconst A251 at_149 (v := (3 : Int32)) rfl (pc' := 150) rfl ?_
          refine g_icY A251 at_150 (c2_lt_t (by decide)) (pc' := 160) rfl ?_
          refine g_iconst A251 at_160 (v := (1 : Int32)) rfl (pc' := 161) rfl ?_
          refine g_goto A251 at_161 (pc' := 165) rfl ?_
          obtain rfl : v257 = (1 : Int32) := hv257.trans (if_pos ⟨c259, c260⟩)
          exact hr
    refine sg258 ?_
    refine g_istore A251 at_165 (ls' := #[.val (.int p0), .val (.int p1), .val (.int p2), .val (.int (2 : Int32)), .val (.int z209), .val (.int z210), .val (.int z211), .val (.int z212), .val (.int z213), .val (.int z214), .val (.ref b216), .val (.ref b224), .val (.int v257), .unset, .unset, .unset, .unset, .unset]) rfl (pc' := 167) rfl ?_
    refine g_iload A251 at_167 rfl (pc' := 169) rfl ?_
    refine g_iload A251 at_169 rfl (pc' := 171) rfl ?_
    obtain ⟨v261, hv261⟩ : ∃ z : Int32, z = if ((¬ (z209 < z212)) ∧ (¬ (z210 < z213))) then (1 : Int32) else 0 := ⟨_, rfl⟩
    have sg262 : ∀ {P : State → Outcome → Prop}, Go p e below P T251 (mkF m 203 #[.val (.int p0), .val (.int p1), .val (.int p2), .val (.int (2 : Int32)), .val (.int z209), .val (.int z210), .val (.int z211), .val (.int z212), .val (.int z213), .val (.int z214), .val (.ref b216), .val (.ref b224), .val (.int v257), .unset, .unset, .unset, .unset, .unset] [(.int v261)]) → Go p e below P T251 (mkF m 171 #[.val (.int p0), .val (.int p1), .val (.int p2), .val (.int (2 : Int32)), .val (.int z209), .val (.int z210), .val (.int z211), .val (.int z212), .val (.int z213), .val (.int z214), .val (.ref b216), .val (.ref b224), .val (.int v257), .unset, .unset, .unset, .unset, .unset] [(.int z209), (.int z212)]) := by
      intro P hr
      by_cases c263 : z209 < z212
      · skip
        refine g_icY A251 at_171 (c2_gt_t c263) (pc' := 202) rfl ?_
        refine g_iconst A251 at_202 (v := (0 : Int32)) rfl (pc' := 203) rfl ?_
        obtain rfl : v261 = (0 : Int32) := hv261.trans (if_neg (fun q => (fun q => q c263) q.1))
        exact hr
      · skip
        refine g_icN A251 at_171 (c2_gt_f c263) (pc' := 174) rfl ?_
        refine g_iloadN A251 at_174 rfl (pc' := 175) rfl ?_
        refine g_iconst A251 at_175 (v := (2 : Int32)) rfl (pc' := 176) rfl ?_
        refine g_icN A251 at_176 (c2_lt_f (by decide)) (pc' := 179) rfl ?_
        refine g_iload A251 at_179 rfl (pc' := 181) rfl ?_
        refine g_iload A251 at_181 rfl (pc' := 183) rfl ?_
        by_cases c264 : z210 < z213
        · skip
          refine g_icY A251 at_183 (c2_gt_t c264) (pc' := 202) rfl ?_
          refine g_iconst A251 at_202 (v := (0 : Int32)) rfl (pc' := 203) rfl ?_
          obtain rfl : v261 = (0 : Int32) := hv261.trans (if_neg (fun q => (fun q => q c264) q.2))
          exact hr
        · skip
          refine g_icN A251 at_183 (c2_gt_f c264) (pc' := 186) rfl ?_
          refine g_iloadN A251 at_186 rfl (pc' := 187) rfl ?_
          refine g_iconst A251 at_187 (v := (3 : Int32)) rfl (pc' := 188) rfl ?_
          refine g_icY A251 at_188 (c2_lt_t (by decide)) (pc' := 198) rfl ?_
          refine g_iconst A251 at_198 (v := (1 : Int32)) rfl (pc' := 199) rfl ?_
          refine g_goto A251 at_199 (pc' := 203) rfl ?_
          obtain rfl : v261 = (1 : Int32) := hv261.trans (if_pos ⟨c263, c264⟩)
          exact hr
    refine sg262 ?_
    refine g_istore A251 at_203 (ls' := #[.val (.int p0), .val (.int p1), .val (.int p2), .val (.int (2 : Int32)), .val (.int z209), .val (.int z210), .val (.int z211), .val (.int z212), .val (.int z213), .val (.int z214), .val (.ref b216), .val (.ref b224), .val (.int v257), .val (.int v261), .unset, .unset, .unset, .unset]) rfl (pc' := 205) rfl ?_
    refine g_iload A251 at_205 rfl (pc' := 207) rfl ?_
    obtain ⟨v265, hv265⟩ : ∃ z : Int32, z = if ((((¬ (z212 < z209)) ∧ (¬ (z213 < z210)))) ∧ (((¬ (z209 < z212)) ∧ (¬ (z210 < z213))))) then (1 : Int32) else 0 := ⟨_, rfl⟩
    have sg266 : ∀ {P : State → Outcome → Prop}, Go p e below P T251 (mkF m 220 #[.val (.int p0), .val (.int p1), .val (.int p2), .val (.int (2 : Int32)), .val (.int z209), .val (.int z210), .val (.int z211), .val (.int z212), .val (.int z213), .val (.int z214), .val (.ref b216), .val (.ref b224), .val (.int v257), .val (.int v261), .unset, .unset, .unset, .unset] [(.int v265)]) → Go p e below P T251 (mkF m 207 #[.val (.int p0), .val (.int p1), .val (.int p2), .val (.int (2 : Int32)), .val (.int z209), .val (.int z210), .val (.int z211), .val (.int z212), .val (.int z213), .val (.int z214), .val (.ref b216), .val (.ref b224), .val (.int v257), .val (.int v261), .unset, .unset, .unset, .unset] [(.int v257)]) := by
      intro P hr
      by_cases c267 : ((¬ (z212 < z209)) ∧ (¬ (z213 < z210)))
      · skip
        refine g_ifN A251 at_207 (b0_eq_f hv257 c267) (pc' := 210) rfl ?_
        refine g_iload A251 at_210 rfl (pc' := 212) rfl ?_
        by_cases c268 : ((¬ (z209 < z212)) ∧ (¬ (z210 < z213)))
        · skip
          refine g_ifN A251 at_212 (b0_eq_f hv261 c268) (pc' := 215) rfl ?_
          refine g_iconst A251 at_215 (v := (1 : Int32)) rfl (pc' := 216) rfl ?_
          refine g_goto A251 at_216 (pc' := 220) rfl ?_
          obtain rfl : v265 = (1 : Int32) := hv265.trans (if_pos ⟨c267, c268⟩)
          exact hr
        · skip
          refine g_ifY A251 at_212 (b0_eq_t hv261 c268) (pc' := 219) rfl ?_
          refine g_iconst A251 at_219 (v := (0 : Int32)) rfl (pc' := 220) rfl ?_
          obtain rfl : v265 = (0 : Int32) := hv265.trans (if_neg (fun q => c268 q.2))
          exact hr
      · skip
        refine g_ifY A251 at_207 (b0_eq_t hv257 c267) (pc' := 219) rfl ?_
        refine g_iconst A251 at_219 (v := (0 : Int32)) rfl (pc' := 220) rfl ?_
        obtain rfl : v265 = (0 : Int32) := hv265.trans (if_neg (fun q => c267 q.1))
        exact hr
    refine sg266 ?_
    refine g_istore A251 at_220 (ls' := #[.val (.int p0), .val (.int p1), .val (.int p2), .val (.int (2 : Int32)), .val (.int z209), .val (.int z210), .val (.int z211), .val (.int z212), .val (.int z213), .val (.int z214), .val (.ref b216), .val (.ref b224), .val (.int v257), .val (.int v261), .val (.int v265), .unset, .unset, .unset]) rfl (pc' := 222) rfl ?_
    refine g_iconst A251 at_222 (v := (0 : Int32)) rfl (pc' := 223) rfl ?_
    refine g_istore A251 at_223 (ls' := #[.val (.int p0), .val (.int p1), .val (.int p2), .val (.int (2 : Int32)), .val (.int z209), .val (.int z210), .val (.int z211), .val (.int z212), .val (.int z213), .val (.int z214), .val (.ref b216), .val (.ref b224), .val (.int v257), .val (.int v261), .val (.int v265), .val (.int (0 : Int32)), .unset, .unset]) rfl (pc' := 225) rfl ?_
    refine g_iload A251 at_225 rfl (pc' := 227) rfl ?_
    obtain ⟨v269, hv269⟩ : ∃ z : Int32, z = (if ((¬ (z212 < z209)) ∧ (¬ (z213 < z210))) then (if ((((¬ (z212 < z209)) ∧ (¬ (z213 < z210)))) ∧ (((¬ (z209 < z212)) ∧ (¬ (z210 < z213))))) then (0 : Int32) else (-1 : Int32)) else (if ((¬ (z209 < z212)) ∧ (¬ (z210 < z213))) then (1 : Int32) else (0 : Int32))) := ⟨_, rfl⟩
    have sg270 : ∀ {P : State → Outcome → Prop}, Go p e below P T251 (mkF m 254 #[.val (.int p0), .val (.int p1), .val (.int p2), .val (.int (2 : Int32)), .val (.int z209), .val (.int z210), .val (.int z211), .val (.int z212), .val (.int z213), .val (.int z214), .val (.ref b216), .val (.ref b224), .val (.int v257), .val (.int v261), .val (.int v265), .val (.int v269), .unset, .unset] []) → Go p e below P T251 (mkF m 227 #[.val (.int p0), .val (.int p1), .val (.int p2), .val (.int (2 : Int32)), .val (.int z209), .val (.int z210), .val (.int z211), .val (.int z212), .val (.int z213), .val (.int z214), .val (.ref b216), .val (.ref b224), .val (.int v257), .val (.int v261), .val (.int v265), .val (.int (0 : Int32)), .unset, .unset] [(.int v257)]) := by
      intro P hr
      by_cases c271 : ((¬ (z212 < z209)) ∧ (¬ (z213 < z210)))
      · skip
        refine g_ifN A251 at_227 (b0_eq_f hv257 c271) (pc' := 230) rfl ?_
        refine g_iload A251 at_230 rfl (pc' := 232) rfl ?_
        by_cases c272 : ((((¬ (z212 < z209)) ∧ (¬ (z213 < z210)))) ∧ (((¬ (z209 < z212)) ∧ (¬ (z210 < z213)))))
        · skip
          refine g_ifY A251 at_232 (b0_ne_t hv265 c272) (pc' := 241) rfl ?_
          refine g_iload A251 at_241 rfl (pc' := 243) rfl ?_
          by_cases c273 : ((¬ (z209 < z212)) ∧ (¬ (z210 < z213)))
          · skip
            refine g_ifN A251 at_243 (b0_eq_f hv261 c273) (pc' := 246) rfl ?_
            refine g_iload A251 at_246 rfl (pc' := 248) rfl ?_
            refine g_ifY A251 at_248 (b0_ne_t hv265 c272) (pc' := 254) rfl ?_
            obtain rfl : v269 = (0 : Int32) := hv269.trans ((if_pos c271).trans ((if_pos c272).trans rfl))
            exact hr
          · skip
            refine g_ifY A251 at_243 (b0_eq_t hv261 c273) (pc' := 254) rfl ?_
            obtain rfl : v269 = (0 : Int32) := hv269.trans ((if_pos c271).trans ((if_pos c272).trans rfl))
            exact hr
        · skip
          refine g_ifN A251 at_232 (b0_ne_f hv265 c272) (pc' := 235) rfl ?_
          refine g_iconst A251 at_235 (v := (-1 : Int32)) rfl (pc' := 236) rfl ?_
          refine g_istore A251 at_236 (ls' := #[.val (.int p0), .val (.int p1), .val (.int p2), .val (.int (2 : Int32)), .val (.int z209), .val (.int z210), .val (.int z211), .val (.int z212), .val (.int z213), .val (.int z214), .val (.ref b216), .val (.ref b224), .val (.int v257), .val (.int v261), .val (.int v265), .val (.int (-1 : Int32)), .unset, .unset]) rfl (pc' := 238) rfl ?_
          refine g_goto A251 at_238 (pc' := 254) rfl ?_
          obtain rfl : v269 = (-1 : Int32) := hv269.trans ((if_pos c271).trans ((if_neg c272).trans rfl))
          exact hr
      · skip
        refine g_ifY A251 at_227 (b0_eq_t hv257 c271) (pc' := 241) rfl ?_
        refine g_iload A251 at_241 rfl (pc' := 243) rfl ?_
        by_cases c274 : ((¬ (z209 < z212)) ∧ (¬ (z210 < z213)))
        · skip
          refine g_ifN A251 at_243 (b0_eq_f hv261 c274) (pc' := 246) rfl ?_
          refine g_iload A251 at_246 rfl (pc' := 248) rfl ?_
          refine g_ifN A251 at_248 (b0_ne_f hv265 (fun q => c271 q.1)) (pc' := 251) rfl ?_
          refine g_iconst A251 at_251 (v := (1 : Int32)) rfl (pc' := 252) rfl ?_
          refine g_istore A251 at_252 (ls' := #[.val (.int p0), .val (.int p1), .val (.int p2), .val (.int (2 : Int32)), .val (.int z209), .val (.int z210), .val (.int z211), .val (.int z212), .val (.int z213), .val (.int z214), .val (.ref b216), .val (.ref b224), .val (.int v257), .val (.int v261), .val (.int v265), .val (.int (1 : Int32)), .unset, .unset]) rfl (pc' := 254) rfl ?_
          obtain rfl : v269 = (1 : Int32) := hv269.trans ((if_neg c271).trans ((if_pos c274).trans rfl))
          exact hr
        · skip
          refine g_ifY A251 at_243 (b0_eq_t hv261 c274) (pc' := 254) rfl ?_
          obtain rfl : v269 = (0 : Int32) := hv269.trans ((if_neg c271).trans ((if_neg c274).trans rfl))
          exact hr
    refine sg270 ?_
    refine g_aload A251 at_254 rfl rfl (pc' := 256) rfl ?_
    refine g_aload A251 at_256 rfl rfl (pc' := 258) rfl ?_
    obtain ⟨_, _, ⟨T275, L275, k275, n275⟩, -, X275, ⟨L275c, hQ275, l275, y275, z275⟩, st275⟩ := Jvm.LawKit.callS A251.1 hx (y := (⟨"com/example/tradewind/tradewind/front/Dominance", "compare", "([D[D)I"⟩ : MethodName)) hown (mvT hZ (hw _ (List.mem_of_getElem? (i := 2) rfl))) (mvT hZ (hw _ (List.mem_of_getElem? (i := 3) rfl))) (mvT hZ (hw _ (List.mem_of_getElem? (i := 4) rfl))) (mvT hZ (hw _ (List.mem_of_getElem? (i := 5) rfl))) (by decide) (backOf (W := 0) (rmK2 l Z a0 hw [] b216 b224 (fun j => if j = 1 then .double (FP.i2d z210) else (fun j => if j = 0 then .double (FP.i2d z209) else (fun _ => .double (0 : UInt64)) j) j) (fun j => if j = 1 then .double (FP.i2d z213) else (fun j => if j = 0 then .double (FP.i2d z212) else (fun _ => .double (0 : UInt64)) j) j) (FP.i2d z209) (FP.i2d z210) (FP.i2d z212) (FP.i2d z213) h251 n0 Z256 V254 V255 rfl rfl (i2d_fin z209) (i2d_fin z212) rfl rfl (i2d_fin z210) (i2d_fin z213)) hZ (hw _ (List.mem_of_getElem? (i := 5) rfl)) (hw _ (List.mem_of_getElem? (i := 4) rfl)) (by decide) (by decide)) (g := (mkF m 258 #[.val (.int p0), .val (.int p1), .val (.int p2), .val (.int (2 : Int32)), .val (.int z209), .val (.int z210), .val (.int z211), .val (.int z212), .val (.int z213), .val (.int z214), .val (.ref b216), .val (.ref b224), .val (.int v257), .val (.int v261), .val (.int v265), .val (.int v269), .unset, .unset] [(.ref b224), (.ref b216)])) rfl (by rw [hml]; rfl) (argsL := [(.ref b216), (.ref b224)]) (rest := []) (lenOf pd_1 rfl) rfl (by show 2 * 0 + _ ≤ _; exact Nat.le_of_eq rfl) (hb hby at_258) (fun _ _ => ⟨rfl, e251, (by decide : 2 + 0 ≤ _), (by decide : 4 + 0 ≤ _)⟩)
    dsimp only [Pt.U, Pt.locs, Pt.cells, Pt.slots] at X275 l275 y275 z275 st275 hQ275
    subst l275 y275 z275
    obtain ⟨rfl, Nq276, Kq277⟩ := hQ275
    have N278 := Fr.app N252 Nq276
    refine Go.of (g' := (mkF m 261 #[.val (.int p0), .val (.int p1), .val (.int p2), .val (.int (2 : Int32)), .val (.int z209), .val (.int z210), .val (.int z211), .val (.int z212), .val (.int z213), .val (.int z214), .val (.ref b216), .val (.ref b224), .val (.int v257), .val (.int v261), .val (.int v265), .val (.int v269), .unset, .unset] [(.int (own_r_rmK2 (FP.i2d z209) (FP.i2d z210) (FP.i2d z212) (FP.i2d z213)))])) st275 ?_
    have e279 : T275.heap = h251 := Kq277
    have A280 := (⟨X275, hx, hby⟩ : Ax _ _ _ _ _ _ _ _ _ _ _ _ _ _ _)
    refine g_istore A280 at_261 (ls' := #[.val (.int p0), .val (.int p1), .val (.int p2), .val (.int (2 : Int32)), .val (.int z209), .val (.int z210), .val (.int z211), .val (.int z212), .val (.int z213), .val (.int z214), .val (.ref b216), .val (.ref b224), .val (.int v257), .val (.int v261), .val (.int v265), .val (.int v269), .val (.int (own_r_rmK2 (FP.i2d z209) (FP.i2d z210) (FP.i2d z212) (FP.i2d z213))), .unset]) rfl (pc' := 263) rfl ?_
    refine g_aload A280 at_263 rfl rfl (pc' := 265) rfl ?_
    refine g_aload A280 at_265 rfl rfl (pc' := 267) rfl ?_
    obtain ⟨_, _, ⟨T281, L281, k281, n281⟩, -, X281, ⟨L281c, hQ281, l281, y281, z281⟩, st281⟩ := Jvm.LawKit.callS X275 hx (y := (⟨"com/example/tradewind/tradewind/front/Dominance", "compare", "([D[D)I"⟩ : MethodName)) hown (mvT hZ (hw _ (List.mem_of_getElem? (i := 2) rfl))) (mvT hZ (hw _ (List.mem_of_getElem? (i := 3) rfl))) (mvT hZ (hw _ (List.mem_of_getElem? (i := 4) rfl))) (mvT hZ (hw _ (List.mem_of_getElem? (i := 5) rfl))) (by decide) (backOf (W := 0) (rmK2 l Z a0 hw [] b224 b216 (fun j => if j = 1 then .double (FP.i2d z213) else (fun j => if j = 0 then .double (FP.i2d z212) else (fun _ => .double (0 : UInt64)) j) j) (fun j => if j = 1 then .double (FP.i2d z210) else (fun j => if j = 0 then .double (FP.i2d z209) else (fun _ => .double (0 : UInt64)) j) j) (FP.i2d z212) (FP.i2d z213) (FP.i2d z209) (FP.i2d z210) h251 n0 Z256 V255 V254 rfl rfl (i2d_fin z212) (i2d_fin z209) rfl rfl (i2d_fin z213) (i2d_fin z210)) hZ (hw _ (List.mem_of_getElem? (i := 5) rfl)) (hw _ (List.mem_of_getElem? (i := 4) rfl)) (by decide) (by decide)) (g := (mkF m 267 #[.val (.int p0), .val (.int p1), .val (.int p2), .val (.int (2 : Int32)), .val (.int z209), .val (.int z210), .val (.int z211), .val (.int z212), .val (.int z213), .val (.int z214), .val (.ref b216), .val (.ref b224), .val (.int v257), .val (.int v261), .val (.int v265), .val (.int v269), .val (.int (own_r_rmK2 (FP.i2d z209) (FP.i2d z210) (FP.i2d z212) (FP.i2d z213))), .unset] [(.ref b216), (.ref b224)])) rfl (by rw [hml]; rfl) (argsL := [(.ref b224), (.ref b216)]) (rest := []) (lenOf pd_1 rfl) rfl (by show 2 * 0 + _ ≤ _; exact Nat.le_of_eq rfl) (hb hby at_267) (fun _ _ => ⟨rfl, e279, (by decide : 2 + 0 ≤ _), (by decide : 4 + 0 ≤ _)⟩)
    dsimp only [Pt.U, Pt.locs, Pt.cells, Pt.slots] at X281 l281 y281 z281 st281 hQ281
    subst l281 y281 z281
    obtain ⟨rfl, Nq282, Kq283⟩ := hQ281
    have N284 := Fr.app N278 Nq282
    refine Go.of (g' := (mkF m 270 #[.val (.int p0), .val (.int p1), .val (.int p2), .val (.int (2 : Int32)), .val (.int z209), .val (.int z210), .val (.int z211), .val (.int z212), .val (.int z213), .val (.int z214), .val (.ref b216), .val (.ref b224), .val (.int v257), .val (.int v261), .val (.int v265), .val (.int v269), .val (.int (own_r_rmK2 (FP.i2d z209) (FP.i2d z210) (FP.i2d z212) (FP.i2d z213))), .unset] [(.int (own_r_rmK2 (FP.i2d z212) (FP.i2d z213) (FP.i2d z209) (FP.i2d z210)))])) st281 ?_
    have e285 : T281.heap = h251 := Kq283
    have A286 := (⟨X281, hx, hby⟩ : Ax _ _ _ _ _ _ _ _ _ _ _ _ _ _ _)
    refine g_istore A286 at_270 (ls' := #[.val (.int p0), .val (.int p1), .val (.int p2), .val (.int (2 : Int32)), .val (.int z209), .val (.int z210), .val (.int z211), .val (.int z212), .val (.int z213), .val (.int z214), .val (.ref b216), .val (.ref b224), .val (.int v257), .val (.int v261), .val (.int v265), .val (.int v269), .val (.int (own_r_rmK2 (FP.i2d z209) (FP.i2d z210) (FP.i2d z212) (FP.i2d z213))), .val (.int (own_r_rmK2 (FP.i2d z212) (FP.i2d z213) (FP.i2d z209) (FP.i2d z210)))]) rfl (pc' := 272) rfl ?_
    refine g_iload A286 at_272 rfl (pc' := 274) rfl ?_
    refine g_iload A286 at_274 rfl (pc' := 276) rfl ?_
    have he : v269 = own_sel (z209 < z212 ∨ z210 < z213) (z212 < z209 ∨ z213 < z210) := by
      rw [hv269]; unfold own_sel
      by_cases t0 : z209 < z212 <;> by_cases u0 : z212 < z209 <;>
      by_cases t1 : z210 < z213 <;> by_cases u1 : z213 < z210
      all_goals simp only [t0, u0, t1, u1, true_or, or_true, false_or, or_false, true_and, and_true, false_and, and_false, not_true, not_false_eq_true, if_true, if_false, or_self, and_self]
    have hr : (own_r_rmK2 (FP.i2d z209) (FP.i2d z210) (FP.i2d z212) (FP.i2d z213)) = own_sel (z209 < z212 ∨ z210 < z213) (z212 < z209 ∨ z213 < z210) := by rw [own_r_rmK2]; simp only [own_lt]; rfl
    have h287 : (own_r_rmK2 (FP.i2d z209) (FP.i2d z210) (FP.i2d z212) (FP.i2d z213)) = v269 := hr.trans he.symm
    refine g_icN A286 at_276 (c2_ne_f h287) (pc' := 279) rfl ?_
    refine g_iload A286 at_279 rfl (pc' := 281) rfl ?_
    refine g_iload A286 at_281 rfl (pc' := 283) rfl ?_
    refine g_ineg A286 at_283 (pc' := 284) rfl ?_
    have hr2 : (own_r_rmK2 (FP.i2d z212) (FP.i2d z213) (FP.i2d z209) (FP.i2d z210)) = own_sel (z212 < z209 ∨ z213 < z210) (z209 < z212 ∨ z210 < z213) := by rw [own_r_rmK2]; simp only [own_lt]; rfl
    have h288 : (own_r_rmK2 (FP.i2d z212) (FP.i2d z213) (FP.i2d z209) (FP.i2d z210)) = (-v269) := by rw [hr2, he]; exact own_neg _ _
    refine g_icN A286 at_284 (c2_ne_f h288) (pc' := 287) rfl ?_
    refine g_iconst A286 at_287 (v := (1 : Int32)) rfl (pc' := 288) rfl ?_
    refine g_goto A286 at_288 (pc' := 292) rfl ?_
    exact g_ret (Q := Q0 Z p0 p1 p2 h0 n0) A286 at_292 Bd.notSynchronized Bd.returns rfl (Or.inl ⟨rfl, by simp, _, rfl⟩) (by decide) (by decide) (by rw [e285]; exact ⟨rfl, N284⟩)
  · skip
    rw [hg142]
    refine g_istoreN A0 at_8 (ls' := #[.val (.int p0), .val (.int p1), .val (.int p2), .val (.int (3 : Int32)), .unset, .unset, .unset, .unset, .unset, .unset, .unset, .unset, .unset, .unset, .unset, .unset, .unset, .unset]) rfl (pc' := 9) rfl ?_
    refine g_iloadN A0 at_9 rfl (pc' := 10) rfl ?_
    refine g_bipush A0 at_10 (v := (7 : Int32)) rfl (pc' := 12) rfl ?_
    refine g_iand A0 at_12 (pc' := 13) rfl ?_
    refine g_iconst A0 at_13 (v := (4 : Int32)) rfl (pc' := 14) rfl ?_
    refine g_isub A0 at_14 (pc' := 15) rfl ?_
    obtain ⟨z289, hz289⟩ : ∃ z : Int32, z = ((p0 &&& (7 : Int32)) - (4 : Int32)) := ⟨_, rfl⟩
    rw [← hz289]
    refine g_istore A0 at_15 (ls' := #[.val (.int p0), .val (.int p1), .val (.int p2), .val (.int (3 : Int32)), .val (.int z289), .unset, .unset, .unset, .unset, .unset, .unset, .unset, .unset, .unset, .unset, .unset, .unset, .unset]) rfl (pc' := 17) rfl ?_
    refine g_iloadN A0 at_17 rfl (pc' := 18) rfl ?_
    refine g_iconst A0 at_18 (v := (3 : Int32)) rfl (pc' := 19) rfl ?_
    refine g_ishr A0 at_19 (pc' := 20) rfl ?_
    refine g_bipush A0 at_20 (v := (7 : Int32)) rfl (pc' := 22) rfl ?_
    refine g_iand A0 at_22 (pc' := 23) rfl ?_
    refine g_iconst A0 at_23 (v := (4 : Int32)) rfl (pc' := 24) rfl ?_
    refine g_isub A0 at_24 (pc' := 25) rfl ?_
    obtain ⟨z290, hz290⟩ : ∃ z : Int32, z = (((p0 >>> ((3 : Int32) &&& 31)) &&& (7 : Int32)) - (4 : Int32)) := ⟨_, rfl⟩
    rw [← hz290]
    refine g_istore A0 at_25 (ls' := #[.val (.int p0), .val (.int p1), .val (.int p2), .val (.int (3 : Int32)), .val (.int z289), .val (.int z290), .unset, .unset, .unset, .unset, .unset, .unset, .unset, .unset, .unset, .unset, .unset, .unset]) rfl (pc' := 27) rfl ?_
    refine g_iloadN A0 at_27 rfl (pc' := 28) rfl ?_
    refine g_bipush A0 at_28 (v := (6 : Int32)) rfl (pc' := 30) rfl ?_
    refine g_ishr A0 at_30 (pc' := 31) rfl ?_
    refine g_bipush A0 at_31 (v := (7 : Int32)) rfl (pc' := 33) rfl ?_
    refine g_iand A0 at_33 (pc' := 34) rfl ?_
    refine g_iconst A0 at_34 (v := (4 : Int32)) rfl (pc' := 35) rfl ?_
    refine g_isub A0 at_35 (pc' := 36) rfl ?_
    obtain ⟨z291, hz291⟩ : ∃ z : Int32, z = (((p0 >>> ((6 : Int32) &&& 31)) &&& (7 : Int32)) - (4 : Int32)) := ⟨_, rfl⟩
    rw [← hz291]
    refine g_istore A0 at_36 (ls' := #[.val (.int p0), .val (.int p1), .val (.int p2), .val (.int (3 : Int32)), .val (.int z289), .val (.int z290), .val (.int z291), .unset, .unset, .unset, .unset, .unset, .unset, .unset, .unset, .unset, .unset, .unset]) rfl (pc' := 38) rfl ?_
    refine g_iloadN A0 at_38 rfl (pc' := 39) rfl ?_
    refine g_bipush A0 at_39 (v := (7 : Int32)) rfl (pc' := 41) rfl ?_
    refine g_iand A0 at_41 (pc' := 42) rfl ?_
    refine g_iconst A0 at_42 (v := (4 : Int32)) rfl (pc' := 43) rfl ?_
    refine g_isub A0 at_43 (pc' := 44) rfl ?_
    obtain ⟨z292, hz292⟩ : ∃ z : Int32, z = ((p1 &&& (7 : Int32)) - (4 : Int32)) := ⟨_, rfl⟩
    rw [← hz292]
    refine g_istore A0 at_44 (ls' := #[.val (.int p0), .val (.int p1), .val (.int p2), .val (.int (3 : Int32)), .val (.int z289), .val (.int z290), .val (.int z291), .val (.int z292), .unset, .unset, .unset, .unset, .unset, .unset, .unset, .unset, .unset, .unset]) rfl (pc' := 46) rfl ?_
    refine g_iloadN A0 at_46 rfl (pc' := 47) rfl ?_
    refine g_iconst A0 at_47 (v := (3 : Int32)) rfl (pc' := 48) rfl ?_
    refine g_ishr A0 at_48 (pc' := 49) rfl ?_
    refine g_bipush A0 at_49 (v := (7 : Int32)) rfl (pc' := 51) rfl ?_
    refine g_iand A0 at_51 (pc' := 52) rfl ?_
    refine g_iconst A0 at_52 (v := (4 : Int32)) rfl (pc' := 53) rfl ?_
    refine g_isub A0 at_53 (pc' := 54) rfl ?_
    obtain ⟨z293, hz293⟩ : ∃ z : Int32, z = (((p1 >>> ((3 : Int32) &&& 31)) &&& (7 : Int32)) - (4 : Int32)) := ⟨_, rfl⟩
    rw [← hz293]
    refine g_istore A0 at_54 (ls' := #[.val (.int p0), .val (.int p1), .val (.int p2), .val (.int (3 : Int32)), .val (.int z289), .val (.int z290), .val (.int z291), .val (.int z292), .val (.int z293), .unset, .unset, .unset, .unset, .unset, .unset, .unset, .unset, .unset]) rfl (pc' := 56) rfl ?_
    refine g_iloadN A0 at_56 rfl (pc' := 57) rfl ?_
    refine g_bipush A0 at_57 (v := (6 : Int32)) rfl (pc' := 59) rfl ?_
    refine g_ishr A0 at_59 (pc' := 60) rfl ?_
    refine g_bipush A0 at_60 (v := (7 : Int32)) rfl (pc' := 62) rfl ?_
    refine g_iand A0 at_62 (pc' := 63) rfl ?_
    refine g_iconst A0 at_63 (v := (4 : Int32)) rfl (pc' := 64) rfl ?_
    refine g_isub A0 at_64 (pc' := 65) rfl ?_
    obtain ⟨z294, hz294⟩ : ∃ z : Int32, z = (((p1 >>> ((6 : Int32) &&& 31)) &&& (7 : Int32)) - (4 : Int32)) := ⟨_, rfl⟩
    rw [← hz294]
    refine g_istore A0 at_65 (ls' := #[.val (.int p0), .val (.int p1), .val (.int p2), .val (.int (3 : Int32)), .val (.int z289), .val (.int z290), .val (.int z291), .val (.int z292), .val (.int z293), .val (.int z294), .unset, .unset, .unset, .unset, .unset, .unset, .unset, .unset]) rfl (pc' := 67) rfl ?_
    refine g_iloadN A0 at_67 rfl (pc' := 68) rfl ?_
    obtain ⟨T295, h295, k295, X295, e295, E295, Ar295, st295⟩ := newP X0 hx hZ (hw _ (List.mem_of_getElem? (i := 1) rfl)) e0 (g := (mkF m 68 #[.val (.int p0), .val (.int p1), .val (.int p2), .val (.int (3 : Int32)), .val (.int z289), .val (.int z290), .val (.int z291), .val (.int z292), .val (.int z293), .val (.int z294), .unset, .unset, .unset, .unset, .unset, .unset, .unset, .unset] [(.int (3 : Int32))])) rfl (hb hby at_68) rfl (by decide) (cap := 3) (by decide) (by decide) (by decide) (by decide)
    obtain ⟨b296, eb296⟩ : ∃ z, z = h0.size := ⟨_, rfl⟩
    rw [← eb296] at Ar295 st295
    have g297 : n0 ≤ b296 := by rw [eb296]; exact Z0
    have gh298 : h0.size ≤ b296 := by rw [eb296]; exact (Keep.refl h0 []).1
    have K299 : Keep h0 h295 [] := (Keep.refl h0 []).ext E295
    have Z300 : n0 ≤ h295.size := Nat.le_trans Z0 E295.1
    have V301 : Dar Z h295 b296 .double 3 (fun _ => .double (0 : UInt64)) := Dar.new Ar295 (by decide)
    refine Go.of (g' := (mkF m 70 #[.val (.int p0), .val (.int p1), .val (.int p2), .val (.int (3 : Int32)), .val (.int z289), .val (.int z290), .val (.int z291), .val (.int z292), .val (.int z293), .val (.int z294), .unset, .unset, .unset, .unset, .unset, .unset, .unset, .unset] [(.ref b296)])) st295 ?_
    have A302 := (⟨X295, hx, hby⟩ : Ax _ _ _ _ _ _ _ _ _ _ _ _ _ _ _)
    refine g_astore A302 at_70 rfl (ls' := #[.val (.int p0), .val (.int p1), .val (.int p2), .val (.int (3 : Int32)), .val (.int z289), .val (.int z290), .val (.int z291), .val (.int z292), .val (.int z293), .val (.int z294), .val (.ref b296), .unset, .unset, .unset, .unset, .unset, .unset, .unset]) rfl (pc' := 72) rfl ?_
    refine g_iloadN A302 at_72 rfl (pc' := 73) rfl ?_
    obtain ⟨T303, h303, k303, X303, e303, E303, Ar303, st303⟩ := newP X295 hx hZ (hw _ (List.mem_of_getElem? (i := 1) rfl)) e295 (g := (mkF m 73 #[.val (.int p0), .val (.int p1), .val (.int p2), .val (.int (3 : Int32)), .val (.int z289), .val (.int z290), .val (.int z291), .val (.int z292), .val (.int z293), .val (.int z294), .val (.ref b296), .unset, .unset, .unset, .unset, .unset, .unset, .unset] [(.int (3 : Int32))])) rfl (hb hby at_73) rfl (by decide) (cap := 3) (by decide) (by decide) (by decide) (by decide)
    obtain ⟨b304, eb304⟩ : ∃ z, z = h295.size := ⟨_, rfl⟩
    rw [← eb304] at Ar303 st303
    have ne305 : b296 ≠ b304 := own_ne eb304 V301.lt
    have g306 : n0 ≤ b304 := by rw [eb304]; exact Z300
    have gh307 : h0.size ≤ b304 := by rw [eb304]; exact K299.1
    have K308 : Keep h0 h303 [] := K299.ext E303
    have V309 : Dar Z h303 b296 .double 3 (fun _ => .double (0 : UInt64)) := Dar.ext E303 V301
    have Z310 : n0 ≤ h303.size := Nat.le_trans Z300 E303.1
    have V311 : Dar Z h303 b304 .double 3 (fun _ => .double (0 : UInt64)) := Dar.new Ar303 (by decide)
    refine Go.of (g' := (mkF m 75 #[.val (.int p0), .val (.int p1), .val (.int p2), .val (.int (3 : Int32)), .val (.int z289), .val (.int z290), .val (.int z291), .val (.int z292), .val (.int z293), .val (.int z294), .val (.ref b296), .unset, .unset, .unset, .unset, .unset, .unset, .unset] [(.ref b304)])) st303 ?_
    have A312 := (⟨X303, hx, hby⟩ : Ax _ _ _ _ _ _ _ _ _ _ _ _ _ _ _)
    refine g_astore A312 at_75 rfl (ls' := #[.val (.int p0), .val (.int p1), .val (.int p2), .val (.int (3 : Int32)), .val (.int z289), .val (.int z290), .val (.int z291), .val (.int z292), .val (.int z293), .val (.int z294), .val (.ref b296), .val (.ref b304), .unset, .unset, .unset, .unset, .unset, .unset]) rfl (pc' := 77) rfl ?_
    refine g_aload A312 at_77 rfl rfl (pc' := 79) rfl ?_
    refine g_iconst A312 at_79 (v := (0 : Int32)) rfl (pc' := 80) rfl ?_
    refine g_iload A312 at_80 rfl (pc' := 82) rfl ?_
    refine g_i2d A312 at_82 (pc' := 83) rfl ?_
    obtain ⟨T313, h313, A313, e313, W313, st313⟩ := s_dastore A312 hZ e303 (ls := #[.val (.int p0), .val (.int p1), .val (.int p2), .val (.int (3 : Int32)), .val (.int z289), .val (.int z290), .val (.int z291), .val (.int z292), .val (.int z293), .val (.int z294), .val (.ref b296), .val (.ref b304), .unset, .unset, .unset, .unset, .unset, .unset]) (st := []) (x := (FP.i2d z289)) V309 (i := 0) (by decide) (j := (0 : Int32)) rfl at_83 (pc' := 84) rfl
    have N314 := Fr.snoc A313.1 N0 g297
    have K315 : Keep h0 h313 [] := K308.wr W313 (Or.inr gh298)
    have V316 : Dar Z h313 b304 .double 3 (fun _ => .double (0 : UInt64)) := Dar.other W313 V311 (Ne.symm ne305)
    have V317 : Dar Z h313 b296 .double 3 (fun j => if j = 0 then .double (FP.i2d z289) else (fun _ => .double (0 : UInt64)) j) := Dar.set V309 W313 (fun _ _ => rfl)
    have Z318 : n0 ≤ h313.size := by rw [W313.size]; exact Z310
    refine st313 ?_
    refine g_aload A313 at_84 rfl rfl (pc' := 86) rfl ?_
    refine g_iconst A313 at_86 (v := (0 : Int32)) rfl (pc' := 87) rfl ?_
    refine g_iload A313 at_87 rfl (pc' := 89) rfl ?_
    refine g_i2d A313 at_89 (pc' := 90) rfl ?_
    obtain ⟨T319, h319, A319, e319, W319, st319⟩ := s_dastore A313 hZ e313 (ls := #[.val (.int p0), .val (.int p1), .val (.int p2), .val (.int (3 : Int32)), .val (.int z289), .val (.int z290), .val (.int z291), .val (.int z292), .val (.int z293), .val (.int z294), .val (.ref b296), .val (.ref b304), .unset, .unset, .unset, .unset, .unset, .unset]) (st := []) (x := (FP.i2d z292)) V316 (i := 0) (by decide) (j := (0 : Int32)) rfl at_90 (pc' := 91) rfl
    have N320 := Fr.snoc A319.1 N314 g306
    have K321 : Keep h0 h319 [] := K315.wr W319 (Or.inr gh307)
    have V322 : Dar Z h319 b296 .double 3 (fun j => if j = 0 then .double (FP.i2d z289) else (fun _ => .double (0 : UInt64)) j) := Dar.other W319 V317 ne305
    have V323 : Dar Z h319 b304 .double 3 (fun j => if j = 0 then .double (FP.i2d z292) else (fun _ => .double (0 : UInt64)) j) := Dar.set V316 W319 (fun _ _ => rfl)
    have Z324 : n0 ≤ h319.size := by rw [W319.size]; exact Z318
    refine st319 ?_
    refine g_iloadN A319 at_91 rfl (pc' := 92) rfl ?_
    refine g_iconst A319 at_92 (v := (1 : Int32)) rfl (pc' := 93) rfl ?_
    refine g_icN A319 at_93 (c2_le_f (by decide)) (pc' := 96) rfl ?_
    refine g_aload A319 at_96 rfl rfl (pc' := 98) rfl ?_
    refine g_iconst A319 at_98 (v := (1 : Int32)) rfl (pc' := 99) rfl ?_
    refine g_iload A319 at_99 rfl (pc' := 101) rfl ?_
    refine g_i2d A319 at_101 (pc' := 102) rfl ?_
    obtain ⟨T325, h325, A325, e325, W325, st325⟩ := s_dastore A319 hZ e319 (ls := #[.val (.int p0), .val (.int p1), .val (.int p2), .val (.int (3 : Int32)), .val (.int z289), .val (.int z290), .val (.int z291), .val (.int z292), .val (.int z293), .val (.int z294), .val (.ref b296), .val (.ref b304), .unset, .unset, .unset, .unset, .unset, .unset]) (st := []) (x := (FP.i2d z290)) V322 (i := 1) (by decide) (j := (1 : Int32)) rfl at_102 (pc' := 103) rfl
    have N326 := Fr.snoc A325.1 N320 g297
    have K327 : Keep h0 h325 [] := K321.wr W325 (Or.inr gh298)
    have V328 : Dar Z h325 b304 .double 3 (fun j => if j = 0 then .double (FP.i2d z292) else (fun _ => .double (0 : UInt64)) j) := Dar.other W325 V323 (Ne.symm ne305)
    have V329 : Dar Z h325 b296 .double 3 (fun j => if j = 1 then .double (FP.i2d z290) else (fun j => if j = 0 then .double (FP.i2d z289) else (fun _ => .double (0 : UInt64)) j) j) := Dar.set V322 W325 (fun _ _ => rfl)
    have Z330 : n0 ≤ h325.size := by rw [W325.size]; exact Z324
    refine st325 ?_
    refine g_aload A325 at_103 rfl rfl (pc' := 105) rfl ?_
    refine g_iconst A325 at_105 (v := (1 : Int32)) rfl (pc' := 106) rfl ?_
    refine g_iload A325 at_106 rfl (pc' := 108) rfl ?_
    refine g_i2d A325 at_108 (pc' := 109) rfl ?_
    obtain ⟨T331, h331, A331, e331, W331, st331⟩ := s_dastore A325 hZ e325 (ls := #[.val (.int p0), .val (.int p1), .val (.int p2), .val (.int (3 : Int32)), .val (.int z289), .val (.int z290), .val (.int z291), .val (.int z292), .val (.int z293), .val (.int z294), .val (.ref b296), .val (.ref b304), .unset, .unset, .unset, .unset, .unset, .unset]) (st := []) (x := (FP.i2d z293)) V328 (i := 1) (by decide) (j := (1 : Int32)) rfl at_109 (pc' := 110) rfl
    have N332 := Fr.snoc A331.1 N326 g306
    have K333 : Keep h0 h331 [] := K327.wr W331 (Or.inr gh307)
    have V334 : Dar Z h331 b296 .double 3 (fun j => if j = 1 then .double (FP.i2d z290) else (fun j => if j = 0 then .double (FP.i2d z289) else (fun _ => .double (0 : UInt64)) j) j) := Dar.other W331 V329 ne305
    have V335 : Dar Z h331 b304 .double 3 (fun j => if j = 1 then .double (FP.i2d z293) else (fun j => if j = 0 then .double (FP.i2d z292) else (fun _ => .double (0 : UInt64)) j) j) := Dar.set V328 W331 (fun _ _ => rfl)
    have Z336 : n0 ≤ h331.size := by rw [W331.size]; exact Z330
    refine st331 ?_
    refine g_iloadN A331 at_110 rfl (pc' := 111) rfl ?_
    refine g_iconst A331 at_111 (v := (2 : Int32)) rfl (pc' := 112) rfl ?_
    refine g_icN A331 at_112 (c2_le_f (by decide)) (pc' := 115) rfl ?_
    refine g_aload A331 at_115 rfl rfl (pc' := 117) rfl ?_
    refine g_iconst A331 at_117 (v := (2 : Int32)) rfl (pc' := 118) rfl ?_
    refine g_iload A331 at_118 rfl (pc' := 120) rfl ?_
    refine g_i2d A331 at_120 (pc' := 121) rfl ?_
    obtain ⟨T337, h337, A337, e337, W337, st337⟩ := s_dastore A331 hZ e331 (ls := #[.val (.int p0), .val (.int p1), .val (.int p2), .val (.int (3 : Int32)), .val (.int z289), .val (.int z290), .val (.int z291), .val (.int z292), .val (.int z293), .val (.int z294), .val (.ref b296), .val (.ref b304), .unset, .unset, .unset, .unset, .unset, .unset]) (st := []) (x := (FP.i2d z291)) V334 (i := 2) (by decide) (j := (2 : Int32)) rfl at_121 (pc' := 122) rfl
    have N338 := Fr.snoc A337.1 N332 g297
    have K339 : Keep h0 h337 [] := K333.wr W337 (Or.inr gh298)
    have V340 : Dar Z h337 b304 .double 3 (fun j => if j = 1 then .double (FP.i2d z293) else (fun j => if j = 0 then .double (FP.i2d z292) else (fun _ => .double (0 : UInt64)) j) j) := Dar.other W337 V335 (Ne.symm ne305)
    have V341 : Dar Z h337 b296 .double 3 (fun j => if j = 2 then .double (FP.i2d z291) else (fun j => if j = 1 then .double (FP.i2d z290) else (fun j => if j = 0 then .double (FP.i2d z289) else (fun _ => .double (0 : UInt64)) j) j) j) := Dar.set V334 W337 (fun _ _ => rfl)
    have Z342 : n0 ≤ h337.size := by rw [W337.size]; exact Z336
    refine st337 ?_
    refine g_aload A337 at_122 rfl rfl (pc' := 124) rfl ?_
    refine g_iconst A337 at_124 (v := (2 : Int32)) rfl (pc' := 125) rfl ?_
    refine g_iload A337 at_125 rfl (pc' := 127) rfl ?_
    refine g_i2d A337 at_127 (pc' := 128) rfl ?_
    obtain ⟨T343, h343, A343, e343, W343, st343⟩ := s_dastore A337 hZ e337 (ls := #[.val (.int p0), .val (.int p1), .val (.int p2), .val (.int (3 : Int32)), .val (.int z289), .val (.int z290), .val (.int z291), .val (.int z292), .val (.int z293), .val (.int z294), .val (.ref b296), .val (.ref b304), .unset, .unset, .unset, .unset, .unset, .unset]) (st := []) (x := (FP.i2d z294)) V340 (i := 2) (by decide) (j := (2 : Int32)) rfl at_128 (pc' := 129) rfl
    have N344 := Fr.snoc A343.1 N338 g306
    have K345 : Keep h0 h343 [] := K339.wr W343 (Or.inr gh307)
    have V346 : Dar Z h343 b296 .double 3 (fun j => if j = 2 then .double (FP.i2d z291) else (fun j => if j = 1 then .double (FP.i2d z290) else (fun j => if j = 0 then .double (FP.i2d z289) else (fun _ => .double (0 : UInt64)) j) j) j) := Dar.other W343 V341 ne305
    have V347 : Dar Z h343 b304 .double 3 (fun j => if j = 2 then .double (FP.i2d z294) else (fun j => if j = 1 then .double (FP.i2d z293) else (fun j => if j = 0 then .double (FP.i2d z292) else (fun _ => .double (0 : UInt64)) j) j) j) := Dar.set V340 W343 (fun _ _ => rfl)
    have Z348 : n0 ≤ h343.size := by rw [W343.size]; exact Z342
    refine st343 ?_
    refine g_iload A343 at_129 rfl (pc' := 131) rfl ?_
    refine g_iload A343 at_131 rfl (pc' := 133) rfl ?_
    obtain ⟨v349, hv349⟩ : ∃ z : Int32, z = if ((¬ (z292 < z289)) ∧ (((¬ (z293 < z290)) ∧ (¬ (z294 < z291))))) then (1 : Int32) else 0 := ⟨_, rfl⟩
    have sg350 : ∀ {P : State → Outcome → Prop}, Go p e below P T343 (mkF m 165 #[.val (.int p0), .val (.int p1), .val (.int p2), .val (.int (3 : Int32)), .val (.int z289), .val (.int z290), .val (.int z291), .val (.int z292), .val (.int z293), .val (.int z294), .val (.ref b296), .val (.ref b304), .unset, .unset, .unset, .unset, .unset, .unset] [(.int v349)]) → Go p e below P T343 (mkF m 133 #[.val (.int p0), .val (.int p1), .val (.int p2), .val (.int (3 : Int32)), .val (.int z289), .val (.int z290), .val (.int z291), .val (.int z292), .val (.int z293), .val (.int z294), .val (.ref b296), .val (.ref b304), .unset, .unset, .unset, .unset, .unset, .unset] [(.int z292), (.int z289)]) := by
      intro P hr
      by_cases c351 : z292 < z289
      · skip
        refine g_icY A343 at_133 (c2_gt_t c351) (pc' := 164) rfl ?_
        refine g_iconst A343 at_164 (v := (0 : Int32)) rfl (pc' := 165) rfl ?_
        obtain rfl : v349 = (0 : Int32) := hv349.trans (if_neg (fun q => (fun q => q c351) q.1))
        exact hr
      · skip
        refine g_icN A343 at_133 (c2_gt_f c351) (pc' := 136) rfl ?_
        refine g_iloadN A343 at_136 rfl (pc' := 137) rfl ?_
        refine g_iconst A343 at_137 (v := (2 : Int32)) rfl (pc' := 138) rfl ?_
        refine g_icN A343 at_138 (c2_lt_f (by decide)) (pc' := 141) rfl ?_
        refine g_iload A343 at_141 rfl (pc' := 143) rfl ?_
        refine g_iload A343 at_143 rfl (pc' := 145) rfl ?_
        by_cases c352 : z293 < z290
        · skip
          refine g_icY A343 at_145 (c2_gt_t c352) (pc' := 164) rfl ?_
          refine g_iconst A343 at_164 (v := (0 : Int32)) rfl (pc' := 165) rfl ?_
          obtain rfl : v349 = (0 : Int32) := hv349.trans (if_neg (fun q => (fun q => (fun q => q c352) q.1) q.2))
          exact hr
        · skip
          refine g_icN A343 at_145 (c2_gt_f c352) (pc' := 148) rfl ?_
          refine g_iloadN A343 at_148 rfl (pc' := 149) rfl ?_
          refine g_iconst A343 at_149 (v := (3 : Int32)) rfl (pc' := 150) rfl ?_
          refine g_icN A343 at_150 (c2_lt_f (by decide)) (pc' := 153) rfl ?_
          refine g_iload A343 at_153 rfl (pc' := 155) rfl ?_
          refine g_iload A343 at_155 rfl (pc' := 157) rfl ?_
          by_cases c353 : z294 < z291
          · skip
            refine g_icY A343 at_157 (c2_gt_t c353) (pc' := 164) rfl ?_
            refine g_iconst A343 at_164 (v := (0 : Int32)) rfl (pc' := 165) rfl ?_
            obtain rfl : v349 = (0 : Int32) := hv349.trans (if_neg (fun q => (fun q => (fun q => q c353) q.2) q.2))
            exact hr
          · skip
            refine g_icN A343 at_157 (c2_gt_f c353) (pc' := 160) rfl ?_
            refine g_iconst A343 at_160 (v := (1 : Int32)) rfl (pc' := 161) rfl ?_
            refine g_goto A343 at_161 (pc' := 165) rfl ?_
            obtain rfl : v349 = (1 : Int32) := hv349.trans (if_pos ⟨c351, ⟨c352, c353⟩⟩)
            exact hr
    refine sg350 ?_
    refine g_istore A343 at_165 (ls' := #[.val (.int p0), .val (.int p1), .val (.int p2), .val (.int (3 : Int32)), .val (.int z289), .val (.int z290), .val (.int z291), .val (.int z292), .val (.int z293), .val (.int z294), .val (.ref b296), .val (.ref b304), .val (.int v349), .unset, .unset, .unset, .unset, .unset]) rfl (pc' := 167) rfl ?_
    refine g_iload A343 at_167 rfl (pc' := 169) rfl ?_
    refine g_iload A343 at_169 rfl (pc' := 171) rfl ?_
    obtain ⟨v354, hv354⟩ : ∃ z : Int32, z = if ((¬ (z289 < z292)) ∧ (((¬ (z290 < z293)) ∧ (¬ (z291 < z294))))) then (1 : Int32) else 0 := ⟨_, rfl⟩
    have sg355 : ∀ {P : State → Outcome → Prop}, Go p e below P T343 (mkF m 203 #[.val (.int p0), .val (.int p1), .val (.int p2), .val (.int (3 : Int32)), .val (.int z289), .val (.int z290), .val (.int z291), .val (.int z292), .val (.int z293), .val (.int z294), .val (.ref b296), .val (.ref b304), .val (.int v349), .unset, .unset, .unset, .unset, .unset] [(.int v354)]) → Go p e below P T343 (mkF m 171 #[.val (.int p0), .val (.int p1), .val (.int p2), .val (.int (3 : Int32)), .val (.int z289), .val (.int z290), .val (.int z291), .val (.int z292), .val (.int z293), .val (.int z294), .val (.ref b296), .val (.ref b304), .val (.int v349), .unset, .unset, .unset, .unset, .unset] [(.int z289), (.int z292)]) := by
      intro P hr
      by_cases c356 : z289 < z292
      · skip
        refine g_icY A343 at_171 (c2_gt_t c356) (pc' := 202) rfl ?_
        refine g_iconst A343 at_202 (v := (0 : Int32)) rfl (pc' := 203) rfl ?_
        obtain rfl : v354 = (0 : Int32) := hv354.trans (if_neg (fun q => (fun q => q c356) q.1))
        exact hr
      · skip
        refine g_icN A343 at_171 (c2_gt_f c356) (pc' := 174) rfl ?_
        refine g_iloadN A343 at_174 rfl (pc' := 175) rfl ?_
        refine g_iconst A343 at_175 (v := (2 : Int32)) rfl (pc' := 176) rfl ?_
        refine g_icN A343 at_176 (c2_lt_f (by decide)) (pc' := 179) rfl ?_
        refine g_iload A343 at_179 rfl (pc' := 181) rfl ?_
        refine g_iload A343 at_181 rfl (pc' := 183) rfl ?_
        by_cases c357 : z290 < z293
        · skip
          refine g_icY A343 at_183 (c2_gt_t c357) (pc' := 202) rfl ?_
          refine g_iconst A343 at_202 (v := (0 : Int32)) rfl (pc' := 203) rfl ?_
          obtain rfl : v354 = (0 : Int32) := hv354.trans (if_neg (fun q => (fun q => (fun q => q c357) q.1) q.2))
          exact hr
        · skip
          refine g_icN A343 at_183 (c2_gt_f c357) (pc' := 186) rfl ?_
          refine g_iloadN A343 at_186 rfl (pc' := 187) rfl ?_
          refine g_iconst A343 at_187 (v := (3 : Int32)) rfl (pc' := 188) rfl ?_
          refine g_icN A343 at_188 (c2_lt_f (by decide)) (pc' := 191) rfl ?_
          refine g_iload A343 at_191 rfl (pc' := 193) rfl ?_
          refine g_iload A343 at_193 rfl (pc' := 195) rfl ?_
          by_cases c358 : z291 < z294
          · skip
            refine g_icY A343 at_195 (c2_gt_t c358) (pc' := 202) rfl ?_
            refine g_iconst A343 at_202 (v := (0 : Int32)) rfl (pc' := 203) rfl ?_
            obtain rfl : v354 = (0 : Int32) := hv354.trans (if_neg (fun q => (fun q => (fun q => q c358) q.2) q.2))
            exact hr
          · skip
            refine g_icN A343 at_195 (c2_gt_f c358) (pc' := 198) rfl ?_
            refine g_iconst A343 at_198 (v := (1 : Int32)) rfl (pc' := 199) rfl ?_
            refine g_goto A343 at_199 (pc' := 203) rfl ?_
            obtain rfl : v354 = (1 : Int32) := hv354.trans (if_pos ⟨c356, ⟨c357, c358⟩⟩)
            exact hr
    refine sg355 ?_
    refine g_istore A343 at_203 (ls' := #[.val (.int p0), .val (.int p1), .val (.int p2), .val (.int (3 : Int32)), .val (.int z289), .val (.int z290), .val (.int z291), .val (.int z292), .val (.int z293), .val (.int z294), .val (.ref b296), .val (.ref b304), .val (.int v349), .val (.int v354), .unset, .unset, .unset, .unset]) rfl (pc' := 205) rfl ?_
    refine g_iload A343 at_205 rfl (pc' := 207) rfl ?_
    obtain ⟨v359, hv359⟩ : ∃ z : Int32, z = if ((((¬ (z292 < z289)) ∧ (((¬ (z293 < z290)) ∧ (¬ (z294 < z291)))))) ∧ (((¬ (z289 < z292)) ∧ (((¬ (z290 < z293)) ∧ (¬ (z291 < z294))))))) then (1 : Int32) else 0 := ⟨_, rfl⟩
    have sg360 : ∀ {P : State → Outcome → Prop}, Go p e below P T343 (mkF m 220 #[.val (.int p0), .val (.int p1), .val (.int p2), .val (.int (3 : Int32)), .val (.int z289), .val (.int z290), .val (.int z291), .val (.int z292), .val (.int z293), .val (.int z294), .val (.ref b296), .val (.ref b304), .val (.int v349), .val (.int v354), .unset, .unset, .unset, .unset] [(.int v359)]) → Go p e below P T343 (mkF m 207 #[.val (.int p0), .val (.int p1), .val (.int p2), .val (.int (3 : Int32)), .val (.int z289), .val (.int z290), .val (.int z291), .val (.int z292), .val (.int z293), .val (.int z294), .val (.ref b296), .val (.ref b304), .val (.int v349), .val (.int v354), .unset, .unset, .unset, .unset] [(.int v349)]) := by
      intro P hr
      by_cases c361 : ((¬ (z292 < z289)) ∧ (((¬ (z293 < z290)) ∧ (¬ (z294 < z291)))))
      · skip
        refine g_ifN A343 at_207 (b0_eq_f hv349 c361) (pc' := 210) rfl ?_
        refine g_iload A343 at_210 rfl (pc' := 212) rfl ?_
        by_cases c362 : ((¬ (z289 < z292)) ∧ (((¬ (z290 < z293)) ∧ (¬ (z291 < z294)))))
        · skip
          refine g_ifN A343 at_212 (b0_eq_f hv354 c362) (pc' := 215) rfl ?_
          refine g_iconst A343 at_215 (v := (1 : Int32)) rfl (pc' := 216) rfl ?_
          refine g_goto A343 at_216 (pc' := 220) rfl ?_
          obtain rfl : v359 = (1 : Int32) := hv359.trans (if_pos ⟨c361, c362⟩)
          exact hr
        · skip
          refine g_ifY A343 at_212 (b0_eq_t hv354 c362) (pc' := 219) rfl ?_
          refine g_iconst A343 at_219 (v := (0 : Int32)) rfl (pc' := 220) rfl ?_
          obtain rfl : v359 = (0 : Int32) := hv359.trans (if_neg (fun q => c362 q.2))
          exact hr
      · skip
        refine g_ifY A343 at_207 (b0_eq_t hv349 c361) (pc' := 219) rfl ?_
        refine g_iconst A343 at_219 (v := (0 : Int32)) rfl (pc' := 220) rfl ?_
        obtain rfl : v359 = (0 : Int32) := hv359.trans (if_neg (fun q => c361 q.1))
        exact hr
    refine sg360 ?_
    refine g_istore A343 at_220 (ls' := #[.val (.int p0), .val (.int p1), .val (.int p2), .val (.int (3 : Int32)), .val (.int z289), .val (.int z290), .val (.int z291), .val (.int z292), .val (.int z293), .val (.int z294), .val (.ref b296), .val (.ref b304), .val (.int v349), .val (.int v354), .val (.int v359), .unset, .unset, .unset]) rfl (pc' := 222) rfl ?_
    refine g_iconst A343 at_222 (v := (0 : Int32)) rfl (pc' := 223) rfl ?_
    refine g_istore A343 at_223 (ls' := #[.val (.int p0), .val (.int p1), .val (.int p2), .val (.int (3 : Int32)), .val (.int z289), .val (.int z290), .val (.int z291), .val (.int z292), .val (.int z293), .val (.int z294), .val (.ref b296), .val (.ref b304), .val (.int v349), .val (.int v354), .val (.int v359), .val (.int (0 : Int32)), .unset, .unset]) rfl (pc' := 225) rfl ?_
    refine g_iload A343 at_225 rfl (pc' := 227) rfl ?_
    obtain ⟨v363, hv363⟩ : ∃ z : Int32, z = (if ((¬ (z292 < z289)) ∧ (((¬ (z293 < z290)) ∧ (¬ (z294 < z291))))) then (if ((((¬ (z292 < z289)) ∧ (((¬ (z293 < z290)) ∧ (¬ (z294 < z291)))))) ∧ (((¬ (z289 < z292)) ∧ (((¬ (z290 < z293)) ∧ (¬ (z291 < z294))))))) then (0 : Int32) else (-1 : Int32)) else (if ((¬ (z289 < z292)) ∧ (((¬ (z290 < z293)) ∧ (¬ (z291 < z294))))) then (1 : Int32) else (0 : Int32))) := ⟨_, rfl⟩
    have sg364 : ∀ {P : State → Outcome → Prop}, Go p e below P T343 (mkF m 254 #[.val (.int p0), .val (.int p1), .val (.int p2), .val (.int (3 : Int32)), .val (.int z289), .val (.int z290), .val (.int z291), .val (.int z292), .val (.int z293), .val (.int z294), .val (.ref b296), .val (.ref b304), .val (.int v349), .val (.int v354), .val (.int v359), .val (.int v363), .unset, .unset] []) → Go p e below P T343 (mkF m 227 #[.val (.int p0), .val (.int p1), .val (.int p2), .val (.int (3 : Int32)), .val (.int z289), .val (.int z290), .val (.int z291), .val (.int z292), .val (.int z293), .val (.int z294), .val (.ref b296), .val (.ref b304), .val (.int v349), .val (.int v354), .val (.int v359), .val (.int (0 : Int32)), .unset, .unset] [(.int v349)]) := by
      intro P hr
      by_cases c365 : ((¬ (z292 < z289)) ∧ (((¬ (z293 < z290)) ∧ (¬ (z294 < z291)))))
      · skip
        refine g_ifN A343 at_227 (b0_eq_f hv349 c365) (pc' := 230) rfl ?_
        refine g_iload A343 at_230 rfl (pc' := 232) rfl ?_
        by_cases c366 : ((((¬ (z292 < z289)) ∧ (((¬ (z293 < z290)) ∧ (¬ (z294 < z291)))))) ∧ (((¬ (z289 < z292)) ∧ (((¬ (z290 < z293)) ∧ (¬ (z291 < z294)))))))
        · skip
          refine g_ifY A343 at_232 (b0_ne_t hv359 c366) (pc' := 241) rfl ?_
          refine g_iload A343 at_241 rfl (pc' := 243) rfl ?_
          by_cases c367 : ((¬ (z289 < z292)) ∧ (((¬ (z290 < z293)) ∧ (¬ (z291 < z294)))))
          · skip
            refine g_ifN A343 at_243 (b0_eq_f hv354 c367) (pc' := 246) rfl ?_
            refine g_iload A343 at_246 rfl (pc' := 248) rfl ?_
            refine g_ifY A343 at_248 (b0_ne_t hv359 c366) (pc' := 254) rfl ?_
            obtain rfl : v363 = (0 : Int32) := hv363.trans ((if_pos c365).trans ((if_pos c366).trans rfl))
            exact hr
          · skip
            refine g_ifY A343 at_243 (b0_eq_t hv354 c367) (pc' := 254) rfl ?_
            obtain rfl : v363 = (0 : Int32) := hv363.trans ((if_pos c365).trans ((if_pos c366).trans rfl))
            exact hr
        · skip
          refine g_ifN A343 at_232 (b0_ne_f hv359 c366) (pc' := 235) rfl ?_
          refine g_iconst A343 at_235 (v := (-1 : Int32)) rfl (pc' := 236) rfl ?_
          refine g_istore A343 at_236 (ls' := #[.val (.int p0), .val (.int p1), .val (.int p2), .val (.int (3 : Int32)), .val (.int z289), .val (.int z290), .val (.int z291), .val (.int z292), .val (.int z293), .val (.int z294), .val (.ref b296), .val (.ref b304), .val (.int v349), .val (.int v354), .val (.int v359), .val (.int (-1 : Int32)), .unset, .unset]) rfl (pc' := 238) rfl ?_
          refine g_goto A343 at_238 (pc' := 254) rfl ?_
          obtain rfl : v363 = (-1 : Int32) := hv363.trans ((if_pos c365).trans ((if_neg c366).trans rfl))
          exact hr
      · skip
        refine g_ifY A343 at_227 (b0_eq_t hv349 c365) (pc' := 241) rfl ?_
        refine g_iload A343 at_241 rfl (pc' := 243) rfl ?_
        by_cases c368 : ((¬ (z289 < z292)) ∧ (((¬ (z290 < z293)) ∧ (¬ (z291 < z294)))))
        · skip
          refine g_ifN A343 at_243 (b0_eq_f hv354 c368) (pc' := 246) rfl ?_
          refine g_iload A343 at_246 rfl (pc' := 248) rfl ?_
          refine g_ifN A343 at_248 (b0_ne_f hv359 (fun q => c365 q.1)) (pc' := 251) rfl ?_
          refine g_iconst A343 at_251 (v := (1 : Int32)) rfl (pc' := 252) rfl ?_
          refine g_istore A343 at_252 (ls' := #[.val (.int p0), .val (.int p1), .val (.int p2), .val (.int (3 : Int32)), .val (.int z289), .val (.int z290), .val (.int z291), .val (.int z292), .val (.int z293), .val (.int z294), .val (.ref b296), .val (.ref b304), .val (.int v349), .val (.int v354), .val (.int v359), .val (.int (1 : Int32)), .unset, .unset]) rfl (pc' := 254) rfl ?_
          obtain rfl : v363 = (1 : Int32) := hv363.trans ((if_neg c365).trans ((if_pos c368).trans rfl))
          exact hr
        · skip
          refine g_ifY A343 at_243 (b0_eq_t hv354 c368) (pc' := 254) rfl ?_
          obtain rfl : v363 = (0 : Int32) := hv363.trans ((if_neg c365).trans ((if_neg c368).trans rfl))
          exact hr
    refine sg364 ?_
    refine g_aload A343 at_254 rfl rfl (pc' := 256) rfl ?_
    refine g_aload A343 at_256 rfl rfl (pc' := 258) rfl ?_
    obtain ⟨_, _, ⟨T369, L369, k369, n369⟩, -, X369, ⟨L369c, hQ369, l369, y369, z369⟩, st369⟩ := Jvm.LawKit.callS A343.1 hx (y := (⟨"com/example/tradewind/tradewind/front/Dominance", "compare", "([D[D)I"⟩ : MethodName)) hown (mvT hZ (hw _ (List.mem_of_getElem? (i := 2) rfl))) (mvT hZ (hw _ (List.mem_of_getElem? (i := 3) rfl))) (mvT hZ (hw _ (List.mem_of_getElem? (i := 4) rfl))) (mvT hZ (hw _ (List.mem_of_getElem? (i := 5) rfl))) (by decide) (backOf (W := 0) (rmK3 l Z a0 hw [] b296 b304 (fun j => if j = 2 then .double (FP.i2d z291) else (fun j => if j = 1 then .double (FP.i2d z290) else (fun j => if j = 0 then .double (FP.i2d z289) else (fun _ => .double (0 : UInt64)) j) j) j) (fun j => if j = 2 then .double (FP.i2d z294) else (fun j => if j = 1 then .double (FP.i2d z293) else (fun j => if j = 0 then .double (FP.i2d z292) else (fun _ => .double (0 : UInt64)) j) j) j) (FP.i2d z289) (FP.i2d z290) (FP.i2d z291) (FP.i2d z292) (FP.i2d z293) (FP.i2d z294) h343 n0 Z348 V346 V347 rfl rfl (i2d_fin z289) (i2d_fin z292) rfl rfl (i2d_fin z290) (i2d_fin z293) rfl rfl (i2d_fin z291) (i2d_fin z294)) hZ (hw _ (List.mem_of_getElem? (i := 5) rfl)) (hw _ (List.mem_of_getElem? (i := 4) rfl)) (by decide) (by decide)) (g := (mkF m 258 #[.val (.int p0), .val (.int p1), .val (.int p2), .val (.int (3 : Int32)), .val (.int z289), .val (.int z290), .val (.int z291), .val (.int z292), .val (.int z293), .val (.int z294), .val (.ref b296), .val (.ref b304), .val (.int v349), .val (.int v354), .val (.int v359), .val (.int v363), .unset, .unset] [(.ref b304), (.ref b296)])) rfl (by rw [hml]; rfl) (argsL := [(.ref b296), (.ref b304)]) (rest := []) (lenOf pd_1 rfl) rfl (by show 2 * 0 + _ ≤ _; exact Nat.le_of_eq rfl) (hb hby at_258) (fun _ _ => ⟨rfl, e343, (by decide : 2 + 0 ≤ _), (by decide : 6 + 0 ≤ _)⟩)
    dsimp only [Pt.U, Pt.locs, Pt.cells, Pt.slots] at X369 l369 y369 z369 st369 hQ369
    subst l369 y369 z369
    obtain ⟨rfl, Nq370, Kq371⟩ := hQ369
    have N372 := Fr.app N344 Nq370
    refine Go.of (g' := (mkF m 261 #[.val (.int p0), .val (.int p1), .val (.int p2), .val (.int (3 : Int32)), .val (.int z289), .val (.int z290), .val (.int z291), .val (.int z292), .val (.int z293), .val (.int z294), .val (.ref b296), .val (.ref b304), .val (.int v349), .val (.int v354), .val (.int v359), .val (.int v363), .unset, .unset] [(.int (own_r_rmK3 (FP.i2d z289) (FP.i2d z290) (FP.i2d z291) (FP.i2d z292) (FP.i2d z293) (FP.i2d z294)))])) st369 ?_
    have e373 : T369.heap = h343 := Kq371
    have A374 := (⟨X369, hx, hby⟩ : Ax _ _ _ _ _ _ _ _ _ _ _ _ _ _ _)
    refine g_istore A374 at_261 (ls' := #[.val (.int p0), .val (.int p1), .val (.int p2), .val (.int (3 : Int32)), .val (.int z289), .val (.int z290), .val (.int z291), .val (.int z292), .val (.int z293), .val (.int z294), .val (.ref b296), .val (.ref b304), .val (.int v349), .val (.int v354), .val (.int v359), .val (.int v363), .val (.int (own_r_rmK3 (FP.i2d z289) (FP.i2d z290) (FP.i2d z291) (FP.i2d z292) (FP.i2d z293) (FP.i2d z294))), .unset]) rfl (pc' := 263) rfl ?_
    refine g_aload A374 at_263 rfl rfl (pc' := 265) rfl ?_
    refine g_aload A374 at_265 rfl rfl (pc' := 267) rfl ?_
    obtain ⟨_, _, ⟨T375, L375, k375, n375⟩, -, X375, ⟨L375c, hQ375, l375, y375, z375⟩, st375⟩ := Jvm.LawKit.callS X369 hx (y := (⟨"com/example/tradewind/tradewind/front/Dominance", "compare", "([D[D)I"⟩ : MethodName)) hown (mvT hZ (hw _ (List.mem_of_getElem? (i := 2) rfl))) (mvT hZ (hw _ (List.mem_of_getElem? (i := 3) rfl))) (mvT hZ (hw _ (List.mem_of_getElem? (i := 4) rfl))) (mvT hZ (hw _ (List.mem_of_getElem? (i := 5) rfl))) (by decide) (backOf (W := 0) (rmK3 l Z a0 hw [] b304 b296 (fun j => if j = 2 then .double (FP.i2d z294) else (fun j => if j = 1 then .double (FP.i2d z293) else (fun j => if j = 0 then .double (FP.i2d z292) else (fun _ => .double (0 : UInt64)) j) j) j) (fun j => if j = 2 then .double (FP.i2d z291) else (fun j => if j = 1 then .double (FP.i2d z290) else (fun j => if j = 0 then .double (FP.i2d z289) else (fun _ => .double (0 : UInt64)) j) j) j) (FP.i2d z292) (FP.i2d z293) (FP.i2d z294) (FP.i2d z289) (FP.i2d z290) (FP.i2d z291) h343 n0 Z348 V347 V346 rfl rfl (i2d_fin z292) (i2d_fin z289) rfl rfl (i2d_fin z293) (i2d_fin z290) rfl rfl (i2d_fin z294) (i2d_fin z291)) hZ (hw _ (List.mem_of_getElem? (i := 5) rfl)) (hw _ (List.mem_of_getElem? (i := 4) rfl)) (by decide) (by decide)) (g := (mkF m 267 #[.val (.int p0), .val (.int p1), .val (.int p2), .val (.int (3 : Int32)), .val (.int z289), .val (.int z290), .val (.int z291), .val (.int z292), .val (.int z293), .val (.int z294), .val (.ref b296), .val (.ref b304), .val (.int v349), .val (.int v354), .val (.int v359), .val (.int v363), .val (.int (own_r_rmK3 (FP.i2d z289) (FP.i2d z290) (FP.i2d z291) (FP.i2d z292) (FP.i2d z293) (FP.i2d z294))), .unset] [(.ref b296), (.ref b304)])) rfl (by rw [hml]; rfl) (argsL := [(.ref b304), (.ref b296)]) (rest := []) (lenOf pd_1 rfl) rfl (by show 2 * 0 + _ ≤ _; exact Nat.le_of_eq rfl) (hb hby at_267) (fun _ _ => ⟨rfl, e373, (by decide : 2 + 0 ≤ _), (by decide : 6 + 0 ≤ _)⟩)
    dsimp only [Pt.U, Pt.locs, Pt.cells, Pt.slots] at X375 l375 y375 z375 st375 hQ375
    subst l375 y375 z375
    obtain ⟨rfl, Nq376, Kq377⟩ := hQ375
    have N378 := Fr.app N372 Nq376
    refine Go.of (g' := (mkF m 270 #[.val (.int p0), .val (.int p1), .val (.int p2), .val (.int (3 : Int32)), .val (.int z289), .val (.int z290), .val (.int z291), .val (.int z292), .val (.int z293), .val (.int z294), .val (.ref b296), .val (.ref b304), .val (.int v349), .val (.int v354), .val (.int v359), .val (.int v363), .val (.int (own_r_rmK3 (FP.i2d z289) (FP.i2d z290) (FP.i2d z291) (FP.i2d z292) (FP.i2d z293) (FP.i2d z294))), .unset] [(.int (own_r_rmK3 (FP.i2d z292) (FP.i2d z293) (FP.i2d z294) (FP.i2d z289) (FP.i2d z290) (FP.i2d z291)))])) st375 ?_
    have e379 : T375.heap = h343 := Kq377
    have A380 := (⟨X375, hx, hby⟩ : Ax _ _ _ _ _ _ _ _ _ _ _ _ _ _ _)
    refine g_istore A380 at_270 (ls' := #[.val (.int p0), .val (.int p1), .val (.int p2), .val (.int (3 : Int32)), .val (.int z289), .val (.int z290), .val (.int z291), .val (.int z292), .val (.int z293), .val (.int z294), .val (.ref b296), .val (.ref b304), .val (.int v349), .val (.int v354), .val (.int v359), .val (.int v363), .val (.int (own_r_rmK3 (FP.i2d z289) (FP.i2d z290) (FP.i2d z291) (FP.i2d z292) (FP.i2d z293) (FP.i2d z294))), .val (.int (own_r_rmK3 (FP.i2d z292) (FP.i2d z293) (FP.i2d z294) (FP.i2d z289) (FP.i2d z290) (FP.i2d z291)))]) rfl (pc' := 272) rfl ?_
    refine g_iload A380 at_272 rfl (pc' := 274) rfl ?_
    refine g_iload A380 at_274 rfl (pc' := 276) rfl ?_
    have he : v363 = own_sel ((z289 < z292 ∨ z290 < z293) ∨ z291 < z294) ((z292 < z289 ∨ z293 < z290) ∨ z294 < z291) := by
      rw [hv363]; unfold own_sel
      by_cases t0 : z289 < z292 <;> by_cases u0 : z292 < z289 <;>
      by_cases t1 : z290 < z293 <;> by_cases u1 : z293 < z290 <;>
      by_cases t2 : z291 < z294 <;> by_cases u2 : z294 < z291
      all_goals simp only [t0, u0, t1, u1, t2, u2, true_or, or_true, false_or, or_false, true_and, and_true, false_and, and_false, not_true, not_false_eq_true, if_true, if_false, or_self, and_self]
    have hr : (own_r_rmK3 (FP.i2d z289) (FP.i2d z290) (FP.i2d z291) (FP.i2d z292) (FP.i2d z293) (FP.i2d z294)) = own_sel ((z289 < z292 ∨ z290 < z293) ∨ z291 < z294) ((z292 < z289 ∨ z293 < z290) ∨ z294 < z291) := by rw [own_r_rmK3]; simp only [own_lt]; rfl
    have h381 : (own_r_rmK3 (FP.i2d z289) (FP.i2d z290) (FP.i2d z291) (FP.i2d z292) (FP.i2d z293) (FP.i2d z294)) = v363 := hr.trans he.symm
    refine g_icN A380 at_276 (c2_ne_f h381) (pc' := 279) rfl ?_
    refine g_iload A380 at_279 rfl (pc' := 281) rfl ?_
    refine g_iload A380 at_281 rfl (pc' := 283) rfl ?_
    refine g_ineg A380 at_283 (pc' := 284) rfl ?_
    have hr2 : (own_r_rmK3 (FP.i2d z292) (FP.i2d z293) (FP.i2d z294) (FP.i2d z289) (FP.i2d z290) (FP.i2d z291)) = own_sel ((z292 < z289 ∨ z293 < z290) ∨ z294 < z291) ((z289 < z292 ∨ z290 < z293) ∨ z291 < z294) := by rw [own_r_rmK3]; simp only [own_lt]; rfl
    have h382 : (own_r_rmK3 (FP.i2d z292) (FP.i2d z293) (FP.i2d z294) (FP.i2d z289) (FP.i2d z290) (FP.i2d z291)) = (-v363) := by rw [hr2, he]; exact own_neg _ _
    refine g_icN A380 at_284 (c2_ne_f h382) (pc' := 287) rfl ?_
    refine g_iconst A380 at_287 (v := (1 : Int32)) rfl (pc' := 288) rfl ?_
    refine g_goto A380 at_288 (pc' := 292) rfl ?_
    exact g_ret (Q := Q0 Z p0 p1 p2 h0 n0) A380 at_292 Bd.notSynchronized Bd.returns rfl (Or.inl ⟨rfl, by simp, _, rfl⟩) (by decide) (by decide) (by rw [e379]; exact ⟨rfl, N378⟩)
set_option maxRecDepth 65536 in
set_option maxHeartbeats 40000000 in
theorem comes_1 {Post : Tables → Env → Array Value → State → Outcome → State → Prop} (hpost : ∀ tb e args s v u, (limb_1_1.after args s (.returned v) u = true ∧ limb_1_2.after args s (.returned v) u = true ∧ True) → FrameEnd s (.returned v) u (Jvm.fieldLocs frame_1_writes args s ++ Jvm.arrayLocs frame_1_arrays args s ++ Jvm.staticLocs frame_1_statics s) 16 128 → Post tb e args s (.returned v) u) :
    ArmFor flags0 classFile x code maxLocals ret World_1 tables_1 room_1 Calls_1 rest_1 Pre_1 Post := by
  intro l hfl _ _ p e ha hc hk s m args below hf hA hF happ hP
  obtain ⟨hcalls, hrest, hpre⟩ := hP
  obtain ⟨-, -, -, hnamed, -, -, -, hat⟩ := (Spec.applies_iff hf).mp happ
  obtain ⟨hg, hn⟩ := and_e (Cond.before_iff.mp (show (Jvm.Cond.and given_1 narrow_1).before args s = true from hpre))
  obtain ⟨g0, hg1⟩ := and_e hg
  obtain ⟨w0, w1, w2, rfl⟩ : ∃ w0 w1 w2 : Value, args = #[w0, w1, w2] := by
    have hs : args.size = 3 := by simpa [Cond.value, given_1] using g0
    obtain ⟨L⟩ := args
    match L, hs with
    | [w0, w1, w2], _ => exact ⟨w0, w1, w2, rfl⟩
  have hw := fun d (hd : d ∈ tables_1) => atoms_spec (ws := Jvm.Cond.code x code maxLocals ret :: tables_1) hat d (List.mem_cons_of_mem _ hd)
  have hfit : Fit s := fun {y c} hc i hi => by
    obtain ⟨ha, rfl⟩ := Array.getElem?_eq_some_iff.mp hc
    have q := List.all_eq_true.mp ((Array.all_eq_true_iff_forall_mem.mp hF) _ (Array.getElem_mem ha)) i (List.mem_range.mpr hi)
    simpa [Array.getElem?_eq_getElem hi] using q
  obtain ⟨k0, hg2⟩ := and_e hg1
  obtain ⟨i0, j0⟩ := is_v k0
  obtain rfl : w0 = (.int i0) := Option.some.inj j0
  obtain ⟨k1, hg3⟩ := and_e hg2
  obtain ⟨i1, j1⟩ := is_v k1
  obtain rfl : w1 = (.int i1) := Option.some.inj j1
  obtain ⟨i2, j2⟩ := is_v hg3
  obtain rfl : w2 = (.int i2) := Option.some.inj j2
  obtain ⟨n, o, h1, h2, h3, _, L, rfl, ⟨rfl, N⟩, hq⟩ := rm0 l s _ hw tables_1 i0 i1 i2 s.heap s.heap.size (Nat.le_refl _)  p e ha hc hk s m _ below hf ((Spec.applies_iff_loose hf).mp happ).1 ⟨rfl, State.Warmed39.refl s, rfl⟩ trivial
  refine ⟨n, _, h1, h2, h3, hpost _ _ _ _ _ _ ⟨Cond.after_iff.mpr rfl, Cond.after_iff.mpr (eq_i res_at (Term.int_eval (1)) rfl), trivial⟩ ⟨hq.1, hq.2.1, (hq.2.2.sift fun y hy => Or.inr (N y hy)).mono (by decide) (by decide)⟩⟩
theorem main_1_1 : Claimed_1_1 := comes_1 fun _ _ _ _ _ _ h hF => ⟨h.1, hF⟩
theorem main_1_2 : Claimed_1_2 := comes_1 fun _ _ _ _ _ _ h hF => ⟨h.2.1, hF⟩
end Jvm.Pilot.@@N@@
namespace Jvm.Pilot.@@N@@
open Jvm Jvm.ClassFile Sem Op Lib Jvm.Free Jvm.Stand Jvm.Pilot.@@N@@.Jvm.D
/-! MADE BY PROGRAM (witnessworld.py) out of the Statement's table words and the real class files: 16 classes; the members and pool entries that the words name. The judged class is class 1, her method 1. -/
namespace start1
open Jvm.ClassFile
def u (s : String) : CpInfo := .utf8 (stringToUtf16 s)
/-- a pool by its gaps: so many unusable entries, then the entry; so many at the end -/
def gap : Nat → List CpInfo → List CpInfo
  | 0, r => r
  | n + 1, r => .unusable :: gap n r
def poolList (es : List (Nat × CpInfo)) (last : Nat) : List CpInfo := es.foldr (fun e r => gap e.1 (e.2 :: r)) (gap last [])
def pool (es : List (Nat × CpInfo)) (last : Nat) : Array CpInfo := ⟨poolList es last⟩
def fileOf (pool : Array CpInfo) (this : Nat) (attrs : Array Attribute := #[]) (ms : Array MethodInfo := #[]) (fl : Nat := 33) (sup : Nat := 0) (ifs : Array Nat := #[]) (fds : Array FieldInfo := #[]) : ClassFile where
  minorVersion := 0
  majorVersion := 65
  constantPool := pool
  accessFlags := fl
  thisClass := this
  superClass := sup
  interfaces := ifs
  fields := fds
  methods := ms
  attributes := attrs
def plain (name : String) (sup : Option ClassId) : Class where
  name := name
  kind := .ordinary
  loader := none
  accessFlags := 33
  super := sup
  interfaces := #[]
  cf := none
  fields := #[]
  methods := #[]
  instanceTypes := #[]
  staticTypes := #[]
  resolved := #[]
  callSites := []
  init := .initialized
  statics := none
  mirror := none

def pool0 : Array CpInfo := pool [(5, u "<init>"), (0, u "()V"), (1, .class_ 10), (1, u "java/lang/Object")] 113

def k0m0 : Method := { name := "<init>", desc := "()V", sig := { parameters := [], returnType := none }, accessFlags := 1, code := none }
/-- java/lang/Object -/
def k0 : Class := { plain "java/lang/Object" none with
  accessFlags := 33
  interfaces := #[]
  cf := some (fileOf pool0 8 #[] #[{ accessFlags := 1, nameIndex := 5, descriptorIndex := 6, attributes := #[] }] 33 0 #[] #[])
  fields := #[]
  methods := #[k0m0]
  instanceTypes := #[]
  staticTypes := #[]
  resolved := Array.replicate 124 none
  statics := none }

def pool1 : Array CpInfo := pool [(2, .class_ 4), (1, u "java/lang/Object"), (0, u "<init>"), (0, u "()V"), (0, .integer 2147483647), (0, .methodref 9 10), (0, .class_ 11), (0, .nameAndType 12 13), (0, u "com/example/tradewind/tradewind/front/Dominance"), (0, u "compare"), (0, u "([D[D)I"), (0, .class_ 15), (0, u "com/example/tradewind/tradewind/front/DominanceComparePinLaw"), (2, u "law"), (0, u "(III)Z")] 5

def k1m0 : Method := { name := "<init>", desc := "()V", sig := { parameters := [], returnType := none }, accessFlags := 1, code := none }
def k1c1 : Code := { maxStack := 4, maxLocals := 18, code := code, exceptionTable := #[], attributes := #[] }
def k1m1 : Method := { name := "law", desc := "(III)Z", sig := { parameters := [.int, .int, .int], returnType := some .boolean }, accessFlags := 9, code := some k1c1 }
/-- com/example/tradewind/tradewind/front/DominanceComparePinLaw -/
def k1 : Class := { plain "com/example/tradewind/tradewind/front/DominanceComparePinLaw" (some 0) with
  accessFlags := 49
  interfaces := #[]
  cf := some (fileOf pool1 14 #[] #[{ accessFlags := 1, nameIndex := 5, descriptorIndex := 6, attributes := #[] }, { accessFlags := 9, nameIndex := 18, descriptorIndex := 19, attributes := #[] }] 49 2 #[] #[])
  fields := #[]
  methods := #[k1m0, k1m1]
  instanceTypes := #[]
  staticTypes := #[]
  resolved := Array.replicate 25 none
  statics := none }

def pool2 : Array CpInfo := pool [(2, .class_ 4), (1, u "java/lang/Object"), (0, u "<init>"), (0, u "()V"), (1, .class_ 10), (1, u "com/example/tradewind/tradewind/front/Dominance"), (0, u "compare"), (0, u "([D[D)I"), (11, .methodref 25 26), (0, .class_ 27), (0, .nameAndType 28 29), (0, u "java/lang/Double"), (0, u "isNaN"), (0, u "(D)Z")] 29

def k2m0 : Method := { name := "<init>", desc := "()V", sig := { parameters := [], returnType := none }, accessFlags := 2, code := none }
def k2c1 : Code := { maxStack := 5, maxLocals := 5, code := prog_9_method_3_code, exceptionTable := #[], attributes := #[] }
def k2m1 : Method := { name := "compare", desc := "([D[D)I", sig := { parameters := [(.array .double), (.array .double)], returnType := some .int }, accessFlags := 9, code := some k2c1 }
/-- com/example/tradewind/tradewind/front/Dominance -/
def k2 : Class := { plain "com/example/tradewind/tradewind/front/Dominance" (some 0) with
  accessFlags := 49
  interfaces := #[]
  cf := some (fileOf pool2 8 #[] #[{ accessFlags := 2, nameIndex := 5, descriptorIndex := 6, attributes := #[] }, { accessFlags := 9, nameIndex := 11, descriptorIndex := 12, attributes := #[] }] 49 2 #[] #[])
  fields := #[]
  methods := #[k2m0, k2m1]
  instanceTypes := #[]
  staticTypes := #[]
  resolved := Array.replicate 59 none
  statics := none }

def pool3 : Array CpInfo := pool [(1, .class_ 2), (0, u "java/io/Serializable"), (0, .class_ 4), (0, u "java/lang/Object")] 2

/-- java/io/Serializable -/
def k3 : Class := { plain "java/io/Serializable" (some 0) with
  accessFlags := 1537
  interfaces := #[]
  cf := some (fileOf pool3 1 #[] #[] 1537 3 #[] #[])
  fields := #[]
  methods := #[]
  instanceTypes := #[]
  staticTypes := #[]
  resolved := Array.replicate 7 none
  statics := none }

def pool4 : Array CpInfo := pool [(2, .class_ 4), (1, u "java/lang/Object"), (0, u "<init>"), (0, u "()V"), (1, .class_ 10), (1, u "java/lang/Number"), (2, .class_ 14), (0, u "java/io/Serializable"), (0, u "serialVersionUID"), (0, u "J")] 20

def k4m0 : Method := { name := "<init>", desc := "()V", sig := { parameters := [], returnType := none }, accessFlags := 1, code := none }
/-- java/lang/Number -/
def k4 : Class := { plain "java/lang/Number" (some 0) with
  accessFlags := 1057
  interfaces := #[3]
  cf := some (fileOf pool4 8 #[] #[{ accessFlags := 1, nameIndex := 5, descriptorIndex := 6, attributes := #[] }] 1057 2 #[13] #[{ accessFlags := 26, nameIndex := 15, descriptorIndex := 16, attributes := #[] }])
  fields := #[{ name := "serialVersionUID", type := .long, accessFlags := 26, slot := 0, constantValue := 0 }]
  methods := #[k4m0]
  instanceTypes := #[]
  staticTypes := #[.long]
  resolved := Array.replicate 37 none
  statics := none }

def pool5 : Array CpInfo := pool [(1, .class_ 2), (0, u "java/lang/Comparable"), (0, .class_ 4), (0, u "java/lang/Object")] 7

/-- java/lang/Comparable -/
def k5 : Class := { plain "java/lang/Comparable" (some 0) with
  accessFlags := 1537
  interfaces := #[]
  cf := some (fileOf pool5 1 #[] #[] 1537 3 #[] #[])
  fields := #[]
  methods := #[]
  instanceTypes := #[]
  staticTypes := #[]
  resolved := Array.replicate 12 none
  statics := none }

def pool6 : Array CpInfo := pool [(1, .class_ 2), (0, u "java/lang/constant/Constable"), (0, .class_ 4), (0, u "java/lang/Object")] 6

/-- java/lang/constant/Constable -/
def k6 : Class := { plain "java/lang/constant/Constable" (some 0) with
  accessFlags := 1537
  interfaces := #[]
  cf := some (fileOf pool6 1 #[] #[] 1537 3 #[] #[])
  fields := #[]
  methods := #[]
  instanceTypes := #[]
  staticTypes := #[]
  resolved := Array.replicate 11 none
  statics := none }

def pool7 : Array CpInfo := pool [(1, .class_ 2), (0, u "java/lang/constant/ConstantDesc"), (0, .class_ 4), (0, u "java/lang/Object")] 32

/-- java/lang/constant/ConstantDesc -/
def k7 : Class := { plain "java/lang/constant/ConstantDesc" (some 0) with
  accessFlags := 1537
  interfaces := #[]
  cf := some (fileOf pool7 1 #[] #[] 1537 3 #[] #[])
  fields := #[]
  methods := #[]
  instanceTypes := #[]
  staticTypes := #[]
  resolved := Array.replicate 37 none
  statics := none }

def pool8 : Array CpInfo := pool [(1, .class_ 2), (0, u "java/lang/Double"), (11, u "(D)Z"), (99, .class_ 116), (1, u "java/lang/Number"), (3, u "value"), (0, u "D"), (2, u "isNaN"), (48, u "TYPE"), (0, u "Ljava/lang/Class;"), (0, .class_ 176), (0, u "java/lang/Comparable"), (0, .class_ 178), (0, u "java/lang/constant/Constable"), (0, .class_ 180), (0, u "java/lang/constant/ConstantDesc"), (0, u "POSITIVE_INFINITY"), (3, u "NEGATIVE_INFINITY"), (2, u "NaN"), (2, u "MAX_VALUE"), (0, u "MIN_NORMAL"), (0, u "MIN_VALUE"), (2, u "SIZE"), (0, u "I"), (1, u "PRECISION"), (1, u "MAX_EXPONENT"), (1, u "MIN_EXPONENT"), (1, u "BYTES"), (3, u "serialVersionUID"), (0, u "J")] 79

def k8c0 : Code := { maxStack := 4, maxLocals := 2, code := jdk_117_method_6_code, exceptionTable := #[], attributes := #[] }
def k8m0 : Method := { name := "isNaN", desc := "(D)Z", sig := { parameters := [.double], returnType := some .boolean }, accessFlags := 9, code := some k8c0 }
/-- java/lang/Double -/
def k8 : Class := { plain "java/lang/Double" (some 4) with
  accessFlags := 49
  interfaces := #[5, 6, 7]
  cf := some (fileOf pool8 1 #[] #[{ accessFlags := 9, nameIndex := 124, descriptorIndex := 14, attributes := #[] }] 49 114 #[175, 177, 179] #[{ accessFlags := 25, nameIndex := 181, descriptorIndex := 121, attributes := #[] }, { accessFlags := 25, nameIndex := 185, descriptorIndex := 121, attributes := #[] }, { accessFlags := 25, nameIndex := 188, descriptorIndex := 121, attributes := #[] }, { accessFlags := 25, nameIndex := 191, descriptorIndex := 121, attributes := #[] }, { accessFlags := 25, nameIndex := 192, descriptorIndex := 121, attributes := #[] }, { accessFlags := 25, nameIndex := 193, descriptorIndex := 121, attributes := #[] }, { accessFlags := 25, nameIndex := 196, descriptorIndex := 197, attributes := #[] }, { accessFlags := 25, nameIndex := 199, descriptorIndex := 197, attributes := #[] }, { accessFlags := 25, nameIndex := 201, descriptorIndex := 197, attributes := #[] }, { accessFlags := 25, nameIndex := 203, descriptorIndex := 197, attributes := #[] }, { accessFlags := 25, nameIndex := 205, descriptorIndex := 197, attributes := #[] }, { accessFlags := 25, nameIndex := 173, descriptorIndex := 174, attributes := #[] }, { accessFlags := 18, nameIndex := 120, descriptorIndex := 121, attributes := #[] }, { accessFlags := 26, nameIndex := 209, descriptorIndex := 210, attributes := #[] }])
  fields := #[{ name := "POSITIVE_INFINITY", type := .double, accessFlags := 25, slot := 0, constantValue := 0 }, { name := "NEGATIVE_INFINITY", type := .double, accessFlags := 25, slot := 1, constantValue := 0 }, { name := "NaN", type := .double, accessFlags := 25, slot := 2, constantValue := 0 }, { name := "MAX_VALUE", type := .double, accessFlags := 25, slot := 3, constantValue := 0 }, { name := "MIN_NORMAL", type := .double, accessFlags := 25, slot := 4, constantValue := 0 }, { name := "MIN_VALUE", type := .double, accessFlags := 25, slot := 5, constantValue := 0 }, { name := "SIZE", type := .int, accessFlags := 25, slot := 6, constantValue := 0 }, { name := "PRECISION", type := .int, accessFlags := 25, slot := 7, constantValue := 0 }, { name := "MAX_EXPONENT", type := .int, accessFlags := 25, slot := 8, constantValue := 0 }, { name := "MIN_EXPONENT", type := .int, accessFlags := 25, slot := 9, constantValue := 0 }, { name := "BYTES", type := .int, accessFlags := 25, slot := 10, constantValue := 0 }, { name := "TYPE", type := (.object "java/lang/Class"), accessFlags := 25, slot := 11, constantValue := 0 }, { name := "value", type := .double, accessFlags := 18, slot := 0, constantValue := 0 }, { name := "serialVersionUID", type := .long, accessFlags := 26, slot := 12, constantValue := 0 }]
  methods := #[k8m0]
  instanceTypes := #[.double]
  staticTypes := #[.double, .double, .double, .double, .double, .double, .int, .int, .int, .int, .int, (.object "java/lang/Class"), .long]
  resolved := Array.replicate 290 none
  statics := none }

def pool9 : Array CpInfo := pool [(1, u "java/lang/Cloneable"), (0, .class_ 1), (0, u "java/lang/Object"), (0, .class_ 3)] 3

/-- java/lang/Cloneable -/
def k9 : Class := { plain "java/lang/Cloneable" (some 0) with
  accessFlags := 1537
  interfaces := #[]
  cf := some (fileOf pool9 2 #[] #[] 1537 4 #[] #[])
  fields := #[]
  methods := #[]
  instanceTypes := #[]
  staticTypes := #[]
  resolved := Array.replicate 8 none
  statics := none }

/-- the primitive byte -/
def k10 : Class := { plain "byte" none with kind := .primitive 'B', accessFlags := 0x411 }
/-- [B -/
def k11 : Class := { plain "[B" (some 0) with kind := .array 10 .byte, interfaces := #[9, 3], accessFlags := 1041 }

/-- the primitive double -/
def k12 : Class := { plain "double" none with kind := .primitive 'D', accessFlags := 0x411 }
/-- [D -/
def k13 : Class := { plain "[D" (some 0) with kind := .array 12 .double, interfaces := #[9, 3], accessFlags := 1041 }

/-- the primitive int -/
def k14 : Class := { plain "int" none with kind := .primitive 'I', accessFlags := 0x411 }
/-- [I -/
def k15 : Class := { plain "[I" (some 0) with kind := .array 14 .int, interfaces := #[9, 3], accessFlags := 1041 }

def heap : Heap := #[]
def classes : Array Class := #[k0, k1, k2, k3, k4, k5, k6, k7, k8, k9, k10, k11, k12, k13, k14, k15]
def interned : List (Array UInt16 × Addr) := []
def slotsUsed : Nat := 0
def theMethod : MethodId := ⟨1, 1⟩
def args0 : Array Value := #[.int 5, .int 3, .int 1]
def aboutOver (below : List Frame) : State where
  vm := { classes := classes, interned := interned.toArray }
  heap := heap
  slotsUsed := slotsUsed
  threads := #[{ frames := .invoking theMethod args0 :: below }]
def below0 : List Frame := [.native { method := ⟨0, 0⟩, args := #[] }]
def about1 : State := aboutOver below0
def p0 : Program := .bare "" "" ""
def e0 : Env := launch0.env 0 0 0
theorem w_frames : about1.frames = Frame.invoking theMethod args0 :: below0 := rfl
set_option maxRecDepth 65536 in
theorem w_args : argsFit about1.vm theMethod args0 = true := by decide +kernel
set_option maxRecDepth 65536 in
theorem w_heap : heapFits about1 = true := by decide +kernel
set_option maxRecDepth 65536 in
theorem w_runnable : about1.curStatus? = some .runnable := by decide +kernel
set_option maxRecDepth 65536 in
theorem w_alone : about1.alone = true := by decide +kernel
set_option maxRecDepth 65536 in
theorem w_named : about1.methodNamed? x = some theMethod := by decide +kernel
set_option maxRecDepth 65536 in
theorem w_hears : about1.hears theMethod below0 = true := by decide +kernel
set_option maxRecDepth 65536 in
theorem w_ripe : about1.ripe theMethod args0 below0 = true := by decide +kernel
theorem w_running : about1.status = .running := rfl
set_option maxRecDepth 65536 in
theorem w_room : about1.hasRoom e0.platform room_1 = true :=
  launch0.hasRoom_least _ room_1 (by decide +kernel) (by decide +kernel) (by decide +kernel) (by decide +kernel) (by decide +kernel) (by decide +kernel)
theorem allAtoms_all (ts : List Jvm.Cond) (a : Array Jvm.Value) (st : Jvm.State) : (allAtoms ts).before a st = ts.all (fun c => c.before a st) := by
  induction ts with
  | nil => rfl
  | cons c t ih =>
    show (Jvm.Cond.and c (allAtoms t)).before a st = _
    rw [Jvm.Cond.before_and, ih, List.all_cons]
def words1 : List Jvm.Cond := Jvm.Cond.code x code maxLocals ret :: tables_1
/-- a 'code' word, met by the world's own term for the bytes: nothing is compared byte by byte -/
theorem code_word {y : MethodName} {bytes : ByteArray} {mx : Nat} {rt : Option FieldType} {a : Array Value} {s : State} {m : MethodId} {meth : Method} {c : Code} (h1 : s.methodNamed? y = some m) (h2 : s.vm.method? m = some meth) (h3 : meth.code = some c) (h4 : c.code = bytes)
    (h5 : (c.maxLocals == mx && c.exceptionTable.isEmpty && decide (c.maxStack ≤ mostOperands) && decide (meth.sig.returnType = rt) && !meth.locks && decide (parseMethodDescriptor y.desc = some meth.sig)) = true) : (Jvm.Cond.code y bytes mx rt).before a s = true := by
  simp only [Bool.and_eq_true, beq_iff_eq, Bool.not_eq_true', decide_eq_true_eq] at h5
  obtain ⟨⟨⟨⟨⟨g1, g2⟩, g3⟩, g4⟩, g5⟩, g6⟩ := h5
  simp [Cond.before, Cond.holds, Cond.value, h1, h2, h3, h4, g1, g2, g3, g4, g5, g6]
def isCode : Jvm.Cond → Bool
  | .code _ _ _ _ => true
  | _ => false
theorem all_split {L : List Jvm.Cond} {P : Jvm.Cond → Bool} (h1 : L.all (fun c => isCode c || P c) = true) (h2 : ∀ c ∈ L.filter isCode, P c = true) : L.all P = true := by
  refine List.all_eq_true.mpr fun c hc => ?_
  have h := List.all_eq_true.mp h1 c hc
  rcases Bool.eq_false_or_eq_true (isCode c) with hi | hi
  · exact h2 c (List.mem_filter.mpr ⟨hc, hi⟩)
  · simpa [hi] using h
set_option maxRecDepth 65536 in
theorem w_c0 : (Jvm.Cond.code x code maxLocals ret).before args0 about1 = true := code_word (m := ⟨1, 1⟩) (meth := k1m1) (c := k1c1) (by decide +kernel) rfl rfl rfl (by decide +kernel)
set_option maxRecDepth 65536 in
theorem w_c1 : (Jvm.Cond.code ({ cls := "com/example/tradewind/tradewind/front/Dominance", name := "compare", desc := "([D[D)I" } : Jvm.MethodName) prog_9_method_3_code (5 : Nat) (Option.some Jvm.ClassFile.FieldType.int)).before args0 about1 = true := code_word (m := ⟨2, 1⟩) (meth := k2m1) (c := k2c1) (by decide +kernel) rfl rfl rfl (by decide +kernel)
set_option maxRecDepth 65536 in
theorem w_c2 : (Jvm.Cond.code ({ cls := "java/lang/Double", name := "isNaN", desc := "(D)Z" } : Jvm.MethodName) jdk_117_method_6_code (2 : Nat) (Option.some Jvm.ClassFile.FieldType.boolean)).before args0 about1 = true := code_word (m := ⟨8, 0⟩) (meth := k8m0) (c := k8c0) (by decide +kernel) rfl rfl rfl (by decide +kernel)
def codes1 : List Jvm.Cond := [Jvm.Cond.code x code maxLocals ret, Jvm.Cond.code ({ cls := "com/example/tradewind/tradewind/front/Dominance", name := "compare", desc := "([D[D)I" } : Jvm.MethodName) prog_9_method_3_code (5 : Nat) (Option.some Jvm.ClassFile.FieldType.int), Jvm.Cond.code ({ cls := "java/lang/Double", name := "isNaN", desc := "(D)Z" } : Jvm.MethodName) jdk_117_method_6_code (2 : Nat) (Option.some Jvm.ClassFile.FieldType.boolean)]
set_option maxRecDepth 65536 in
theorem codes_eq : words1.filter isCode = codes1 := rfl
theorem w_codes : ∀ c ∈ words1.filter isCode, c.before args0 about1 = true := by
  rw [codes_eq]
  intro c hc
  simp only [codes1, List.mem_cons, List.not_mem_nil, or_false] at hc
  rcases hc with rfl | rfl | rfl
  · exact w_c0
  · exact w_c1
  · exact w_c2
set_option maxRecDepth 65536 in
theorem w_t1 : words1.all (fun c => isCode c || c.before args0 about1) = true := by decide +kernel
theorem w_tables : (allAtoms (Jvm.Cond.code x code maxLocals ret :: tables_1)).before args0 about1 = true := by
  rw [allAtoms_all]
  show words1.all (fun c => c.before args0 about1) = true
  refine all_split ?_ w_codes
  rw [w_t1]
set_option maxRecDepth 65536 in
theorem w_case : (Jvm.Cond.and given_1 narrow_1).before args0 about1 = true := by decide +kernel
theorem w_applies : (headSpec (Jvm.Cond.code x code maxLocals ret :: tables_1) room_1).applies x e0.platform about1 = true :=
  (Spec.applies_iff w_frames).mpr ⟨w_running, w_runnable, w_alone, w_named, w_hears, w_ripe, w_room, w_tables⟩
theorem atStart : AtStart classFile x code maxLocals ret World_1 tables_1 room_1 Calls_1 rest_1 Pre_1 launch0 p0 e0 about1 theMethod args0 below0 :=
  ⟨lists_1, trivial, launch0.admits_env _ _ _, launch0.least_env, fairChoices_fair.cas, fairChoices_fair.clock, w_frames, w_args, w_heap, w_applies, trivial, trivial, w_case⟩
end start1
theorem witness_1 : WitnessClaimed_1 := ⟨start1.p0, start1.e0, start1.about1, start1.theMethod, start1.args0, start1.below0, start1.atStart⟩
end Jvm.Pilot.@@N@@
