import JvmDerived
import JvmDerived.Pilot.@@N@@Statement
import JvmDerived.Pilot.@@N@@Code
set_option linter.unusedVariables false
set_option linter.unusedSimpArgs false
namespace Jvm.Pilot.@@N@@
open Jvm Jvm.ClassFile Sem Op Lib Jvm.Free Jvm.Free.Fl Jvm.Stand Jvm.LawKit Jvm.RoadKit Bundle Jvm.Pilot.@@N@@.Jvm.D
section own_go
/-- where the walk stands, with the two facts that every step asks -/
def Ax (p : Program) (l : Launch) (e : Env) (R : Room) (s : State) (m : MethodId) (args : Array Value) (below : List Frame) (meth : Method) (c : Code) (T : State) (locs : List Loc) (cells slots : Nat) (B : ByteArray) : Prop := Stand p l e R s m args below meth c T locs cells slots ∧ p.tables.exec = Jvm.exec ∧ c.code = B
/-- from this frame the run ends, and P holds of its end -/
def Go (p : Program) (e : Env) (below : List Frame) (P : State → Outcome → Prop) (T : State) (g : JFrame) : Prop := ∃ U o, Steps p.tables e below (T.setTop g) U ∧ U.status = .running ∧ Ended U below o ∧ P U o
variable {p : Program} {l : Launch} {e : Env} {R : Room} {s : State} {m : MethodId} {args : Array Value} {below : List Frame} {meth : Method} {c : Code} {T : State} {locs : List Loc} {cells slots : Nat} {P : State → Outcome → Prop} {B : ByteArray} {pc pc' : Nat} {ls ls' : Array Slot} {st : List Value}
theorem Go.of {T' : State} {g g' : JFrame} (k : ∀ t, Steps p.tables e below (T'.setTop g') t → Steps p.tables e below (T.setTop g) t) (h : Go p e below P T' g') : Go p e below P T g := by
  obtain ⟨U, o, h1, h2⟩ := h
  exact ⟨U, o, k _ h1, h2⟩
theorem Go.tr {T' : State} {g g' : JFrame} (k : Steps p.tables e below (T.setTop g) (T'.setTop g')) (h : Go p e below P T' g') : Go p e below P T g := Go.of (fun _ h => k.trans h) h
theorem Go.cast {g g' : JFrame} (q : g = g') (h : Go p e below P T g') : Go p e below P T g := q ▸ h

theorem g_iadd (A : Ax p l e R s m args below meth c T locs cells slots B) {x : Int32} {y : Int32} (hd : decode B pc = .ok (.iadd, 1)) (hp : pc + 1 = pc') (k : Go p e below P T (mkF m pc' ls (.int (x + y) :: st))) : Go p e below P T (mkF m pc ls (.int y :: .int x :: st)) := by
  subst hp; exact Go.of (fun _ k' => XS.iadd A.1.here A.2.1 rfl (hb A.2.2 hd) rfl k') k
theorem g_isub (A : Ax p l e R s m args below meth c T locs cells slots B) {x : Int32} {y : Int32} (hd : decode B pc = .ok (.isub, 1)) (hp : pc + 1 = pc') (k : Go p e below P T (mkF m pc' ls (.int (x - y) :: st))) : Go p e below P T (mkF m pc ls (.int y :: .int x :: st)) := by
  subst hp; exact Go.of (fun _ k' => XS.isub A.1.here A.2.1 rfl (hb A.2.2 hd) rfl k') k
theorem g_iand (A : Ax p l e R s m args below meth c T locs cells slots B) {x : Int32} {y : Int32} (hd : decode B pc = .ok (.iand, 1)) (hp : pc + 1 = pc') (k : Go p e below P T (mkF m pc' ls (.int (x &&& y) :: st))) : Go p e below P T (mkF m pc ls (.int y :: .int x :: st)) := by
  subst hp; exact Go.of (fun _ k' => XS.iand A.1.here A.2.1 rfl (hb A.2.2 hd) rfl k') k
theorem g_imul (A : Ax p l e R s m args below meth c T locs cells slots B) {x : Int32} {y : Int32} (hd : decode B pc = .ok (.imul, 1)) (hp : pc + 1 = pc') (k : Go p e below P T (mkF m pc' ls (.int (x * y) :: st))) : Go p e below P T (mkF m pc ls (.int y :: .int x :: st)) := by
  subst hp; exact Go.of (fun _ k' => XS.imul A.1.here A.2.1 rfl (hb A.2.2 hd) rfl k') k
theorem g_ixor (A : Ax p l e R s m args below meth c T locs cells slots B) {x : Int32} {y : Int32} (hd : decode B pc = .ok (.ixor, 1)) (hp : pc + 1 = pc') (k : Go p e below P T (mkF m pc' ls (.int (x ^^^ y) :: st))) : Go p e below P T (mkF m pc ls (.int y :: .int x :: st)) := by
  subst hp; exact Go.of (fun _ k' => XT.ixor A.1.here A.2.1 rfl (hb A.2.2 hd) rfl k') k
theorem g_ior (A : Ax p l e R s m args below meth c T locs cells slots B) {x : Int32} {y : Int32} (hd : decode B pc = .ok (.ior, 1)) (hp : pc + 1 = pc') (k : Go p e below P T (mkF m pc' ls (.int (x ||| y) :: st))) : Go p e below P T (mkF m pc ls (.int y :: .int x :: st)) := by
  subst hp; exact Go.of (fun _ k' => XT.ior A.1.here A.2.1 rfl (hb A.2.2 hd) rfl k') k
theorem g_ishl (A : Ax p l e R s m args below meth c T locs cells slots B) {x : Int32} {y : Int32} (hd : decode B pc = .ok (.ishl, 1)) (hp : pc + 1 = pc') (k : Go p e below P T (mkF m pc' ls (.int (x <<< (y &&& 31)) :: st))) : Go p e below P T (mkF m pc ls (.int y :: .int x :: st)) := by
  subst hp; exact Go.of (fun _ k' => XT.ishl A.1.here A.2.1 rfl (hb A.2.2 hd) rfl k') k
theorem g_ishr (A : Ax p l e R s m args below meth c T locs cells slots B) {x : Int32} {y : Int32} (hd : decode B pc = .ok (.ishr, 1)) (hp : pc + 1 = pc') (k : Go p e below P T (mkF m pc' ls (.int (x >>> (y &&& 31)) :: st))) : Go p e below P T (mkF m pc ls (.int y :: .int x :: st)) := by
  subst hp; exact Go.of (fun _ k' => XT.ishr A.1.here A.2.1 rfl (hb A.2.2 hd) rfl k') k
theorem g_iushr (A : Ax p l e R s m args below meth c T locs cells slots B) {x : Int32} {y : Int32} (hd : decode B pc = .ok (.iushr, 1)) (hp : pc + 1 = pc') (k : Go p e below P T (mkF m pc' ls (.int (XT.ushr x y) :: st))) : Go p e below P T (mkF m pc ls (.int y :: .int x :: st)) := by
  subst hp; exact Go.of (fun _ k' => XT.iushr A.1.here A.2.1 rfl (hb A.2.2 hd) rfl k') k
theorem g_idiv (A : Ax p l e R s m args below meth c T locs cells slots B) {x : Int32} {y : Int32} (hd : decode B pc = .ok (.idiv, 1)) (hy : y ≠ 0) (hp : pc + 1 = pc') (k : Go p e below P T (mkF m pc' ls (.int (x / y) :: st))) : Go p e below P T (mkF m pc ls (.int y :: .int x :: st)) := by
  subst hp; exact Go.of (fun _ k' => XS.idiv A.1.here A.2.1 rfl (hb A.2.2 hd) rfl hy k') k
theorem g_ladd (A : Ax p l e R s m args below meth c T locs cells slots B) {x : Int64} {y : Int64} (hd : decode B pc = .ok (.ladd, 1)) (hp : pc + 1 = pc') (k : Go p e below P T (mkF m pc' ls (.long (x + y) :: st))) : Go p e below P T (mkF m pc ls (.long y :: .long x :: st)) := by
  subst hp; exact Go.of (fun _ k' => XT.ladd A.1.here A.2.1 rfl (hb A.2.2 hd) rfl k') k
theorem g_lsub (A : Ax p l e R s m args below meth c T locs cells slots B) {x : Int64} {y : Int64} (hd : decode B pc = .ok (.lsub, 1)) (hp : pc + 1 = pc') (k : Go p e below P T (mkF m pc' ls (.long (x - y) :: st))) : Go p e below P T (mkF m pc ls (.long y :: .long x :: st)) := by
  subst hp; exact Go.of (fun _ k' => XT.lsub A.1.here A.2.1 rfl (hb A.2.2 hd) rfl k') k
theorem g_lmul (A : Ax p l e R s m args below meth c T locs cells slots B) {x : Int64} {y : Int64} (hd : decode B pc = .ok (.lmul, 1)) (hp : pc + 1 = pc') (k : Go p e below P T (mkF m pc' ls (.long (x * y) :: st))) : Go p e below P T (mkF m pc ls (.long y :: .long x :: st)) := by
  subst hp; exact Go.of (fun _ k' => XT.lmul A.1.here A.2.1 rfl (hb A.2.2 hd) rfl k') k
theorem g_land (A : Ax p l e R s m args below meth c T locs cells slots B) {x : Int64} {y : Int64} (hd : decode B pc = .ok (.land, 1)) (hp : pc + 1 = pc') (k : Go p e below P T (mkF m pc' ls (.long (x &&& y) :: st))) : Go p e below P T (mkF m pc ls (.long y :: .long x :: st)) := by
  subst hp; exact Go.of (fun _ k' => XT.land A.1.here A.2.1 rfl (hb A.2.2 hd) rfl k') k
theorem g_lor (A : Ax p l e R s m args below meth c T locs cells slots B) {x : Int64} {y : Int64} (hd : decode B pc = .ok (.lor, 1)) (hp : pc + 1 = pc') (k : Go p e below P T (mkF m pc' ls (.long (x ||| y) :: st))) : Go p e below P T (mkF m pc ls (.long y :: .long x :: st)) := by
  subst hp; exact Go.of (fun _ k' => XT.lor A.1.here A.2.1 rfl (hb A.2.2 hd) rfl k') k
theorem g_lxor (A : Ax p l e R s m args below meth c T locs cells slots B) {x : Int64} {y : Int64} (hd : decode B pc = .ok (.lxor, 1)) (hp : pc + 1 = pc') (k : Go p e below P T (mkF m pc' ls (.long (x ^^^ y) :: st))) : Go p e below P T (mkF m pc ls (.long y :: .long x :: st)) := by
  subst hp; exact Go.of (fun _ k' => XT.lxor A.1.here A.2.1 rfl (hb A.2.2 hd) rfl k') k
theorem g_lshl (A : Ax p l e R s m args below meth c T locs cells slots B) {x : Int64} {y : Int32} (hd : decode B pc = .ok (.lshl, 1)) (hp : pc + 1 = pc') (k : Go p e below P T (mkF m pc' ls (.long (x <<< (y.toInt64 &&& 63)) :: st))) : Go p e below P T (mkF m pc ls (.int y :: .long x :: st)) := by
  subst hp; exact Go.of (fun _ k' => XT.lshl A.1.here A.2.1 rfl (hb A.2.2 hd) rfl k') k
theorem g_lshr (A : Ax p l e R s m args below meth c T locs cells slots B) {x : Int64} {y : Int32} (hd : decode B pc = .ok (.lshr, 1)) (hp : pc + 1 = pc') (k : Go p e below P T (mkF m pc' ls (.long (x >>> (y.toInt64 &&& 63)) :: st))) : Go p e below P T (mkF m pc ls (.int y :: .long x :: st)) := by
  subst hp; exact Go.of (fun _ k' => XT.lshr A.1.here A.2.1 rfl (hb A.2.2 hd) rfl k') k
theorem g_lushr (A : Ax p l e R s m args below meth c T locs cells slots B) {x : Int64} {y : Int32} (hd : decode B pc = .ok (.lushr, 1)) (hp : pc + 1 = pc') (k : Go p e below P T (mkF m pc' ls (.long (XT.ushrL x y) :: st))) : Go p e below P T (mkF m pc ls (.int y :: .long x :: st)) := by
  subst hp; exact Go.of (fun _ k' => XT.lushr A.1.here A.2.1 rfl (hb A.2.2 hd) rfl k') k
theorem g_ldiv (A : Ax p l e R s m args below meth c T locs cells slots B) {x : Int64} {y : Int64} (hd : decode B pc = .ok (.ldiv, 1)) (hy : y ≠ 0) (hp : pc + 1 = pc') (k : Go p e below P T (mkF m pc' ls (.long (x / y) :: st))) : Go p e below P T (mkF m pc ls (.long y :: .long x :: st)) := by
  subst hp; exact Go.of (fun _ k' => XT.ldiv A.1.here A.2.1 rfl (hb A.2.2 hd) rfl hy k') k
theorem g_lrem (A : Ax p l e R s m args below meth c T locs cells slots B) {x y : Int64} (hd : decode B pc = .ok (.lrem, 1)) (hy : y ≠ 0) (hp : pc + 1 = pc') (k : Go p e below P T (mkF m pc' ls (.long (x % y) :: st))) : Go p e below P T (mkF m pc ls (.long y :: .long x :: st)) := by
  subst hp; rw [← lrem_mod] at k; exact Go.of (fun _ k' => XT.lrem A.1.here A.2.1 rfl (hb A.2.2 hd) rfl hy k') k
theorem g_i2s (A : Ax p l e R s m args below meth c T locs cells slots B) {x : Int32} (hd : decode B pc = .ok (.i2s, 1)) (hp : pc + 1 = pc') (k : Go p e below P T (mkF m pc' ls (.int (x.toInt16.toInt32) :: st))) : Go p e below P T (mkF m pc ls (.int x :: st)) := by
  subst hp; exact Go.of (fun _ k' => XT.i2s A.1.here A.2.1 rfl (hb A.2.2 hd) rfl k') k
theorem g_i2b (A : Ax p l e R s m args below meth c T locs cells slots B) {x : Int32} (hd : decode B pc = .ok (.i2b, 1)) (hp : pc + 1 = pc') (k : Go p e below P T (mkF m pc' ls (.int (x.toInt8.toInt32) :: st))) : Go p e below P T (mkF m pc ls (.int x :: st)) := by
  subst hp; exact Go.of (fun _ k' => XT.i2b A.1.here A.2.1 rfl (hb A.2.2 hd) rfl k') k
theorem g_i2c (A : Ax p l e R s m args below meth c T locs cells slots B) {x : Int32} (hd : decode B pc = .ok (.i2c, 1)) (hp : pc + 1 = pc') (k : Go p e below P T (mkF m pc' ls (.int (x.toUInt32.toUInt16.toUInt32.toInt32) :: st))) : Go p e below P T (mkF m pc ls (.int x :: st)) := by
  subst hp; exact Go.of (fun _ k' => XT.i2c A.1.here A.2.1 rfl (hb A.2.2 hd) rfl k') k
theorem g_ineg (A : Ax p l e R s m args below meth c T locs cells slots B) {x : Int32} (hd : decode B pc = .ok (.ineg, 1)) (hp : pc + 1 = pc') (k : Go p e below P T (mkF m pc' ls (.int (-x) :: st))) : Go p e below P T (mkF m pc ls (.int x :: st)) := by
  subst hp; exact Go.of (fun _ k' => XS.ineg A.1.here A.2.1 rfl (hb A.2.2 hd) rfl k') k
theorem g_lneg (A : Ax p l e R s m args below meth c T locs cells slots B) {x : Int64} (hd : decode B pc = .ok (.lneg, 1)) (hp : pc + 1 = pc') (k : Go p e below P T (mkF m pc' ls (.long (-x) :: st))) : Go p e below P T (mkF m pc ls (.long x :: st)) := by
  subst hp; exact Go.of (fun _ k' => XT.lneg A.1.here A.2.1 rfl (hb A.2.2 hd) rfl k') k
theorem g_i2l (A : Ax p l e R s m args below meth c T locs cells slots B) {x : Int32} (hd : decode B pc = .ok (.i2l, 1)) (hp : pc + 1 = pc') (k : Go p e below P T (mkF m pc' ls (.long (x.toInt64) :: st))) : Go p e below P T (mkF m pc ls (.int x :: st)) := by
  subst hp; exact Go.of (fun _ k' => XT.i2l A.1.here A.2.1 rfl (hb A.2.2 hd) rfl k') k
theorem g_l2i (A : Ax p l e R s m args below meth c T locs cells slots B) {x : Int64} (hd : decode B pc = .ok (.l2i, 1)) (hp : pc + 1 = pc') (k : Go p e below P T (mkF m pc' ls (.int (x.toInt32) :: st))) : Go p e below P T (mkF m pc ls (.long x :: st)) := by
  subst hp; exact Go.of (fun _ k' => XT.l2i A.1.here A.2.1 rfl (hb A.2.2 hd) rfl k') k
theorem g_irem (A : Ax p l e R s m args below meth c T locs cells slots B) {x y : Int32} (hd : decode B pc = .ok (.irem, 1)) (hy : y ≠ 0) (hp : pc + 1 = pc') (k : Go p e below P T (mkF m pc' ls (.int (x % y) :: st))) : Go p e below P T (mkF m pc ls (.int y :: .int x :: st)) := by
  subst hp; exact Go.of (fun _ k' => iremM A.1 A.2.1 rfl (hb A.2.2 hd) rfl hy k') k
theorem g_iloadN (A : Ax p l e R s m args below meth c T locs cells slots B) {k : Fin 4} {v : Int32} (hd : decode B pc = .ok (.iload_n k, 1)) (hl : ls[k.val]? = some (.val (.int v))) (hp : pc + 1 = pc') (k : Go p e below P T (mkF m pc' ls (.int v :: st))) : Go p e below P T (mkF m pc ls st) := by
  subst hp; exact Go.of (fun _ k' => XS.iloadN A.1.here A.2.1 rfl (hb A.2.2 hd) hl k') k
theorem g_iload (A : Ax p l e R s m args below meth c T locs cells slots B) {k : Nat} {v : Int32} (hd : decode B pc = .ok (.iload k, 2)) (hl : ls[k]? = some (.val (.int v))) (hp : pc + 2 = pc') (k : Go p e below P T (mkF m pc' ls (.int v :: st))) : Go p e below P T (mkF m pc ls st) := by
  subst hp; exact Go.of (fun _ k' => XS.iload A.1.here A.2.1 rfl (hb A.2.2 hd) hl k') k
theorem g_lloadN (A : Ax p l e R s m args below meth c T locs cells slots B) {k : Fin 4} {v : Int64} (hd : decode B pc = .ok (.lload_n k, 1)) (hl : ls[k.val]? = some (.val (.long v))) (hp : pc + 1 = pc') (k : Go p e below P T (mkF m pc' ls (.long v :: st))) : Go p e below P T (mkF m pc ls st) := by
  subst hp; exact Go.of (fun _ k' => XT.lloadN A.1.here A.2.1 rfl (hb A.2.2 hd) hl k') k
theorem g_lload (A : Ax p l e R s m args below meth c T locs cells slots B) {k : Nat} {v : Int64} (hd : decode B pc = .ok (.lload k, 2)) (hl : ls[k]? = some (.val (.long v))) (hp : pc + 2 = pc') (k : Go p e below P T (mkF m pc' ls (.long v :: st))) : Go p e below P T (mkF m pc ls st) := by
  subst hp; exact Go.of (fun _ k' => XT.lload A.1.here A.2.1 rfl (hb A.2.2 hd) hl k') k
theorem g_aloadN (A : Ax p l e R s m args below meth c T locs cells slots B) {k : Fin 4} {v : Value} (hd : decode B pc = .ok (.aload_n k, 1)) (hl : ls[k.val]? = some (.val v)) (hv : v.isRef = true) (hp : pc + 1 = pc') (k : Go p e below P T (mkF m pc' ls (v :: st))) : Go p e below P T (mkF m pc ls st) := by
  subst hp; exact Go.of (fun _ k' => XS.aloadN A.1.here A.2.1 rfl (hb A.2.2 hd) hl hv k') k
theorem g_aload (A : Ax p l e R s m args below meth c T locs cells slots B) {k : Nat} {v : Value} (hd : decode B pc = .ok (.aload k, 2)) (hl : ls[k]? = some (.val v)) (hv : v.isRef = true) (hp : pc + 2 = pc') (k : Go p e below P T (mkF m pc' ls (v :: st))) : Go p e below P T (mkF m pc ls st) := by
  subst hp; exact Go.of (fun _ k' => XS.aload A.1.here A.2.1 rfl (hb A.2.2 hd) hl hv k') k
theorem g_dloadN (A : Ax p l e R s m args below meth c T locs cells slots B) {k : Fin 4} {v : UInt64} (hd : decode B pc = .ok (.dload_n k, 1)) (hl : ls[k.val]? = some (.val (.double v))) (hp : pc + 1 = pc') (k : Go p e below P T (mkF m pc' ls (.double v :: st))) : Go p e below P T (mkF m pc ls st) := by
  subst hp
  refine Go.of (fun t k' => ?_) k
  have h := A.1.here
  have hx := A.2.1
  have hd' := hb A.2.2 hd
  show Steps p.tables e below (T.setTop { method := m, pc := pc, locals := ls, stack := st, locked := none }) _
  jvm_step h [h.top, hx, hd', hl]
  exact k'
theorem g_dload (A : Ax p l e R s m args below meth c T locs cells slots B) {k : Nat} {v : UInt64} (hd : decode B pc = .ok (.dload k, 2)) (hl : ls[k]? = some (.val (.double v))) (hp : pc + 2 = pc') (k : Go p e below P T (mkF m pc' ls (.double v :: st))) : Go p e below P T (mkF m pc ls st) := by
  subst hp
  refine Go.of (fun t k' => ?_) k
  have h := A.1.here
  have hx := A.2.1
  have hd' := hb A.2.2 hd
  show Steps p.tables e below (T.setTop { method := m, pc := pc, locals := ls, stack := st, locked := none }) _
  jvm_step h [h.top, hx, hd', hl]
  exact k'
theorem g_istoreN (A : Ax p l e R s m args below meth c T locs cells slots B) {k : Fin 4} {x : Int32} (hd : decode B pc = .ok (.istore_n k, 1)) (hl : storeLocals ls k.val (.int x) = some ls') (hp : pc + 1 = pc') (k : Go p e below P T (mkF m pc' ls' st)) : Go p e below P T (mkF m pc ls (.int x :: st)) := by
  subst hp; exact Go.of (fun _ k' => XS.istoreN A.1.here A.2.1 rfl (hb A.2.2 hd) rfl hl k') k
theorem g_istore (A : Ax p l e R s m args below meth c T locs cells slots B) {k : Nat} {x : Int32} (hd : decode B pc = .ok (.istore k, 2)) (hl : storeLocals ls k (.int x) = some ls') (hp : pc + 2 = pc') (k : Go p e below P T (mkF m pc' ls' st)) : Go p e below P T (mkF m pc ls (.int x :: st)) := by
  subst hp; exact Go.of (fun _ k' => XS.istore A.1.here A.2.1 rfl (hb A.2.2 hd) rfl hl k') k
theorem g_lstoreN (A : Ax p l e R s m args below meth c T locs cells slots B) {k : Fin 4} {x : Int64} (hd : decode B pc = .ok (.lstore_n k, 1)) (hl : storeLocals ls k.val (.long x) = some ls') (hp : pc + 1 = pc') (k : Go p e below P T (mkF m pc' ls' st)) : Go p e below P T (mkF m pc ls (.long x :: st)) := by
  subst hp; exact Go.of (fun _ k' => XT.lstoreN A.1.here A.2.1 rfl (hb A.2.2 hd) rfl hl k') k
theorem g_lstore (A : Ax p l e R s m args below meth c T locs cells slots B) {k : Nat} {x : Int64} (hd : decode B pc = .ok (.lstore k, 2)) (hl : storeLocals ls k (.long x) = some ls') (hp : pc + 2 = pc') (k : Go p e below P T (mkF m pc' ls' st)) : Go p e below P T (mkF m pc ls (.long x :: st)) := by
  subst hp; exact Go.of (fun _ k' => XT.lstore A.1.here A.2.1 rfl (hb A.2.2 hd) rfl hl k') k
theorem g_astoreN (A : Ax p l e R s m args below meth c T locs cells slots B) {k : Fin 4} {x : Value} (hd : decode B pc = .ok (.astore_n k, 1)) (hv : x.isRef = true) (hl : storeLocals ls k.val x = some ls') (hp : pc + 1 = pc') (k : Go p e below P T (mkF m pc' ls' st)) : Go p e below P T (mkF m pc ls (x :: st)) := by
  subst hp; exact Go.of (fun _ k' => XS.astoreN A.1.here A.2.1 rfl (hb A.2.2 hd) rfl hv hl k') k
theorem g_astore (A : Ax p l e R s m args below meth c T locs cells slots B) {k : Nat} {x : Value} (hd : decode B pc = .ok (.astore k, 2)) (hv : x.isRef = true) (hl : storeLocals ls k x = some ls') (hp : pc + 2 = pc') (k : Go p e below P T (mkF m pc' ls' st)) : Go p e below P T (mkF m pc ls (x :: st)) := by
  subst hp; exact Go.of (fun _ k' => XS.astore A.1.here A.2.1 rfl (hb A.2.2 hd) rfl hv hl k') k
theorem g_dstoreN (A : Ax p l e R s m args below meth c T locs cells slots B) {k : Fin 4} {x : UInt64} (hd : decode B pc = .ok (.dstore_n k, 1)) (hl : storeLocals ls k.val (.double x) = some ls') (hp : pc + 1 = pc') (k : Go p e below P T (mkF m pc' ls' st)) : Go p e below P T (mkF m pc ls (.double x :: st)) := by
  subst hp
  refine Go.of (fun t k' => ?_) k
  have h := A.1.here
  have hx := A.2.1
  have hd' := hb A.2.2 hd
  show Steps p.tables e below (T.setTop { method := m, pc := pc, locals := ls, stack := .double x :: st, locked := none }) _
  jvm_step h [h.top, hx, hd']
  exact ⟨ls', hl, k'⟩
theorem g_dstore (A : Ax p l e R s m args below meth c T locs cells slots B) {k : Nat} {x : UInt64} (hd : decode B pc = .ok (.dstore k, 2)) (hl : storeLocals ls k (.double x) = some ls') (hp : pc + 2 = pc') (k : Go p e below P T (mkF m pc' ls' st)) : Go p e below P T (mkF m pc ls (.double x :: st)) := by
  subst hp
  refine Go.of (fun t k' => ?_) k
  have h := A.1.here
  have hx := A.2.1
  have hd' := hb A.2.2 hd
  show Steps p.tables e below (T.setTop { method := m, pc := pc, locals := ls, stack := .double x :: st, locked := none }) _
  jvm_step h [h.top, hx, hd']
  exact ⟨ls', hl, k'⟩
theorem g_iconst (A : Ax p l e R s m args below meth c T locs cells slots B) {i : Int} {v : Int32} (hd : decode B pc = .ok (.iconst i, 1)) (hv : Int32.ofInt i = v) (hp : pc + 1 = pc') (k : Go p e below P T (mkF m pc' ls (.int v :: st))) : Go p e below P T (mkF m pc ls st) := by
  subst hp hv; exact Go.of (fun _ k' => XS.iconst A.1.here A.2.1 rfl (hb A.2.2 hd) k') k
theorem g_bipush (A : Ax p l e R s m args below meth c T locs cells slots B) {i : Int} {v : Int32} (hd : decode B pc = .ok (.bipush i, 2)) (hv : (Int8.ofInt i).toInt32 = v) (hp : pc + 2 = pc') (k : Go p e below P T (mkF m pc' ls (.int v :: st))) : Go p e below P T (mkF m pc ls st) := by
  subst hp hv; exact Go.of (fun _ k' => XS.bipush A.1.here A.2.1 rfl (hb A.2.2 hd) k') k
theorem g_sipush (A : Ax p l e R s m args below meth c T locs cells slots B) {i : Int} {v : Int32} (hd : decode B pc = .ok (.sipush i, 3)) (hv : (Int16.ofInt i).toInt32 = v) (hp : pc + 3 = pc') (k : Go p e below P T (mkF m pc' ls (.int v :: st))) : Go p e below P T (mkF m pc ls st) := by
  subst hp hv; exact Go.of (fun _ k' => XS.sipush A.1.here A.2.1 rfl (hb A.2.2 hd) k') k
theorem g_aconst (A : Ax p l e R s m args below meth c T locs cells slots B) (hd : decode B pc = .ok (.aconst_null, 1)) (hp : pc + 1 = pc') (k : Go p e below P T (mkF m pc' ls (.null :: st))) : Go p e below P T (mkF m pc ls st) := by
  subst hp; exact Go.of (fun _ k' => XS.aconstNull A.1.here A.2.1 rfl (hb A.2.2 hd) k') k
theorem g_lconst (A : Ax p l e R s m args below meth c T locs cells slots B) {i : Fin 2} {v : Int64} (hd : decode B pc = .ok (.lconst i, 1)) (hv : Int64.ofNat i = v) (hp : pc + 1 = pc') (k : Go p e below P T (mkF m pc' ls (.long v :: st))) : Go p e below P T (mkF m pc ls st) := by
  subst hp hv; exact Go.of (fun _ k' => XT.lconst A.1.here A.2.1 rfl (hb A.2.2 hd) k') k
theorem g_dconst0 (A : Ax p l e R s m args below meth c T locs cells slots B) (hd : decode B pc = .ok (.dconst 0, 1)) (hp : pc + 1 = pc') (k : Go p e below P T (mkF m pc' ls (.double (0 : UInt64) :: st))) : Go p e below P T (mkF m pc ls st) := by
  subst hp
  refine Go.of (fun t k' => ?_) k
  have h := A.1.here
  have hx := A.2.1
  have hd' := hb A.2.2 hd
  show Steps p.tables e below (T.setTop { method := m, pc := pc, locals := ls, stack := st, locked := none }) _
  jvm_step h [h.top, hx, hd']
  exact k'
theorem g_dconst1 (A : Ax p l e R s m args below meth c T locs cells slots B) (hd : decode B pc = .ok (.dconst 1, 1)) (hp : pc + 1 = pc') (k : Go p e below P T (mkF m pc' ls (.double (4607182418800017408 : UInt64) :: st))) : Go p e below P T (mkF m pc ls st) := by
  subst hp
  refine Go.of (fun t k' => ?_) k
  have h := A.1.here
  have hx := A.2.1
  have hd' := hb A.2.2 hd
  show Steps p.tables e below (T.setTop { method := m, pc := pc, locals := ls, stack := st, locked := none }) _
  jvm_step h [h.top, hx, hd']
  exact k'
theorem g_dadd (A : Ax p l e R s m args below meth c T locs cells slots B) {x y : UInt64} (hd : decode B pc = .ok (.dadd, 1)) (hn : NoNaN64 (FP.dadd x y)) (hp : pc + 1 = pc') (k : Go p e below P T (mkF m pc' ls (.double (FP.dadd x y) :: st))) : Go p e below P T (mkF m pc ls (.double y :: .double x :: st)) := by
  subst hp
  refine Go.of (fun t k' => ?_) k
  have h := A.1.here
  have hx := A.2.1
  have hd' := hb A.2.2 hd
  show Steps p.tables e below (T.setTop { method := m, pc := pc, locals := ls, stack := .double y :: .double x :: st, locked := none }) _
  jvm_step h [h.top, hx, hd', Op.dadd.at_number h.top hn]
  exact k'
theorem g_dsub (A : Ax p l e R s m args below meth c T locs cells slots B) {x y : UInt64} (hd : decode B pc = .ok (.dsub, 1)) (hn : NoNaN64 (FP.dsub x y)) (hp : pc + 1 = pc') (k : Go p e below P T (mkF m pc' ls (.double (FP.dsub x y) :: st))) : Go p e below P T (mkF m pc ls (.double y :: .double x :: st)) := by
  subst hp
  refine Go.of (fun t k' => ?_) k
  have h := A.1.here
  have hx := A.2.1
  have hd' := hb A.2.2 hd
  show Steps p.tables e below (T.setTop { method := m, pc := pc, locals := ls, stack := .double y :: .double x :: st, locked := none }) _
  jvm_step h [h.top, hx, hd', Op.dsub.at_number h.top hn]
  exact k'
theorem g_dmul (A : Ax p l e R s m args below meth c T locs cells slots B) {x y : UInt64} (hd : decode B pc = .ok (.dmul, 1)) (hn : NoNaN64 (FP.dmul x y)) (hp : pc + 1 = pc') (k : Go p e below P T (mkF m pc' ls (.double (FP.dmul x y) :: st))) : Go p e below P T (mkF m pc ls (.double y :: .double x :: st)) := by
  subst hp
  refine Go.of (fun t k' => ?_) k
  have h := A.1.here
  have hx := A.2.1
  have hd' := hb A.2.2 hd
  show Steps p.tables e below (T.setTop { method := m, pc := pc, locals := ls, stack := .double y :: .double x :: st, locked := none }) _
  jvm_step h [h.top, hx, hd', Op.dmul.at_number h.top hn]
  exact k'
theorem g_ddiv (A : Ax p l e R s m args below meth c T locs cells slots B) {x y : UInt64} (hd : decode B pc = .ok (.ddiv, 1)) (hn : NoNaN64 (FP.ddiv x y)) (hp : pc + 1 = pc') (k : Go p e below P T (mkF m pc' ls (.double (FP.ddiv x y) :: st))) : Go p e below P T (mkF m pc ls (.double y :: .double x :: st)) := by
  subst hp
  refine Go.of (fun t k' => ?_) k
  have h := A.1.here
  have hx := A.2.1
  have hd' := hb A.2.2 hd
  show Steps p.tables e below (T.setTop { method := m, pc := pc, locals := ls, stack := .double y :: .double x :: st, locked := none }) _
  jvm_step h [h.top, hx, hd', Op.ddiv.at_number h.top hn]
  exact k'
theorem g_dneg (A : Ax p l e R s m args below meth c T locs cells slots B) {x : UInt64} (hd : decode B pc = .ok (.dneg, 1)) (hp : pc + 1 = pc') (k : Go p e below P T (mkF m pc' ls (.double (FP.dneg x) :: st))) : Go p e below P T (mkF m pc ls (.double x :: st)) := by
  subst hp
  refine Go.of (fun t k' => ?_) k
  have h := A.1.here
  have hx := A.2.1
  have hd' := hb A.2.2 hd
  show Steps p.tables e below (T.setTop { method := m, pc := pc, locals := ls, stack := .double x :: st, locked := none }) _
  jvm_step h [h.top, hx, hd']
  exact k'
theorem g_i2d (A : Ax p l e R s m args below meth c T locs cells slots B) {x : Int32} (hd : decode B pc = .ok (.i2d, 1)) (hp : pc + 1 = pc') (k : Go p e below P T (mkF m pc' ls (.double (FP.i2d x) :: st))) : Go p e below P T (mkF m pc ls (.int x :: st)) := by
  subst hp
  refine Go.of (fun t k' => ?_) k
  have h := A.1.here
  have hx := A.2.1
  have hd' := hb A.2.2 hd
  show Steps p.tables e below (T.setTop { method := m, pc := pc, locals := ls, stack := .int x :: st, locked := none }) _
  jvm_step h [h.top, hx, hd']
  exact k'
theorem g_l2d (A : Ax p l e R s m args below meth c T locs cells slots B) {x : Int64} (hd : decode B pc = .ok (.l2d, 1)) (hp : pc + 1 = pc') (k : Go p e below P T (mkF m pc' ls (.double (FP.l2d x) :: st))) : Go p e below P T (mkF m pc ls (.long x :: st)) := by
  subst hp
  refine Go.of (fun t k' => ?_) k
  have h := A.1.here
  have hx := A.2.1
  have hd' := hb A.2.2 hd
  show Steps p.tables e below (T.setTop { method := m, pc := pc, locals := ls, stack := .long x :: st, locked := none }) _
  jvm_step h [h.top, hx, hd']
  exact k'
theorem g_dcmp (A : Ax p l e R s m args below meth c T locs cells slots B) {x y : UInt64} {op : CmpOp} (hd : decode B pc = .ok (.dcmp op, 1)) (hp : pc + 1 = pc') (k : Go p e below P T (mkF m pc' ls (.int (cmpValue (FP.dcmp x y) op) :: st))) : Go p e below P T (mkF m pc ls (.double y :: .double x :: st)) := by
  subst hp
  refine Go.of (fun t k' => ?_) k
  have h := A.1.here
  have hx := A.2.1
  have hd' := hb A.2.2 hd
  show Steps p.tables e below (T.setTop { method := m, pc := pc, locals := ls, stack := .double y :: .double x :: st, locked := none }) _
  jvm_step h [h.top, hx, hd']
  exact k'
theorem g_lcmp (A : Ax p l e R s m args below meth c T locs cells slots B) {x y : Int64} (hd : decode B pc = .ok (.lcmp, 1)) (hp : pc + 1 = pc') (k : Go p e below P T (mkF m pc' ls (.int (XT.cmpL x y) :: st))) : Go p e below P T (mkF m pc ls (.long y :: .long x :: st)) := by
  subst hp; exact Go.of (fun _ k' => XT.lcmp A.1.here A.2.1 rfl (hb A.2.2 hd) rfl k') k
theorem g_dup (A : Ax p l e R s m args below meth c T locs cells slots B) {x : Value} (hd : decode B pc = .ok (.dup, 1)) (hc : x.category = 1) (hp : pc + 1 = pc') (k : Go p e below P T (mkF m pc' ls (x :: x :: st))) : Go p e below P T (mkF m pc ls (x :: st)) := by
  subst hp; exact Go.of (fun _ k' => XS.dup A.1.here A.2.1 rfl (hb A.2.2 hd) rfl hc k') k
theorem g_pop (A : Ax p l e R s m args below meth c T locs cells slots B) {x : Value} (hd : decode B pc = .ok (.pop, 1)) (hc : x.category = 1) (hp : pc + 1 = pc') (k : Go p e below P T (mkF m pc' ls st)) : Go p e below P T (mkF m pc ls (x :: st)) := by
  subst hp; exact Go.of (fun _ k' => XT.pop A.1.here A.2.1 rfl (hb A.2.2 hd) rfl hc k') k
theorem g_iinc (A : Ax p l e R s m args below meth c T locs cells slots B) {k : Nat} {i : Int} {x y : Int32} (hd : decode B pc = .ok (.iinc k i, 3)) (hl : ls[k]? = some (.val (.int x))) (hy : x + Int32.ofInt i = y) (hl' : storeLocals ls k (.int y) = some ls') (hp : pc + 3 = pc') (k : Go p e below P T (mkF m pc' ls' st)) : Go p e below P T (mkF m pc ls st) := by
  subst hp hy; exact Go.of (fun _ k' => XS.iinc A.1.here A.2.1 rfl (hb A.2.2 hd) hl hl' k') k
theorem own_off {pc pc' : Nat} {o : Int} (h : (pc : Int) + o = (pc' : Int)) : 0 ≤ (pc : Int) + o ∧ ((pc : Int) + o).toNat = pc' := by omega
theorem g_goto (A : Ax p l e R s m args below meth c T locs cells slots B) {o : Int} (hd : decode B pc = .ok (.goto o, 3)) (hp : (pc : Int) + o = (pc' : Int)) (k : Go p e below P T (mkF m pc' ls st)) : Go p e below P T (mkF m pc ls st) := Go.of (fun _ k' => XS.goto A.1.here A.2.1 rfl rfl (hb A.2.2 hd) (own_off hp).1 (own_off hp).2 k') k
theorem g_ifY (A : Ax p l e R s m args below meth c T locs cells slots B) {o : Int} {cd : ClassFile.Cond} {x : Int32} (hd : decode B pc = .ok (.ifCond cd o, 3)) (hc : ifCond.holds cd x = true) (hp : (pc : Int) + o = (pc' : Int)) (k : Go p e below P T (mkF m pc' ls st)) : Go p e below P T (mkF m pc ls (.int x :: st)) := Go.of (fun _ k' => XS.ifYes A.1.here A.2.1 rfl rfl (hb A.2.2 hd) rfl hc (own_off hp).1 (own_off hp).2 k') k
theorem g_ifN (A : Ax p l e R s m args below meth c T locs cells slots B) {o : Int} {cd : ClassFile.Cond} {x : Int32} (hd : decode B pc = .ok (.ifCond cd o, 3)) (hc : ifCond.holds cd x = false) (hp : pc + 3 = pc') (k : Go p e below P T (mkF m pc' ls st)) : Go p e below P T (mkF m pc ls (.int x :: st)) := by
  subst hp; exact Go.of (fun _ k' => XS.ifNo A.1.here A.2.1 rfl (hb A.2.2 hd) rfl hc k') k
theorem g_icY (A : Ax p l e R s m args below meth c T locs cells slots B) {o : Int} {cd : ClassFile.Cond} {x y : Int32} (hd : decode B pc = .ok (.if_icmp cd o, 3)) (hc : if_icmp.holds cd x y = true) (hp : (pc : Int) + o = (pc' : Int)) (k : Go p e below P T (mkF m pc' ls st)) : Go p e below P T (mkF m pc ls (.int y :: .int x :: st)) := Go.of (fun _ k' => XS.icmpYes A.1.here A.2.1 rfl rfl (hb A.2.2 hd) rfl hc (own_off hp).1 (own_off hp).2 k') k
theorem g_icN (A : Ax p l e R s m args below meth c T locs cells slots B) {o : Int} {cd : ClassFile.Cond} {x y : Int32} (hd : decode B pc = .ok (.if_icmp cd o, 3)) (hc : if_icmp.holds cd x y = false) (hp : pc + 3 = pc') (k : Go p e below P T (mkF m pc' ls st)) : Go p e below P T (mkF m pc ls (.int y :: .int x :: st)) := by
  subst hp; exact Go.of (fun _ k' => XS.icmpNo A.1.here A.2.1 rfl (hb A.2.2 hd) rfl hc k') k
theorem c0_eq_t {x : Int32} (h : x = 0) : ifCond.holds .eq x = true := (if0 _ _).trans (teq h).1
theorem c0_eq_f {x : Int32} (h : ¬ x = 0) : ifCond.holds .eq x = false := (if0 _ _).trans (feq h).1
theorem c0_ne_t {x : Int32} (h : ¬ x = 0) : ifCond.holds .ne x = true := (if0 _ _).trans (feq h).2
theorem c0_ne_f {x : Int32} (h : x = 0) : ifCond.holds .ne x = false := (if0 _ _).trans (teq h).2
theorem c0_lt_t {x : Int32} (h : x < 0) : ifCond.holds .lt x = true := (if0 _ _).trans (tlt h).1
theorem c0_lt_f {x : Int32} (h : ¬ x < 0) : ifCond.holds .lt x = false := (if0 _ _).trans (flt h).1
theorem c0_ge_t {x : Int32} (h : ¬ x < 0) : ifCond.holds .ge x = true := (if0 _ _).trans (flt h).2.1
theorem c0_ge_f {x : Int32} (h : x < 0) : ifCond.holds .ge x = false := (if0 _ _).trans (tlt h).2.1
theorem c0_gt_t {x : Int32} (h : 0 < x) : ifCond.holds .gt x = true := (if0 _ _).trans (tlt h).2.2.1
theorem c0_gt_f {x : Int32} (h : ¬ 0 < x) : ifCond.holds .gt x = false := (if0 _ _).trans (flt h).2.2.1
theorem c0_le_t {x : Int32} (h : ¬ 0 < x) : ifCond.holds .le x = true := (if0 _ _).trans (flt h).2.2.2
theorem c0_le_f {x : Int32} (h : 0 < x) : ifCond.holds .le x = false := (if0 _ _).trans (tlt h).2.2.2
theorem c2_eq_t {x y : Int32} (h : x = y) : if_icmp.holds .eq x y = true := (teq h).1
theorem c2_eq_f {x y : Int32} (h : ¬ x = y) : if_icmp.holds .eq x y = false := (feq h).1
theorem c2_ne_t {x y : Int32} (h : ¬ x = y) : if_icmp.holds .ne x y = true := (feq h).2
theorem c2_ne_f {x y : Int32} (h : x = y) : if_icmp.holds .ne x y = false := (teq h).2
theorem c2_lt_t {x y : Int32} (h : x < y) : if_icmp.holds .lt x y = true := (tlt h).1
theorem c2_lt_f {x y : Int32} (h : ¬ x < y) : if_icmp.holds .lt x y = false := (flt h).1
theorem c2_ge_t {x y : Int32} (h : ¬ x < y) : if_icmp.holds .ge x y = true := (flt h).2.1
theorem c2_ge_f {x y : Int32} (h : x < y) : if_icmp.holds .ge x y = false := (tlt h).2.1
theorem c2_gt_t {x y : Int32} (h : y < x) : if_icmp.holds .gt x y = true := (tlt h).2.2.1
theorem c2_gt_f {x y : Int32} (h : ¬ y < x) : if_icmp.holds .gt x y = false := (flt h).2.2.1
theorem c2_le_t {x y : Int32} (h : ¬ y < x) : if_icmp.holds .le x y = true := (flt h).2.2.2
theorem c2_le_f {x y : Int32} (h : y < x) : if_icmp.holds .le x y = false := (tlt h).2.2.2
theorem b0_eq_t {C : Prop} [Decidable C] {v : Int32} (e : v = if C then 1 else 0) (h : ¬ C) : ifCond.holds .eq v = true := c0_eq_t (by rw [e, if_neg h])
theorem b0_eq_f {C : Prop} [Decidable C] {v : Int32} (e : v = if C then 1 else 0) (h : C) : ifCond.holds .eq v = false := c0_eq_f (by rw [e, if_pos h]; decide)
theorem b0_ne_t {C : Prop} [Decidable C] {v : Int32} (e : v = if C then 1 else 0) (h : C) : ifCond.holds .ne v = true := c0_ne_t (by rw [e, if_pos h]; decide)
theorem b0_ne_f {C : Prop} [Decidable C] {v : Int32} (e : v = if C then 1 else 0) (h : ¬ C) : ifCond.holds .ne v = false := c0_ne_f (by rw [e, if_neg h])
theorem own_b01 {C : Prop} [Decidable C] {v : Int32} (e : v = if C then 1 else 0) : narrow .boolean (.int v) = .int v := by
  subst e; by_cases h : C
  · rw [if_pos h]; rfl
  · rw [if_neg h]; rfl
theorem own_fb {C : Prop} [Decidable C] {v : Int32} (e : v = if C then 1 else 0) : fits .boolean (.int v) = true := by
  subst e; by_cases h : C
  · rw [if_pos h]; rfl
  · rw [if_neg h]; rfl
theorem own_ndadd {x y : UInt64} (h1 : Fin64 x) (h2 : Fin64 y) : NoNaN64 (FP.dadd x y) := dadd_out h1.noNaN h2
theorem own_ndsub {x y : UInt64} (h1 : Fin64 x) (h2 : Fin64 y) : NoNaN64 (FP.dsub x y) := dsub_out h1.noNaN h2
theorem own_ndmul {x y : UInt64} (h1 : Fin64 x) (h2 : Fin64 y) : NoNaN64 (FP.dmul x y) := dmul_out h1 h2
theorem own_fin {x : UInt64} : Fin64 x ↔ FP.Core.DFin x := fin64_core
theorem own_fneg {x : UInt64} (h : Fin64 x) : Fin64 (FP.dneg x) := by
  obtain ⟨s, c, q, e⟩ := fin64_core.mp h
  exact fin64_core.mpr ⟨!s, c, q, (FP.val64_dneg x).trans (by rw [e]; rfl)⟩
theorem own_self {x : UInt64} (h : Fin64 x) : FP.dcmp x x = some .eq := FP.Core.dcmp_self (fin64_core.mp h).ne_nan
theorem own_sgt {x : UInt64} (h : Fin64 x) : ¬ FP.dcmp x x = some .gt := by rw [own_self h]; decide
theorem own_slt {x : UInt64} (h : Fin64 x) : ¬ FP.dcmp x x = some .lt := by rw [own_self h]; decide
theorem own_and {c d : Jvm.Cond} {a : Array Value} {s : State} (h1 : c.before a s = true) (h2 : d.before a s = true) : (Jvm.Cond.and c d).before a s = true := by rw [Cond.before_and, h1, h2]; rfl
theorem own_isfin {x : UInt64} (h : Fin64 x) : some (Value.int (if Jvm.Free.Fl.relLe (FP.dcmp (x &&& 0x7fffffffffffffff) Jvm.Free.Fl.maxD) = true then (1 : Int32) else 0)) = some (.int (1 : Int32)) := by rw [if_pos ((le_max_iff h.noNaN).mpr h)]
theorem own_isinf {x : UInt64} (h : Fin64 x) : some (Value.int (if Jvm.Free.Fl.relGt (FP.dcmp (x &&& 0x7fffffffffffffff) Jvm.Free.Fl.maxD) = true then (1 : Int32) else 0)) = some (.int (0 : Int32)) := by rw [if_neg (fun h4 => (gt_max_iff h.noNaN).mp h4 h)]
theorem own_dfin {i : Int} {x : UInt64} (h : FP.Core.DInt i x) : Fin64 x := by
  refine fin64_core.mpr ?_
  have q : FP.Core.Whole i (FP.Core.val64 x) := h
  cases e : FP.Core.val64 x with
  | nan => rw [e] at q; exact q.elim
  | inf s => rw [e] at q; exact q.elim
  | fin s c q => exact ⟨s, c, q, e⟩
theorem own_fn {v : Int32} (h : narrow .boolean (.int v) = .int v) : fits .boolean (.int v) = true := by
  have q : v &&& 1 = v := Value.int.inj h
  rcases and_one v with z | z <;> rw [z] at q <;> subst q <;> rfl
/-- a double less than, equal to .. another, as the code asks it -/
abbrev oGe (o : Option Ordering) : Prop := o = some .gt ∨ o = some .eq
abbrev oLe (o : Option Ordering) : Prop := o = some .lt ∨ o = some .eq
theorem d_l_eq_t {o : Option Ordering} (h : o = some .eq) : ifCond.holds .eq (cmpValue o .l) = true := by
  rcases o with _ | _ | _ | _ <;> first | rfl | decide | (exfalso; revert h; decide)
theorem d_l_eq_f {o : Option Ordering} (h : ¬ o = some .eq) : ifCond.holds .eq (cmpValue o .l) = false := by
  rcases o with _ | _ | _ | _ <;> first | rfl | decide | (exfalso; revert h; decide)
theorem d_l_ne_t {o : Option Ordering} (h : ¬ o = some .eq) : ifCond.holds .ne (cmpValue o .l) = true := by
  rcases o with _ | _ | _ | _ <;> first | rfl | decide | (exfalso; revert h; decide)
theorem d_l_ne_f {o : Option Ordering} (h : o = some .eq) : ifCond.holds .ne (cmpValue o .l) = false := by
  rcases o with _ | _ | _ | _ <;> first | rfl | decide | (exfalso; revert h; decide)
theorem d_g_eq_t {o : Option Ordering} (h : o = some .eq) : ifCond.holds .eq (cmpValue o .g) = true := by
  rcases o with _ | _ | _ | _ <;> first | rfl | decide | (exfalso; revert h; decide)
theorem d_g_eq_f {o : Option Ordering} (h : ¬ o = some .eq) : ifCond.holds .eq (cmpValue o .g) = false := by
  rcases o with _ | _ | _ | _ <;> first | rfl | decide | (exfalso; revert h; decide)
theorem d_g_ne_t {o : Option Ordering} (h : ¬ o = some .eq) : ifCond.holds .ne (cmpValue o .g) = true := by
  rcases o with _ | _ | _ | _ <;> first | rfl | decide | (exfalso; revert h; decide)
theorem d_g_ne_f {o : Option Ordering} (h : o = some .eq) : ifCond.holds .ne (cmpValue o .g) = false := by
  rcases o with _ | _ | _ | _ <;> first | rfl | decide | (exfalso; revert h; decide)
theorem d_l_lt_t {o : Option Ordering} (h : ¬ oGe o) : ifCond.holds .lt (cmpValue o .l) = true := by
  rcases o with _ | _ | _ | _ <;> first | rfl | decide | (exfalso; revert h; decide)
theorem d_l_lt_f {o : Option Ordering} (h : oGe o) : ifCond.holds .lt (cmpValue o .l) = false := by
  rcases o with _ | _ | _ | _ <;> first | rfl | decide | (exfalso; revert h; decide)
theorem d_l_ge_t {o : Option Ordering} (h : oGe o) : ifCond.holds .ge (cmpValue o .l) = true := by
  rcases o with _ | _ | _ | _ <;> first | rfl | decide | (exfalso; revert h; decide)
theorem d_l_ge_f {o : Option Ordering} (h : ¬ oGe o) : ifCond.holds .ge (cmpValue o .l) = false := by
  rcases o with _ | _ | _ | _ <;> first | rfl | decide | (exfalso; revert h; decide)
theorem d_l_gt_t {o : Option Ordering} (h : o = some .gt) : ifCond.holds .gt (cmpValue o .l) = true := by
  rcases o with _ | _ | _ | _ <;> first | rfl | decide | (exfalso; revert h; decide)
theorem d_l_gt_f {o : Option Ordering} (h : ¬ o = some .gt) : ifCond.holds .gt (cmpValue o .l) = false := by
  rcases o with _ | _ | _ | _ <;> first | rfl | decide | (exfalso; revert h; decide)
theorem d_l_le_t {o : Option Ordering} (h : ¬ o = some .gt) : ifCond.holds .le (cmpValue o .l) = true := by
  rcases o with _ | _ | _ | _ <;> first | rfl | decide | (exfalso; revert h; decide)
theorem d_l_le_f {o : Option Ordering} (h : o = some .gt) : ifCond.holds .le (cmpValue o .l) = false := by
  rcases o with _ | _ | _ | _ <;> first | rfl | decide | (exfalso; revert h; decide)
theorem d_g_lt_t {o : Option Ordering} (h : o = some .lt) : ifCond.holds .lt (cmpValue o .g) = true := by
  rcases o with _ | _ | _ | _ <;> first | rfl | decide | (exfalso; revert h; decide)
theorem d_g_lt_f {o : Option Ordering} (h : ¬ o = some .lt) : ifCond.holds .lt (cmpValue o .g) = false := by
  rcases o with _ | _ | _ | _ <;> first | rfl | decide | (exfalso; revert h; decide)
theorem d_g_ge_t {o : Option Ordering} (h : ¬ o = some .lt) : ifCond.holds .ge (cmpValue o .g) = true := by
  rcases o with _ | _ | _ | _ <;> first | rfl | decide | (exfalso; revert h; decide)
theorem d_g_ge_f {o : Option Ordering} (h : o = some .lt) : ifCond.holds .ge (cmpValue o .g) = false := by
  rcases o with _ | _ | _ | _ <;> first | rfl | decide | (exfalso; revert h; decide)
theorem d_g_gt_t {o : Option Ordering} (h : ¬ oLe o) : ifCond.holds .gt (cmpValue o .g) = true := by
  rcases o with _ | _ | _ | _ <;> first | rfl | decide | (exfalso; revert h; decide)
theorem d_g_gt_f {o : Option Ordering} (h : oLe o) : ifCond.holds .gt (cmpValue o .g) = false := by
  rcases o with _ | _ | _ | _ <;> first | rfl | decide | (exfalso; revert h; decide)
theorem d_g_le_t {o : Option Ordering} (h : oLe o) : ifCond.holds .le (cmpValue o .g) = true := by
  rcases o with _ | _ | _ | _ <;> first | rfl | decide | (exfalso; revert h; decide)
theorem d_g_le_f {o : Option Ordering} (h : ¬ oLe o) : ifCond.holds .le (cmpValue o .g) = false := by
  rcases o with _ | _ | _ | _ <;> first | rfl | decide | (exfalso; revert h; decide)
theorem l_eq (x y : Int64) : XT.cmpL x y = 0 ↔ x = y := lw_eq x y
theorem l_lt (x y : Int64) : XT.cmpL x y < 0 ↔ x < y := lw_lt x y
theorem l_gt (x y : Int64) : 0 < XT.cmpL x y ↔ y < x := lw_gt x y
theorem g_ret (A : Ax p l e R s m args below meth c T locs cells slots B) {w : Value} {t : FieldType} {i : Instr} {Q : Option Value → Heap → List Loc → Prop} {K S : Nat} (hd : decode B pc = .ok (i, 1)) (hlk : meth.locks = false) (hret : meth.sig.returnType = some t) (hn : narrow t w = w)
    (hi : (i = .ireturn ∧ (t = .int ∨ t = .boolean ∨ t = .byte ∨ t = .char ∨ t = .short) ∧ ∃ z, w = .int z) ∨ (i = .lreturn ∧ t = .long ∧ ∃ z, w = .long z) ∨ (i = .dreturn ∧ t = .double ∧ ∃ z, w = .double z) ∨ (i = .freturn ∧ t = .float ∧ ∃ z, w = .float z) ∨ (i = .areturn ∧ t.isReference = true ∧ w.isRef = true))
    (hK : cells ≤ K) (hS : slots ≤ S) (hQ : Q (some w) T.heap locs) : Go p e below (fun U o => ∃ v L, o = .returned v ∧ Q v U.heap L ∧ FrameEnd s o U L K S) T (mkF m pc ls (w :: st)) := by
  obtain ⟨fs, hr, hrun, hended, hW, hsame⟩ := A.1.leave (v := some w) (fun h => by rw [hret] at h; cases h) hlk
  exact ⟨_, _, retOut A.1 A.2.1 hret hn hi (hb A.2.2 hd) hr, hrun, hended, _, _, rfl, hQ, ⟨_, rfl⟩, hW, hsame.mono hK hS⟩
theorem g_retV (A : Ax p l e R s m args below meth c T locs cells slots B) {Q : Option Value → Heap → List Loc → Prop} {K S : Nat} (hd : decode B pc = .ok (.return_, 1)) (hlk : meth.locks = false) (hret : meth.sig.returnType = none)
    (hK : cells ≤ K) (hS : slots ≤ S) (hQ : Q none T.heap locs) : Go p e below (fun U o => ∃ v L, o = .returned v ∧ Q v U.heap L ∧ FrameEnd s o U L K S) T (mkF m pc ls []) := by
  obtain ⟨fs, hr, hrun, hended, hW, hsame⟩ := A.1.leave (v := none) (fun _ => rfl) hlk
  exact ⟨_, _, A.1.returnOut A.2.1 hret (hb A.2.2 hd) hr, hrun, hended, _, _, rfl, hQ, ⟨_, rfl⟩, hW, hsame.mono hK hS⟩
theorem g_ldcI (A : Ax p l e R s m args below meth c T locs cells slots B) {Z : State} {a0 : Array Value} {own : String} {i : Nat} {v : Int32} (hZ : Z.Warmed39 s.vm) (hown : s.vm.findClass own = some m.cls) (w : (Jvm.Cond.constant own i v).before a0 Z = true) (hd : decode B pc = .ok (.ldc i, 2)) (hp : pc + 2 = pc') (k : Go p e below P T (mkF m pc' ls (.int v :: st))) : Go p e below P T (mkF m pc ls st) := by
  subst hp; exact Go.of (A.1.ldcInt A.2.1 hown (mvT hZ w) (g := mkF m pc ls st) rfl (hb A.2.2 hd)) k
theorem g_ldcD (A : Ax p l e R s m args below meth c T locs cells slots B) {Z : State} {a0 : Array Value} {own : String} {i : Nat} {v : UInt64} (hZ : Z.Warmed39 s.vm) (hown : s.vm.findClass own = some m.cls) (w : (Jvm.Cond.constantDouble own i v).before a0 Z = true) (hd : decode B pc = .ok (.ldc2_w i, 3)) (hp : pc + 3 = pc') (k : Go p e below P T (mkF m pc' ls (.double v :: st))) : Go p e below P T (mkF m pc ls st) := by
  subst hp; exact Go.of (A.1.ldc2DoubleC A.2.1 hown (mvT hZ w) (g := mkF m pc ls st) rfl (hb A.2.2 hd)) k
theorem g_ldcL (A : Ax p l e R s m args below meth c T locs cells slots B) {Z : State} {a0 : Array Value} {own : String} {i : Nat} {v : Int64} (hZ : Z.Warmed39 s.vm) (hown : s.vm.findClass own = some m.cls) (w : (Jvm.Cond.constantLong own i v).before a0 Z = true) (hd : decode B pc = .ok (.ldc2_w i, 3)) (hp : pc + 3 = pc') (k : Go p e below P T (mkF m pc' ls (.long v :: st))) : Go p e below P T (mkF m pc ls st) := by
  subst hp; exact Go.of (A.1.ldc2Long A.2.1 hown (mvT hZ w) (g := mkF m pc ls st) rfl (hb A.2.2 hd)) k
theorem g_nnY (A : Ax p l e R s m args below meth c T locs cells slots B) {o : Int} {b : Addr} (hd : decode B pc = .ok (.ifnonnull o, 3)) (hp : (pc : Int) + o = (pc' : Int)) (k : Go p e below P T (mkF m pc' ls st)) : Go p e below P T (mkF m pc ls (.ref b :: st)) := Go.of (fun _ k' => XT.ifnonnullYes A.1.here A.2.1 rfl rfl (hb A.2.2 hd) rfl (own_off hp).1 (own_off hp).2 k') k
theorem g_nnN (A : Ax p l e R s m args below meth c T locs cells slots B) {o : Int} (hd : decode B pc = .ok (.ifnonnull o, 3)) (hp : pc + 3 = pc') (k : Go p e below P T (mkF m pc' ls st)) : Go p e below P T (mkF m pc ls (.null :: st)) := by
  subst hp; exact Go.of (fun _ k' => XT.ifnonnullNo A.1.here A.2.1 rfl (hb A.2.2 hd) rfl k') k
theorem g_nuY (A : Ax p l e R s m args below meth c T locs cells slots B) {o : Int} (hd : decode B pc = .ok (.ifnull o, 3)) (hp : (pc : Int) + o = (pc' : Int)) (k : Go p e below P T (mkF m pc' ls st)) : Go p e below P T (mkF m pc ls (.null :: st)) := Go.of (fun _ k' => XS.ifnullYes A.1.here A.2.1 rfl rfl (hb A.2.2 hd) rfl (own_off hp).1 (own_off hp).2 k') k
theorem g_nuN (A : Ax p l e R s m args below meth c T locs cells slots B) {o : Int} {b : Addr} (hd : decode B pc = .ok (.ifnull o, 3)) (hp : pc + 3 = pc') (k : Go p e below P T (mkF m pc' ls st)) : Go p e below P T (mkF m pc ls (.ref b :: st)) := by
  subst hp; exact Go.of (fun _ k' => XS.ifnullNo A.1.here A.2.1 rfl (hb A.2.2 hd) rfl k') k
theorem g_acY (A : Ax p l e R s m args below meth c T locs cells slots B) {o : Int} {cd : ClassFile.ACond} {x y : Value} (hd : decode B pc = .ok (.if_acmp cd o, 3)) (h1 : x.isRef = true) (h2 : y.isRef = true) (hc : XT.acmp cd x y = true) (hp : (pc : Int) + o = (pc' : Int)) (k : Go p e below P T (mkF m pc' ls st)) : Go p e below P T (mkF m pc ls (y :: x :: st)) := Go.of (fun _ k' => XT.acmpYes A.1.here A.2.1 rfl rfl (hb A.2.2 hd) rfl h1 h2 hc (own_off hp).1 (own_off hp).2 k') k
theorem g_acN (A : Ax p l e R s m args below meth c T locs cells slots B) {o : Int} {cd : ClassFile.ACond} {x y : Value} (hd : decode B pc = .ok (.if_acmp cd o, 3)) (h1 : x.isRef = true) (h2 : y.isRef = true) (hc : XT.acmp cd x y = false) (hp : pc + 3 = pc') (k : Go p e below P T (mkF m pc' ls st)) : Go p e below P T (mkF m pc ls (y :: x :: st)) := by
  subst hp; exact Go.of (fun _ k' => XT.acmpNo A.1.here A.2.1 rfl (hb A.2.2 hd) rfl h1 h2 hc k') k
/-- an array of n places: its i-th holds f i -/
def Dar (Z : State) (h : Heap) (a : Addr) (ty : FieldType) (n : Nat) (f : Nat → Value) : Prop := ∃ cl : Cell, RoadKit.Arr Z h a cl ty ∧ cl.slots.size = n ∧ n < 2147483648 ∧ ∀ i, i < n → cl.slots[i]? = some (f i)
variable {Z : State} {h h' : Heap} {a b : Addr} {ty : FieldType} {n : Nat} {f g : Nat → Value} {sl : Nat} {v : Value} {ws : List Addr}
theorem Dar.lt (F : Dar Z h a ty n f) : a < h.size := by obtain ⟨cl, A, -⟩ := F; exact A.lt
theorem Dar.ext (E : Ext h h') (F : Dar Z h a ty n f) : Dar Z h' a ty n f := by obtain ⟨cl, A, r⟩ := F; exact ⟨cl, A.ext E, r⟩
theorem Dar.other (W : Wr h h' b sl v) (F : Dar Z h a ty n f) (q : a ≠ b) : Dar Z h' a ty n f := by obtain ⟨cl, A, r⟩ := F; exact ⟨cl, A.other W q, r⟩
theorem Dar.keep (F : Dar Z h a ty n f) (K : Keep h h' ws) (q : a ∉ ws) : Dar Z h' a ty n f := by obtain ⟨cl, A, r⟩ := F; exact ⟨cl, ⟨K.2.1 a cl A.1 q, A.2⟩, r⟩
theorem Dar.congr (F : Dar Z h a ty n f) (q : ∀ i, i < n → f i = g i) : Dar Z h a ty n g := by obtain ⟨cl, A, r1, r2, r3⟩ := F; exact ⟨cl, A, r1, r2, fun i hi => by rw [← q i hi]; exact r3 i hi⟩
theorem Dar.new {cA : ClassId} {z : Int32} (A : RoadKit.Arr Z h a (newA cA ty z) ty) (hz : z.toNatClampNeg = n) : Dar Z h a ty n (fun _ => defaultValue ty) := by
  refine ⟨_, A, (sz_new _ _ _).trans hz, ?_, fun i hi => by subst hz; simp [newA, hi]⟩
  have := z.toInt_lt
  rw [← hz, Int32.toNatClampNeg]; omega
theorem Dar.ne_exa {a0 : Array Value} {k : Nat} {C : String} (F : Dar Z h a ty n f) (E : Exa Z h b C) (wi : (Jvm.Cond.instantiable C k).before a0 Z = true) : a ≠ b := by obtain ⟨cl, A, -⟩ := F; exact fun q => ne_arr E wi A q.symm
theorem own_ne {a b : Nat} {h : Heap} (g : a = h.size) (q : b < h.size) : b ≠ a := by rw [g]; exact Nat.ne_of_lt q
theorem own_clamp {i : Nat} (hi : i < 2147483648) : (Int32.ofNat i).toNatClampNeg = i ∧ ¬ Int32.ofNat i < 0 := by
  have e : (Int32.ofNat i).toInt = i := Int32.toInt_ofNat_of_lt hi
  refine ⟨by rw [Int32.toNatClampNeg, e]; omega, fun q => ?_⟩
  rw [Int32.lt_iff_toInt_lt, e] at q
  have : (0 : Int32).toInt = 0 := rfl
  omega
theorem Dar.set {i : Nat} (F : Dar Z h a ty n f) (W : Wr h h' a i v) (q : ∀ j, j < n → g j = if j = i then v else f j) : Dar Z h' a ty n g := by
  obtain ⟨cl, A, r1, r2, r3⟩ := F
  refine ⟨_, A.same W, (sz_set _ _ _).trans r1, r2, fun j hj => ?_⟩
  rw [q j hj]
  by_cases e : j = i
  · subst e; rw [if_pos rfl]; simp [Cell.setSlot, r1, hj]
  · rw [if_neg e]; exact (Array.getElem?_setIfInBounds_ne (Ne.symm e)).trans (r3 j hj)
theorem own_in {cl : Cell} {i : Nat} (S : cl.slots.size = n) (hn : n < 2147483648) (hi : i < n) : ¬ (Int32.ofNat i < 0 ∨ cl.slots.size ≤ (Int32.ofNat i).toNatClampNeg) := by
  obtain ⟨q1, q2⟩ := own_clamp (i := i) (by omega)
  rw [q1, S]; exact fun z => z.elim q2 (by omega)
theorem g_daload (A : Ax p l e R s m args below meth c T locs cells slots B) (hZ : Z.Warmed39 s.vm) (eT : T.heap = h) {j : Int32} {i : Nat} {x : UInt64} (F : Dar Z h a .double n f) (hi : i < n) (hj : j = Int32.ofNat i) (hv : f i = .double x) (hd : decode B pc = .ok (.daload, 1)) (hp : pc + 1 = pc') (k : Go p e below P T (mkF m pc' ls (.double x :: st))) : Go p e below P T (mkF m pc ls (.int j :: .ref a :: st)) := by
  subst hp hj
  obtain ⟨cl, A2, r1, r2, r3⟩ := F
  have q := (own_clamp (i := i) (by omega)).1
  exact Go.of (fun t k' => A.1.daload A.2.1 (j := Int32.ofNat i) (v := .double x) (by rw [eT]; exact A2.1) (State.isArrayOf_alike hZ.alike A2.2.1) A2.2.2 (own_in r1 r2 hi) (by rw [q, ← hv]; exact r3 i hi) (g := mkF m pc ls (.int (Int32.ofNat i) :: .ref a :: st)) rfl rfl (hb A.2.2 hd) t k') k
theorem g_iaload (A : Ax p l e R s m args below meth c T locs cells slots B) (hZ : Z.Warmed39 s.vm) (eT : T.heap = h) {j : Int32} {i : Nat} {x : Int32} (F : Dar Z h a .int n f) (hi : i < n) (hj : j = Int32.ofNat i) (hv : f i = .int x) (hd : decode B pc = .ok (.iaload, 1)) (hp : pc + 1 = pc') (k : Go p e below P T (mkF m pc' ls (.int x :: st))) : Go p e below P T (mkF m pc ls (.int j :: .ref a :: st)) := by
  subst hp hj
  obtain ⟨cl, A2, r1, r2, r3⟩ := F
  have q := (own_clamp (i := i) (by omega)).1
  exact Go.of (fun t k' => A.1.iaload A.2.1 (j := Int32.ofNat i) (v := .int x) (by rw [eT]; exact A2.1) (State.isArrayOf_alike hZ.alike A2.2.1) A2.2.2 (own_in r1 r2 hi) (by rw [q, ← hv]; exact r3 i hi) (g := mkF m pc ls (.int (Int32.ofNat i) :: .ref a :: st)) rfl rfl (hb A.2.2 hd) t k') k
theorem g_baload (A : Ax p l e R s m args below meth c T locs cells slots B) (hZ : Z.Warmed39 s.vm) (eT : T.heap = h) {j : Int32} {i : Nat} {x : Int32} (F : Dar Z h a .boolean n f) (hi : i < n) (hj : j = Int32.ofNat i) (hv : f i = .int x) (hd : decode B pc = .ok (.baload, 1)) (hp : pc + 1 = pc') (k : Go p e below P T (mkF m pc' ls (.int x :: st))) : Go p e below P T (mkF m pc ls (.int j :: .ref a :: st)) := by
  subst hp hj
  obtain ⟨cl, A2, r1, r2, r3⟩ := F
  have q := (own_clamp (i := i) (by omega)).1
  exact Go.of (fun t k' => A.1.baloadBooleans A.2.1 (j := Int32.ofNat i) (v := .int x) (by rw [eT]; exact A2.1) (State.isArrayOf_alike hZ.alike A2.2.1) A2.2.2 (own_in r1 r2 hi) (by rw [q, ← hv]; exact r3 i hi) (g := mkF m pc ls (.int (Int32.ofNat i) :: .ref a :: st)) rfl rfl (hb A.2.2 hd) t k') k
theorem g_alen (A : Ax p l e R s m args below meth c T locs cells slots B) (hZ : Z.Warmed39 s.vm) (eT : T.heap = h) (F : Dar Z h a ty n f) (hd : decode B pc = .ok (.arraylength, 1)) {z : Int32} (hz : Int32.ofNat n = z) (hp : pc + 1 = pc') (k : Go p e below P T (mkF m pc' ls (.int z :: st))) : Go p e below P T (mkF m pc ls (.ref a :: st)) := by
  subst hp hz
  obtain ⟨cl, A2, r1, r2, r3⟩ := F
  exact Go.of (fun t k' => A.1.arraylength A.2.1 (cell := cl) (by rw [eT]; exact A2.1) (State.isArrayOf_alike hZ.alike A2.2.1) (g := mkF m pc ls (.ref a :: st)) rfl (rest := st) rfl (hb A.2.2 hd) t (by rw [r1]; exact k')) k
theorem s_dastore (A : Ax p l e R s m args below meth c T locs cells slots B) (hZ : Z.Warmed39 s.vm) (eT : T.heap = h) {j : Int32} {i : Nat} {x : UInt64} (F : Dar Z h a .double n f) (hi : i < n) (hj : j = Int32.ofNat i) (hd : decode B pc = .ok (.dastore, 1)) (hp : pc + 1 = pc') :
    ∃ T' h', Ax p l e R s m args below meth c T' (locs ++ [⟨a, i⟩]) cells slots B ∧ T'.heap = h' ∧ Wr h h' a i (.double x) ∧ ∀ {P : State → Outcome → Prop}, Go p e below P T' (mkF m pc' ls st) → Go p e below P T (mkF m pc ls (.double x :: .int j :: .ref a :: st)) := by
  subst hp hj
  obtain ⟨cl, A2, r1, r2, r3⟩ := F
  have q := (own_clamp (i := i) (by omega)).1
  obtain ⟨X', st'⟩ := A.1.dastore A.2.1 (by rw [eT]; exact A2.1) (State.isArrayOf_alike hZ.alike A2.2.1) A2.2.2 (own_in r1 r2 hi) (x := x) (g := mkF m pc ls (.double x :: .int (Int32.ofNat i) :: .ref a :: st)) rfl rfl (hb A.2.2 hd)
  rw [q] at X' st'
  exact ⟨_, _, ⟨X', A.2⟩, rfl, ⟨cl, A2.1, A2.plain, by rw [r1]; exact hi, by rw [← eT]; rfl⟩, fun k => Go.of st' k⟩
theorem s_iastore (A : Ax p l e R s m args below meth c T locs cells slots B) (hZ : Z.Warmed39 s.vm) (eT : T.heap = h) {j : Int32} {i : Nat} {x : Int32} (F : Dar Z h a .int n f) (hi : i < n) (hj : j = Int32.ofNat i) (hd : decode B pc = .ok (.iastore, 1)) (hp : pc + 1 = pc') :
    ∃ T' h', Ax p l e R s m args below meth c T' (locs ++ [⟨a, i⟩]) cells slots B ∧ T'.heap = h' ∧ Wr h h' a i (.int x) ∧ ∀ {P : State → Outcome → Prop}, Go p e below P T' (mkF m pc' ls st) → Go p e below P T (mkF m pc ls (.int x :: .int j :: .ref a :: st)) := by
  subst hp hj
  obtain ⟨cl, A2, r1, r2, r3⟩ := F
  have q := (own_clamp (i := i) (by omega)).1
  obtain ⟨T', h', X', e', W, st'⟩ := stI A.1 A.2.1 hZ eT A2 (own_in r1 r2 hi) (x := x) (g := mkF m pc ls (.int x :: .int (Int32.ofNat i) :: .ref a :: st)) rfl rfl (hb A.2.2 hd)
  rw [q] at X' W
  exact ⟨_, _, ⟨X', A.2⟩, e', W, fun k => Go.of st' k⟩
theorem s_zastore (A : Ax p l e R s m args below meth c T locs cells slots B) (hZ : Z.Warmed39 s.vm) (eT : T.heap = h) {j : Int32} {i : Nat} {x : Int32} (F : Dar Z h a .boolean n f) (hi : i < n) (hj : j = Int32.ofNat i) (hx1 : narrow .boolean (.int x) = .int x) (hd : decode B pc = .ok (.bastore, 1)) (hp : pc + 1 = pc') :
    ∃ T' h', Ax p l e R s m args below meth c T' (locs ++ [⟨a, i⟩]) cells slots B ∧ T'.heap = h' ∧ Wr h h' a i (.int x) ∧ ∀ {P : State → Outcome → Prop}, Go p e below P T' (mkF m pc' ls st) → Go p e below P T (mkF m pc ls (.int x :: .int j :: .ref a :: st)) := by
  subst hp hj
  obtain ⟨cl, A2, r1, r2, r3⟩ := F
  have q := (own_clamp (i := i) (by omega)).1
  obtain ⟨T', h', X', e', W, st'⟩ := stZ A.1 A.2.1 hZ eT A2 (own_in r1 r2 hi) (x := x) (g := mkF m pc ls (.int x :: .int (Int32.ofNat i) :: .ref a :: st)) rfl rfl (hb A.2.2 hd)
  have q2 : nar .boolean x = x := Value.int.inj hx1
  rw [q] at X' W; rw [q2] at W
  exact ⟨_, _, ⟨X', A.2⟩, e', W, fun k => Go.of st' k⟩
end own_go
theorem d2_0 : decode jdk_30_method_1_code 0 = .ok (.aload_n 0, 1) := by decide +kernel
theorem d2_1 : decode jdk_30_method_1_code 1 = .ok (.invokespecial 1, 3) := by decide +kernel
theorem d2_4 : decode jdk_30_method_1_code 4 = .ok (.return_, 1) := by decide +kernel
theorem pn_0 : plainName "java/lang/Record" = true := by first | (simp [plainName, overriddenIn]; done) | decide +kernel
theorem ef1 (m : MethodId) (a1 : Addr) : entryFrame m #[(.ref a1)] 1 = mkF m 0 #[.val (.ref a1)] [] := by first | (simp [entryFrame, mkF, argsToLocals, Value.category]; done) | rfl
def Q2 (Z : State) (a1 : Addr) (h0 : Heap) (n0 : Nat) (v : Option Value) (h : Heap) (L : List Loc) : Prop := v = none ∧ Fr n0 L ∧ h = h0
set_option maxRecDepth 65536 in
set_option maxHeartbeats 40000000 in
theorem rm2 (l : Launch) (Z : State) (a0 : Array Value) (hw : ∀ d ∈ tables_1, d.before a0 Z = true) (ws : List Jvm.Cond) (a1 : Addr) (h0 : Heap) (n0 : Nat) (Z0 : n0 ≤ h0.size)  :
    MetFree l (⟨"java/lang/Record", "<init>", "()V"⟩ : MethodName) (head1 (Jvm.Cond.code (⟨"java/lang/Record", "<init>", "()V"⟩ : MethodName) jdk_30_method_1_code 1 none :: ws) ({ frames := 1, cells := 0, slots := 0, locals := 12 } : Room)) (fun a U => a = #[(.ref a1)] ∧ Z.Warmed39 U.vm ∧ U.heap = h0) (fun _ _ _ _ _ => True) (fun _ U o U' => ∃ v L, o = .returned v ∧ Q2 Z a1 h0 n0 v U'.heap L ∧ FrameEnd U o U' L 0 0) := by
  refine MetFree.of_bodySF (plainFor_of_name pn_0) hisR ?_
  intro p e s m args below meth c s₁ Bd hml0 hP hK
  obtain ⟨rfl, hZ, hh⟩ := hP
  have hx := Bd.exec
  have hby := Bd.bytes
  have hml : c.maxLocals = 1 := hml0
  have hown : s.vm.findClass "java/lang/Record" = some m.cls := findClass_of_methodNamed Bd.named
  have hnm := (name_of_methodNamed Bd.named Bd.method).1
  have X0 : Stand p l e ({ frames := 1, cells := 0, slots := 0, locals := 12 } : Room) s m #[(.ref a1)] below meth c s₁ [] 0 0 := Stand.of_body Bd
  have e0 : s₁.heap = h0 := by rw [← hh, Bd.state]; rfl
  have N0 := Fr.nil n0
  have A0 := (⟨X0, hx, hby⟩ : Ax _ _ _ _ _ _ _ _ _ _ _ _ _ _ _)
  show Go p e below (fun U o => ∃ v L, o = .returned v ∧ Q2 Z a1 h0 n0 v U.heap L ∧ FrameEnd s o U L 0 0) s₁ (entryFrame m #[(.ref a1)] 1)
  refine Go.cast (ef1 m a1) ?_
  refine g_aloadN A0 d2_0 rfl rfl (pc' := 1) rfl ?_
  obtain ⟨T2, X2, e2, st2⟩ := initO X0 hx hZ hown (hw _ (List.mem_of_getElem? (i := 13) rfl)) (hw _ (List.mem_of_getElem? (i := 14) rfl)) (hw _ (List.mem_of_getElem? (i := 15) rfl)) e0 (g := (mkF m 1 #[.val (.ref a1)] [(.ref a1)])) rfl (by rw [hml]; rfl) rfl (hb hby d2_1) (by decide) (W := 0) (by show 2 * 0 + _ ≤ _; exact Nat.le_of_eq rfl) (by decide)
  refine Go.of (g' := (mkF m 4 #[.val (.ref a1)] [])) st2 ?_
  have A3 := (⟨X2, hx, hby⟩ : Ax _ _ _ _ _ _ _ _ _ _ _ _ _ _ _)
  exact g_retV (Q := Q2 Z a1 h0 n0) A3 d2_4 Bd.notSynchronized Bd.returns (by decide) (by decide) (by rw [e2]; exact ⟨rfl, N0, rfl⟩)
def own_r_rm6 (q0 : Int32) (q1 : Int32) : Int32 := (if q1 < q0 then q1 else q0)
theorem d6_0 : decode jdk_29_method_69_code 0 = .ok (.iload_n 0, 1) := by decide +kernel
theorem d6_1 : decode jdk_29_method_69_code 1 = .ok (.iload_n 1, 1) := by decide +kernel
theorem d6_2 : decode jdk_29_method_69_code 2 = .ok (.if_icmp .gt 7, 3) := by decide +kernel
theorem d6_5 : decode jdk_29_method_69_code 5 = .ok (.iload_n 0, 1) := by decide +kernel
theorem d6_6 : decode jdk_29_method_69_code 6 = .ok (.goto 4, 3) := by decide +kernel
theorem d6_9 : decode jdk_29_method_69_code 9 = .ok (.iload_n 1, 1) := by decide +kernel
theorem d6_10 : decode jdk_29_method_69_code 10 = .ok (.ireturn, 1) := by decide +kernel
theorem ef4 (m : MethodId) (q0 : Int32) (q1 : Int32) : entryFrame m #[(.int q0), (.int q1)] 2 = mkF m 0 #[.val (.int q0), .val (.int q1)] [] := by first | (simp [entryFrame, mkF, argsToLocals, Value.category]; done) | rfl
def Q6 (Z : State) (q0 : Int32) (q1 : Int32) (h0 : Heap) (n0 : Nat) (v : Option Value) (h : Heap) (L : List Loc) : Prop := v = some (.int (own_r_rm6 q0 q1)) ∧ Fr n0 L ∧ h = h0
set_option maxRecDepth 65536 in
set_option maxHeartbeats 40000000 in
theorem rm6 (l : Launch) (Z : State) (a0 : Array Value) (hw : ∀ d ∈ tables_1, d.before a0 Z = true) (ws : List Jvm.Cond) (q0 : Int32) (q1 : Int32) (h0 : Heap) (n0 : Nat) (Z0 : n0 ≤ h0.size)  :
    MetFree l (⟨"java/lang/Math", "min", "(II)I"⟩ : MethodName) (head1 (Jvm.Cond.code (⟨"java/lang/Math", "min", "(II)I"⟩ : MethodName) jdk_29_method_69_code 2 (some .int) :: ws) ({ frames := 0, cells := 0, slots := 0, locals := 0 } : Room)) (fun a U => a = #[(.int q0), (.int q1)] ∧ Z.Warmed39 U.vm ∧ U.heap = h0) (fun _ _ _ _ _ => True) (fun _ U o U' => ∃ v L, o = .returned v ∧ Q6 Z q0 q1 h0 n0 v U'.heap L ∧ FrameEnd U o U' L 0 0) := by
  refine MetFree.of_bodySF (by decide +kernel) hisR ?_
  intro p e s m args below meth c s₁ Bd hml0 hP hK
  obtain ⟨rfl, hZ, hh⟩ := hP
  have hx := Bd.exec
  have hby := Bd.bytes
  have hml : c.maxLocals = 2 := hml0
  have hown : s.vm.findClass "java/lang/Math" = some m.cls := findClass_of_methodNamed Bd.named
  have hnm := (name_of_methodNamed Bd.named Bd.method).1
  have X0 : Stand p l e ({ frames := 0, cells := 0, slots := 0, locals := 0 } : Room) s m #[(.int q0), (.int q1)] below meth c s₁ [] 0 0 := Stand.of_body Bd
  have e0 : s₁.heap = h0 := by rw [← hh, Bd.state]; rfl
  have N0 := Fr.nil n0
  have A0 := (⟨X0, hx, hby⟩ : Ax _ _ _ _ _ _ _ _ _ _ _ _ _ _ _)
  show Go p e below (fun U o => ∃ v L, o = .returned v ∧ Q6 Z q0 q1 h0 n0 v U.heap L ∧ FrameEnd s o U L 0 0) s₁ (entryFrame m #[(.int q0), (.int q1)] 2)
  refine Go.cast (ef4 m q0 q1) ?_
  refine g_iloadN A0 d6_0 rfl (pc' := 1) rfl ?_
  refine g_iloadN A0 d6_1 rfl (pc' := 2) rfl ?_
  by_cases hc5 : q1 < q0
  · skip
    refine g_icY A0 d6_2 (c2_gt_t hc5) (pc' := 9) rfl ?_
    refine g_iloadN A0 d6_9 rfl (pc' := 10) rfl ?_
    exact g_ret (Q := Q6 Z q0 q1 h0 n0) A0 d6_10 Bd.notSynchronized Bd.returns rfl (Or.inl ⟨rfl, by simp, _, rfl⟩) (by decide) (by decide) (by rw [e0]; exact ⟨(congrArg (fun z => some (Value.int z)) (by rw [own_r_rm6, if_pos hc5])), N0, rfl⟩)
  · skip
    refine g_icN A0 d6_2 (c2_gt_f hc5) (pc' := 5) rfl ?_
    refine g_iloadN A0 d6_5 rfl (pc' := 6) rfl ?_
    refine g_goto A0 d6_6 (pc' := 10) rfl ?_
    exact g_ret (Q := Q6 Z q0 q1 h0 n0) A0 d6_10 Bd.notSynchronized Bd.returns rfl (Or.inl ⟨rfl, by simp, _, rfl⟩) (by decide) (by decide) (by rw [e0]; exact ⟨(congrArg (fun z => some (Value.int z)) (by rw [own_r_rm6, if_neg hc5])), N0, rfl⟩)
def own_r_rm7 (q0 : Int32) (q1 : Int32) : Int32 := (if q0 < q1 then q1 else q0)
theorem d7_0 : decode jdk_29_method_65_code 0 = .ok (.iload_n 0, 1) := by decide +kernel
theorem d7_1 : decode jdk_29_method_65_code 1 = .ok (.iload_n 1, 1) := by decide +kernel
theorem d7_2 : decode jdk_29_method_65_code 2 = .ok (.if_icmp .lt 7, 3) := by decide +kernel
theorem d7_5 : decode jdk_29_method_65_code 5 = .ok (.iload_n 0, 1) := by decide +kernel
theorem d7_6 : decode jdk_29_method_65_code 6 = .ok (.goto 4, 3) := by decide +kernel
theorem d7_9 : decode jdk_29_method_65_code 9 = .ok (.iload_n 1, 1) := by decide +kernel
theorem d7_10 : decode jdk_29_method_65_code 10 = .ok (.ireturn, 1) := by decide +kernel
theorem ef6 (m : MethodId) (q0 : Int32) (q1 : Int32) : entryFrame m #[(.int q0), (.int q1)] 2 = mkF m 0 #[.val (.int q0), .val (.int q1)] [] := by first | (simp [entryFrame, mkF, argsToLocals, Value.category]; done) | rfl
def Q7 (Z : State) (q0 : Int32) (q1 : Int32) (h0 : Heap) (n0 : Nat) (v : Option Value) (h : Heap) (L : List Loc) : Prop := v = some (.int (own_r_rm7 q0 q1)) ∧ Fr n0 L ∧ h = h0
set_option maxRecDepth 65536 in
set_option maxHeartbeats 40000000 in
theorem rm7 (l : Launch) (Z : State) (a0 : Array Value) (hw : ∀ d ∈ tables_1, d.before a0 Z = true) (ws : List Jvm.Cond) (q0 : Int32) (q1 : Int32) (h0 : Heap) (n0 : Nat) (Z0 : n0 ≤ h0.size)  :
    MetFree l (⟨"java/lang/Math", "max", "(II)I"⟩ : MethodName) (head1 (Jvm.Cond.code (⟨"java/lang/Math", "max", "(II)I"⟩ : MethodName) jdk_29_method_65_code 2 (some .int) :: ws) ({ frames := 0, cells := 0, slots := 0, locals := 0 } : Room)) (fun a U => a = #[(.int q0), (.int q1)] ∧ Z.Warmed39 U.vm ∧ U.heap = h0) (fun _ _ _ _ _ => True) (fun _ U o U' => ∃ v L, o = .returned v ∧ Q7 Z q0 q1 h0 n0 v U'.heap L ∧ FrameEnd U o U' L 0 0) := by
  refine MetFree.of_bodySF (by decide +kernel) hisR ?_
  intro p e s m args below meth c s₁ Bd hml0 hP hK
  obtain ⟨rfl, hZ, hh⟩ := hP
  have hx := Bd.exec
  have hby := Bd.bytes
  have hml : c.maxLocals = 2 := hml0
  have hown : s.vm.findClass "java/lang/Math" = some m.cls := findClass_of_methodNamed Bd.named
  have hnm := (name_of_methodNamed Bd.named Bd.method).1
  have X0 : Stand p l e ({ frames := 0, cells := 0, slots := 0, locals := 0 } : Room) s m #[(.int q0), (.int q1)] below meth c s₁ [] 0 0 := Stand.of_body Bd
  have e0 : s₁.heap = h0 := by rw [← hh, Bd.state]; rfl
  have N0 := Fr.nil n0
  have A0 := (⟨X0, hx, hby⟩ : Ax _ _ _ _ _ _ _ _ _ _ _ _ _ _ _)
  show Go p e below (fun U o => ∃ v L, o = .returned v ∧ Q7 Z q0 q1 h0 n0 v U.heap L ∧ FrameEnd s o U L 0 0) s₁ (entryFrame m #[(.int q0), (.int q1)] 2)
  refine Go.cast (ef6 m q0 q1) ?_
  refine g_iloadN A0 d7_0 rfl (pc' := 1) rfl ?_
  refine g_iloadN A0 d7_1 rfl (pc' := 2) rfl ?_
  by_cases hc7 : q0 < q1
  · skip
    refine g_icY A0 d7_2 (c2_lt_t hc7) (pc' := 9) rfl ?_
    refine g_iloadN A0 d7_9 rfl (pc' := 10) rfl ?_
    exact g_ret (Q := Q7 Z q0 q1 h0 n0) A0 d7_10 Bd.notSynchronized Bd.returns rfl (Or.inl ⟨rfl, by simp, _, rfl⟩) (by decide) (by decide) (by rw [e0]; exact ⟨(congrArg (fun z => some (Value.int z)) (by rw [own_r_rm7, if_pos hc7])), N0, rfl⟩)
  · skip
    refine g_icN A0 d7_2 (c2_lt_f hc7) (pc' := 5) rfl ?_
    refine g_iloadN A0 d7_5 rfl (pc' := 6) rfl ?_
    refine g_goto A0 d7_6 (pc' := 10) rfl ?_
    exact g_ret (Q := Q7 Z q0 q1 h0 n0) A0 d7_10 Bd.notSynchronized Bd.returns rfl (Or.inl ⟨rfl, by simp, _, rfl⟩) (by decide) (by decide) (by rw [e0]; exact ⟨(congrArg (fun z => some (Value.int z)) (by rw [own_r_rm7, if_neg hc7])), N0, rfl⟩)
theorem d8_0 : decode prog_12_method_1_code 0 = .ok (.aload_n 0, 1) := by decide +kernel
theorem d8_1 : decode prog_12_method_1_code 1 = .ok (.invokespecial 1, 3) := by decide +kernel
theorem d8_4 : decode prog_12_method_1_code 4 = .ok (.aload_n 0, 1) := by decide +kernel
theorem d8_5 : decode prog_12_method_1_code 5 = .ok (.iload_n 1, 1) := by decide +kernel
theorem d8_6 : decode prog_12_method_1_code 6 = .ok (.putfield 7, 3) := by decide +kernel
theorem d8_9 : decode prog_12_method_1_code 9 = .ok (.aload_n 0, 1) := by decide +kernel
theorem d8_10 : decode prog_12_method_1_code 10 = .ok (.iload_n 2, 1) := by decide +kernel
theorem d8_11 : decode prog_12_method_1_code 11 = .ok (.putfield 13, 3) := by decide +kernel
theorem d8_14 : decode prog_12_method_1_code 14 = .ok (.aload_n 0, 1) := by decide +kernel
theorem d8_15 : decode prog_12_method_1_code 15 = .ok (.dload_n 3, 1) := by decide +kernel
theorem d8_16 : decode prog_12_method_1_code 16 = .ok (.putfield 16, 3) := by decide +kernel
theorem d8_19 : decode prog_12_method_1_code 19 = .ok (.return_, 1) := by decide +kernel
theorem pn_1 : plainName "com/example/hinterland/hinterland/EdgePoint" = true := by first | (simp [plainName, overriddenIn]; done) | decide +kernel
theorem ef8 (m : MethodId) (a1 : Addr) (i2 : Int32) (i3 : Int32) (x4 : UInt64) (u0 : Value) (u1 : Value) (u2 : Value) : entryFrame m #[(.ref a1), (.int i2), (.int i3), (.double x4)] 5 = mkF m 0 #[.val (.ref a1), .val (.int i2), .val (.int i3), .val (.double x4), .second] [] := by first | (simp [entryFrame, mkF, argsToLocals, Value.category]; done) | rfl
def Q8 (Z : State) (a1 : Addr) (i2 : Int32) (i3 : Int32) (x4 : UInt64) (u0 : Value) (u1 : Value) (u2 : Value) (h0 : Heap) (n0 : Nat) (v : Option Value) (h : Heap) (L : List Loc) : Prop := v = none ∧ Fr n0 L ∧ Keep h0 h [a1] ∧ Fld Z h a1 "com/example/hinterland/hinterland/EdgePoint" "u" "I" (.int i2) ∧ Fld Z h a1 "com/example/hinterland/hinterland/EdgePoint" "v" "I" (.int i3) ∧ Fld Z h a1 "com/example/hinterland/hinterland/EdgePoint" "offset" "D" (.double x4)
theorem pd_0 : parseMethodDescriptor "()V" = some ⟨[], none⟩ := by decide +kernel
set_option maxRecDepth 65536 in
set_option maxHeartbeats 40000000 in
theorem rm8 (l : Launch) (Z : State) (a0 : Array Value) (hw : ∀ d ∈ tables_1, d.before a0 Z = true) (ws : List Jvm.Cond) (a1 : Addr) (i2 : Int32) (i3 : Int32) (x4 : UInt64) (u0 : Value) (u1 : Value) (u2 : Value) (h0 : Heap) (n0 : Nat) (Z0 : n0 ≤ h0.size) (E9 : Exa Z h0 a1 "com/example/hinterland/hinterland/EdgePoint") (F10 : Fld Z h0 a1 "com/example/hinterland/hinterland/EdgePoint" "u" "I" u0) (F11 : Fld Z h0 a1 "com/example/hinterland/hinterland/EdgePoint" "v" "I" u1) (F12 : Fld Z h0 a1 "com/example/hinterland/hinterland/EdgePoint" "offset" "D" u2) (g13 : n0 ≤ a1) :
    MetFree l (⟨"com/example/hinterland/hinterland/EdgePoint", "<init>", "(IID)V"⟩ : MethodName) (head1 (Jvm.Cond.code (⟨"com/example/hinterland/hinterland/EdgePoint", "<init>", "(IID)V"⟩ : MethodName) prog_12_method_1_code 5 none :: ws) ({ frames := 2, cells := 0, slots := 0, locals := 24 } : Room)) (fun a U => a = #[(.ref a1), (.int i2), (.int i3), (.double x4)] ∧ Z.Warmed39 U.vm ∧ U.heap = h0) (fun _ _ _ _ _ => True) (fun _ U o U' => ∃ v L, o = .returned v ∧ Q8 Z a1 i2 i3 x4 u0 u1 u2 h0 n0 v U'.heap L ∧ FrameEnd U o U' L 0 0) := by
  refine MetFree.of_bodySF (plainFor_of_name pn_1) hisR ?_
  intro p e s m args below meth c s₁ Bd hml0 hP hK
  obtain ⟨rfl, hZ, hh⟩ := hP
  have hx := Bd.exec
  have hby := Bd.bytes
  have hml : c.maxLocals = 5 := hml0
  have hown : s.vm.findClass "com/example/hinterland/hinterland/EdgePoint" = some m.cls := findClass_of_methodNamed Bd.named
  have hnm := (name_of_methodNamed Bd.named Bd.method).1
  have X0 : Stand p l e ({ frames := 2, cells := 0, slots := 0, locals := 24 } : Room) s m #[(.ref a1), (.int i2), (.int i3), (.double x4)] below meth c s₁ [] 0 0 := Stand.of_body Bd
  have e0 : s₁.heap = h0 := by rw [← hh, Bd.state]; rfl
  have N0 := Fr.nil n0
  have A0 := (⟨X0, hx, hby⟩ : Ax _ _ _ _ _ _ _ _ _ _ _ _ _ _ _)
  show Go p e below (fun U o => ∃ v L, o = .returned v ∧ Q8 Z a1 i2 i3 x4 u0 u1 u2 h0 n0 v U.heap L ∧ FrameEnd s o U L 0 0) s₁ (entryFrame m #[(.ref a1), (.int i2), (.int i3), (.double x4)] 5)
  refine Go.cast (ef8 m a1 i2 i3 x4 u0 u1 u2) ?_
  refine g_aloadN A0 d8_0 rfl rfl (pc' := 1) rfl ?_
  obtain ⟨_, _, ⟨T14, L14, k14, n14⟩, -, X14, ⟨L14c, hQ14, l14, y14, z14⟩, st14⟩ := X0.specialBack hx (y := (⟨"java/lang/Record", "<init>", "()V"⟩ : MethodName)) rfl hown (mvT hZ (hw _ (List.mem_of_getElem? (i := 45) rfl))) (mvT hZ (hw _ (List.mem_of_getElem? (i := 9) rfl))) (mvT hZ (hw _ (List.mem_of_getElem? (i := 12) rfl))) (by decide) (backOf (W := 0) (rm2 l Z a0 hw [] a1 h0 n0 Z0 ) hZ (hw _ (List.mem_of_getElem? (i := 12) rfl)) (hw _ (List.mem_of_getElem? (i := 11) rfl)) (by decide) (by decide)) (g := (mkF m 1 #[.val (.ref a1), .val (.int i2), .val (.int i3), .val (.double x4), .second] [(.ref a1)])) rfl (by rw [hml]; rfl) (Steps.refl _) (a := a1) (argsL := []) (rest := []) (lenOf pd_0 rfl) rfl (by show 2 * 0 + _ ≤ _; exact Nat.le_of_eq rfl) (hb hby d8_1) (fun _ _ => ⟨rfl, e0, (by decide : 0 + 0 ≤ _), (by decide : 0 + 0 ≤ _)⟩)
  dsimp only [Pt.U, Pt.locs, Pt.cells, Pt.slots] at X14 l14 y14 z14 st14 hQ14
  subst l14 y14 z14
  obtain ⟨rfl, Nq15, Kq16⟩ := hQ14
  have N17 := Fr.app N0 Nq15
  refine Go.tr (g' := (mkF m 4 #[.val (.ref a1), .val (.int i2), .val (.int i3), .val (.double x4), .second] [])) st14 ?_
  have e18 : T14.heap = h0 := Kq16
  have A19 := (⟨X14, hx, hby⟩ : Ax _ _ _ _ _ _ _ _ _ _ _ _ _ _ _)
  refine g_aloadN A19 d8_4 rfl rfl (pc' := 5) rfl ?_
  refine g_iloadN A19 d8_5 rfl (pc' := 6) rfl ?_
  obtain ⟨T20, h20, X20, e20, W20, st20⟩ := putF X14 hx hZ hown (host := "") (Or.inl (hw _ (List.mem_of_getElem? (i := 46) rfl))) Via.refl e18 F10 E9 (Or.inr ⟨(hw _ (List.mem_of_getElem? (i := 47) rfl)), rfl, hnm⟩) (hw _ (List.mem_of_getElem? (i := 33) rfl)) (ty := .int) (by decide) rfl rfl (g := (mkF m 6 #[.val (.ref a1), .val (.int i2), .val (.int i3), .val (.double x4), .second] [(.int i2), (.ref a1)])) rfl rfl (hb hby d8_6)
  have N21 := Fr.snoc X20 N17 g13
  have K22 : Keep h0 h20 [a1] := (Keep.refl h0 [a1]).wr W20 (Or.inl (List.mem_of_getElem? (i := 0) rfl))
  have E23 : Exa Z h20 a1 "com/example/hinterland/hinterland/EdgePoint" := Exa.wr W20 E9
  have F24 : Fld Z h20 a1 "com/example/hinterland/hinterland/EdgePoint" "v" "I" u1 := Fld.other W20 F11 (Or.inr (slot_ne (Or.inr (hw _ (List.mem_of_getElem? (i := 49) rfl))) (Or.inr (hw _ (List.mem_of_getElem? (i := 47) rfl))) (by decide) (t := .int) (t' := .int) (by decide) (by decide)))
  have F25 : Fld Z h20 a1 "com/example/hinterland/hinterland/EdgePoint" "offset" "D" u2 := Fld.other W20 F12 (Or.inr (slot_ne (Or.inr (hw _ (List.mem_of_getElem? (i := 51) rfl))) (Or.inr (hw _ (List.mem_of_getElem? (i := 47) rfl))) (by decide) (t := .double) (t' := .int) (by decide) (by decide)))
  have F26 : Fld Z h20 a1 "com/example/hinterland/hinterland/EdgePoint" "u" "I" (.int i2) := Fld.same W20 F10
  have Z27 : n0 ≤ h20.size := by rw [W20.size]; exact Z0
  refine Go.of (g' := (mkF m 9 #[.val (.ref a1), .val (.int i2), .val (.int i3), .val (.double x4), .second] [])) st20 ?_
  have A28 := (⟨X20, hx, hby⟩ : Ax _ _ _ _ _ _ _ _ _ _ _ _ _ _ _)
  refine g_aloadN A28 d8_9 rfl rfl (pc' := 10) rfl ?_
  refine g_iloadN A28 d8_10 rfl (pc' := 11) rfl ?_
  obtain ⟨T29, h29, X29, e29, W29, st29⟩ := putF X20 hx hZ hown (host := "") (Or.inl (hw _ (List.mem_of_getElem? (i := 48) rfl))) Via.refl e20 F24 E23 (Or.inr ⟨(hw _ (List.mem_of_getElem? (i := 49) rfl)), rfl, hnm⟩) (hw _ (List.mem_of_getElem? (i := 33) rfl)) (ty := .int) (by decide) rfl rfl (g := (mkF m 11 #[.val (.ref a1), .val (.int i2), .val (.int i3), .val (.double x4), .second] [(.int i3), (.ref a1)])) rfl rfl (hb hby d8_11)
  have N30 := Fr.snoc X29 N21 g13
  have K31 : Keep h0 h29 [a1] := K22.wr W29 (Or.inl (List.mem_of_getElem? (i := 0) rfl))
  have E32 : Exa Z h29 a1 "com/example/hinterland/hinterland/EdgePoint" := Exa.wr W29 E23
  have F33 : Fld Z h29 a1 "com/example/hinterland/hinterland/EdgePoint" "offset" "D" u2 := Fld.other W29 F25 (Or.inr (slot_ne (Or.inr (hw _ (List.mem_of_getElem? (i := 51) rfl))) (Or.inr (hw _ (List.mem_of_getElem? (i := 49) rfl))) (by decide) (t := .double) (t' := .int) (by decide) (by decide)))
  have F34 : Fld Z h29 a1 "com/example/hinterland/hinterland/EdgePoint" "u" "I" (.int i2) := Fld.other W29 F26 (Or.inr (slot_ne (Or.inr (hw _ (List.mem_of_getElem? (i := 47) rfl))) (Or.inr (hw _ (List.mem_of_getElem? (i := 49) rfl))) (by decide) (t := .int) (t' := .int) (by decide) (by decide)))
  have F35 : Fld Z h29 a1 "com/example/hinterland/hinterland/EdgePoint" "v" "I" (.int i3) := Fld.same W29 F24
  have Z36 : n0 ≤ h29.size := by rw [W29.size]; exact Z27
  refine Go.of (g' := (mkF m 14 #[.val (.ref a1), .val (.int i2), .val (.int i3), .val (.double x4), .second] [])) st29 ?_
  have A37 := (⟨X29, hx, hby⟩ : Ax _ _ _ _ _ _ _ _ _ _ _ _ _ _ _)
  refine g_aloadN A37 d8_14 rfl rfl (pc' := 15) rfl ?_
  refine g_dloadN A37 d8_15 rfl (pc' := 16) rfl ?_
  obtain ⟨T38, h38, X38, e38, W38, st38⟩ := putF X29 hx hZ hown (host := "") (Or.inl (hw _ (List.mem_of_getElem? (i := 50) rfl))) Via.refl e29 F33 E32 (Or.inr ⟨(hw _ (List.mem_of_getElem? (i := 51) rfl)), rfl, hnm⟩) (hw _ (List.mem_of_getElem? (i := 33) rfl)) (ty := .double) (by decide) rfl rfl (g := (mkF m 16 #[.val (.ref a1), .val (.int i2), .val (.int i3), .val (.double x4), .second] [(.double x4), (.ref a1)])) rfl rfl (hb hby d8_16)
  have N39 := Fr.snoc X38 N30 g13
  have K40 : Keep h0 h38 [a1] := K31.wr W38 (Or.inl (List.mem_of_getElem? (i := 0) rfl))
  have E41 : Exa Z h38 a1 "com/example/hinterland/hinterland/EdgePoint" := Exa.wr W38 E32
  have F42 : Fld Z h38 a1 "com/example/hinterland/hinterland/EdgePoint" "u" "I" (.int i2) := Fld.other W38 F34 (Or.inr (slot_ne (Or.inr (hw _ (List.mem_of_getElem? (i := 47) rfl))) (Or.inr (hw _ (List.mem_of_getElem? (i := 51) rfl))) (by decide) (t := .int) (t' := .double) (by decide) (by decide)))
  have F43 : Fld Z h38 a1 "com/example/hinterland/hinterland/EdgePoint" "v" "I" (.int i3) := Fld.other W38 F35 (Or.inr (slot_ne (Or.inr (hw _ (List.mem_of_getElem? (i := 49) rfl))) (Or.inr (hw _ (List.mem_of_getElem? (i := 51) rfl))) (by decide) (t := .int) (t' := .double) (by decide) (by decide)))
  have F44 : Fld Z h38 a1 "com/example/hinterland/hinterland/EdgePoint" "offset" "D" (.double x4) := Fld.same W38 F33
  have Z45 : n0 ≤ h38.size := by rw [W38.size]; exact Z36
  refine Go.of (g' := (mkF m 19 #[.val (.ref a1), .val (.int i2), .val (.int i3), .val (.double x4), .second] [])) st38 ?_
  have A46 := (⟨X38, hx, hby⟩ : Ax _ _ _ _ _ _ _ _ _ _ _ _ _ _ _)
  exact g_retV (Q := Q8 Z a1 i2 i3 x4 u0 u1 u2 h0 n0) A46 d8_19 Bd.notSynchronized Bd.returns (by decide) (by decide) (by rw [e38]; exact ⟨rfl, N39, K40, F42, F43, F44⟩)
theorem d1_0 : decode prog_6_method_1_code 0 = .ok (.aload_n 0, 1) := by decide +kernel
theorem d1_1 : decode prog_6_method_1_code 1 = .ok (.invokespecial 1, 3) := by decide +kernel
theorem d1_4 : decode prog_6_method_1_code 4 = .ok (.aload_n 0, 1) := by decide +kernel
theorem d1_5 : decode prog_6_method_1_code 5 = .ok (.aload_n 1, 1) := by decide +kernel
theorem d1_6 : decode prog_6_method_1_code 6 = .ok (.putfield 7, 3) := by decide +kernel
theorem d1_9 : decode prog_6_method_1_code 9 = .ok (.aload_n 0, 1) := by decide +kernel
theorem d1_10 : decode prog_6_method_1_code 10 = .ok (.dload_n 2, 1) := by decide +kernel
theorem d1_11 : decode prog_6_method_1_code 11 = .ok (.putfield 13, 3) := by decide +kernel
theorem d1_14 : decode prog_6_method_1_code 14 = .ok (.aload_n 0, 1) := by decide +kernel
theorem d1_15 : decode prog_6_method_1_code 15 = .ok (.iload 4, 2) := by decide +kernel
theorem d1_17 : decode prog_6_method_1_code 17 = .ok (.putfield 17, 3) := by decide +kernel
theorem d1_20 : decode prog_6_method_1_code 20 = .ok (.return_, 1) := by decide +kernel
theorem pn_2 : plainName "com/example/hinterland/hinterland/Coverage" = true := by first | (simp [plainName, overriddenIn]; done) | decide +kernel
theorem ef47 (m : MethodId) (a1 : Addr) (x3 : UInt64) (i4 : Int32) (u0 : Value) (u1 : Value) (u2 : Value) : entryFrame m #[(.ref a1), .null, (.double x3), (.int i4)] 5 = mkF m 0 #[.val (.ref a1), .val .null, .val (.double x3), .second, .val (.int i4)] [] := by first | (simp [entryFrame, mkF, argsToLocals, Value.category]; done) | rfl
def QC1 (Z : State) (a1 : Addr) (x3 : UInt64) (i4 : Int32) (u0 : Value) (u1 : Value) (u2 : Value) (h0 : Heap) (n0 : Nat) (v : Option Value) (h : Heap) (L : List Loc) : Prop := v = none ∧ Fr n0 L ∧ Keep h0 h [a1] ∧ Fld Z h a1 "com/example/hinterland/hinterland/Coverage" "point" "Lcom/example/hinterland/hinterland/EdgePoint;" .null ∧ Fld Z h a1 "com/example/hinterland/hinterland/Coverage" "unreachedVertex" "I" (.int i4)
set_option maxRecDepth 65536 in
set_option maxHeartbeats 40000000 in
theorem rmC1 (l : Launch) (Z : State) (a0 : Array Value) (hw : ∀ d ∈ tables_1, d.before a0 Z = true) (ws : List Jvm.Cond) (a1 : Addr) (x3 : UInt64) (i4 : Int32) (u0 : Value) (u1 : Value) (u2 : Value) (h0 : Heap) (n0 : Nat) (Z0 : n0 ≤ h0.size) (E48 : Exa Z h0 a1 "com/example/hinterland/hinterland/Coverage") (F49 : Fld Z h0 a1 "com/example/hinterland/hinterland/Coverage" "point" "Lcom/example/hinterland/hinterland/EdgePoint;" u0) (F50 : Fld Z h0 a1 "com/example/hinterland/hinterland/Coverage" "cost" "D" u1) (F51 : Fld Z h0 a1 "com/example/hinterland/hinterland/Coverage" "unreachedVertex" "I" u2) (g52 : n0 ≤ a1) :
    MetFree l (⟨"com/example/hinterland/hinterland/Coverage", "<init>", "(Lcom/example/hinterland/hinterland/EdgePoint;DI)V"⟩ : MethodName) (head1 (Jvm.Cond.code (⟨"com/example/hinterland/hinterland/Coverage", "<init>", "(Lcom/example/hinterland/hinterland/EdgePoint;DI)V"⟩ : MethodName) prog_6_method_1_code 5 none :: ws) ({ frames := 2, cells := 0, slots := 0, locals := 24 } : Room)) (fun a U => a = #[(.ref a1), .null, (.double x3), (.int i4)] ∧ Z.Warmed39 U.vm ∧ U.heap = h0) (fun _ _ _ _ _ => True) (fun _ U o U' => ∃ v L, o = .returned v ∧ QC1 Z a1 x3 i4 u0 u1 u2 h0 n0 v U'.heap L ∧ FrameEnd U o U' L 0 0) := by
  refine MetFree.of_bodySF (plainFor_of_name pn_2) hisR ?_
  intro p e s m args below meth c s₁ Bd hml0 hP hK
  obtain ⟨rfl, hZ, hh⟩ := hP
  have hx := Bd.exec
  have hby := Bd.bytes
  have hml : c.maxLocals = 5 := hml0
  have hown : s.vm.findClass "com/example/hinterland/hinterland/Coverage" = some m.cls := findClass_of_methodNamed Bd.named
  have hnm := (name_of_methodNamed Bd.named Bd.method).1
  have X0 : Stand p l e ({ frames := 2, cells := 0, slots := 0, locals := 24 } : Room) s m #[(.ref a1), .null, (.double x3), (.int i4)] below meth c s₁ [] 0 0 := Stand.of_body Bd
  have e0 : s₁.heap = h0 := by rw [← hh, Bd.state]; rfl
  have N0 := Fr.nil n0
  have A0 := (⟨X0, hx, hby⟩ : Ax _ _ _ _ _ _ _ _ _ _ _ _ _ _ _)
  show Go p e below (fun U o => ∃ v L, o = .returned v ∧ QC1 Z a1 x3 i4 u0 u1 u2 h0 n0 v U.heap L ∧ FrameEnd s o U L 0 0) s₁ (entryFrame m #[(.ref a1), .null, (.double x3), (.int i4)] 5)
  refine Go.cast (ef47 m a1 x3 i4 u0 u1 u2) ?_
  refine g_aloadN A0 d1_0 rfl rfl (pc' := 1) rfl ?_
  obtain ⟨_, _, ⟨T53, L53, k53, n53⟩, -, X53, ⟨L53c, hQ53, l53, y53, z53⟩, st53⟩ := X0.specialBack hx (y := (⟨"java/lang/Record", "<init>", "()V"⟩ : MethodName)) rfl hown (mvT hZ (hw _ (List.mem_of_getElem? (i := 8) rfl))) (mvT hZ (hw _ (List.mem_of_getElem? (i := 9) rfl))) (mvT hZ (hw _ (List.mem_of_getElem? (i := 12) rfl))) (by decide) (backOf (W := 0) (rm2 l Z a0 hw [] a1 h0 n0 Z0 ) hZ (hw _ (List.mem_of_getElem? (i := 12) rfl)) (hw _ (List.mem_of_getElem? (i := 11) rfl)) (by decide) (by decide)) (g := (mkF m 1 #[.val (.ref a1), .val .null, .val (.double x3), .second, .val (.int i4)] [(.ref a1)])) rfl (by rw [hml]; rfl) (Steps.refl _) (a := a1) (argsL := []) (rest := []) (lenOf pd_0 rfl) rfl (by show 2 * 0 + _ ≤ _; exact Nat.le_of_eq rfl) (hb hby d1_1) (fun _ _ => ⟨rfl, e0, (by decide : 0 + 0 ≤ _), (by decide : 0 + 0 ≤ _)⟩)
  dsimp only [Pt.U, Pt.locs, Pt.cells, Pt.slots] at X53 l53 y53 z53 st53 hQ53
  subst l53 y53 z53
  obtain ⟨rfl, Nq54, Kq55⟩ := hQ53
  have N56 := Fr.app N0 Nq54
  refine Go.tr (g' := (mkF m 4 #[.val (.ref a1), .val .null, .val (.double x3), .second, .val (.int i4)] [])) st53 ?_
  have e57 : T53.heap = h0 := Kq55
  have A58 := (⟨X53, hx, hby⟩ : Ax _ _ _ _ _ _ _ _ _ _ _ _ _ _ _)
  refine g_aloadN A58 d1_4 rfl rfl (pc' := 5) rfl ?_
  refine g_aloadN A58 d1_5 rfl rfl (pc' := 6) rfl ?_
  obtain ⟨T59, h59, X59, e59, W59, st59⟩ := putF X53 hx hZ hown (host := "") (Or.inl (hw _ (List.mem_of_getElem? (i := 16) rfl))) Via.refl e57 F49 E48 (Or.inr ⟨(hw _ (List.mem_of_getElem? (i := 17) rfl)), rfl, hnm⟩) (hw _ (List.mem_of_getElem? (i := 3) rfl)) (ty := (.object "com/example/hinterland/hinterland/EdgePoint")) (by decide) rfl rfl (g := (mkF m 6 #[.val (.ref a1), .val .null, .val (.double x3), .second, .val (.int i4)] [.null, (.ref a1)])) rfl rfl (hb hby d1_6)
  have N60 := Fr.snoc X59 N56 g52
  have K61 : Keep h0 h59 [a1] := (Keep.refl h0 [a1]).wr W59 (Or.inl (List.mem_of_getElem? (i := 0) rfl))
  have E62 : Exa Z h59 a1 "com/example/hinterland/hinterland/Coverage" := Exa.wr W59 E48
  have F63 : Fld Z h59 a1 "com/example/hinterland/hinterland/Coverage" "cost" "D" u1 := Fld.other W59 F50 (Or.inr (slot_ne (Or.inr (hw _ (List.mem_of_getElem? (i := 19) rfl))) (Or.inr (hw _ (List.mem_of_getElem? (i := 17) rfl))) (by decide) (t := .double) (t' := (.object "com/example/hinterland/hinterland/EdgePoint")) (by decide) (by decide)))
  have F64 : Fld Z h59 a1 "com/example/hinterland/hinterland/Coverage" "unreachedVertex" "I" u2 := Fld.other W59 F51 (Or.inr (slot_ne (Or.inr (hw _ (List.mem_of_getElem? (i := 21) rfl))) (Or.inr (hw _ (List.mem_of_getElem? (i := 17) rfl))) (by decide) (t := .int) (t' := (.object "com/example/hinterland/hinterland/EdgePoint")) (by decide) (by decide)))
  have F65 : Fld Z h59 a1 "com/example/hinterland/hinterland/Coverage" "point" "Lcom/example/hinterland/hinterland/EdgePoint;" .null := Fld.same W59 F49
  have Z66 : n0 ≤ h59.size := by rw [W59.size]; exact Z0
  refine Go.of (g' := (mkF m 9 #[.val (.ref a1), .val .null, .val (.double x3), .second, .val (.int i4)] [])) st59 ?_
  have A67 := (⟨X59, hx, hby⟩ : Ax _ _ _ _ _ _ _ _ _ _ _ _ _ _ _)
  refine g_aloadN A67 d1_9 rfl rfl (pc' := 10) rfl ?_
  refine g_dloadN A67 d1_10 rfl (pc' := 11) rfl ?_
  obtain ⟨T68, h68, X68, e68, W68, st68⟩ := putF X59 hx hZ hown (host := "") (Or.inl (hw _ (List.mem_of_getElem? (i := 18) rfl))) Via.refl e59 F63 E62 (Or.inr ⟨(hw _ (List.mem_of_getElem? (i := 19) rfl)), rfl, hnm⟩) (hw _ (List.mem_of_getElem? (i := 3) rfl)) (ty := .double) (by decide) rfl rfl (g := (mkF m 11 #[.val (.ref a1), .val .null, .val (.double x3), .second, .val (.int i4)] [(.double x3), (.ref a1)])) rfl rfl (hb hby d1_11)
  have N69 := Fr.snoc X68 N60 g52
  have K70 : Keep h0 h68 [a1] := K61.wr W68 (Or.inl (List.mem_of_getElem? (i := 0) rfl))
  have E71 : Exa Z h68 a1 "com/example/hinterland/hinterland/Coverage" := Exa.wr W68 E62
  have F72 : Fld Z h68 a1 "com/example/hinterland/hinterland/Coverage" "unreachedVertex" "I" u2 := Fld.other W68 F64 (Or.inr (slot_ne (Or.inr (hw _ (List.mem_of_getElem? (i := 21) rfl))) (Or.inr (hw _ (List.mem_of_getElem? (i := 19) rfl))) (by decide) (t := .int) (t' := .double) (by decide) (by decide)))
  have F73 : Fld Z h68 a1 "com/example/hinterland/hinterland/Coverage" "point" "Lcom/example/hinterland/hinterland/EdgePoint;" .null := Fld.other W68 F65 (Or.inr (slot_ne (Or.inr (hw _ (List.mem_of_getElem? (i := 17) rfl))) (Or.inr (hw _ (List.mem_of_getElem? (i := 19) rfl))) (by decide) (t := (.object "com/example/hinterland/hinterland/EdgePoint")) (t' := .double) (by decide) (by decide)))
  have F74 : Fld Z h68 a1 "com/example/hinterland/hinterland/Coverage" "cost" "D" (.double x3) := Fld.same W68 F63
  have Z75 : n0 ≤ h68.size := by rw [W68.size]; exact Z66
  refine Go.of (g' := (mkF m 14 #[.val (.ref a1), .val .null, .val (.double x3), .second, .val (.int i4)] [])) st68 ?_
  have A76 := (⟨X68, hx, hby⟩ : Ax _ _ _ _ _ _ _ _ _ _ _ _ _ _ _)
  refine g_aloadN A76 d1_14 rfl rfl (pc' := 15) rfl ?_
  refine g_iload A76 d1_15 rfl (pc' := 17) rfl ?_
  obtain ⟨T77, h77, X77, e77, W77, st77⟩ := putF X68 hx hZ hown (host := "") (Or.inl (hw _ (List.mem_of_getElem? (i := 20) rfl))) Via.refl e68 F72 E71 (Or.inr ⟨(hw _ (List.mem_of_getElem? (i := 21) rfl)), rfl, hnm⟩) (hw _ (List.mem_of_getElem? (i := 3) rfl)) (ty := .int) (by decide) rfl rfl (g := (mkF m 17 #[.val (.ref a1), .val .null, .val (.double x3), .second, .val (.int i4)] [(.int i4), (.ref a1)])) rfl rfl (hb hby d1_17)
  have N78 := Fr.snoc X77 N69 g52
  have K79 : Keep h0 h77 [a1] := K70.wr W77 (Or.inl (List.mem_of_getElem? (i := 0) rfl))
  have E80 : Exa Z h77 a1 "com/example/hinterland/hinterland/Coverage" := Exa.wr W77 E71
  have F81 : Fld Z h77 a1 "com/example/hinterland/hinterland/Coverage" "point" "Lcom/example/hinterland/hinterland/EdgePoint;" .null := Fld.other W77 F73 (Or.inr (slot_ne (Or.inr (hw _ (List.mem_of_getElem? (i := 17) rfl))) (Or.inr (hw _ (List.mem_of_getElem? (i := 21) rfl))) (by decide) (t := (.object "com/example/hinterland/hinterland/EdgePoint")) (t' := .int) (by decide) (by decide)))
  have F82 : Fld Z h77 a1 "com/example/hinterland/hinterland/Coverage" "cost" "D" (.double x3) := Fld.other W77 F74 (Or.inr (slot_ne (Or.inr (hw _ (List.mem_of_getElem? (i := 19) rfl))) (Or.inr (hw _ (List.mem_of_getElem? (i := 21) rfl))) (by decide) (t := .double) (t' := .int) (by decide) (by decide)))
  have F83 : Fld Z h77 a1 "com/example/hinterland/hinterland/Coverage" "unreachedVertex" "I" (.int i4) := Fld.same W77 F72
  have Z84 : n0 ≤ h77.size := by rw [W77.size]; exact Z75
  refine Go.of (g' := (mkF m 20 #[.val (.ref a1), .val .null, .val (.double x3), .second, .val (.int i4)] [])) st77 ?_
  have A85 := (⟨X77, hx, hby⟩ : Ax _ _ _ _ _ _ _ _ _ _ _ _ _ _ _)
  exact g_retV (Q := QC1 Z a1 x3 i4 u0 u1 u2 h0 n0) A85 d1_20 Bd.notSynchronized Bd.returns (by decide) (by decide) (by rw [e77]; exact ⟨rfl, N78, K79, F81, F83⟩)
theorem ef86 (m : MethodId) (a1 : Addr) (a2 : Addr) (x3 : UInt64) (i4 : Int32) (u0 : Value) (u1 : Value) (u2 : Value) : entryFrame m #[(.ref a1), (.ref a2), (.double x3), (.int i4)] 5 = mkF m 0 #[.val (.ref a1), .val (.ref a2), .val (.double x3), .second, .val (.int i4)] [] := by first | (simp [entryFrame, mkF, argsToLocals, Value.category]; done) | rfl
def QC0 (Z : State) (a1 : Addr) (a2 : Addr) (x3 : UInt64) (i4 : Int32) (u0 : Value) (u1 : Value) (u2 : Value) (h0 : Heap) (n0 : Nat) (v : Option Value) (h : Heap) (L : List Loc) : Prop := v = none ∧ Fr n0 L ∧ Keep h0 h [a1] ∧ Fld Z h a1 "com/example/hinterland/hinterland/Coverage" "point" "Lcom/example/hinterland/hinterland/EdgePoint;" (.ref a2) ∧ Fld Z h a1 "com/example/hinterland/hinterland/Coverage" "unreachedVertex" "I" (.int i4)
set_option maxRecDepth 65536 in
set_option maxHeartbeats 40000000 in
theorem rmC0 (l : Launch) (Z : State) (a0 : Array Value) (hw : ∀ d ∈ tables_1, d.before a0 Z = true) (ws : List Jvm.Cond) (a1 : Addr) (a2 : Addr) (x3 : UInt64) (i4 : Int32) (u0 : Value) (u1 : Value) (u2 : Value) (h0 : Heap) (n0 : Nat) (Z0 : n0 ≤ h0.size) (E87 : Exa Z h0 a1 "com/example/hinterland/hinterland/Coverage") (F88 : Fld Z h0 a1 "com/example/hinterland/hinterland/Coverage" "point" "Lcom/example/hinterland/hinterland/EdgePoint;" u0) (F89 : Fld Z h0 a1 "com/example/hinterland/hinterland/Coverage" "cost" "D" u1) (F90 : Fld Z h0 a1 "com/example/hinterland/hinterland/Coverage" "unreachedVertex" "I" u2) (g91 : n0 ≤ a1) :
    MetFree l (⟨"com/example/hinterland/hinterland/Coverage", "<init>", "(Lcom/example/hinterland/hinterland/EdgePoint;DI)V"⟩ : MethodName) (head1 (Jvm.Cond.code (⟨"com/example/hinterland/hinterland/Coverage", "<init>", "(Lcom/example/hinterland/hinterland/EdgePoint;DI)V"⟩ : MethodName) prog_6_method_1_code 5 none :: ws) ({ frames := 2, cells := 0, slots := 0, locals := 24 } : Room)) (fun a U => a = #[(.ref a1), (.ref a2), (.double x3), (.int i4)] ∧ Z.Warmed39 U.vm ∧ U.heap = h0) (fun _ _ _ _ _ => True) (fun _ U o U' => ∃ v L, o = .returned v ∧ QC0 Z a1 a2 x3 i4 u0 u1 u2 h0 n0 v U'.heap L ∧ FrameEnd U o U' L 0 0) := by
  refine MetFree.of_bodySF (plainFor_of_name pn_2) hisR ?_
  intro p e s m args below meth c s₁ Bd hml0 hP hK
  obtain ⟨rfl, hZ, hh⟩ := hP
  have hx := Bd.exec
  have hby := Bd.bytes
  have hml : c.maxLocals = 5 := hml0
  have hown : s.vm.findClass "com/example/hinterland/hinterland/Coverage" = some m.cls := findClass_of_methodNamed Bd.named
  have hnm := (name_of_methodNamed Bd.named Bd.method).1
  have X0 : Stand p l e ({ frames := 2, cells := 0, slots := 0, locals := 24 } : Room) s m #[(.ref a1), (.ref a2), (.double x3), (.int i4)] below meth c s₁ [] 0 0 := Stand.of_body Bd
  have e0 : s₁.heap = h0 := by rw [← hh, Bd.state]; rfl
  have N0 := Fr.nil n0
  have A0 := (⟨X0, hx, hby⟩ : Ax _ _ _ _ _ _ _ _ _ _ _ _ _ _ _)
  show Go p e below (fun U o => ∃ v L, o = .returned v ∧ QC0 Z a1 a2 x3 i4 u0 u1 u2 h0 n0 v U.heap L ∧ FrameEnd s o U L 0 0) s₁ (entryFrame m #[(.ref a1), (.ref a2), (.double x3), (.int i4)] 5)
  refine Go.cast (ef86 m a1 a2 x3 i4 u0 u1 u2) ?_
  refine g_aloadN A0 d1_0 rfl rfl (pc' := 1) rfl ?_
  obtain ⟨_, _, ⟨T92, L92, k92, n92⟩, -, X92, ⟨L92c, hQ92, l92, y92, z92⟩, st92⟩ := X0.specialBack hx (y := (⟨"java/lang/Record", "<init>", "()V"⟩ : MethodName)) rfl hown (mvT hZ (hw _ (List.mem_of_getElem? (i := 8) rfl))) (mvT hZ (hw _ (List.mem_of_getElem? (i := 9) rfl))) (mvT hZ (hw _ (List.mem_of_getElem? (i := 12) rfl))) (by decide) (backOf (W := 0) (rm2 l Z a0 hw [] a1 h0 n0 Z0 ) hZ (hw _ (List.mem_of_getElem? (i := 12) rfl)) (hw _ (List.mem_of_getElem? (i := 11) rfl)) (by decide) (by decide)) (g := (mkF m 1 #[.val (.ref a1), .val (.ref a2), .val (.double x3), .second, .val (.int i4)] [(.ref a1)])) rfl (by rw [hml]; rfl) (Steps.refl _) (a := a1) (argsL := []) (rest := []) (lenOf pd_0 rfl) rfl (by show 2 * 0 + _ ≤ _; exact Nat.le_of_eq rfl) (hb hby d1_1) (fun _ _ => ⟨rfl, e0, (by decide : 0 + 0 ≤ _), (by decide : 0 + 0 ≤ _)⟩)
  dsimp only [Pt.U, Pt.locs, Pt.cells, Pt.slots] at X92 l92 y92 z92 st92 hQ92
  subst l92 y92 z92
  obtain ⟨rfl, Nq93, Kq94⟩ := hQ92
  have N95 := Fr.app N0 Nq93
  refine Go.tr (g' := (mkF m 4 #[.val (.ref a1), .val (.ref a2), .val (.double x3), .second, .val (.int i4)] [])) st92 ?_
  have e96 : T92.heap = h0 := Kq94
  have A97 := (⟨X92, hx, hby⟩ : Ax _ _ _ _ _ _ _ _ _ _ _ _ _ _ _)
  refine g_aloadN A97 d1_4 rfl rfl (pc' := 5) rfl ?_
  refine g_aloadN A97 d1_5 rfl rfl (pc' := 6) rfl ?_
  obtain ⟨T98, h98, X98, e98, W98, st98⟩ := putF X92 hx hZ hown (host := "") (Or.inl (hw _ (List.mem_of_getElem? (i := 16) rfl))) Via.refl e96 F88 E87 (Or.inr ⟨(hw _ (List.mem_of_getElem? (i := 17) rfl)), rfl, hnm⟩) (hw _ (List.mem_of_getElem? (i := 3) rfl)) (ty := (.object "com/example/hinterland/hinterland/EdgePoint")) (by decide) rfl rfl (g := (mkF m 6 #[.val (.ref a1), .val (.ref a2), .val (.double x3), .second, .val (.int i4)] [(.ref a2), (.ref a1)])) rfl rfl (hb hby d1_6)
  have N99 := Fr.snoc X98 N95 g91
  have K100 : Keep h0 h98 [a1] := (Keep.refl h0 [a1]).wr W98 (Or.inl (List.mem_of_getElem? (i := 0) rfl))
  have E101 : Exa Z h98 a1 "com/example/hinterland/hinterland/Coverage" := Exa.wr W98 E87
  have F102 : Fld Z h98 a1 "com/example/hinterland/hinterland/Coverage" "cost" "D" u1 := Fld.other W98 F89 (Or.inr (slot_ne (Or.inr (hw _ (List.mem_of_getElem? (i := 19) rfl))) (Or.inr (hw _ (List.mem_of_getElem? (i := 17) rfl))) (by decide) (t := .double) (t' := (.object "com/example/hinterland/hinterland/EdgePoint")) (by decide) (by decide)))
  have F103 : Fld Z h98 a1 "com/example/hinterland/hinterland/Coverage" "unreachedVertex" "I" u2 := Fld.other W98 F90 (Or.inr (slot_ne (Or.inr (hw _ (List.mem_of_getElem? (i := 21) rfl))) (Or.inr (hw _ (List.mem_of_getElem? (i := 17) rfl))) (by decide) (t := .int) (t' := (.object "com/example/hinterland/hinterland/EdgePoint")) (by decide) (by decide)))
  have F104 : Fld Z h98 a1 "com/example/hinterland/hinterland/Coverage" "point" "Lcom/example/hinterland/hinterland/EdgePoint;" (.ref a2) := Fld.same W98 F88
  have Z105 : n0 ≤ h98.size := by rw [W98.size]; exact Z0
  refine Go.of (g' := (mkF m 9 #[.val (.ref a1), .val (.ref a2), .val (.double x3), .second, .val (.int i4)] [])) st98 ?_
  have A106 := (⟨X98, hx, hby⟩ : Ax _ _ _ _ _ _ _ _ _ _ _ _ _ _ _)
  refine g_aloadN A106 d1_9 rfl rfl (pc' := 10) rfl ?_
  refine g_dloadN A106 d1_10 rfl (pc' := 11) rfl ?_
  obtain ⟨T107, h107, X107, e107, W107, st107⟩ := putF X98 hx hZ hown (host := "") (Or.inl (hw _ (List.mem_of_getElem? (i := 18) rfl))) Via.refl e98 F102 E101 (Or.inr ⟨(hw _ (List.mem_of_getElem? (i := 19) rfl)), rfl, hnm⟩) (hw _ (List.mem_of_getElem? (i := 3) rfl)) (ty := .double) (by decide) rfl rfl (g := (mkF m 11 #[.val (.ref a1), .val (.ref a2), .val (.double x3), .second, .val (.int i4)] [(.double x3), (.ref a1)])) rfl rfl (hb hby d1_11)
  have N108 := Fr.snoc X107 N99 g91
  have K109 : Keep h0 h107 [a1] := K100.wr W107 (Or.inl (List.mem_of_getElem? (i := 0) rfl))
  have E110 : Exa Z h107 a1 "com/example/hinterland/hinterland/Coverage" := Exa.wr W107 E101
  have F111 : Fld Z h107 a1 "com/example/hinterland/hinterland/Coverage" "unreachedVertex" "I" u2 := Fld.other W107 F103 (Or.inr (slot_ne (Or.inr (hw _ (List.mem_of_getElem? (i := 21) rfl))) (Or.inr (hw _ (List.mem_of_getElem? (i := 19) rfl))) (by decide) (t := .int) (t' := .double) (by decide) (by decide)))
  have F112 : Fld Z h107 a1 "com/example/hinterland/hinterland/Coverage" "point" "Lcom/example/hinterland/hinterland/EdgePoint;" (.ref a2) := Fld.other W107 F104 (Or.inr (slot_ne (Or.inr (hw _ (List.mem_of_getElem? (i := 17) rfl))) (Or.inr (hw _ (List.mem_of_getElem? (i := 19) rfl))) (by decide) (t := (.object "com/example/hinterland/hinterland/EdgePoint")) (t' := .double) (by decide) (by decide)))
  have F113 : Fld Z h107 a1 "com/example/hinterland/hinterland/Coverage" "cost" "D" (.double x3) := Fld.same W107 F102
  have Z114 : n0 ≤ h107.size := by rw [W107.size]; exact Z105
  refine Go.of (g' := (mkF m 14 #[.val (.ref a1), .val (.ref a2), .val (.double x3), .second, .val (.int i4)] [])) st107 ?_
  have A115 := (⟨X107, hx, hby⟩ : Ax _ _ _ _ _ _ _ _ _ _ _ _ _ _ _)
  refine g_aloadN A115 d1_14 rfl rfl (pc' := 15) rfl ?_
  refine g_iload A115 d1_15 rfl (pc' := 17) rfl ?_
  obtain ⟨T116, h116, X116, e116, W116, st116⟩ := putF X107 hx hZ hown (host := "") (Or.inl (hw _ (List.mem_of_getElem? (i := 20) rfl))) Via.refl e107 F111 E110 (Or.inr ⟨(hw _ (List.mem_of_getElem? (i := 21) rfl)), rfl, hnm⟩) (hw _ (List.mem_of_getElem? (i := 3) rfl)) (ty := .int) (by decide) rfl rfl (g := (mkF m 17 #[.val (.ref a1), .val (.ref a2), .val (.double x3), .second, .val (.int i4)] [(.int i4), (.ref a1)])) rfl rfl (hb hby d1_17)
  have N117 := Fr.snoc X116 N108 g91
  have K118 : Keep h0 h116 [a1] := K109.wr W116 (Or.inl (List.mem_of_getElem? (i := 0) rfl))
  have E119 : Exa Z h116 a1 "com/example/hinterland/hinterland/Coverage" := Exa.wr W116 E110
  have F120 : Fld Z h116 a1 "com/example/hinterland/hinterland/Coverage" "point" "Lcom/example/hinterland/hinterland/EdgePoint;" (.ref a2) := Fld.other W116 F112 (Or.inr (slot_ne (Or.inr (hw _ (List.mem_of_getElem? (i := 17) rfl))) (Or.inr (hw _ (List.mem_of_getElem? (i := 21) rfl))) (by decide) (t := (.object "com/example/hinterland/hinterland/EdgePoint")) (t' := .int) (by decide) (by decide)))
  have F121 : Fld Z h116 a1 "com/example/hinterland/hinterland/Coverage" "cost" "D" (.double x3) := Fld.other W116 F113 (Or.inr (slot_ne (Or.inr (hw _ (List.mem_of_getElem? (i := 19) rfl))) (Or.inr (hw _ (List.mem_of_getElem? (i := 21) rfl))) (by decide) (t := .double) (t' := .int) (by decide) (by decide)))
  have F122 : Fld Z h116 a1 "com/example/hinterland/hinterland/Coverage" "unreachedVertex" "I" (.int i4) := Fld.same W116 F111
  have Z123 : n0 ≤ h116.size := by rw [W116.size]; exact Z114
  refine Go.of (g' := (mkF m 20 #[.val (.ref a1), .val (.ref a2), .val (.double x3), .second, .val (.int i4)] [])) st116 ?_
  have A124 := (⟨X116, hx, hby⟩ : Ax _ _ _ _ _ _ _ _ _ _ _ _ _ _ _)
  exact g_retV (Q := QC0 Z a1 a2 x3 i4 u0 u1 u2 h0 n0) A124 d1_20 Bd.notSynchronized Bd.returns (by decide) (by decide) (by rw [e116]; exact ⟨rfl, N117, K118, F120, F122⟩)
def own_r_rmIn (n2 : Int32) : Int32 := (if n2 = 0 then (1 : Int32) else 0)
theorem d4_0 : decode prog_6_method_2_code 0 = .ok (.aload_n 0, 1) := by decide +kernel
theorem d4_1 : decode prog_6_method_2_code 1 = .ok (.getfield 7, 3) := by decide +kernel
theorem d4_4 : decode prog_6_method_2_code 4 = .ok (.ifnonnull 14, 3) := by decide +kernel
theorem d4_7 : decode prog_6_method_2_code 7 = .ok (.aload_n 0, 1) := by decide +kernel
theorem d4_8 : decode prog_6_method_2_code 8 = .ok (.getfield 17, 3) := by decide +kernel
theorem d4_11 : decode prog_6_method_2_code 11 = .ok (.ifCond .ne 7, 3) := by decide +kernel
theorem d4_14 : decode prog_6_method_2_code 14 = .ok (.iconst 1, 1) := by decide +kernel
theorem d4_15 : decode prog_6_method_2_code 15 = .ok (.goto 4, 3) := by decide +kernel
theorem d4_18 : decode prog_6_method_2_code 18 = .ok (.iconst 0, 1) := by decide +kernel
theorem d4_19 : decode prog_6_method_2_code 19 = .ok (.ireturn, 1) := by decide +kernel
theorem ef125 (m : MethodId) (a1 : Addr) (n2 : Int32) : entryFrame m #[(.ref a1)] 1 = mkF m 0 #[.val (.ref a1)] [] := by first | (simp [entryFrame, mkF, argsToLocals, Value.category]; done) | rfl
def QIn (Z : State) (a1 : Addr) (n2 : Int32) (h0 : Heap) (n0 : Nat) (v : Option Value) (h : Heap) (L : List Loc) : Prop := v = some (.int (own_r_rmIn n2)) ∧ Fr n0 L ∧ h = h0
set_option maxRecDepth 65536 in
set_option maxHeartbeats 40000000 in
theorem rmIn (l : Launch) (Z : State) (a0 : Array Value) (hw : ∀ d ∈ tables_1, d.before a0 Z = true) (ws : List Jvm.Cond) (a1 : Addr) (n2 : Int32) (h0 : Heap) (n0 : Nat) (Z0 : n0 ≤ h0.size) (F126 : Fld Z h0 a1 "com/example/hinterland/hinterland/Coverage" "point" "Lcom/example/hinterland/hinterland/EdgePoint;" .null) (F127 : Fld Z h0 a1 "com/example/hinterland/hinterland/Coverage" "unreachedVertex" "I" (.int n2)) :
    MetFree l (⟨"com/example/hinterland/hinterland/Coverage", "isCovered", "()Z"⟩ : MethodName) (head1 (Jvm.Cond.code (⟨"com/example/hinterland/hinterland/Coverage", "isCovered", "()Z"⟩ : MethodName) prog_6_method_2_code 1 (some .boolean) :: ws) ({ frames := 0, cells := 0, slots := 0, locals := 0 } : Room)) (fun a U => a = #[(.ref a1)] ∧ Z.Warmed39 U.vm ∧ U.heap = h0) (fun _ _ _ _ _ => True) (fun _ U o U' => ∃ v L, o = .returned v ∧ QIn Z a1 n2 h0 n0 v U'.heap L ∧ FrameEnd U o U' L 0 0) := by
  refine MetFree.of_bodySF (plainFor_of_name pn_2) hisR ?_
  intro p e s m args below meth c s₁ Bd hml0 hP hK
  obtain ⟨rfl, hZ, hh⟩ := hP
  have hx := Bd.exec
  have hby := Bd.bytes
  have hml : c.maxLocals = 1 := hml0
  have hown : s.vm.findClass "com/example/hinterland/hinterland/Coverage" = some m.cls := findClass_of_methodNamed Bd.named
  have hnm := (name_of_methodNamed Bd.named Bd.method).1
  have X0 : Stand p l e ({ frames := 0, cells := 0, slots := 0, locals := 0 } : Room) s m #[(.ref a1)] below meth c s₁ [] 0 0 := Stand.of_body Bd
  have e0 : s₁.heap = h0 := by rw [← hh, Bd.state]; rfl
  have N0 := Fr.nil n0
  have A0 := (⟨X0, hx, hby⟩ : Ax _ _ _ _ _ _ _ _ _ _ _ _ _ _ _)
  show Go p e below (fun U o => ∃ v L, o = .returned v ∧ QIn Z a1 n2 h0 n0 v U.heap L ∧ FrameEnd s o U L 0 0) s₁ (entryFrame m #[(.ref a1)] 1)
  refine Go.cast (ef125 m a1 n2) ?_
  refine g_aloadN A0 d4_0 rfl rfl (pc' := 1) rfl ?_
  obtain ⟨T128, X128, e128, st128⟩ := getF X0 hx hZ hown (host := "") (Or.inl (hw _ (List.mem_of_getElem? (i := 16) rfl))) Via.refl e0 F126 (g := (mkF m 1 #[.val (.ref a1)] [(.ref a1)])) rfl rfl (hb hby d4_1)
  refine Go.of (g' := (mkF m 4 #[.val (.ref a1)] [.null])) st128 ?_
  have A129 := (⟨X128, hx, hby⟩ : Ax _ _ _ _ _ _ _ _ _ _ _ _ _ _ _)
  refine g_nnN A129 d4_4 (pc' := 7) rfl ?_
  refine g_aloadN A129 d4_7 rfl rfl (pc' := 8) rfl ?_
  obtain ⟨T130, X130, e130, st130⟩ := getF X128 hx hZ hown (host := "") (Or.inl (hw _ (List.mem_of_getElem? (i := 20) rfl))) Via.refl e128 F127 (g := (mkF m 8 #[.val (.ref a1)] [(.ref a1)])) rfl rfl (hb hby d4_8)
  refine Go.of (g' := (mkF m 11 #[.val (.ref a1)] [(.int n2)])) st130 ?_
  have A131 := (⟨X130, hx, hby⟩ : Ax _ _ _ _ _ _ _ _ _ _ _ _ _ _ _)
  obtain ⟨v132, hv132⟩ : ∃ z : Int32, z = if n2 = 0 then (1 : Int32) else 0 := ⟨_, rfl⟩
  have sg133 : ∀ {P : State → Outcome → Prop}, Go p e below P T130 (mkF m 19 #[.val (.ref a1)] [(.int v132)]) → Go p e below P T130 (mkF m 11 #[.val (.ref a1)] [(.int n2)]) := by
    intro P hr
    by_cases c134 : n2 = 0
    · skip
      refine g_ifN A131 d4_11 (c0_ne_f c134) (pc' := 14) rfl ?_
      refine g_iconst A131 d4_14 (v := (1 : Int32)) rfl (pc' := 15) rfl ?_
      refine g_goto A131 d4_15 (pc' := 19) rfl ?_
      obtain rfl : v132 = (1 : Int32) := hv132.trans (if_pos c134)
      exact hr
    · skip
      refine g_ifY A131 d4_11 (c0_ne_t c134) (pc' := 18) rfl ?_
      refine g_iconst A131 d4_18 (v := (0 : Int32)) rfl (pc' := 19) rfl ?_
      obtain rfl : v132 = (0 : Int32) := hv132.trans (if_neg c134)
      exact hr
  refine sg133 ?_
  exact g_ret (Q := QIn Z a1 n2 h0 n0) A131 d4_19 Bd.notSynchronized Bd.returns (own_b01 hv132) (Or.inl ⟨rfl, by simp, _, rfl⟩) (by decide) (by decide) (by rw [e130]; exact ⟨(congrArg (fun z => some (Value.int z)) (by rw [hv132, own_r_rmIn])), N0, rfl⟩)
theorem ef135 (m : MethodId) (a1 : Addr) (a2 : Addr) : entryFrame m #[(.ref a1)] 1 = mkF m 0 #[.val (.ref a1)] [] := by first | (simp [entryFrame, mkF, argsToLocals, Value.category]; done) | rfl
def QIr (Z : State) (a1 : Addr) (a2 : Addr) (h0 : Heap) (n0 : Nat) (v : Option Value) (h : Heap) (L : List Loc) : Prop := v = some (.int (0 : Int32)) ∧ Fr n0 L ∧ h = h0
set_option maxRecDepth 65536 in
set_option maxHeartbeats 40000000 in
theorem rmIr (l : Launch) (Z : State) (a0 : Array Value) (hw : ∀ d ∈ tables_1, d.before a0 Z = true) (ws : List Jvm.Cond) (a1 : Addr) (a2 : Addr) (h0 : Heap) (n0 : Nat) (Z0 : n0 ≤ h0.size) (F136 : Fld Z h0 a1 "com/example/hinterland/hinterland/Coverage" "point" "Lcom/example/hinterland/hinterland/EdgePoint;" (.ref a2)) :
    MetFree l (⟨"com/example/hinterland/hinterland/Coverage", "isCovered", "()Z"⟩ : MethodName) (head1 (Jvm.Cond.code (⟨"com/example/hinterland/hinterland/Coverage", "isCovered", "()Z"⟩ : MethodName) prog_6_method_2_code 1 (some .boolean) :: ws) ({ frames := 0, cells := 0, slots := 0, locals := 0 } : Room)) (fun a U => a = #[(.ref a1)] ∧ Z.Warmed39 U.vm ∧ U.heap = h0) (fun _ _ _ _ _ => True) (fun _ U o U' => ∃ v L, o = .returned v ∧ QIr Z a1 a2 h0 n0 v U'.heap L ∧ FrameEnd U o U' L 0 0) := by
  refine MetFree.of_bodySF (plainFor_of_name pn_2) hisR ?_
  intro p e s m args below meth c s₁ Bd hml0 hP hK
  obtain ⟨rfl, hZ, hh⟩ := hP
  have hx := Bd.exec
  have hby := Bd.bytes
  have hml : c.maxLocals = 1 := hml0
  have hown : s.vm.findClass "com/example/hinterland/hinterland/Coverage" = some m.cls := findClass_of_methodNamed Bd.named
  have hnm := (name_of_methodNamed Bd.named Bd.method).1
  have X0 : Stand p l e ({ frames := 0, cells := 0, slots := 0, locals := 0 } : Room) s m #[(.ref a1)] below meth c s₁ [] 0 0 := Stand.of_body Bd
  have e0 : s₁.heap = h0 := by rw [← hh, Bd.state]; rfl
  have N0 := Fr.nil n0
  have A0 := (⟨X0, hx, hby⟩ : Ax _ _ _ _ _ _ _ _ _ _ _ _ _ _ _)
  show Go p e below (fun U o => ∃ v L, o = .returned v ∧ QIr Z a1 a2 h0 n0 v U.heap L ∧ FrameEnd s o U L 0 0) s₁ (entryFrame m #[(.ref a1)] 1)
  refine Go.cast (ef135 m a1 a2) ?_
  refine g_aloadN A0 d4_0 rfl rfl (pc' := 1) rfl ?_
  obtain ⟨T137, X137, e137, st137⟩ := getF X0 hx hZ hown (host := "") (Or.inl (hw _ (List.mem_of_getElem? (i := 16) rfl))) Via.refl e0 F136 (g := (mkF m 1 #[.val (.ref a1)] [(.ref a1)])) rfl rfl (hb hby d4_1)
  refine Go.of (g' := (mkF m 4 #[.val (.ref a1)] [(.ref a2)])) st137 ?_
  have A138 := (⟨X137, hx, hby⟩ : Ax _ _ _ _ _ _ _ _ _ _ _ _ _ _ _)
  refine g_nnY A138 d4_4 (pc' := 18) rfl ?_
  refine g_iconst A138 d4_18 (v := (0 : Int32)) rfl (pc' := 19) rfl ?_
  exact g_ret (Q := QIr Z a1 a2 h0 n0) A138 d4_19 Bd.notSynchronized Bd.returns rfl (Or.inl ⟨rfl, by simp, _, rfl⟩) (by decide) (by decide) (by rw [e137]; exact ⟨rfl, N0, rfl⟩)
def own_r_rm5 (n2 : Int32) : Int32 := (if 0 < n2 then (1 : Int32) else 0)
theorem d5_0 : decode prog_6_method_3_code 0 = .ok (.aload_n 0, 1) := by decide +kernel
theorem d5_1 : decode prog_6_method_3_code 1 = .ok (.getfield 17, 3) := by decide +kernel
theorem d5_4 : decode prog_6_method_3_code 4 = .ok (.ifCond .le 7, 3) := by decide +kernel
theorem d5_7 : decode prog_6_method_3_code 7 = .ok (.iconst 1, 1) := by decide +kernel
theorem d5_8 : decode prog_6_method_3_code 8 = .ok (.goto 4, 3) := by decide +kernel
theorem d5_11 : decode prog_6_method_3_code 11 = .ok (.iconst 0, 1) := by decide +kernel
theorem d5_12 : decode prog_6_method_3_code 12 = .ok (.ireturn, 1) := by decide +kernel
theorem ef139 (m : MethodId) (a1 : Addr) (n2 : Int32) : entryFrame m #[(.ref a1)] 1 = mkF m 0 #[.val (.ref a1)] [] := by first | (simp [entryFrame, mkF, argsToLocals, Value.category]; done) | rfl
def Q5 (Z : State) (a1 : Addr) (n2 : Int32) (h0 : Heap) (n0 : Nat) (v : Option Value) (h : Heap) (L : List Loc) : Prop := v = some (.int (own_r_rm5 n2)) ∧ Fr n0 L ∧ h = h0
set_option maxRecDepth 65536 in
set_option maxHeartbeats 40000000 in
theorem rm5 (l : Launch) (Z : State) (a0 : Array Value) (hw : ∀ d ∈ tables_1, d.before a0 Z = true) (ws : List Jvm.Cond) (a1 : Addr) (n2 : Int32) (h0 : Heap) (n0 : Nat) (Z0 : n0 ≤ h0.size) (F140 : Fld Z h0 a1 "com/example/hinterland/hinterland/Coverage" "unreachedVertex" "I" (.int n2)) :
    MetFree l (⟨"com/example/hinterland/hinterland/Coverage", "isUnbounded", "()Z"⟩ : MethodName) (head1 (Jvm.Cond.code (⟨"com/example/hinterland/hinterland/Coverage", "isUnbounded", "()Z"⟩ : MethodName) prog_6_method_3_code 1 (some .boolean) :: ws) ({ frames := 0, cells := 0, slots := 0, locals := 0 } : Room)) (fun a U => a = #[(.ref a1)] ∧ Z.Warmed39 U.vm ∧ U.heap = h0) (fun _ _ _ _ _ => True) (fun _ U o U' => ∃ v L, o = .returned v ∧ Q5 Z a1 n2 h0 n0 v U'.heap L ∧ FrameEnd U o U' L 0 0) := by
  refine MetFree.of_bodySF (plainFor_of_name pn_2) hisR ?_
  intro p e s m args below meth c s₁ Bd hml0 hP hK
  obtain ⟨rfl, hZ, hh⟩ := hP
  have hx := Bd.exec
  have hby := Bd.bytes
  have hml : c.maxLocals = 1 := hml0
  have hown : s.vm.findClass "com/example/hinterland/hinterland/Coverage" = some m.cls := findClass_of_methodNamed Bd.named
  have hnm := (name_of_methodNamed Bd.named Bd.method).1
  have X0 : Stand p l e ({ frames := 0, cells := 0, slots := 0, locals := 0 } : Room) s m #[(.ref a1)] below meth c s₁ [] 0 0 := Stand.of_body Bd
  have e0 : s₁.heap = h0 := by rw [← hh, Bd.state]; rfl
  have N0 := Fr.nil n0
  have A0 := (⟨X0, hx, hby⟩ : Ax _ _ _ _ _ _ _ _ _ _ _ _ _ _ _)
  show Go p e below (fun U o => ∃ v L, o = .returned v ∧ Q5 Z a1 n2 h0 n0 v U.heap L ∧ FrameEnd s o U L 0 0) s₁ (entryFrame m #[(.ref a1)] 1)
  refine Go.cast (ef139 m a1 n2) ?_
  refine g_aloadN A0 d5_0 rfl rfl (pc' := 1) rfl ?_
  obtain ⟨T141, X141, e141, st141⟩ := getF X0 hx hZ hown (host := "") (Or.inl (hw _ (List.mem_of_getElem? (i := 20) rfl))) Via.refl e0 F140 (g := (mkF m 1 #[.val (.ref a1)] [(.ref a1)])) rfl rfl (hb hby d5_1)
  refine Go.of (g' := (mkF m 4 #[.val (.ref a1)] [(.int n2)])) st141 ?_
  have A142 := (⟨X141, hx, hby⟩ : Ax _ _ _ _ _ _ _ _ _ _ _ _ _ _ _)
  obtain ⟨v143, hv143⟩ : ∃ z : Int32, z = if 0 < n2 then (1 : Int32) else 0 := ⟨_, rfl⟩
  have sg144 : ∀ {P : State → Outcome → Prop}, Go p e below P T141 (mkF m 12 #[.val (.ref a1)] [(.int v143)]) → Go p e below P T141 (mkF m 4 #[.val (.ref a1)] [(.int n2)]) := by
    intro P hr
    by_cases c145 : 0 < n2
    · skip
      refine g_ifN A142 d5_4 (c0_le_f c145) (pc' := 7) rfl ?_
      refine g_iconst A142 d5_7 (v := (1 : Int32)) rfl (pc' := 8) rfl ?_
      refine g_goto A142 d5_8 (pc' := 12) rfl ?_
      obtain rfl : v143 = (1 : Int32) := hv143.trans (if_pos c145)
      exact hr
    · skip
      refine g_ifY A142 d5_4 (c0_le_t c145) (pc' := 11) rfl ?_
      refine g_iconst A142 d5_11 (v := (0 : Int32)) rfl (pc' := 12) rfl ?_
      obtain rfl : v143 = (0 : Int32) := hv143.trans (if_neg c145)
      exact hr
  refine sg144 ?_
  exact g_ret (Q := Q5 Z a1 n2 h0 n0) A142 d5_12 Bd.notSynchronized Bd.returns (own_b01 hv143) (Or.inl ⟨rfl, by simp, _, rfl⟩) (by decide) (by decide) (by rw [e141]; exact ⟨(congrArg (fun z => some (Value.int z)) (by rw [hv143, own_r_rm5])), N0, rfl⟩)
theorem own_k3 (p : Int32) : ((p &&& (2147483647 : Int32)) % (3 : Int32)) = 0 ∨ ((p &&& (2147483647 : Int32)) % (3 : Int32)) = 1 ∨ ((p &&& (2147483647 : Int32)) % (3 : Int32)) = 2 := by
  have h := c_mask p 2147483647 31 (by decide) (by decide)
  have e : ((3 : Int32)).toInt = 3 := rfl
  have h2 := (c_irem (p &&& 2147483647) 3 3 e).1 (by rw [h]; omega)
  have e0 : (0 : Int32).toInt = 0 := rfl
  have e1 : (1 : Int32).toInt = 1 := rfl
  have e2 : (2 : Int32).toInt = 2 := rfl
  rw [← Int32.toInt_inj, ← Int32.toInt_inj, ← Int32.toInt_inj, h2, e0, e1, e2]
  omega
theorem own_pos (p : Int32) : ¬ ((1 : Int32) + (p &&& (1073741823 : Int32))) = 0 := by
  have h := c_mask p 1073741823 30 (by decide) (by decide)
  have s := c_iadd 1 (p &&& 1073741823)
  have r := rng32 (1 + (p &&& 1073741823))
  have e1 : (1 : Int32).toInt = 1 := rfl
  have e0 : (0 : Int32).toInt = 0 := rfl
  rw [← Int32.toInt_inj, e0]
  omega
theorem pn_3 : plainName "com/example/hinterland/hinterland/CoverageIsCoveredPinLaw" = true := by first | (simp [plainName, overriddenIn]; done) | decide +kernel
theorem ef146 (m : MethodId) (p0 : Int32) (p1 : Int32) (p2 : Int32) (p3 : Int32) (p4 : Int32) (p5 : Int32) : entryFrame m #[(.int p0), (.int p1), (.int p2), (.int p3), (.int p4), (.int p5)] maxLocals = mkF m 0 #[.val (.int p0), .val (.int p1), .val (.int p2), .val (.int p3), .val (.int p4), .val (.int p5), .unset, .unset, .unset, .unset, .unset, .unset, .unset, .unset] [] := by first | (simp [entryFrame, mkF, argsToLocals, Value.category, maxLocals]; done) | rfl
def Q0 (Z : State) (p0 : Int32) (p1 : Int32) (p2 : Int32) (p3 : Int32) (p4 : Int32) (p5 : Int32) (h0 : Heap) (n0 : Nat) (v : Option Value) (h : Heap) (L : List Loc) : Prop := v = some (.int 1) ∧ Fr n0 L
theorem pd_1 : parseMethodDescriptor "(II)I" = some ⟨[.int, .int], some .int⟩ := by decide +kernel
theorem pd_2 : parseMethodDescriptor "(IID)V" = some ⟨[.int, .int, .double], none⟩ := by decide +kernel
theorem pd_3 : parseMethodDescriptor "(Lcom/example/hinterland/hinterland/EdgePoint;DI)V" = some ⟨[(.object "com/example/hinterland/hinterland/EdgePoint"), .double, .int], none⟩ := by decide +kernel
theorem pd_4 : parseMethodDescriptor "()Z" = some ⟨[], some .boolean⟩ := by decide +kernel
set_option maxRecDepth 65536 in
set_option maxHeartbeats 40000000 in
theorem rm0 (l : Launch) (Z : State) (a0 : Array Value) (hw : ∀ d ∈ tables_1, d.before a0 Z = true) (ws : List Jvm.Cond) (p0 : Int32) (p1 : Int32) (p2 : Int32) (p3 : Int32) (p4 : Int32) (p5 : Int32) (h0 : Heap) (n0 : Nat) (Z0 : n0 ≤ h0.size)  :
    MetFree l x (head1 (Jvm.Cond.code x code maxLocals ret :: ws) room_1) (fun a U => a = #[(.int p0), (.int p1), (.int p2), (.int p3), (.int p4), (.int p5)] ∧ Z.Warmed39 U.vm ∧ U.heap = h0) (fun _ _ _ _ _ => True) (fun _ U o U' => ∃ v L, o = .returned v ∧ Q0 Z p0 p1 p2 p3 p4 p5 h0 n0 v U'.heap L ∧ FrameEnd U o U' L 2 6) := by
  refine MetFree.of_bodySF (plainFor_of_name pn_3) hisR ?_
  intro p e s m args below meth c s₁ Bd hml0 hP hK
  obtain ⟨rfl, hZ, hh⟩ := hP
  have hx := Bd.exec
  have hby := Bd.bytes
  have hml : c.maxLocals = 14 := hml0
  have hown : s.vm.findClass "com/example/hinterland/hinterland/CoverageIsCoveredPinLaw" = some m.cls := findClass_of_methodNamed Bd.named
  have hnm := (name_of_methodNamed Bd.named Bd.method).1
  have X0 : Stand p l e room_1 s m #[(.int p0), (.int p1), (.int p2), (.int p3), (.int p4), (.int p5)] below meth c s₁ [] 0 0 := Stand.of_body Bd
  have e0 : s₁.heap = h0 := by rw [← hh, Bd.state]; rfl
  have N0 := Fr.nil n0
  have A0 := (⟨X0, hx, hby⟩ : Ax _ _ _ _ _ _ _ _ _ _ _ _ _ _ _)
  show Go p e below (fun U o => ∃ v L, o = .returned v ∧ Q0 Z p0 p1 p2 p3 p4 p5 h0 n0 v U.heap L ∧ FrameEnd s o U L 2 6) s₁ (entryFrame m #[(.int p0), (.int p1), (.int p2), (.int p3), (.int p4), (.int p5)] maxLocals)
  refine Go.cast (ef146 m p0 p1 p2 p3 p4 p5) ?_
  refine g_iloadN A0 at_0 rfl (pc' := 1) rfl ?_
  refine g_ldcI A0 hZ hown (hw _ (List.mem_of_getElem? (i := 0) rfl)) at_1 (pc' := 3) rfl ?_
  refine g_iand A0 at_3 (pc' := 4) rfl ?_
  refine g_iconst A0 at_4 (v := (3 : Int32)) rfl (pc' := 5) rfl ?_
  refine g_irem A0 at_5 (by decide) (pc' := 6) rfl ?_
  obtain ⟨k147, hk147⟩ : ∃ z : Int32, z = ((p0 &&& (2147483647 : Int32)) % (3 : Int32)) := ⟨_, rfl⟩
  rw [← hk147]
  have k3 := own_k3 p0
  rw [← hk147] at k3
  refine g_istore A0 at_6 (ls' := #[.val (.int p0), .val (.int p1), .val (.int p2), .val (.int p3), .val (.int p4), .val (.int p5), .val (.int k147), .unset, .unset, .unset, .unset, .unset, .unset, .unset]) rfl (pc' := 8) rfl ?_
  refine g_aconst A0 at_8 (pc' := 9) rfl ?_
  refine g_astore A0 at_9 rfl (ls' := #[.val (.int p0), .val (.int p1), .val (.int p2), .val (.int p3), .val (.int p4), .val (.int p5), .val (.int k147), .val .null, .unset, .unset, .unset, .unset, .unset, .unset]) rfl (pc' := 11) rfl ?_
  refine g_iload A0 at_11 rfl (pc' := 13) rfl ?_
  refine g_ldcI A0 hZ hown (hw _ (List.mem_of_getElem? (i := 1) rfl)) at_13 (pc' := 15) rfl ?_
  refine g_iand A0 at_15 (pc' := 16) rfl ?_
  refine g_i2d A0 at_16 (pc' := 17) rfl ?_
  refine g_dstore A0 at_17 (ls' := #[.val (.int p0), .val (.int p1), .val (.int p2), .val (.int p3), .val (.int p4), .val (.int p5), .val (.int k147), .val .null, .val (.double (FP.i2d (p5 &&& (65535 : Int32)))), .second, .unset, .unset, .unset, .unset]) rfl (pc' := 19) rfl ?_
  refine g_iconst A0 at_19 (v := (0 : Int32)) rfl (pc' := 20) rfl ?_
  refine g_istore A0 at_20 (ls' := #[.val (.int p0), .val (.int p1), .val (.int p2), .val (.int p3), .val (.int p4), .val (.int p5), .val (.int k147), .val .null, .val (.double (FP.i2d (p5 &&& (65535 : Int32)))), .second, .val (.int (0 : Int32)), .unset, .unset, .unset]) rfl (pc' := 22) rfl ?_
  refine g_iload A0 at_22 rfl (pc' := 24) rfl ?_
  refine g_iconst A0 at_24 (v := (1 : Int32)) rfl (pc' := 25) rfl ?_
  by_cases hc148 : k147 = (1 : Int32)
  · skip
    refine g_icN A0 at_25 (c2_ne_f hc148) (pc' := 28) rfl ?_
    obtain ⟨T149, h149, X149, e149, E149, EA149, D149, -, st149⟩ := newO X0 hx hZ hown (hw _ (List.mem_of_getElem? (i := 32) rfl)) (hw _ (List.mem_of_getElem? (i := 33) rfl)) (hw _ (List.mem_of_getElem? (i := 34) rfl)) e0 (g := (mkF m 28 #[.val (.int p0), .val (.int p1), .val (.int p2), .val (.int p3), .val (.int p4), .val (.int p5), .val (.int k147), .val .null, .val (.double (FP.i2d (p5 &&& (65535 : Int32)))), .second, .val (.int (0 : Int32)), .unset, .unset, .unset] [])) rfl (hb hby at_28) (by decide) (by decide)
    obtain ⟨a150, ea150⟩ : ∃ z, z = h0.size := ⟨_, rfl⟩
    rw [← ea150] at EA149 D149 st149
    have g151 : n0 ≤ a150 := by rw [ea150]; exact Z0
    have gh152 : h0.size ≤ a150 := by rw [ea150]; exact (Keep.refl h0 []).1
    have K153 : Keep h0 h149 [] := (Keep.refl h0 []).ext E149
    have Z154 : n0 ≤ h149.size := Nat.le_trans Z0 E149.1
    have F155 : Fld Z h149 a150 "com/example/hinterland/hinterland/EdgePoint" "u" "I" (.int (0 : Int32)) := D149 (Or.inr (hw _ (List.mem_of_getElem? (i := 47) rfl))) (ty := .int) (by decide)
    have F156 : Fld Z h149 a150 "com/example/hinterland/hinterland/EdgePoint" "v" "I" (.int (0 : Int32)) := D149 (Or.inr (hw _ (List.mem_of_getElem? (i := 49) rfl))) (ty := .int) (by decide)
    have F157 : Fld Z h149 a150 "com/example/hinterland/hinterland/EdgePoint" "offset" "D" (.double (0 : UInt64)) := D149 (Or.inr (hw _ (List.mem_of_getElem? (i := 51) rfl))) (ty := .double) (by decide)
    refine Go.of (g' := (mkF m 31 #[.val (.int p0), .val (.int p1), .val (.int p2), .val (.int p3), .val (.int p4), .val (.int p5), .val (.int k147), .val .null, .val (.double (FP.i2d (p5 &&& (65535 : Int32)))), .second, .val (.int (0 : Int32)), .unset, .unset, .unset] [(.ref a150)])) st149 ?_
    have A158 := (⟨X149, hx, hby⟩ : Ax _ _ _ _ _ _ _ _ _ _ _ _ _ _ _)
    refine g_dup A158 at_31 rfl (pc' := 32) rfl ?_
    refine g_iloadN A158 at_32 rfl (pc' := 33) rfl ?_
    refine g_iloadN A158 at_33 rfl (pc' := 34) rfl ?_
    obtain ⟨_, _, ⟨T159, L159, k159, n159⟩, -, X159, ⟨L159c, hQ159, l159, y159, z159⟩, st159⟩ := Jvm.LawKit.callS X149 hx (y := (⟨"java/lang/Math", "min", "(II)I"⟩ : MethodName)) hown (mvT hZ (hw _ (List.mem_of_getElem? (i := 35) rfl))) (mvT hZ (hw _ (List.mem_of_getElem? (i := 36) rfl))) (mvT hZ (hw _ (List.mem_of_getElem? (i := 37) rfl))) (mvT hZ (hw _ (List.mem_of_getElem? (i := 38) rfl))) (by decide) (backOf (W := 2) (rm6 l Z a0 hw [] p1 p2 h149 n0 Z154 ) hZ (hw _ (List.mem_of_getElem? (i := 38) rfl)) (hw _ (List.mem_of_getElem? (i := 37) rfl)) (by decide) (by decide)) (g := (mkF m 34 #[.val (.int p0), .val (.int p1), .val (.int p2), .val (.int p3), .val (.int p4), .val (.int p5), .val (.int k147), .val .null, .val (.double (FP.i2d (p5 &&& (65535 : Int32)))), .second, .val (.int (0 : Int32)), .unset, .unset, .unset] [(.int p2), (.int p1), (.ref a150), (.ref a150)])) rfl (by rw [hml]; rfl) (argsL := [(.int p1), (.int p2)]) (rest := [(.ref a150), (.ref a150)]) (lenOf pd_1 rfl) rfl (by show 2 * 0 + _ ≤ _; exact Nat.le_of_eq rfl) (hb hby at_34) (fun _ _ => ⟨rfl, e149, (by decide : 1 + 0 ≤ _), (by decide : 3 + 0 ≤ _)⟩)
    dsimp only [Pt.U, Pt.locs, Pt.cells, Pt.slots] at X159 l159 y159 z159 st159 hQ159
    subst l159 y159 z159
    obtain ⟨rfl, Nq160, Kq161⟩ := hQ159
    have N162 := Fr.app N0 Nq160
    refine Go.of (g' := (mkF m 37 #[.val (.int p0), .val (.int p1), .val (.int p2), .val (.int p3), .val (.int p4), .val (.int p5), .val (.int k147), .val .null, .val (.double (FP.i2d (p5 &&& (65535 : Int32)))), .second, .val (.int (0 : Int32)), .unset, .unset, .unset] [(.int (own_r_rm6 p1 p2)), (.ref a150), (.ref a150)])) st159 ?_
    have e163 : T159.heap = h149 := Kq161
    have A164 := (⟨X159, hx, hby⟩ : Ax _ _ _ _ _ _ _ _ _ _ _ _ _ _ _)
    refine g_iloadN A164 at_37 rfl (pc' := 38) rfl ?_
    refine g_iloadN A164 at_38 rfl (pc' := 39) rfl ?_
    obtain ⟨_, _, ⟨T165, L165, k165, n165⟩, -, X165, ⟨L165c, hQ165, l165, y165, z165⟩, st165⟩ := Jvm.LawKit.callS X159 hx (y := (⟨"java/lang/Math", "max", "(II)I"⟩ : MethodName)) hown (mvT hZ (hw _ (List.mem_of_getElem? (i := 39) rfl))) (mvT hZ (hw _ (List.mem_of_getElem? (i := 40) rfl))) (mvT hZ (hw _ (List.mem_of_getElem? (i := 37) rfl))) (mvT hZ (hw _ (List.mem_of_getElem? (i := 41) rfl))) (by decide) (backOf (W := 3) (rm7 l Z a0 hw [] p1 p2 h149 n0 Z154 ) hZ (hw _ (List.mem_of_getElem? (i := 41) rfl)) (hw _ (List.mem_of_getElem? (i := 37) rfl)) (by decide) (by decide)) (g := (mkF m 39 #[.val (.int p0), .val (.int p1), .val (.int p2), .val (.int p3), .val (.int p4), .val (.int p5), .val (.int k147), .val .null, .val (.double (FP.i2d (p5 &&& (65535 : Int32)))), .second, .val (.int (0 : Int32)), .unset, .unset, .unset] [(.int p2), (.int p1), (.int (own_r_rm6 p1 p2)), (.ref a150), (.ref a150)])) rfl (by rw [hml]; rfl) (argsL := [(.int p1), (.int p2)]) (rest := [(.int (own_r_rm6 p1 p2)), (.ref a150), (.ref a150)]) (lenOf pd_1 rfl) rfl (by show 2 * 0 + _ ≤ _; exact Nat.le_of_eq rfl) (hb hby at_39) (fun _ _ => ⟨rfl, e163, (by decide : 1 + 0 ≤ _), (by decide : 3 + 0 ≤ _)⟩)
    dsimp only [Pt.U, Pt.locs, Pt.cells, Pt.slots] at X165 l165 y165 z165 st165 hQ165
    subst l165 y165 z165
    obtain ⟨rfl, Nq166, Kq167⟩ := hQ165
    have N168 := Fr.app N162 Nq166
    refine Go.of (g' := (mkF m 42 #[.val (.int p0), .val (.int p1), .val (.int p2), .val (.int p3), .val (.int p4), .val (.int p5), .val (.int k147), .val .null, .val (.double (FP.i2d (p5 &&& (65535 : Int32)))), .second, .val (.int (0 : Int32)), .unset, .unset, .unset] [(.int (own_r_rm7 p1 p2)), (.int (own_r_rm6 p1 p2)), (.ref a150), (.ref a150)])) st165 ?_
    have e169 : T165.heap = h149 := Kq167
    have A170 := (⟨X165, hx, hby⟩ : Ax _ _ _ _ _ _ _ _ _ _ _ _ _ _ _)
    refine g_iloadN A170 at_42 rfl (pc' := 43) rfl ?_
    refine g_ldcI A170 hZ hown (hw _ (List.mem_of_getElem? (i := 1) rfl)) at_43 (pc' := 45) rfl ?_
    refine g_iand A170 at_45 (pc' := 46) rfl ?_
    refine g_i2d A170 at_46 (pc' := 47) rfl ?_
    obtain ⟨_, _, ⟨T171, L171, k171, n171⟩, -, X171, ⟨L171c, hQ171, l171, y171, z171⟩, st171⟩ := X165.specialBack hx (y := (⟨"com/example/hinterland/hinterland/EdgePoint", "<init>", "(IID)V"⟩ : MethodName)) rfl hown (mvT hZ (hw _ (List.mem_of_getElem? (i := 42) rfl))) (mvT hZ (hw _ (List.mem_of_getElem? (i := 43) rfl))) (mvT hZ (hw _ (List.mem_of_getElem? (i := 44) rfl))) (by decide) (backOf (W := 1) (rm8 l Z a0 hw [] a150 (own_r_rm6 p1 p2) (own_r_rm7 p1 p2) (FP.i2d (p3 &&& (65535 : Int32))) (.int (0 : Int32)) (.int (0 : Int32)) (.double (0 : UInt64)) h149 n0 Z154 EA149 F155 F156 F157 g151) hZ (hw _ (List.mem_of_getElem? (i := 44) rfl)) (hw _ (List.mem_of_getElem? (i := 34) rfl)) (by decide) (by decide)) (g := (mkF m 47 #[.val (.int p0), .val (.int p1), .val (.int p2), .val (.int p3), .val (.int p4), .val (.int p5), .val (.int k147), .val .null, .val (.double (FP.i2d (p5 &&& (65535 : Int32)))), .second, .val (.int (0 : Int32)), .unset, .unset, .unset] [(.double (FP.i2d (p3 &&& (65535 : Int32)))), (.int (own_r_rm7 p1 p2)), (.int (own_r_rm6 p1 p2)), (.ref a150), (.ref a150)])) rfl (by rw [hml]; rfl) (Steps.refl _) (a := a150) (argsL := [(.int (own_r_rm6 p1 p2)), (.int (own_r_rm7 p1 p2)), (.double (FP.i2d (p3 &&& (65535 : Int32))))]) (rest := [(.ref a150)]) (lenOf pd_2 rfl) rfl (by show 2 * 0 + _ ≤ _; exact Nat.le_of_eq rfl) (hb hby at_47) (fun _ _ => ⟨rfl, e169, (by decide : 1 + 0 ≤ _), (by decide : 3 + 0 ≤ _)⟩)
    dsimp only [Pt.U, Pt.locs, Pt.cells, Pt.slots] at X171 l171 y171 z171 st171 hQ171
    subst l171 y171 z171
    obtain ⟨rfl, Nq172, Kq173, F174, F175, F176⟩ := hQ171
    have N177 := Fr.app N168 Nq172
    refine Go.tr (g' := (mkF m 50 #[.val (.int p0), .val (.int p1), .val (.int p2), .val (.int p3), .val (.int p4), .val (.int p5), .val (.int k147), .val .null, .val (.double (FP.i2d (p5 &&& (65535 : Int32)))), .second, .val (.int (0 : Int32)), .unset, .unset, .unset] [(.ref a150)])) st171 ?_
    have E178 : Exa Z T171.heap a150 "com/example/hinterland/hinterland/EdgePoint" := Exa.keep EA149 Kq173
    have Z179 : n0 ≤ T171.heap.size := Nat.le_trans Z154 Kq173.1
    have K180 : Keep h0 T171.heap [] := K153.trans Kq173 (allS (Or.inr gh152) all0)
    have A181 := (⟨X171, hx, hby⟩ : Ax _ _ _ _ _ _ _ _ _ _ _ _ _ _ _)
    refine g_astore A181 at_50 rfl (ls' := #[.val (.int p0), .val (.int p1), .val (.int p2), .val (.int p3), .val (.int p4), .val (.int p5), .val (.int k147), .val (.ref a150), .val (.double (FP.i2d (p5 &&& (65535 : Int32)))), .second, .val (.int (0 : Int32)), .unset, .unset, .unset]) rfl (pc' := 52) rfl ?_
    refine g_iload A181 at_52 rfl (pc' := 54) rfl ?_
    refine g_iconst A181 at_54 (v := (2 : Int32)) rfl (pc' := 55) rfl ?_
    refine g_icY A181 at_55 (c2_ne_t (by rw [hc148]; decide)) (pc' := 67) rfl ?_
    obtain ⟨T182, h182, X182, e182, E182, EA182, D182, -, st182⟩ := newO X171 hx hZ hown (hw _ (List.mem_of_getElem? (i := 2) rfl)) (hw _ (List.mem_of_getElem? (i := 3) rfl)) (hw _ (List.mem_of_getElem? (i := 4) rfl)) rfl (g := (mkF m 67 #[.val (.int p0), .val (.int p1), .val (.int p2), .val (.int p3), .val (.int p4), .val (.int p5), .val (.int k147), .val (.ref a150), .val (.double (FP.i2d (p5 &&& (65535 : Int32)))), .second, .val (.int (0 : Int32)), .unset, .unset, .unset] [])) rfl (hb hby at_67) (by decide) (by decide)
    obtain ⟨a183, ea183⟩ : ∃ z, z = T171.heap.size := ⟨_, rfl⟩
    rw [← ea183] at EA182 D182 st182
    have ne184 : a150 ≠ a183 := own_ne ea183 E178.lt
    have g185 : n0 ≤ a183 := by rw [ea183]; exact Z179
    have gh186 : h0.size ≤ a183 := by rw [ea183]; exact K180.1
    have K187 : Keep h0 h182 [] := K180.ext E182
    have E188 : Exa Z h182 a150 "com/example/hinterland/hinterland/EdgePoint" := Exa.ext E182 E178
    have F189 : Fld Z h182 a150 "com/example/hinterland/hinterland/EdgePoint" "u" "I" (.int (own_r_rm6 p1 p2)) := Fld.ext E182 F174
    have F190 : Fld Z h182 a150 "com/example/hinterland/hinterland/EdgePoint" "v" "I" (.int (own_r_rm7 p1 p2)) := Fld.ext E182 F175
    have F191 : Fld Z h182 a150 "com/example/hinterland/hinterland/EdgePoint" "offset" "D" (.double (FP.i2d (p3 &&& (65535 : Int32)))) := Fld.ext E182 F176
    have Z192 : n0 ≤ h182.size := Nat.le_trans Z179 E182.1
    have F193 : Fld Z h182 a183 "com/example/hinterland/hinterland/Coverage" "point" "Lcom/example/hinterland/hinterland/EdgePoint;" .null := D182 (Or.inr (hw _ (List.mem_of_getElem? (i := 17) rfl))) (ty := (.object "com/example/hinterland/hinterland/EdgePoint")) (by decide)
    have F194 : Fld Z h182 a183 "com/example/hinterland/hinterland/Coverage" "cost" "D" (.double (0 : UInt64)) := D182 (Or.inr (hw _ (List.mem_of_getElem? (i := 19) rfl))) (ty := .double) (by decide)
    have F195 : Fld Z h182 a183 "com/example/hinterland/hinterland/Coverage" "unreachedVertex" "I" (.int (0 : Int32)) := D182 (Or.inr (hw _ (List.mem_of_getElem? (i := 21) rfl))) (ty := .int) (by decide)
    refine Go.of (g' := (mkF m 70 #[.val (.int p0), .val (.int p1), .val (.int p2), .val (.int p3), .val (.int p4), .val (.int p5), .val (.int k147), .val (.ref a150), .val (.double (FP.i2d (p5 &&& (65535 : Int32)))), .second, .val (.int (0 : Int32)), .unset, .unset, .unset] [(.ref a183)])) st182 ?_
    have A196 := (⟨X182, hx, hby⟩ : Ax _ _ _ _ _ _ _ _ _ _ _ _ _ _ _)
    refine g_dup A196 at_70 rfl (pc' := 71) rfl ?_
    refine g_aload A196 at_71 rfl rfl (pc' := 73) rfl ?_
    refine g_dload A196 at_73 rfl (pc' := 75) rfl ?_
    refine g_iload A196 at_75 rfl (pc' := 77) rfl ?_
    obtain ⟨_, _, ⟨T197, L197, k197, n197⟩, -, X197, ⟨L197c, hQ197, l197, y197, z197⟩, st197⟩ := X182.specialBack hx (y := (⟨"com/example/hinterland/hinterland/Coverage", "<init>", "(Lcom/example/hinterland/hinterland/EdgePoint;DI)V"⟩ : MethodName)) rfl hown (mvT hZ (hw _ (List.mem_of_getElem? (i := 5) rfl))) (mvT hZ (hw _ (List.mem_of_getElem? (i := 6) rfl))) (mvT hZ (hw _ (List.mem_of_getElem? (i := 7) rfl))) (by decide) (backOf (W := 1) (rmC0 l Z a0 hw [] a183 a150 (FP.i2d (p5 &&& (65535 : Int32))) (0 : Int32) .null (.double (0 : UInt64)) (.int (0 : Int32)) h182 n0 Z192 EA182 F193 F194 F195 g185) hZ (hw _ (List.mem_of_getElem? (i := 7) rfl)) (hw _ (List.mem_of_getElem? (i := 4) rfl)) (by decide) (by decide)) (g := (mkF m 77 #[.val (.int p0), .val (.int p1), .val (.int p2), .val (.int p3), .val (.int p4), .val (.int p5), .val (.int k147), .val (.ref a150), .val (.double (FP.i2d (p5 &&& (65535 : Int32)))), .second, .val (.int (0 : Int32)), .unset, .unset, .unset] [(.int (0 : Int32)), (.double (FP.i2d (p5 &&& (65535 : Int32)))), (.ref a150), (.ref a183), (.ref a183)])) rfl (by rw [hml]; rfl) (Steps.refl _) (a := a183) (argsL := [(.ref a150), (.double (FP.i2d (p5 &&& (65535 : Int32)))), (.int (0 : Int32))]) (rest := [(.ref a183)]) (lenOf pd_3 rfl) rfl (by show 2 * 0 + _ ≤ _; exact Nat.le_of_eq rfl) (hb hby at_77) (fun _ _ => ⟨rfl, e182, (by decide : 2 + 0 ≤ _), (by decide : 6 + 0 ≤ _)⟩)
    dsimp only [Pt.U, Pt.locs, Pt.cells, Pt.slots] at X197 l197 y197 z197 st197 hQ197
    subst l197 y197 z197
    obtain ⟨rfl, Nq198, Kq199, F200, F201⟩ := hQ197
    have N202 := Fr.app N177 Nq198
    refine Go.tr (g' := (mkF m 80 #[.val (.int p0), .val (.int p1), .val (.int p2), .val (.int p3), .val (.int p4), .val (.int p5), .val (.int k147), .val (.ref a150), .val (.double (FP.i2d (p5 &&& (65535 : Int32)))), .second, .val (.int (0 : Int32)), .unset, .unset, .unset] [(.ref a183)])) st197 ?_
    have E203 : Exa Z T197.heap a150 "com/example/hinterland/hinterland/EdgePoint" := Exa.keep E188 Kq199
    have F204 : Fld Z T197.heap a150 "com/example/hinterland/hinterland/EdgePoint" "u" "I" (.int (own_r_rm6 p1 p2)) := Fld.keep F189 Kq199 (ninS ne184 nin0)
    have F205 : Fld Z T197.heap a150 "com/example/hinterland/hinterland/EdgePoint" "v" "I" (.int (own_r_rm7 p1 p2)) := Fld.keep F190 Kq199 (ninS ne184 nin0)
    have F206 : Fld Z T197.heap a150 "com/example/hinterland/hinterland/EdgePoint" "offset" "D" (.double (FP.i2d (p3 &&& (65535 : Int32)))) := Fld.keep F191 Kq199 (ninS ne184 nin0)
    have E207 : Exa Z T197.heap a183 "com/example/hinterland/hinterland/Coverage" := Exa.keep EA182 Kq199
    have Z208 : n0 ≤ T197.heap.size := Nat.le_trans Z192 Kq199.1
    have K209 : Keep h0 T197.heap [] := K187.trans Kq199 (allS (Or.inr gh186) all0)
    have A210 := (⟨X197, hx, hby⟩ : Ax _ _ _ _ _ _ _ _ _ _ _ _ _ _ _)
    refine g_astore A210 at_80 rfl (ls' := #[.val (.int p0), .val (.int p1), .val (.int p2), .val (.int p3), .val (.int p4), .val (.int p5), .val (.int k147), .val (.ref a150), .val (.double (FP.i2d (p5 &&& (65535 : Int32)))), .second, .val (.int (0 : Int32)), .val (.ref a183), .unset, .unset]) rfl (pc' := 82) rfl ?_
    refine g_aload A210 at_82 rfl rfl (pc' := 84) rfl ?_
    obtain ⟨cq212, kq212, q212a, q212b, q212c⟩ := isOf hZ rfl E207
    obtain ⟨_, _, ⟨T211, L211, k211, n211⟩, -, X211, ⟨L211c, hQ211, l211, y211, z211⟩, st211⟩ := X197.virtualBack hx (y := (⟨"com/example/hinterland/hinterland/Coverage", "isCovered", "()Z"⟩ : MethodName)) (z := (⟨"com/example/hinterland/hinterland/Coverage", "isCovered", "()Z"⟩ : MethodName)) hown (mvT hZ (hw _ (List.mem_of_getElem? (i := 22) rfl))) (mvT hZ (hw _ (List.mem_of_getElem? (i := 23) rfl))) (notFace_of_selects (args := #[]) (mvT hZ (hw _ (List.mem_of_getElem? (i := 25) rfl)))) (mvT hZ (hw _ (List.mem_of_getElem? (i := 25) rfl))) (mvT hZ (hw _ (List.mem_of_getElem? (i := 24) rfl))) (by decide) (backOf (W := 0) (rmIr l Z a0 hw [] a183 a150 T197.heap n0 Z208 F200) hZ (hw _ (List.mem_of_getElem? (i := 26) rfl)) (hw _ (List.mem_of_getElem? (i := 4) rfl)) (by decide) (by decide)) q212a q212c (g := (mkF m 84 #[.val (.int p0), .val (.int p1), .val (.int p2), .val (.int p3), .val (.int p4), .val (.int p5), .val (.int k147), .val (.ref a150), .val (.double (FP.i2d (p5 &&& (65535 : Int32)))), .second, .val (.int (0 : Int32)), .val (.ref a183), .unset, .unset] [(.ref a183)])) rfl (by rw [hml]; rfl) (Steps.refl _) (argsL := []) (rest := []) (lenOf pd_4 rfl) rfl (by show 2 * 0 + _ ≤ _; exact Nat.le_of_eq rfl) (hb hby at_84) (fun _ _ => ⟨rfl, rfl, (by decide : 2 + 0 ≤ _), (by decide : 6 + 0 ≤ _)⟩)
    dsimp only [Pt.U, Pt.locs, Pt.cells, Pt.slots] at X211 l211 y211 z211 st211 hQ211
    subst l211 y211 z211
    obtain ⟨rfl, Nq213, Kq214⟩ := hQ211
    have N215 := Fr.app N202 Nq213
    refine Go.tr (g' := (mkF m 87 #[.val (.int p0), .val (.int p1), .val (.int p2), .val (.int p3), .val (.int p4), .val (.int p5), .val (.int k147), .val (.ref a150), .val (.double (FP.i2d (p5 &&& (65535 : Int32)))), .second, .val (.int (0 : Int32)), .val (.ref a183), .unset, .unset] [(.int (0 : Int32))])) st211 ?_
    have e216 : T211.heap = T197.heap := Kq214
    have A217 := (⟨X211, hx, hby⟩ : Ax _ _ _ _ _ _ _ _ _ _ _ _ _ _ _)
    refine g_istore A217 at_87 (ls' := #[.val (.int p0), .val (.int p1), .val (.int p2), .val (.int p3), .val (.int p4), .val (.int p5), .val (.int k147), .val (.ref a150), .val (.double (FP.i2d (p5 &&& (65535 : Int32)))), .second, .val (.int (0 : Int32)), .val (.ref a183), .val (.int (0 : Int32)), .unset]) rfl (pc' := 89) rfl ?_
    refine g_iload A217 at_89 rfl (pc' := 91) rfl ?_
    refine g_ifY A217 at_91 (c0_ne_t (by rw [hc148]; decide)) (pc' := 98) rfl ?_
    refine g_iconst A217 at_98 (v := (0 : Int32)) rfl (pc' := 99) rfl ?_
    refine g_istore A217 at_99 (ls' := #[.val (.int p0), .val (.int p1), .val (.int p2), .val (.int p3), .val (.int p4), .val (.int p5), .val (.int k147), .val (.ref a150), .val (.double (FP.i2d (p5 &&& (65535 : Int32)))), .second, .val (.int (0 : Int32)), .val (.ref a183), .val (.int (0 : Int32)), .val (.int (0 : Int32))]) rfl (pc' := 101) rfl ?_
    refine g_iload A217 at_101 rfl (pc' := 103) rfl ?_
    refine g_iload A217 at_103 rfl (pc' := 105) rfl ?_
    refine g_icN A217 at_105 (c2_ne_f rfl) (pc' := 108) rfl ?_
    refine g_iload A217 at_108 rfl (pc' := 110) rfl ?_
    refine g_ifY A217 at_110 (c0_eq_t (by decide)) (pc' := 121) rfl ?_
    refine g_iconst A217 at_121 (v := (1 : Int32)) rfl (pc' := 122) rfl ?_
    refine g_goto A217 at_122 (pc' := 126) rfl ?_
    exact g_ret (Q := Q0 Z p0 p1 p2 p3 p4 p5 h0 n0) A217 at_126 Bd.notSynchronized Bd.returns rfl (Or.inl ⟨rfl, by simp, _, rfl⟩) (by decide) (by decide) (by rw [e216]; exact ⟨rfl, N215⟩)
  · skip
    refine g_icY A0 at_25 (c2_ne_t hc148) (pc' := 52) rfl ?_
    refine g_iload A0 at_52 rfl (pc' := 54) rfl ?_
    refine g_iconst A0 at_54 (v := (2 : Int32)) rfl (pc' := 55) rfl ?_
    by_cases hc218 : k147 = (2 : Int32)
    · skip
      refine g_icN A0 at_55 (c2_ne_f hc218) (pc' := 58) rfl ?_
      refine g_iconst A0 at_58 (v := (1 : Int32)) rfl (pc' := 59) rfl ?_
      refine g_iload A0 at_59 rfl (pc' := 61) rfl ?_
      refine g_ldcI A0 hZ hown (hw _ (List.mem_of_getElem? (i := 52) rfl)) at_61 (pc' := 63) rfl ?_
      refine g_iand A0 at_63 (pc' := 64) rfl ?_
      refine g_iadd A0 at_64 (pc' := 65) rfl ?_
      refine g_istore A0 at_65 (ls' := #[.val (.int p0), .val (.int p1), .val (.int p2), .val (.int p3), .val (.int p4), .val (.int p5), .val (.int k147), .val .null, .val (.double (FP.i2d (p5 &&& (65535 : Int32)))), .second, .val (.int ((1 : Int32) + (p4 &&& (1073741823 : Int32)))), .unset, .unset, .unset]) rfl (pc' := 67) rfl ?_
      obtain ⟨T219, h219, X219, e219, E219, EA219, D219, -, st219⟩ := newO X0 hx hZ hown (hw _ (List.mem_of_getElem? (i := 2) rfl)) (hw _ (List.mem_of_getElem? (i := 3) rfl)) (hw _ (List.mem_of_getElem? (i := 4) rfl)) e0 (g := (mkF m 67 #[.val (.int p0), .val (.int p1), .val (.int p2), .val (.int p3), .val (.int p4), .val (.int p5), .val (.int k147), .val .null, .val (.double (FP.i2d (p5 &&& (65535 : Int32)))), .second, .val (.int ((1 : Int32) + (p4 &&& (1073741823 : Int32)))), .unset, .unset, .unset] [])) rfl (hb hby at_67) (by decide) (by decide)
      obtain ⟨a220, ea220⟩ : ∃ z, z = h0.size := ⟨_, rfl⟩
      rw [← ea220] at EA219 D219 st219
      have g221 : n0 ≤ a220 := by rw [ea220]; exact Z0
      have gh222 : h0.size ≤ a220 := by rw [ea220]; exact (Keep.refl h0 []).1
      have K223 : Keep h0 h219 [] := (Keep.refl h0 []).ext E219
      have Z224 : n0 ≤ h219.size := Nat.le_trans Z0 E219.1
      have F225 : Fld Z h219 a220 "com/example/hinterland/hinterland/Coverage" "point" "Lcom/example/hinterland/hinterland/EdgePoint;" .null := D219 (Or.inr (hw _ (List.mem_of_getElem? (i := 17) rfl))) (ty := (.object "com/example/hinterland/hinterland/EdgePoint")) (by decide)
      have F226 : Fld Z h219 a220 "com/example/hinterland/hinterland/Coverage" "cost" "D" (.double (0 : UInt64)) := D219 (Or.inr (hw _ (List.mem_of_getElem? (i := 19) rfl))) (ty := .double) (by decide)
      have F227 : Fld Z h219 a220 "com/example/hinterland/hinterland/Coverage" "unreachedVertex" "I" (.int (0 : Int32)) := D219 (Or.inr (hw _ (List.mem_of_getElem? (i := 21) rfl))) (ty := .int) (by decide)
      refine Go.of (g' := (mkF m 70 #[.val (.int p0), .val (.int p1), .val (.int p2), .val (.int p3), .val (.int p4), .val (.int p5), .val (.int k147), .val .null, .val (.double (FP.i2d (p5 &&& (65535 : Int32)))), .second, .val (.int ((1 : Int32) + (p4 &&& (1073741823 : Int32)))), .unset, .unset, .unset] [(.ref a220)])) st219 ?_
      have A228 := (⟨X219, hx, hby⟩ : Ax _ _ _ _ _ _ _ _ _ _ _ _ _ _ _)
      refine g_dup A228 at_70 rfl (pc' := 71) rfl ?_
      refine g_aload A228 at_71 rfl rfl (pc' := 73) rfl ?_
      refine g_dload A228 at_73 rfl (pc' := 75) rfl ?_
      refine g_iload A228 at_75 rfl (pc' := 77) rfl ?_
      obtain ⟨_, _, ⟨T229, L229, k229, n229⟩, -, X229, ⟨L229c, hQ229, l229, y229, z229⟩, st229⟩ := X219.specialBack hx (y := (⟨"com/example/hinterland/hinterland/Coverage", "<init>", "(Lcom/example/hinterland/hinterland/EdgePoint;DI)V"⟩ : MethodName)) rfl hown (mvT hZ (hw _ (List.mem_of_getElem? (i := 5) rfl))) (mvT hZ (hw _ (List.mem_of_getElem? (i := 6) rfl))) (mvT hZ (hw _ (List.mem_of_getElem? (i := 7) rfl))) (by decide) (backOf (W := 1) (rmC1 l Z a0 hw [] a220 (FP.i2d (p5 &&& (65535 : Int32))) ((1 : Int32) + (p4 &&& (1073741823 : Int32))) .null (.double (0 : UInt64)) (.int (0 : Int32)) h219 n0 Z224 EA219 F225 F226 F227 g221) hZ (hw _ (List.mem_of_getElem? (i := 7) rfl)) (hw _ (List.mem_of_getElem? (i := 4) rfl)) (by decide) (by decide)) (g := (mkF m 77 #[.val (.int p0), .val (.int p1), .val (.int p2), .val (.int p3), .val (.int p4), .val (.int p5), .val (.int k147), .val .null, .val (.double (FP.i2d (p5 &&& (65535 : Int32)))), .second, .val (.int ((1 : Int32) + (p4 &&& (1073741823 : Int32)))), .unset, .unset, .unset] [(.int ((1 : Int32) + (p4 &&& (1073741823 : Int32)))), (.double (FP.i2d (p5 &&& (65535 : Int32)))), .null, (.ref a220), (.ref a220)])) rfl (by rw [hml]; rfl) (Steps.refl _) (a := a220) (argsL := [.null, (.double (FP.i2d (p5 &&& (65535 : Int32)))), (.int ((1 : Int32) + (p4 &&& (1073741823 : Int32))))]) (rest := [(.ref a220)]) (lenOf pd_3 rfl) rfl (by show 2 * 0 + _ ≤ _; exact Nat.le_of_eq rfl) (hb hby at_77) (fun _ _ => ⟨rfl, e219, (by decide : 1 + 0 ≤ _), (by decide : 3 + 0 ≤ _)⟩)
      dsimp only [Pt.U, Pt.locs, Pt.cells, Pt.slots] at X229 l229 y229 z229 st229 hQ229
      subst l229 y229 z229
      obtain ⟨rfl, Nq230, Kq231, F232, F233⟩ := hQ229
      have N234 := Fr.app N0 Nq230
      refine Go.tr (g' := (mkF m 80 #[.val (.int p0), .val (.int p1), .val (.int p2), .val (.int p3), .val (.int p4), .val (.int p5), .val (.int k147), .val .null, .val (.double (FP.i2d (p5 &&& (65535 : Int32)))), .second, .val (.int ((1 : Int32) + (p4 &&& (1073741823 : Int32)))), .unset, .unset, .unset] [(.ref a220)])) st229 ?_
      have E235 : Exa Z T229.heap a220 "com/example/hinterland/hinterland/Coverage" := Exa.keep EA219 Kq231
      have Z236 : n0 ≤ T229.heap.size := Nat.le_trans Z224 Kq231.1
      have K237 : Keep h0 T229.heap [] := K223.trans Kq231 (allS (Or.inr gh222) all0)
      have A238 := (⟨X229, hx, hby⟩ : Ax _ _ _ _ _ _ _ _ _ _ _ _ _ _ _)
      refine g_astore A238 at_80 rfl (ls' := #[.val (.int p0), .val (.int p1), .val (.int p2), .val (.int p3), .val (.int p4), .val (.int p5), .val (.int k147), .val .null, .val (.double (FP.i2d (p5 &&& (65535 : Int32)))), .second, .val (.int ((1 : Int32) + (p4 &&& (1073741823 : Int32)))), .val (.ref a220), .unset, .unset]) rfl (pc' := 82) rfl ?_
      refine g_aload A238 at_82 rfl rfl (pc' := 84) rfl ?_
      obtain ⟨cq240, kq240, q240a, q240b, q240c⟩ := isOf hZ rfl E235
      obtain ⟨_, _, ⟨T239, L239, k239, n239⟩, -, X239, ⟨L239c, hQ239, l239, y239, z239⟩, st239⟩ := X229.virtualBack hx (y := (⟨"com/example/hinterland/hinterland/Coverage", "isCovered", "()Z"⟩ : MethodName)) (z := (⟨"com/example/hinterland/hinterland/Coverage", "isCovered", "()Z"⟩ : MethodName)) hown (mvT hZ (hw _ (List.mem_of_getElem? (i := 22) rfl))) (mvT hZ (hw _ (List.mem_of_getElem? (i := 23) rfl))) (notFace_of_selects (args := #[]) (mvT hZ (hw _ (List.mem_of_getElem? (i := 25) rfl)))) (mvT hZ (hw _ (List.mem_of_getElem? (i := 25) rfl))) (mvT hZ (hw _ (List.mem_of_getElem? (i := 24) rfl))) (by decide) (backOf (W := 0) (rmIn l Z a0 hw [] a220 ((1 : Int32) + (p4 &&& (1073741823 : Int32))) T229.heap n0 Z236 F232 F233) hZ (hw _ (List.mem_of_getElem? (i := 26) rfl)) (hw _ (List.mem_of_getElem? (i := 4) rfl)) (by decide) (by decide)) q240a q240c (g := (mkF m 84 #[.val (.int p0), .val (.int p1), .val (.int p2), .val (.int p3), .val (.int p4), .val (.int p5), .val (.int k147), .val .null, .val (.double (FP.i2d (p5 &&& (65535 : Int32)))), .second, .val (.int ((1 : Int32) + (p4 &&& (1073741823 : Int32)))), .val (.ref a220), .unset, .unset] [(.ref a220)])) rfl (by rw [hml]; rfl) (Steps.refl _) (argsL := []) (rest := []) (lenOf pd_4 rfl) rfl (by show 2 * 0 + _ ≤ _; exact Nat.le_of_eq rfl) (hb hby at_84) (fun _ _ => ⟨rfl, rfl, (by decide : 1 + 0 ≤ _), (by decide : 3 + 0 ≤ _)⟩)
      dsimp only [Pt.U, Pt.locs, Pt.cells, Pt.slots] at X239 l239 y239 z239 st239 hQ239
      subst l239 y239 z239
      obtain ⟨rfl, Nq241, Kq242⟩ := hQ239
      have N243 := Fr.app N234 Nq241
      refine Go.tr (g' := (mkF m 87 #[.val (.int p0), .val (.int p1), .val (.int p2), .val (.int p3), .val (.int p4), .val (.int p5), .val (.int k147), .val .null, .val (.double (FP.i2d (p5 &&& (65535 : Int32)))), .second, .val (.int ((1 : Int32) + (p4 &&& (1073741823 : Int32)))), .val (.ref a220), .unset, .unset] [(.int (own_r_rmIn ((1 : Int32) + (p4 &&& (1073741823 : Int32)))))])) st239 ?_
      have e244 : T239.heap = T229.heap := Kq242
      have A245 := (⟨X239, hx, hby⟩ : Ax _ _ _ _ _ _ _ _ _ _ _ _ _ _ _)
      have e246 : (own_r_rmIn ((1 : Int32) + (p4 &&& (1073741823 : Int32)))) = (0 : Int32) := by rw [own_r_rmIn, if_neg (own_pos _)]
      rw [e246]
      refine g_istore A245 at_87 (ls' := #[.val (.int p0), .val (.int p1), .val (.int p2), .val (.int p3), .val (.int p4), .val (.int p5), .val (.int k147), .val .null, .val (.double (FP.i2d (p5 &&& (65535 : Int32)))), .second, .val (.int ((1 : Int32) + (p4 &&& (1073741823 : Int32)))), .val (.ref a220), .val (.int (0 : Int32)), .unset]) rfl (pc' := 89) rfl ?_
      refine g_iload A245 at_89 rfl (pc' := 91) rfl ?_
      refine g_ifY A245 at_91 (c0_ne_t (by rw [hc218]; decide)) (pc' := 98) rfl ?_
      refine g_iconst A245 at_98 (v := (0 : Int32)) rfl (pc' := 99) rfl ?_
      refine g_istore A245 at_99 (ls' := #[.val (.int p0), .val (.int p1), .val (.int p2), .val (.int p3), .val (.int p4), .val (.int p5), .val (.int k147), .val .null, .val (.double (FP.i2d (p5 &&& (65535 : Int32)))), .second, .val (.int ((1 : Int32) + (p4 &&& (1073741823 : Int32)))), .val (.ref a220), .val (.int (0 : Int32)), .val (.int (0 : Int32))]) rfl (pc' := 101) rfl ?_
      refine g_iload A245 at_101 rfl (pc' := 103) rfl ?_
      refine g_iload A245 at_103 rfl (pc' := 105) rfl ?_
      refine g_icN A245 at_105 (c2_ne_f rfl) (pc' := 108) rfl ?_
      refine g_iload A245 at_108 rfl (pc' := 110) rfl ?_
      refine g_ifY A245 at_110 (c0_eq_t (by decide)) (pc' := 121) rfl ?_
      refine g_iconst A245 at_121 (v := (1 : Int32)) rfl (pc' := 122) rfl ?_
      refine g_goto A245 at_122 (pc' := 126) rfl ?_
      exact g_ret (Q := Q0 Z p0 p1 p2 p3 p4 p5 h0 n0) A245 at_126 Bd.notSynchronized Bd.returns rfl (Or.inl ⟨rfl, by simp, _, rfl⟩) (by decide) (by decide) (by rw [e244]; exact ⟨rfl, N243⟩)
    · skip
      refine g_icY A0 at_55 (c2_ne_t hc218) (pc' := 67) rfl ?_
      obtain ⟨T247, h247, X247, e247, E247, EA247, D247, -, st247⟩ := newO X0 hx hZ hown (hw _ (List.mem_of_getElem? (i := 2) rfl)) (hw _ (List.mem_of_getElem? (i := 3) rfl)) (hw _ (List.mem_of_getElem? (i := 4) rfl)) e0 (g := (mkF m 67 #[.val (.int p0), .val (.int p1), .val (.int p2), .val (.int p3), .val (.int p4), .val (.int p5), .val (.int k147), .val .null, .val (.double (FP.i2d (p5 &&& (65535 : Int32)))), .second, .val (.int (0 : Int32)), .unset, .unset, .unset] [])) rfl (hb hby at_67) (by decide) (by decide)
      obtain ⟨a248, ea248⟩ : ∃ z, z = h0.size := ⟨_, rfl⟩
      rw [← ea248] at EA247 D247 st247
      have g249 : n0 ≤ a248 := by rw [ea248]; exact Z0
      have gh250 : h0.size ≤ a248 := by rw [ea248]; exact (Keep.refl h0 []).1
      have K251 : Keep h0 h247 [] := (Keep.refl h0 []).ext E247
      have Z252 : n0 ≤ h247.size := Nat.le_trans Z0 E247.1
      have F253 : Fld Z h247 a248 "com/example/hinterland/hinterland/Coverage" "point" "Lcom/example/hinterland/hinterland/EdgePoint;" .null := D247 (Or.inr (hw _ (List.mem_of_getElem? (i := 17) rfl))) (ty := (.object "com/example/hinterland/hinterland/EdgePoint")) (by decide)
      have F254 : Fld Z h247 a248 "com/example/hinterland/hinterland/Coverage" "cost" "D" (.double (0 : UInt64)) := D247 (Or.inr (hw _ (List.mem_of_getElem? (i := 19) rfl))) (ty := .double) (by decide)
      have F255 : Fld Z h247 a248 "com/example/hinterland/hinterland/Coverage" "unreachedVertex" "I" (.int (0 : Int32)) := D247 (Or.inr (hw _ (List.mem_of_getElem? (i := 21) rfl))) (ty := .int) (by decide)
      refine Go.of (g' := (mkF m 70 #[.val (.int p0), .val (.int p1), .val (.int p2), .val (.int p3), .val (.int p4), .val (.int p5), .val (.int k147), .val .null, .val (.double (FP.i2d (p5 &&& (65535 : Int32)))), .second, .val (.int (0 : Int32)), .unset, .unset, .unset] [(.ref a248)])) st247 ?_
      have A256 := (⟨X247, hx, hby⟩ : Ax _ _ _ _ _ _ _ _ _ _ _ _ _ _ _)
      refine g_dup A256 at_70 rfl (pc' := 71) rfl ?_
      refine g_aload A256 at_71 rfl rfl (pc' := 73) rfl ?_
      refine g_dload A256 at_73 rfl (pc' := 75) rfl ?_
      refine g_iload A256 at_75 rfl (pc' := 77) rfl ?_
      obtain ⟨_, _, ⟨T257, L257, k257, n257⟩, -, X257, ⟨L257c, hQ257, l257, y257, z257⟩, st257⟩ := X247.specialBack hx (y := (⟨"com/example/hinterland/hinterland/Coverage", "<init>", "(Lcom/example/hinterland/hinterland/EdgePoint;DI)V"⟩ : MethodName)) rfl hown (mvT hZ (hw _ (List.mem_of_getElem? (i := 5) rfl))) (mvT hZ (hw _ (List.mem_of_getElem? (i := 6) rfl))) (mvT hZ (hw _ (List.mem_of_getElem? (i := 7) rfl))) (by decide) (backOf (W := 1) (rmC1 l Z a0 hw [] a248 (FP.i2d (p5 &&& (65535 : Int32))) (0 : Int32) .null (.double (0 : UInt64)) (.int (0 : Int32)) h247 n0 Z252 EA247 F253 F254 F255 g249) hZ (hw _ (List.mem_of_getElem? (i := 7) rfl)) (hw _ (List.mem_of_getElem? (i := 4) rfl)) (by decide) (by decide)) (g := (mkF m 77 #[.val (.int p0), .val (.int p1), .val (.int p2), .val (.int p3), .val (.int p4), .val (.int p5), .val (.int k147), .val .null, .val (.double (FP.i2d (p5 &&& (65535 : Int32)))), .second, .val (.int (0 : Int32)), .unset, .unset, .unset] [(.int (0 : Int32)), (.double (FP.i2d (p5 &&& (65535 : Int32)))), .null, (.ref a248), (.ref a248)])) rfl (by rw [hml]; rfl) (Steps.refl _) (a := a248) (argsL := [.null, (.double (FP.i2d (p5 &&& (65535 : Int32)))), (.int (0 : Int32))]) (rest := [(.ref a248)]) (lenOf pd_3 rfl) rfl (by show 2 * 0 + _ ≤ _; exact Nat.le_of_eq rfl) (hb hby at_77) (fun _ _ => ⟨rfl, e247, (by decide : 1 + 0 ≤ _), (by decide : 3 + 0 ≤ _)⟩)
      dsimp only [Pt.U, Pt.locs, Pt.cells, Pt.slots] at X257 l257 y257 z257 st257 hQ257
      subst l257 y257 z257
      obtain ⟨rfl, Nq258, Kq259, F260, F261⟩ := hQ257
      have N262 := Fr.app N0 Nq258
      refine Go.tr (g' := (mkF m 80 #[.val (.int p0), .val (.int p1), .val (.int p2), .val (.int p3), .val (.int p4), .val (.int p5), .val (.int k147), .val .null, .val (.double (FP.i2d (p5 &&& (65535 : Int32)))), .second, .val (.int (0 : Int32)), .unset, .unset, .unset] [(.ref a248)])) st257 ?_
      have E263 : Exa Z T257.heap a248 "com/example/hinterland/hinterland/Coverage" := Exa.keep EA247 Kq259
      have Z264 : n0 ≤ T257.heap.size := Nat.le_trans Z252 Kq259.1
      have K265 : Keep h0 T257.heap [] := K251.trans Kq259 (allS (Or.inr gh250) all0)
      have A266 := (⟨X257, hx, hby⟩ : Ax _ _ _ _ _ _ _ _ _ _ _ _ _ _ _)
      refine g_astore A266 at_80 rfl (ls' := #[.val (.int p0), .val (.int p1), .val (.int p2), .val (.int p3), .val (.int p4), .val (.int p5), .val (.int k147), .val .null, .val (.double (FP.i2d (p5 &&& (65535 : Int32)))), .second, .val (.int (0 : Int32)), .val (.ref a248), .unset, .unset]) rfl (pc' := 82) rfl ?_
      refine g_aload A266 at_82 rfl rfl (pc' := 84) rfl ?_
      obtain ⟨cq268, kq268, q268a, q268b, q268c⟩ := isOf hZ rfl E263
      obtain ⟨_, _, ⟨T267, L267, k267, n267⟩, -, X267, ⟨L267c, hQ267, l267, y267, z267⟩, st267⟩ := X257.virtualBack hx (y := (⟨"com/example/hinterland/hinterland/Coverage", "isCovered", "()Z"⟩ : MethodName)) (z := (⟨"com/example/hinterland/hinterland/Coverage", "isCovered", "()Z"⟩ : MethodName)) hown (mvT hZ (hw _ (List.mem_of_getElem? (i := 22) rfl))) (mvT hZ (hw _ (List.mem_of_getElem? (i := 23) rfl))) (notFace_of_selects (args := #[]) (mvT hZ (hw _ (List.mem_of_getElem? (i := 25) rfl)))) (mvT hZ (hw _ (List.mem_of_getElem? (i := 25) rfl))) (mvT hZ (hw _ (List.mem_of_getElem? (i := 24) rfl))) (by decide) (backOf (W := 0) (rmIn l Z a0 hw [] a248 (0 : Int32) T257.heap n0 Z264 F260 F261) hZ (hw _ (List.mem_of_getElem? (i := 26) rfl)) (hw _ (List.mem_of_getElem? (i := 4) rfl)) (by decide) (by decide)) q268a q268c (g := (mkF m 84 #[.val (.int p0), .val (.int p1), .val (.int p2), .val (.int p3), .val (.int p4), .val (.int p5), .val (.int k147), .val .null, .val (.double (FP.i2d (p5 &&& (65535 : Int32)))), .second, .val (.int (0 : Int32)), .val (.ref a248), .unset, .unset] [(.ref a248)])) rfl (by rw [hml]; rfl) (Steps.refl _) (argsL := []) (rest := []) (lenOf pd_4 rfl) rfl (by show 2 * 0 + _ ≤ _; exact Nat.le_of_eq rfl) (hb hby at_84) (fun _ _ => ⟨rfl, rfl, (by decide : 1 + 0 ≤ _), (by decide : 3 + 0 ≤ _)⟩)
      dsimp only [Pt.U, Pt.locs, Pt.cells, Pt.slots] at X267 l267 y267 z267 st267 hQ267
      subst l267 y267 z267
      obtain ⟨rfl, Nq269, Kq270⟩ := hQ267
      have N271 := Fr.app N262 Nq269
      refine Go.tr (g' := (mkF m 87 #[.val (.int p0), .val (.int p1), .val (.int p2), .val (.int p3), .val (.int p4), .val (.int p5), .val (.int k147), .val .null, .val (.double (FP.i2d (p5 &&& (65535 : Int32)))), .second, .val (.int (0 : Int32)), .val (.ref a248), .unset, .unset] [(.int (own_r_rmIn (0 : Int32)))])) st267 ?_
      have e272 : T267.heap = T257.heap := Kq270
      have A273 := (⟨X267, hx, hby⟩ : Ax _ _ _ _ _ _ _ _ _ _ _ _ _ _ _)
      have e274 : (own_r_rmIn (0 : Int32)) = (1 : Int32) := by rw [own_r_rmIn, if_pos rfl]
      rw [e274]
      refine g_istore A273 at_87 (ls' := #[.val (.int p0), .val (.int p1), .val (.int p2), .val (.int p3), .val (.int p4), .val (.int p5), .val (.int k147), .val .null, .val (.double (FP.i2d (p5 &&& (65535 : Int32)))), .second, .val (.int (0 : Int32)), .val (.ref a248), .val (.int (1 : Int32)), .unset]) rfl (pc' := 89) rfl ?_
      refine g_iload A273 at_89 rfl (pc' := 91) rfl ?_
      refine g_ifN A273 at_91 (c0_ne_f (k3.resolve_right fun q => q.elim hc148 hc218)) (pc' := 94) rfl ?_
      refine g_iconst A273 at_94 (v := (1 : Int32)) rfl (pc' := 95) rfl ?_
      refine g_goto A273 at_95 (pc' := 99) rfl ?_
      refine g_istore A273 at_99 (ls' := #[.val (.int p0), .val (.int p1), .val (.int p2), .val (.int p3), .val (.int p4), .val (.int p5), .val (.int k147), .val .null, .val (.double (FP.i2d (p5 &&& (65535 : Int32)))), .second, .val (.int (0 : Int32)), .val (.ref a248), .val (.int (1 : Int32)), .val (.int (1 : Int32))]) rfl (pc' := 101) rfl ?_
      refine g_iload A273 at_101 rfl (pc' := 103) rfl ?_
      refine g_iload A273 at_103 rfl (pc' := 105) rfl ?_
      refine g_icN A273 at_105 (c2_ne_f rfl) (pc' := 108) rfl ?_
      refine g_iload A273 at_108 rfl (pc' := 110) rfl ?_
      refine g_ifN A273 at_110 (c0_eq_f (by decide)) (pc' := 113) rfl ?_
      refine g_aload A273 at_113 rfl rfl (pc' := 115) rfl ?_
      obtain ⟨cq276, kq276, q276a, q276b, q276c⟩ := isOf hZ e272 E263
      obtain ⟨_, _, ⟨T275, L275, k275, n275⟩, -, X275, ⟨L275c, hQ275, l275, y275, z275⟩, st275⟩ := X267.virtualBack hx (y := (⟨"com/example/hinterland/hinterland/Coverage", "isUnbounded", "()Z"⟩ : MethodName)) (z := (⟨"com/example/hinterland/hinterland/Coverage", "isUnbounded", "()Z"⟩ : MethodName)) hown (mvT hZ (hw _ (List.mem_of_getElem? (i := 27) rfl))) (mvT hZ (hw _ (List.mem_of_getElem? (i := 28) rfl))) (notFace_of_selects (args := #[]) (mvT hZ (hw _ (List.mem_of_getElem? (i := 30) rfl)))) (mvT hZ (hw _ (List.mem_of_getElem? (i := 30) rfl))) (mvT hZ (hw _ (List.mem_of_getElem? (i := 29) rfl))) (by decide) (backOf (W := 0) (rm5 l Z a0 hw [] a248 (0 : Int32) T257.heap n0 Z264 F261) hZ (hw _ (List.mem_of_getElem? (i := 31) rfl)) (hw _ (List.mem_of_getElem? (i := 4) rfl)) (by decide) (by decide)) q276a q276c (g := (mkF m 115 #[.val (.int p0), .val (.int p1), .val (.int p2), .val (.int p3), .val (.int p4), .val (.int p5), .val (.int k147), .val .null, .val (.double (FP.i2d (p5 &&& (65535 : Int32)))), .second, .val (.int (0 : Int32)), .val (.ref a248), .val (.int (1 : Int32)), .val (.int (1 : Int32))] [(.ref a248)])) rfl (by rw [hml]; rfl) (Steps.refl _) (argsL := []) (rest := []) (lenOf pd_4 rfl) rfl (by show 2 * 0 + _ ≤ _; exact Nat.le_of_eq rfl) (hb hby at_115) (fun _ _ => ⟨rfl, e272, (by decide : 1 + 0 ≤ _), (by decide : 3 + 0 ≤ _)⟩)
      dsimp only [Pt.U, Pt.locs, Pt.cells, Pt.slots] at X275 l275 y275 z275 st275 hQ275
      subst l275 y275 z275
      obtain ⟨rfl, Nq277, Kq278⟩ := hQ275
      have N279 := Fr.app N271 Nq277
      refine Go.tr (g' := (mkF m 118 #[.val (.int p0), .val (.int p1), .val (.int p2), .val (.int p3), .val (.int p4), .val (.int p5), .val (.int k147), .val .null, .val (.double (FP.i2d (p5 &&& (65535 : Int32)))), .second, .val (.int (0 : Int32)), .val (.ref a248), .val (.int (1 : Int32)), .val (.int (1 : Int32))] [(.int (own_r_rm5 (0 : Int32)))])) st275 ?_
      have e280 : T275.heap = T257.heap := Kq278
      have A281 := (⟨X275, hx, hby⟩ : Ax _ _ _ _ _ _ _ _ _ _ _ _ _ _ _)
      have e282 : (own_r_rm5 (0 : Int32)) = (0 : Int32) := by rw [own_r_rm5]; decide
      rw [e282]
      refine g_ifN A281 at_118 (c0_ne_f (by decide)) (pc' := 121) rfl ?_
      refine g_iconst A281 at_121 (v := (1 : Int32)) rfl (pc' := 122) rfl ?_
      refine g_goto A281 at_122 (pc' := 126) rfl ?_
      exact g_ret (Q := Q0 Z p0 p1 p2 p3 p4 p5 h0 n0) A281 at_126 Bd.notSynchronized Bd.returns rfl (Or.inl ⟨rfl, by simp, _, rfl⟩) (by decide) (by decide) (by rw [e280]; exact ⟨rfl, N279⟩)
set_option maxRecDepth 65536 in
set_option maxHeartbeats 40000000 in
theorem comes_1 {Post : Tables → Env → Array Value → State → Outcome → State → Prop} (hpost : ∀ tb e args s v u, (limb_1_1.after args s (.returned v) u = true ∧ limb_1_2.after args s (.returned v) u = true ∧ True) → FrameEnd s (.returned v) u (Jvm.fieldLocs frame_1_writes args s ++ Jvm.arrayLocs frame_1_arrays args s ++ Jvm.staticLocs frame_1_statics s) 16 128 → Post tb e args s (.returned v) u) :
    ArmFor flags0 classFile x code maxLocals ret World_1 tables_1 room_1 Calls_1 rest_1 Pre_1 Post := by
  intro l hfl _ _ p e ha hc hk s m args below hf hA hF happ hP
  obtain ⟨hcalls, hrest, hpre⟩ := hP
  obtain ⟨-, -, -, hnamed, -, -, -, hat⟩ := (Spec.applies_iff hf).mp happ
  obtain ⟨hg, hn⟩ := and_e (Cond.before_iff.mp (show (Jvm.Cond.and given_1 narrow_1).before args s = true from hpre))
  obtain ⟨g0, hg1⟩ := and_e hg
  obtain ⟨w0, w1, w2, w3, w4, w5, rfl⟩ : ∃ w0 w1 w2 w3 w4 w5 : Value, args = #[w0, w1, w2, w3, w4, w5] := by
    have hs : args.size = 6 := by simpa [Cond.value, given_1] using g0
    obtain ⟨L⟩ := args
    match L, hs with
    | [w0, w1, w2, w3, w4, w5], _ => exact ⟨w0, w1, w2, w3, w4, w5, rfl⟩
  have hw := fun d (hd : d ∈ tables_1) => atoms_spec (ws := Jvm.Cond.code x code maxLocals ret :: tables_1) hat d (List.mem_cons_of_mem _ hd)
  have hfit : Fit s := fun {y c} hc i hi => by
    obtain ⟨ha, rfl⟩ := Array.getElem?_eq_some_iff.mp hc
    have q := List.all_eq_true.mp ((Array.all_eq_true_iff_forall_mem.mp hF) _ (Array.getElem_mem ha)) i (List.mem_range.mpr hi)
    simpa [Array.getElem?_eq_getElem hi] using q
  obtain ⟨k0, hg2⟩ := and_e hg1
  obtain ⟨i0, j0⟩ := is_v k0
  obtain rfl : w0 = (.int i0) := Option.some.inj j0
  obtain ⟨k1, hg3⟩ := and_e hg2
  obtain ⟨i1, j1⟩ := is_v k1
  obtain rfl : w1 = (.int i1) := Option.some.inj j1
  obtain ⟨k2, hg4⟩ := and_e hg3
  obtain ⟨i2, j2⟩ := is_v k2
  obtain rfl : w2 = (.int i2) := Option.some.inj j2
  obtain ⟨k3, hg5⟩ := and_e hg4
  obtain ⟨i3, j3⟩ := is_v k3
  obtain rfl : w3 = (.int i3) := Option.some.inj j3
  obtain ⟨k4, hg6⟩ := and_e hg5
  obtain ⟨i4, j4⟩ := is_v k4
  obtain rfl : w4 = (.int i4) := Option.some.inj j4
  obtain ⟨i5, j5⟩ := is_v hg6
  obtain rfl : w5 = (.int i5) := Option.some.inj j5
  obtain ⟨n, o, h1, h2, h3, _, L, rfl, ⟨rfl, N⟩, hq⟩ := rm0 l s _ hw tables_1 i0 i1 i2 i3 i4 i5 s.heap s.heap.size (Nat.le_refl _)  p e ha hc hk s m _ below hf ((Spec.applies_iff_loose hf).mp happ).1 ⟨rfl, State.Warmed39.refl s, rfl⟩ trivial
  refine ⟨n, _, h1, h2, h3, hpost _ _ _ _ _ _ ⟨Cond.after_iff.mpr rfl, Cond.after_iff.mpr (eq_i res_at (Term.int_eval (1)) rfl), trivial⟩ ⟨hq.1, hq.2.1, (hq.2.2.sift fun y hy => Or.inr (N y hy)).mono (by decide) (by decide)⟩⟩
theorem main_1_1 : Claimed_1_1 := comes_1 fun _ _ _ _ _ _ h hF => ⟨h.1, hF⟩
theorem main_1_2 : Claimed_1_2 := comes_1 fun _ _ _ _ _ _ h hF => ⟨h.2.1, hF⟩
end Jvm.Pilot.@@N@@
namespace Jvm.Pilot.@@N@@
open Jvm Jvm.ClassFile Sem Op Lib Jvm.Free Jvm.Stand Jvm.Pilot.@@N@@.Jvm.D
/-! MADE BY PROGRAM (witnessworld.py) out of the Statement's table words and the real class files: 12 classes; the members and pool entries that the words name. The judged class is class 1, her method 1. -/
namespace start1
open Jvm.ClassFile
def u (s : String) : CpInfo := .utf8 (stringToUtf16 s)
/-- a pool by its gaps: so many unusable entries, then the entry; so many at the end -/
def gap : Nat → List CpInfo → List CpInfo
  | 0, r => r
  | n + 1, r => .unusable :: gap n r
def poolList (es : List (Nat × CpInfo)) (last : Nat) : List CpInfo := es.foldr (fun e r => gap e.1 (e.2 :: r)) (gap last [])
def pool (es : List (Nat × CpInfo)) (last : Nat) : Array CpInfo := ⟨poolList es last⟩
def fileOf (pool : Array CpInfo) (this : Nat) (attrs : Array Attribute := #[]) (ms : Array MethodInfo := #[]) (fl : Nat := 33) (sup : Nat := 0) (ifs : Array Nat := #[]) (fds : Array FieldInfo := #[]) : ClassFile where
  minorVersion := 0
  majorVersion := 65
  constantPool := pool
  accessFlags := fl
  thisClass := this
  superClass := sup
  interfaces := ifs
  fields := fds
  methods := ms
  attributes := attrs
def plain (name : String) (sup : Option ClassId) : Class where
  name := name
  kind := .ordinary
  loader := none
  accessFlags := 33
  super := sup
  interfaces := #[]
  cf := none
  fields := #[]
  methods := #[]
  instanceTypes := #[]
  staticTypes := #[]
  resolved := #[]
  callSites := []
  init := .initialized
  statics := none
  mirror := none

def pool0 : Array CpInfo := pool [(5, u "<init>"), (0, u "()V"), (1, .class_ 10), (1, u "java/lang/Object")] 113

def k0c0 : Code := { maxStack := 0, maxLocals := 1, code := object_method_1_code, exceptionTable := #[], attributes := #[] }
def k0m0 : Method := { name := "<init>", desc := "()V", sig := { parameters := [], returnType := none }, accessFlags := 1, code := some k0c0 }
/-- java/lang/Object -/
def k0 : Class := { plain "java/lang/Object" none with
  accessFlags := 33
  interfaces := #[]
  cf := some (fileOf pool0 8 #[] #[{ accessFlags := 1, nameIndex := 5, descriptorIndex := 6, attributes := #[] }] 33 0 #[] #[])
  fields := #[]
  methods := #[k0m0]
  instanceTypes := #[]
  staticTypes := #[]
  resolved := Array.replicate 124 none
  statics := none }

def pool1 : Array CpInfo := pool [(2, .class_ 4), (1, u "java/lang/Object"), (0, u "<init>"), (0, u "()V"), (0, .integer 2147483647), (0, .integer 65535), (0, .class_ 10), (0, u "com/example/hinterland/hinterland/EdgePoint"), (0, .methodref 12 13), (0, .class_ 14), (0, .nameAndType 15 16), (0, u "java/lang/Math"), (0, u "min"), (0, u "(II)I"), (0, .methodref 12 18), (0, .nameAndType 19 16), (0, u "max"), (0, .methodref 9 21), (0, .nameAndType 5 22), (0, u "(IID)V"), (0, .integer 1073741823), (0, .class_ 25), (0, u "com/example/hinterland/hinterland/Coverage"), (0, .methodref 24 27), (0, .nameAndType 5 28), (0, u "(Lcom/example/hinterland/hinterland/EdgePoint;DI)V"), (0, .methodref 24 30), (0, .nameAndType 31 32), (0, u "isCovered"), (0, u "()Z"), (0, .methodref 24 34), (0, .nameAndType 35 32), (0, u "isUnbounded"), (0, .class_ 37), (0, u "com/example/hinterland/hinterland/CoverageIsCoveredPinLaw"), (2, u "law"), (0, u "(IIIIII)Z")] 3

def k1m0 : Method := { name := "<init>", desc := "()V", sig := { parameters := [], returnType := none }, accessFlags := 1, code := none }
def k1c1 : Code := { maxStack := 6, maxLocals := 14, code := code, exceptionTable := #[], attributes := #[] }
def k1m1 : Method := { name := "law", desc := "(IIIIII)Z", sig := { parameters := [.int, .int, .int, .int, .int, .int], returnType := some .boolean }, accessFlags := 9, code := some k1c1 }
/-- com/example/hinterland/hinterland/CoverageIsCoveredPinLaw -/
def k1 : Class := { plain "com/example/hinterland/hinterland/CoverageIsCoveredPinLaw" (some 0) with
  accessFlags := 49
  interfaces := #[]
  cf := some (fileOf pool1 36 #[] #[{ accessFlags := 1, nameIndex := 5, descriptorIndex := 6, attributes := #[] }, { accessFlags := 9, nameIndex := 40, descriptorIndex := 41, attributes := #[] }] 49 2 #[] #[])
  fields := #[]
  methods := #[k1m0, k1m1]
  instanceTypes := #[]
  staticTypes := #[]
  resolved := Array.replicate 45 none
  statics := none }

def pool2 : Array CpInfo := pool [(1, .methodref 2 3), (0, .class_ 4), (0, .nameAndType 5 6), (0, u "java/lang/Object"), (0, u "<init>"), (0, u "()V"), (0, .class_ 8), (0, u "java/lang/Record")] 13

def k2c0 : Code := { maxStack := 1, maxLocals := 1, code := jdk_30_method_1_code, exceptionTable := #[], attributes := #[] }
def k2m0 : Method := { name := "<init>", desc := "()V", sig := { parameters := [], returnType := none }, accessFlags := 4, code := some k2c0 }
/-- java/lang/Record -/
def k2 : Class := { plain "java/lang/Record" (some 0) with
  accessFlags := 1057
  interfaces := #[]
  cf := some (fileOf pool2 7 #[] #[{ accessFlags := 4, nameIndex := 5, descriptorIndex := 6, attributes := #[] }] 1057 2 #[] #[])
  fields := #[]
  methods := #[k2m0]
  instanceTypes := #[]
  staticTypes := #[]
  resolved := Array.replicate 22 none
  statics := none }

def pool3 : Array CpInfo := pool [(1, .methodref 2 3), (0, .class_ 4), (0, .nameAndType 5 6), (0, u "java/lang/Record"), (0, u "<init>"), (0, u "()V"), (0, .fieldref 8 9), (0, .class_ 10), (0, .nameAndType 11 12), (0, u "com/example/hinterland/hinterland/Coverage"), (0, u "point"), (0, u "Lcom/example/hinterland/hinterland/EdgePoint;"), (0, .fieldref 8 14), (0, .nameAndType 15 16), (0, u "cost"), (0, u "D"), (0, .fieldref 8 18), (0, .nameAndType 19 20), (0, u "unreachedVertex"), (0, u "I"), (12, u "(Lcom/example/hinterland/hinterland/EdgePoint;DI)V"), (3, u "isCovered"), (0, u "()Z"), (1, u "isUnbounded")] 27

def k3c0 : Code := { maxStack := 3, maxLocals := 5, code := prog_6_method_1_code, exceptionTable := #[], attributes := #[] }
def k3m0 : Method := { name := "<init>", desc := "(Lcom/example/hinterland/hinterland/EdgePoint;DI)V", sig := { parameters := [(.object "com/example/hinterland/hinterland/EdgePoint"), .double, .int], returnType := none }, accessFlags := 1, code := some k3c0 }
def k3c1 : Code := { maxStack := 1, maxLocals := 1, code := prog_6_method_2_code, exceptionTable := #[], attributes := #[] }
def k3m1 : Method := { name := "isCovered", desc := "()Z", sig := { parameters := [], returnType := some .boolean }, accessFlags := 1, code := some k3c1 }
def k3c2 : Code := { maxStack := 1, maxLocals := 1, code := prog_6_method_3_code, exceptionTable := #[], attributes := #[] }
def k3m2 : Method := { name := "isUnbounded", desc := "()Z", sig := { parameters := [], returnType := some .boolean }, accessFlags := 1, code := some k3c2 }
/-- com/example/hinterland/hinterland/Coverage -/
def k3 : Class := { plain "com/example/hinterland/hinterland/Coverage" (some 2) with
  accessFlags := 49
  interfaces := #[]
  cf := some (fileOf pool3 8 #[] #[{ accessFlags := 1, nameIndex := 5, descriptorIndex := 33, attributes := #[] }, { accessFlags := 1, nameIndex := 37, descriptorIndex := 38, attributes := #[] }, { accessFlags := 1, nameIndex := 40, descriptorIndex := 38, attributes := #[] }] 49 2 #[] #[{ accessFlags := 18, nameIndex := 11, descriptorIndex := 12, attributes := #[] }, { accessFlags := 18, nameIndex := 15, descriptorIndex := 16, attributes := #[] }, { accessFlags := 18, nameIndex := 19, descriptorIndex := 20, attributes := #[] }])
  fields := #[{ name := "point", type := (.object "com/example/hinterland/hinterland/EdgePoint"), accessFlags := 18, slot := 0, constantValue := 0 }, { name := "cost", type := .double, accessFlags := 18, slot := 1, constantValue := 0 }, { name := "unreachedVertex", type := .int, accessFlags := 18, slot := 2, constantValue := 0 }]
  methods := #[k3m0, k3m1, k3m2]
  instanceTypes := #[(.object "com/example/hinterland/hinterland/EdgePoint"), .double, .int]
  staticTypes := #[]
  resolved := Array.replicate 68 none
  statics := none }

def pool4 : Array CpInfo := pool [(1, .methodref 2 3), (0, .class_ 4), (0, .nameAndType 5 6), (0, u "java/lang/Record"), (0, u "<init>"), (0, u "()V"), (0, .fieldref 8 9), (0, .class_ 10), (0, .nameAndType 11 12), (0, u "com/example/hinterland/hinterland/EdgePoint"), (0, u "u"), (0, u "I"), (0, .fieldref 8 14), (0, .nameAndType 15 12), (0, u "v"), (0, .fieldref 8 17), (0, .nameAndType 18 19), (0, u "offset"), (0, u "D"), (2, u "(IID)V")] 43

def k4c0 : Code := { maxStack := 3, maxLocals := 5, code := prog_12_method_1_code, exceptionTable := #[], attributes := #[] }
def k4m0 : Method := { name := "<init>", desc := "(IID)V", sig := { parameters := [.int, .int, .double], returnType := none }, accessFlags := 1, code := some k4c0 }
/-- com/example/hinterland/hinterland/EdgePoint -/
def k4 : Class := { plain "com/example/hinterland/hinterland/EdgePoint" (some 2) with
  accessFlags := 49
  interfaces := #[]
  cf := some (fileOf pool4 8 #[] #[{ accessFlags := 1, nameIndex := 5, descriptorIndex := 22, attributes := #[] }] 49 2 #[] #[{ accessFlags := 18, nameIndex := 11, descriptorIndex := 12, attributes := #[] }, { accessFlags := 18, nameIndex := 15, descriptorIndex := 12, attributes := #[] }, { accessFlags := 18, nameIndex := 18, descriptorIndex := 19, attributes := #[] }])
  fields := #[{ name := "u", type := .int, accessFlags := 18, slot := 0, constantValue := 0 }, { name := "v", type := .int, accessFlags := 18, slot := 1, constantValue := 0 }, { name := "offset", type := .double, accessFlags := 18, slot := 2, constantValue := 0 }]
  methods := #[k4m0]
  instanceTypes := #[.int, .int, .double]
  staticTypes := #[]
  resolved := Array.replicate 66 none
  statics := none }

def pool5 : Array CpInfo := pool [(1, .class_ 2), (0, u "java/lang/Math"), (1, .class_ 6), (1, u "java/lang/Object"), (0, u "<init>"), (0, u "()V"), (89, .class_ 100), (1, u "java/lang/Math$RandomNumberGeneratorHolder"), (71, u "negativeZeroFloatBits"), (0, u "J"), (2, u "negativeZeroDoubleBits"), (21, u "max"), (2, u "min"), (43, u "$assertionsDisabled"), (0, u "Z"), (88, u "(II)I"), (2, u "twoToTheDoubleScaleDown"), (0, u "D"), (4, u "twoToTheDoubleScaleUp"), (9, u "E"), (3, u "PI"), (2, u "TAU"), (2, u "DEGREES_TO_RADIANS"), (0, u "RADIANS_TO_DEGREES")] 94

def k5m0 : Method := { name := "<init>", desc := "()V", sig := { parameters := [], returnType := none }, accessFlags := 2, code := none }
def k5c1 : Code := { maxStack := 2, maxLocals := 2, code := jdk_29_method_65_code, exceptionTable := #[], attributes := #[] }
def k5m1 : Method := { name := "max", desc := "(II)I", sig := { parameters := [.int, .int], returnType := some .int }, accessFlags := 9, code := some k5c1 }
def k5c2 : Code := { maxStack := 2, maxLocals := 2, code := jdk_29_method_69_code, exceptionTable := #[], attributes := #[] }
def k5m2 : Method := { name := "min", desc := "(II)I", sig := { parameters := [.int, .int], returnType := some .int }, accessFlags := 9, code := some k5c2 }
/-- java/lang/Math -/
def k5 : Class := { plain "java/lang/Math" (some 0) with
  accessFlags := 49
  interfaces := #[]
  cf := some (fileOf pool5 1 #[.nestMembers #[98]] #[{ accessFlags := 2, nameIndex := 7, descriptorIndex := 8, attributes := #[] }, { accessFlags := 9, nameIndex := 198, descriptorIndex := 335, attributes := #[] }, { accessFlags := 9, nameIndex := 201, descriptorIndex := 335, attributes := #[] }] 49 4 #[] #[{ accessFlags := 25, nameIndex := 354, descriptorIndex := 339, attributes := #[] }, { accessFlags := 25, nameIndex := 358, descriptorIndex := 339, attributes := #[] }, { accessFlags := 25, nameIndex := 361, descriptorIndex := 339, attributes := #[] }, { accessFlags := 26, nameIndex := 364, descriptorIndex := 339, attributes := #[] }, { accessFlags := 26, nameIndex := 365, descriptorIndex := 339, attributes := #[] }, { accessFlags := 26, nameIndex := 172, descriptorIndex := 173, attributes := #[] }, { accessFlags := 26, nameIndex := 176, descriptorIndex := 173, attributes := #[] }, { accessFlags := 8, nameIndex := 344, descriptorIndex := 339, attributes := #[] }, { accessFlags := 8, nameIndex := 338, descriptorIndex := 339, attributes := #[] }, { accessFlags := 4120, nameIndex := 245, descriptorIndex := 246, attributes := #[] }])
  fields := #[{ name := "E", type := .double, accessFlags := 25, slot := 0, constantValue := 0 }, { name := "PI", type := .double, accessFlags := 25, slot := 1, constantValue := 0 }, { name := "TAU", type := .double, accessFlags := 25, slot := 2, constantValue := 0 }, { name := "DEGREES_TO_RADIANS", type := .double, accessFlags := 26, slot := 3, constantValue := 0 }, { name := "RADIANS_TO_DEGREES", type := .double, accessFlags := 26, slot := 4, constantValue := 0 }, { name := "negativeZeroFloatBits", type := .long, accessFlags := 26, slot := 5, constantValue := 0 }, { name := "negativeZeroDoubleBits", type := .long, accessFlags := 26, slot := 6, constantValue := 0 }, { name := "twoToTheDoubleScaleUp", type := .double, accessFlags := 8, slot := 7, constantValue := 0 }, { name := "twoToTheDoubleScaleDown", type := .double, accessFlags := 8, slot := 8, constantValue := 0 }, { name := "$assertionsDisabled", type := .boolean, accessFlags := 4120, slot := 9, constantValue := 0 }]
  methods := #[k5m0, k5m1, k5m2]
  instanceTypes := #[]
  staticTypes := #[.double, .double, .double, .double, .double, .long, .long, .double, .double, .boolean]
  resolved := Array.replicate 460 none
  statics := none }

def pool6 : Array CpInfo := pool [(1, u "java/lang/Cloneable"), (0, .class_ 1), (0, u "java/lang/Object"), (0, .class_ 3)] 3

/-- java/lang/Cloneable -/
def k6 : Class := { plain "java/lang/Cloneable" (some 0) with
  accessFlags := 1537
  interfaces := #[]
  cf := some (fileOf pool6 2 #[] #[] 1537 4 #[] #[])
  fields := #[]
  methods := #[]
  instanceTypes := #[]
  staticTypes := #[]
  resolved := Array.replicate 8 none
  statics := none }

def pool7 : Array CpInfo := pool [(1, u "java/io/Serializable"), (0, .class_ 1), (0, u "java/lang/Object"), (0, .class_ 3)] 3

/-- java/io/Serializable -/
def k7 : Class := { plain "java/io/Serializable" (some 0) with
  accessFlags := 1537
  interfaces := #[]
  cf := some (fileOf pool7 2 #[] #[] 1537 4 #[] #[])
  fields := #[]
  methods := #[]
  instanceTypes := #[]
  staticTypes := #[]
  resolved := Array.replicate 8 none
  statics := none }

/-- the primitive byte -/
def k8 : Class := { plain "byte" none with kind := .primitive 'B', accessFlags := 0x411 }
/-- [B -/
def k9 : Class := { plain "[B" (some 0) with kind := .array 8 .byte, interfaces := #[6, 7], accessFlags := 1041 }

/-- the primitive int -/
def k10 : Class := { plain "int" none with kind := .primitive 'I', accessFlags := 0x411 }
/-- [I -/
def k11 : Class := { plain "[I" (some 0) with kind := .array 10 .int, interfaces := #[6, 7], accessFlags := 1041 }

def heap : Heap := #[]
def classes : Array Class := #[k0, k1, k2, k3, k4, k5, k6, k7, k8, k9, k10, k11]
def interned : List (Array UInt16 × Addr) := []
def slotsUsed : Nat := 0
def theMethod : MethodId := ⟨1, 1⟩
def args0 : Array Value := #[.int 5, .int 3, .int 1, .int 9, .int 4, .int 7]
def aboutOver (below : List Frame) : State where
  vm := { classes := classes, interned := interned.toArray }
  heap := heap
  slotsUsed := slotsUsed
  threads := #[{ frames := .invoking theMethod args0 :: below }]
def below0 : List Frame := [.native { method := ⟨0, 0⟩, args := #[] }]
def about1 : State := aboutOver below0
def p0 : Program := .bare "" "" ""
def e0 : Env := launch0.env 0 0 0
theorem w_frames : about1.frames = Frame.invoking theMethod args0 :: below0 := rfl
set_option maxRecDepth 65536 in
theorem w_args : argsFit about1.vm theMethod args0 = true := by decide +kernel
set_option maxRecDepth 65536 in
theorem w_heap : heapFits about1 = true := by decide +kernel
set_option maxRecDepth 65536 in
theorem w_runnable : about1.curStatus? = some .runnable := by decide +kernel
set_option maxRecDepth 65536 in
theorem w_alone : about1.alone = true := by decide +kernel
set_option maxRecDepth 65536 in
theorem w_named : about1.methodNamed? x = some theMethod := by decide +kernel
set_option maxRecDepth 65536 in
theorem w_hears : about1.hears theMethod below0 = true := by decide +kernel
set_option maxRecDepth 65536 in
theorem w_ripe : about1.ripe theMethod args0 below0 = true := by decide +kernel
theorem w_running : about1.status = .running := rfl
set_option maxRecDepth 65536 in
theorem w_room : about1.hasRoom e0.platform room_1 = true :=
  launch0.hasRoom_least _ room_1 (by decide +kernel) (by decide +kernel) (by decide +kernel) (by decide +kernel) (by decide +kernel) (by decide +kernel)
theorem allAtoms_all (ts : List Jvm.Cond) (a : Array Jvm.Value) (st : Jvm.State) : (allAtoms ts).before a st = ts.all (fun c => c.before a st) := by
  induction ts with
  | nil => rfl
  | cons c t ih =>
    show (Jvm.Cond.and c (allAtoms t)).before a st = _
    rw [Jvm.Cond.before_and, ih, List.all_cons]
def words1 : List Jvm.Cond := Jvm.Cond.code x code maxLocals ret :: tables_1
/-- a 'code' word, met by the world's own term for the bytes: nothing is compared byte by byte -/
theorem code_word {y : MethodName} {bytes : ByteArray} {mx : Nat} {rt : Option FieldType} {a : Array Value} {s : State} {m : MethodId} {meth : Method} {c : Code} (h1 : s.methodNamed? y = some m) (h2 : s.vm.method? m = some meth) (h3 : meth.code = some c) (h4 : c.code = bytes)
    (h5 : (c.maxLocals == mx && c.exceptionTable.isEmpty && decide (c.maxStack ≤ mostOperands) && decide (meth.sig.returnType = rt) && !meth.locks && decide (parseMethodDescriptor y.desc = some meth.sig)) = true) : (Jvm.Cond.code y bytes mx rt).before a s = true := by
  simp only [Bool.and_eq_true, beq_iff_eq, Bool.not_eq_true', decide_eq_true_eq] at h5
  obtain ⟨⟨⟨⟨⟨g1, g2⟩, g3⟩, g4⟩, g5⟩, g6⟩ := h5
  simp [Cond.before, Cond.holds, Cond.value, h1, h2, h3, h4, g1, g2, g3, g4, g5, g6]
def isCode : Jvm.Cond → Bool
  | .code _ _ _ _ => true
  | _ => false
theorem all_split {L : List Jvm.Cond} {P : Jvm.Cond → Bool} (h1 : L.all (fun c => isCode c || P c) = true) (h2 : ∀ c ∈ L.filter isCode, P c = true) : L.all P = true := by
  refine List.all_eq_true.mpr fun c hc => ?_
  have h := List.all_eq_true.mp h1 c hc
  rcases Bool.eq_false_or_eq_true (isCode c) with hi | hi
  · exact h2 c (List.mem_filter.mpr ⟨hc, hi⟩)
  · simpa [hi] using h
set_option maxRecDepth 65536 in
theorem w_c0 : (Jvm.Cond.code x code maxLocals ret).before args0 about1 = true := code_word (m := ⟨1, 1⟩) (meth := k1m1) (c := k1c1) (by decide +kernel) rfl rfl rfl (by decide +kernel)
set_option maxRecDepth 65536 in
theorem w_c1 : (Jvm.Cond.code ({ cls := "com/example/hinterland/hinterland/Coverage", name := "<init>", desc := "(Lcom/example/hinterland/hinterland/EdgePoint;DI)V" } : Jvm.MethodName) prog_6_method_1_code (5 : Nat) (Option.none : Option Jvm.ClassFile.FieldType)).before args0 about1 = true := code_word (m := ⟨3, 0⟩) (meth := k3m0) (c := k3c0) (by decide +kernel) rfl rfl rfl (by decide +kernel)
set_option maxRecDepth 65536 in
theorem w_c2 : (Jvm.Cond.code ({ cls := "java/lang/Record", name := "<init>", desc := "()V" } : Jvm.MethodName) jdk_30_method_1_code (1 : Nat) (Option.none : Option Jvm.ClassFile.FieldType)).before args0 about1 = true := code_word (m := ⟨2, 0⟩) (meth := k2m0) (c := k2c0) (by decide +kernel) rfl rfl rfl (by decide +kernel)
set_option maxRecDepth 65536 in
theorem w_c3 : (Jvm.Cond.code ({ cls := "java/lang/Object", name := "<init>", desc := "()V" } : Jvm.MethodName) object_method_1_code (1 : Nat) (Option.none : Option Jvm.ClassFile.FieldType)).before args0 about1 = true := code_word (m := ⟨0, 0⟩) (meth := k0m0) (c := k0c0) (by decide +kernel) rfl rfl rfl (by decide +kernel)
set_option maxRecDepth 65536 in
theorem w_c4 : (Jvm.Cond.code ({ cls := "com/example/hinterland/hinterland/Coverage", name := "isCovered", desc := "()Z" } : Jvm.MethodName) prog_6_method_2_code (1 : Nat) (Option.some Jvm.ClassFile.FieldType.boolean)).before args0 about1 = true := code_word (m := ⟨3, 1⟩) (meth := k3m1) (c := k3c1) (by decide +kernel) rfl rfl rfl (by decide +kernel)
set_option maxRecDepth 65536 in
theorem w_c5 : (Jvm.Cond.code ({ cls := "com/example/hinterland/hinterland/Coverage", name := "isUnbounded", desc := "()Z" } : Jvm.MethodName) prog_6_method_3_code (1 : Nat) (Option.some Jvm.ClassFile.FieldType.boolean)).before args0 about1 = true := code_word (m := ⟨3, 2⟩) (meth := k3m2) (c := k3c2) (by decide +kernel) rfl rfl rfl (by decide +kernel)
set_option maxRecDepth 65536 in
theorem w_c6 : (Jvm.Cond.code ({ cls := "java/lang/Math", name := "min", desc := "(II)I" } : Jvm.MethodName) jdk_29_method_69_code (2 : Nat) (Option.some Jvm.ClassFile.FieldType.int)).before args0 about1 = true := code_word (m := ⟨5, 2⟩) (meth := k5m2) (c := k5c2) (by decide +kernel) rfl rfl rfl (by decide +kernel)
set_option maxRecDepth 65536 in
theorem w_c7 : (Jvm.Cond.code ({ cls := "java/lang/Math", name := "max", desc := "(II)I" } : Jvm.MethodName) jdk_29_method_65_code (2 : Nat) (Option.some Jvm.ClassFile.FieldType.int)).before args0 about1 = true := code_word (m := ⟨5, 1⟩) (meth := k5m1) (c := k5c1) (by decide +kernel) rfl rfl rfl (by decide +kernel)
set_option maxRecDepth 65536 in
theorem w_c8 : (Jvm.Cond.code ({ cls := "com/example/hinterland/hinterland/EdgePoint", name := "<init>", desc := "(IID)V" } : Jvm.MethodName) prog_12_method_1_code (5 : Nat) (Option.none : Option Jvm.ClassFile.FieldType)).before args0 about1 = true := code_word (m := ⟨4, 0⟩) (meth := k4m0) (c := k4c0) (by decide +kernel) rfl rfl rfl (by decide +kernel)
def codes1 : List Jvm.Cond := [Jvm.Cond.code x code maxLocals ret, Jvm.Cond.code ({ cls := "com/example/hinterland/hinterland/Coverage", name := "<init>", desc := "(Lcom/example/hinterland/hinterland/EdgePoint;DI)V" } : Jvm.MethodName) prog_6_method_1_code (5 : Nat) (Option.none : Option Jvm.ClassFile.FieldType), Jvm.Cond.code ({ cls := "java/lang/Record", name := "<init>", desc := "()V" } : Jvm.MethodName) jdk_30_method_1_code (1 : Nat) (Option.none : Option Jvm.ClassFile.FieldType), Jvm.Cond.code ({ cls := "java/lang/Object", name := "<init>", desc := "()V" } : Jvm.MethodName) object_method_1_code (1 : Nat) (Option.none : Option Jvm.ClassFile.FieldType), Jvm.Cond.code ({ cls := "com/example/hinterland/hinterland/Coverage", name := "isCovered", desc := "()Z" } : Jvm.MethodName) prog_6_method_2_code (1 : Nat) (Option.some Jvm.ClassFile.FieldType.boolean), Jvm.Cond.code ({ cls := "com/example/hinterland/hinterland/Coverage", name := "isUnbounded", desc := "()Z" } : Jvm.MethodName) prog_6_method_3_code (1 : Nat) (Option.some Jvm.ClassFile.FieldType.boolean), Jvm.Cond.code ({ cls := "java/lang/Math", name := "min", desc := "(II)I" } : Jvm.MethodName) jdk_29_method_69_code (2 : Nat) (Option.some Jvm.ClassFile.FieldType.int), Jvm.Cond.code ({ cls := "java/lang/Math", name := "max", desc := "(II)I" } : Jvm.MethodName) jdk_29_method_65_code (2 : Nat) (Option.some Jvm.ClassFile.FieldType.int), Jvm.Cond.code ({ cls := "com/example/hinterland/hinterland/EdgePoint", name := "<init>", desc := "(IID)V" } : Jvm.MethodName) prog_12_method_1_code (5 : Nat) (Option.none : Option Jvm.ClassFile.FieldType)]
set_option maxRecDepth 65536 in
theorem codes_eq : words1.filter isCode = codes1 := rfl
theorem w_codes : ∀ c ∈ words1.filter isCode, c.before args0 about1 = true := by
  rw [codes_eq]
  intro c hc
  simp only [codes1, List.mem_cons, List.not_mem_nil, or_false] at hc
  rcases hc with rfl | rfl | rfl | rfl | rfl | rfl | rfl | rfl | rfl
  · exact w_c0
  · exact w_c1
  · exact w_c2
  · exact w_c3
  · exact w_c4
  · exact w_c5
  · exact w_c6
  · exact w_c7
  · exact w_c8
set_option maxRecDepth 65536 in
theorem w_t1 : (words1.take 24).all (fun c => isCode c || c.before args0 about1) = true := by decide +kernel
set_option maxRecDepth 65536 in
theorem w_t2 : ((words1.drop 24).take 24).all (fun c => isCode c || c.before args0 about1) = true := by decide +kernel
set_option maxRecDepth 65536 in
theorem w_t3 : ((words1.drop 24).drop 24).all (fun c => isCode c || c.before args0 about1) = true := by decide +kernel
theorem w_tables : (allAtoms (Jvm.Cond.code x code maxLocals ret :: tables_1)).before args0 about1 = true := by
  rw [allAtoms_all]
  show words1.all (fun c => c.before args0 about1) = true
  refine all_split ?_ w_codes
  rw [← List.take_append_drop 24 words1, List.all_append, w_t1, ← List.take_append_drop 24 (words1.drop 24), List.all_append, w_t2, w_t3]
  rfl
set_option maxRecDepth 65536 in
theorem w_case : (Jvm.Cond.and given_1 narrow_1).before args0 about1 = true := by decide +kernel
theorem w_applies : (headSpec (Jvm.Cond.code x code maxLocals ret :: tables_1) room_1).applies x e0.platform about1 = true :=
  (Spec.applies_iff w_frames).mpr ⟨w_running, w_runnable, w_alone, w_named, w_hears, w_ripe, w_room, w_tables⟩
theorem atStart : AtStart classFile x code maxLocals ret World_1 tables_1 room_1 Calls_1 rest_1 Pre_1 launch0 p0 e0 about1 theMethod args0 below0 :=
  ⟨lists_1, trivial, launch0.admits_env _ _ _, launch0.least_env, fairChoices_fair.cas, fairChoices_fair.clock, w_frames, w_args, w_heap, w_applies, trivial, trivial, w_case⟩
end start1
theorem witness_1 : WitnessClaimed_1 := ⟨start1.p0, start1.e0, start1.about1, start1.theMethod, start1.args0, start1.below0, start1.atStart⟩
end Jvm.Pilot.@@N@@
