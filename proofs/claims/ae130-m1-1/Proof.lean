import JvmDerived
import JvmDerived.Pilot.@@N@@Statement
import JvmDerived.Pilot.@@N@@Code
set_option linter.unusedVariables false
set_option linter.unusedSimpArgs false
namespace Jvm.Pilot.@@N@@
open Jvm Jvm.ClassFile Sem Op Lib Jvm.Free Jvm.Free.Fl Jvm.Stand Jvm.LawKit Jvm.RoadKit Bundle Jvm.Pilot.@@N@@.Jvm.D
section own_go
/-- where the walk stands, with the two facts that every step asks -/
def Ax (p : Program) (l : Launch) (e : Env) (R : Room) (s : State) (m : MethodId) (args : Array Value) (below : List Frame) (meth : Method) (c : Code) (T : State) (locs : List Loc) (cells slots : Nat) (B : ByteArray) : Prop := Stand p l e R s m args below meth c T locs cells slots ∧ p.tables.exec = Jvm.exec ∧ c.code = B
/-- from this frame the run ends, and P holds of its end -/
def Go (p : Program) (e : Env) (below : List Frame) (P : State → Outcome → Prop) (T : State) (g : JFrame) : Prop := ∃ U o, Steps p.tables e below (T.setTop g) U ∧ U.status = .running ∧ Ended U below o ∧ P U o
variable {p : Program} {l : Launch} {e : Env} {R : Room} {s : State} {m : MethodId} {args : Array Value} {below : List Frame} {meth : Method} {c : Code} {T : State} {locs : List Loc} {cells slots : Nat} {P : State → Outcome → Prop} {B : ByteArray} {pc pc' : Nat} {ls ls' : Array Slot} {st : List Value}
theorem Go.of {T' : State} {g g' : JFrame} (k : ∀ t, Steps p.tables e below (T'.setTop g') t → Steps p.tables e below (T.setTop g) t) (h : Go p e below P T' g') : Go p e below P T g := by
  obtain ⟨U, o, h1, h2⟩ := h
  exact ⟨U, o, k _ h1, h2⟩
theorem Go.tr {T' : State} {g g' : JFrame} (k : Steps p.tables e below (T.setTop g) (T'.setTop g')) (h : Go p e below P T' g') : Go p e below P T g := Go.of (fun _ h => k.trans h) h
theorem Go.cast {g g' : JFrame} (q : g = g') (h : Go p e below P T g') : Go p e below P T g := q ▸ h

theorem g_iadd (A : Ax p l e R s m args below meth c T locs cells slots B) {x : Int32} {y : Int32} (hd : decode B pc = .ok (.iadd, 1)) (hp : pc + 1 = pc') (k : Go p e below P T (mkF m pc' ls (.int (x + y) :: st))) : Go p e below P T (mkF m pc ls (.int y :: .int x :: st)) := by
  subst hp; exact Go.of (fun _ k' => XS.iadd A.1.here A.2.1 rfl (hb A.2.2 hd) rfl k') k
theorem g_isub (A : Ax p l e R s m args below meth c T locs cells slots B) {x : Int32} {y : Int32} (hd : decode B pc = .ok (.isub, 1)) (hp : pc + 1 = pc') (k : Go p e below P T (mkF m pc' ls (.int (x - y) :: st))) : Go p e below P T (mkF m pc ls (.int y :: .int x :: st)) := by
  subst hp; exact Go.of (fun _ k' => XS.isub A.1.here A.2.1 rfl (hb A.2.2 hd) rfl k') k
theorem g_iand (A : Ax p l e R s m args below meth c T locs cells slots B) {x : Int32} {y : Int32} (hd : decode B pc = .ok (.iand, 1)) (hp : pc + 1 = pc') (k : Go p e below P T (mkF m pc' ls (.int (x &&& y) :: st))) : Go p e below P T (mkF m pc ls (.int y :: .int x :: st)) := by
  subst hp; exact Go.of (fun _ k' => XS.iand A.1.here A.2.1 rfl (hb A.2.2 hd) rfl k') k
theorem g_imul (A : Ax p l e R s m args below meth c T locs cells slots B) {x : Int32} {y : Int32} (hd : decode B pc = .ok (.imul, 1)) (hp : pc + 1 = pc') (k : Go p e below P T (mkF m pc' ls (.int (x * y) :: st))) : Go p e below P T (mkF m pc ls (.int y :: .int x :: st)) := by
  subst hp; exact Go.of (fun _ k' => XS.imul A.1.here A.2.1 rfl (hb A.2.2 hd) rfl k') k
theorem g_ixor (A : Ax p l e R s m args below meth c T locs cells slots B) {x : Int32} {y : Int32} (hd : decode B pc = .ok (.ixor, 1)) (hp : pc + 1 = pc') (k : Go p e below P T (mkF m pc' ls (.int (x ^^^ y) :: st))) : Go p e below P T (mkF m pc ls (.int y :: .int x :: st)) := by
  subst hp; exact Go.of (fun _ k' => XT.ixor A.1.here A.2.1 rfl (hb A.2.2 hd) rfl k') k
theorem g_ior (A : Ax p l e R s m args below meth c T locs cells slots B) {x : Int32} {y : Int32} (hd : decode B pc = .ok (.ior, 1)) (hp : pc + 1 = pc') (k : Go p e below P T (mkF m pc' ls (.int (x ||| y) :: st))) : Go p e below P T (mkF m pc ls (.int y :: .int x :: st)) := by
  subst hp; exact Go.of (fun _ k' => XT.ior A.1.here A.2.1 rfl (hb A.2.2 hd) rfl k') k
theorem g_ishl (A : Ax p l e R s m args below meth c T locs cells slots B) {x : Int32} {y : Int32} (hd : decode B pc = .ok (.ishl, 1)) (hp : pc + 1 = pc') (k : Go p e below P T (mkF m pc' ls (.int (x <<< (y &&& 31)) :: st))) : Go p e below P T (mkF m pc ls (.int y :: .int x :: st)) := by
  subst hp; exact Go.of (fun _ k' => XT.ishl A.1.here A.2.1 rfl (hb A.2.2 hd) rfl k') k
theorem g_ishr (A : Ax p l e R s m args below meth c T locs cells slots B) {x : Int32} {y : Int32} (hd : decode B pc = .ok (.ishr, 1)) (hp : pc + 1 = pc') (k : Go p e below P T (mkF m pc' ls (.int (x >>> (y &&& 31)) :: st))) : Go p e below P T (mkF m pc ls (.int y :: .int x :: st)) := by
  subst hp; exact Go.of (fun _ k' => XT.ishr A.1.here A.2.1 rfl (hb A.2.2 hd) rfl k') k
theorem g_iushr (A : Ax p l e R s m args below meth c T locs cells slots B) {x : Int32} {y : Int32} (hd : decode B pc = .ok (.iushr, 1)) (hp : pc + 1 = pc') (k : Go p e below P T (mkF m pc' ls (.int (XT.ushr x y) :: st))) : Go p e below P T (mkF m pc ls (.int y :: .int x :: st)) := by
  subst hp; exact Go.of (fun _ k' => XT.iushr A.1.here A.2.1 rfl (hb A.2.2 hd) rfl k') k
theorem g_idiv (A : Ax p l e R s m args below meth c T locs cells slots B) {x : Int32} {y : Int32} (hd : decode B pc = .ok (.idiv, 1)) (hy : y ≠ 0) (hp : pc + 1 = pc') (k : Go p e below P T (mkF m pc' ls (.int (x / y) :: st))) : Go p e below P T (mkF m pc ls (.int y :: .int x :: st)) := by
  subst hp; exact Go.of (fun _ k' => XS.idiv A.1.here A.2.1 rfl (hb A.2.2 hd) rfl hy k') k
theorem g_ladd (A : Ax p l e R s m args below meth c T locs cells slots B) {x : Int64} {y : Int64} (hd : decode B pc = .ok (.ladd, 1)) (hp : pc + 1 = pc') (k : Go p e below P T (mkF m pc' ls (.long (x + y) :: st))) : Go p e below P T (mkF m pc ls (.long y :: .long x :: st)) := by
  subst hp; exact Go.of (fun _ k' => XT.ladd A.1.here A.2.1 rfl (hb A.2.2 hd) rfl k') k
theorem g_lsub (A : Ax p l e R s m args below meth c T locs cells slots B) {x : Int64} {y : Int64} (hd : decode B pc = .ok (.lsub, 1)) (hp : pc + 1 = pc') (k : Go p e below P T (mkF m pc' ls (.long (x - y) :: st))) : Go p e below P T (mkF m pc ls (.long y :: .long x :: st)) := by
  subst hp; exact Go.of (fun _ k' => XT.lsub A.1.here A.2.1 rfl (hb A.2.2 hd) rfl k') k
theorem g_lmul (A : Ax p l e R s m args below meth c T locs cells slots B) {x : Int64} {y : Int64} (hd : decode B pc = .ok (.lmul, 1)) (hp : pc + 1 = pc') (k : Go p e below P T (mkF m pc' ls (.long (x * y) :: st))) : Go p e below P T (mkF m pc ls (.long y :: .long x :: st)) := by
  subst hp; exact Go.of (fun _ k' => XT.lmul A.1.here A.2.1 rfl (hb A.2.2 hd) rfl k') k
theorem g_land (A : Ax p l e R s m args below meth c T locs cells slots B) {x : Int64} {y : Int64} (hd : decode B pc = .ok (.land, 1)) (hp : pc + 1 = pc') (k : Go p e below P T (mkF m pc' ls (.long (x &&& y) :: st))) : Go p e below P T (mkF m pc ls (.long y :: .long x :: st)) := by
  subst hp; exact Go.of (fun _ k' => XT.land A.1.here A.2.1 rfl (hb A.2.2 hd) rfl k') k
theorem g_lor (A : Ax p l e R s m args below meth c T locs cells slots B) {x : Int64} {y : Int64} (hd : decode B pc = .ok (.lor, 1)) (hp : pc + 1 = pc') (k : Go p e below P T (mkF m pc' ls (.long (x ||| y) :: st))) : Go p e below P T (mkF m pc ls (.long y :: .long x :: st)) := by
  subst hp; exact Go.of (fun _ k' => XT.lor A.1.here A.2.1 rfl (hb A.2.2 hd) rfl k') k
theorem g_lxor (A : Ax p l e R s m args below meth c T locs cells slots B) {x : Int64} {y : Int64} (hd : decode B pc = .ok (.lxor, 1)) (hp : pc + 1 = pc') (k : Go p e below P T (mkF m pc' ls (.long (x ^^^ y) :: st))) : Go p e below P T (mkF m pc ls (.long y :: .long x :: st)) := by
  subst hp; exact Go.of (fun _ k' => XT.lxor A.1.here A.2.1 rfl (hb A.2.2 hd) rfl k') k
theorem g_lshl (A : Ax p l e R s m args below meth c T locs cells slots B) {x : Int64} {y : Int32} (hd : decode B pc = .ok (.lshl, 1)) (hp : pc + 1 = pc') (k : Go p e below P T (mkF m pc' ls (.long (x <<< (y.toInt64 &&& 63)) :: st))) : Go p e below P T (mkF m pc ls (.int y :: .long x :: st)) := by
  subst hp; exact Go.of (fun _ k' => XT.lshl A.1.here A.2.1 rfl (hb A.2.2 hd) rfl k') k
theorem g_lshr (A : Ax p l e R s m args below meth c T locs cells slots B) {x : Int64} {y : Int32} (hd : decode B pc = .ok (.lshr, 1)) (hp : pc + 1 = pc') (k : Go p e below P T (mkF m pc' ls (.long (x >>> (y.toInt64 &&& 63)) :: st))) : Go p e below P T (mkF m pc ls (.int y :: .long x :: st)) := by
  subst hp; exact Go.of (fun _ k' => XT.lshr A.1.here A.2.1 rfl (hb A.2.2 hd) rfl k') k
theorem g_lushr (A : Ax p l e R s m args below meth c T locs cells slots B) {x : Int64} {y : Int32} (hd : decode B pc = .ok (.lushr, 1)) (hp : pc + 1 = pc') (k : Go p e below P T (mkF m pc' ls (.long (XT.ushrL x y) :: st))) : Go p e below P T (mkF m pc ls (.int y :: .long x :: st)) := by
  subst hp; exact Go.of (fun _ k' => XT.lushr A.1.here A.2.1 rfl (hb A.2.2 hd) rfl k') k
theorem g_ldiv (A : Ax p l e R s m args below meth c T locs cells slots B) {x : Int64} {y : Int64} (hd : decode B pc = .ok (.ldiv, 1)) (hy : y ≠ 0) (hp : pc + 1 = pc') (k : Go p e below P T (mkF m pc' ls (.long (x / y) :: st))) : Go p e below P T (mkF m pc ls (.long y :: .long x :: st)) := by
  subst hp; exact Go.of (fun _ k' => XT.ldiv A.1.here A.2.1 rfl (hb A.2.2 hd) rfl hy k') k
theorem g_lrem (A : Ax p l e R s m args below meth c T locs cells slots B) {x y : Int64} (hd : decode B pc = .ok (.lrem, 1)) (hy : y ≠ 0) (hp : pc + 1 = pc') (k : Go p e below P T (mkF m pc' ls (.long (x % y) :: st))) : Go p e below P T (mkF m pc ls (.long y :: .long x :: st)) := by
  subst hp; rw [← lrem_mod] at k; exact Go.of (fun _ k' => XT.lrem A.1.here A.2.1 rfl (hb A.2.2 hd) rfl hy k') k
theorem g_i2s (A : Ax p l e R s m args below meth c T locs cells slots B) {x : Int32} (hd : decode B pc = .ok (.i2s, 1)) (hp : pc + 1 = pc') (k : Go p e below P T (mkF m pc' ls (.int (x.toInt16.toInt32) :: st))) : Go p e below P T (mkF m pc ls (.int x :: st)) := by
  subst hp; exact Go.of (fun _ k' => XT.i2s A.1.here A.2.1 rfl (hb A.2.2 hd) rfl k') k
theorem g_i2b (A : Ax p l e R s m args below meth c T locs cells slots B) {x : Int32} (hd : decode B pc = .ok (.i2b, 1)) (hp : pc + 1 = pc') (k : Go p e below P T (mkF m pc' ls (.int (x.toInt8.toInt32) :: st))) : Go p e below P T (mkF m pc ls (.int x :: st)) := by
  subst hp; exact Go.of (fun _ k' => XT.i2b A.1.here A.2.1 rfl (hb A.2.2 hd) rfl k') k
theorem g_i2c (A : Ax p l e R s m args below meth c T locs cells slots B) {x : Int32} (hd : decode B pc = .ok (.i2c, 1)) (hp : pc + 1 = pc') (k : Go p e below P T (mkF m pc' ls (.int (x.toUInt32.toUInt16.toUInt32.toInt32) :: st))) : Go p e below P T (mkF m pc ls (.int x :: st)) := by
  subst hp; exact Go.of (fun _ k' => XT.i2c A.1.here A.2.1 rfl (hb A.2.2 hd) rfl k') k
theorem g_ineg (A : Ax p l e R s m args below meth c T locs cells slots B) {x : Int32} (hd : decode B pc = .ok (.ineg, 1)) (hp : pc + 1 = pc') (k : Go p e below P T (mkF m pc' ls (.int (-x) :: st))) : Go p e below P T (mkF m pc ls (.int x :: st)) := by
  subst hp; exact Go.of (fun _ k' => XS.ineg A.1.here A.2.1 rfl (hb A.2.2 hd) rfl k') k
theorem g_lneg (A : Ax p l e R s m args below meth c T locs cells slots B) {x : Int64} (hd : decode B pc = .ok (.lneg, 1)) (hp : pc + 1 = pc') (k : Go p e below P T (mkF m pc' ls (.long (-x) :: st))) : Go p e below P T (mkF m pc ls (.long x :: st)) := by
  subst hp; exact Go.of (fun _ k' => XT.lneg A.1.here A.2.1 rfl (hb A.2.2 hd) rfl k') k
theorem g_i2l (A : Ax p l e R s m args below meth c T locs cells slots B) {x : Int32} (hd : decode B pc = .ok (.i2l, 1)) (hp : pc + 1 = pc') (k : Go p e below P T (mkF m pc' ls (.long (x.toInt64) :: st))) : Go p e below P T (mkF m pc ls (.int x :: st)) := by
  subst hp; exact Go.of (fun _ k' => XT.i2l A.1.here A.2.1 rfl (hb A.2.2 hd) rfl k') k
theorem g_l2i (A : Ax p l e R s m args below meth c T locs cells slots B) {x : Int64} (hd : decode B pc = .ok (.l2i, 1)) (hp : pc + 1 = pc') (k : Go p e below P T (mkF m pc' ls (.int (x.toInt32) :: st))) : Go p e below P T (mkF m pc ls (.long x :: st)) := by
  subst hp; exact Go.of (fun _ k' => XT.l2i A.1.here A.2.1 rfl (hb A.2.2 hd) rfl k') k
theorem g_irem (A : Ax p l e R s m args below meth c T locs cells slots B) {x y : Int32} (hd : decode B pc = .ok (.irem, 1)) (hy : y ≠ 0) (hp : pc + 1 = pc') (k : Go p e below P T (mkF m pc' ls (.int (x % y) :: st))) : Go p e below P T (mkF m pc ls (.int y :: .int x :: st)) := by
  subst hp; exact Go.of (fun _ k' => iremM A.1 A.2.1 rfl (hb A.2.2 hd) rfl hy k') k
theorem g_iloadN (A : Ax p l e R s m args below meth c T locs cells slots B) {k : Fin 4} {v : Int32} (hd : decode B pc = .ok (.iload_n k, 1)) (hl : ls[k.val]? = some (.val (.int v))) (hp : pc + 1 = pc') (k : Go p e below P T (mkF m pc' ls (.int v :: st))) : Go p e below P T (mkF m pc ls st) := by
  subst hp; exact Go.of (fun _ k' => XS.iloadN A.1.here A.2.1 rfl (hb A.2.2 hd) hl k') k
theorem g_iload (A : Ax p l e R s m args below meth c T locs cells slots B) {k : Nat} {v : Int32} (hd : decode B pc = .ok (.iload k, 2)) (hl : ls[k]? = some (.val (.int v))) (hp : pc + 2 = pc') (k : Go p e below P T (mkF m pc' ls (.int v :: st))) : Go p e below P T (mkF m pc ls st) := by
  subst hp; exact Go.of (fun _ k' => XS.iload A.1.here A.2.1 rfl (hb A.2.2 hd) hl k') k
theorem g_lloadN (A : Ax p l e R s m args below meth c T locs cells slots B) {k : Fin 4} {v : Int64} (hd : decode B pc = .ok (.lload_n k, 1)) (hl : ls[k.val]? = some (.val (.long v))) (hp : pc + 1 = pc') (k : Go p e below P T (mkF m pc' ls (.long v :: st))) : Go p e below P T (mkF m pc ls st) := by
  subst hp; exact Go.of (fun _ k' => XT.lloadN A.1.here A.2.1 rfl (hb A.2.2 hd) hl k') k
theorem g_lload (A : Ax p l e R s m args below meth c T locs cells slots B) {k : Nat} {v : Int64} (hd : decode B pc = .ok (.lload k, 2)) (hl : ls[k]? = some (.val (.long v))) (hp : pc + 2 = pc') (k : Go p e below P T (mkF m pc' ls (.long v :: st))) : Go p e below P T (mkF m pc ls st) := by
  subst hp; exact Go.of (fun _ k' => XT.lload A.1.here A.2.1 rfl (hb A.2.2 hd) hl k') k
theorem g_aloadN (A : Ax p l e R s m args below meth c T locs cells slots B) {k : Fin 4} {v : Value} (hd : decode B pc = .ok (.aload_n k, 1)) (hl : ls[k.val]? = some (.val v)) (hv : v.isRef = true) (hp : pc + 1 = pc') (k : Go p e below P T (mkF m pc' ls (v :: st))) : Go p e below P T (mkF m pc ls st) := by
  subst hp; exact Go.of (fun _ k' => XS.aloadN A.1.here A.2.1 rfl (hb A.2.2 hd) hl hv k') k
theorem g_aload (A : Ax p l e R s m args below meth c T locs cells slots B) {k : Nat} {v : Value} (hd : decode B pc = .ok (.aload k, 2)) (hl : ls[k]? = some (.val v)) (hv : v.isRef = true) (hp : pc + 2 = pc') (k : Go p e below P T (mkF m pc' ls (v :: st))) : Go p e below P T (mkF m pc ls st) := by
  subst hp; exact Go.of (fun _ k' => XS.aload A.1.here A.2.1 rfl (hb A.2.2 hd) hl hv k') k
theorem g_dloadN (A : Ax p l e R s m args below meth c T locs cells slots B) {k : Fin 4} {v : UInt64} (hd : decode B pc = .ok (.dload_n k, 1)) (hl : ls[k.val]? = some (.val (.double v))) (hp : pc + 1 = pc') (k : Go p e below P T (mkF m pc' ls (.double v :: st))) : Go p e below P T (mkF m pc ls st) := by
  subst hp
  refine Go.of (fun t k' => ?_) k
  have h := A.1.here
  have hx := A.2.1
  have hd' := hb A.2.2 hd
  show Steps p.tables e below (T.setTop { method := m, pc := pc, locals := ls, stack := st, locked := none }) _
  jvm_step h [h.top, hx, hd', hl]
  exact k'
theorem g_dload (A : Ax p l e R s m args below meth c T locs cells slots B) {k : Nat} {v : UInt64} (hd : decode B pc = .ok (.dload k, 2)) (hl : ls[k]? = some (.val (.double v))) (hp : pc + 2 = pc') (k : Go p e below P T (mkF m pc' ls (.double v :: st))) : Go p e below P T (mkF m pc ls st) := by
  subst hp
  refine Go.of (fun t k' => ?_) k
  have h := A.1.here
  have hx := A.2.1
  have hd' := hb A.2.2 hd
  show Steps p.tables e below (T.setTop { method := m, pc := pc, locals := ls, stack := st, locked := none }) _
  jvm_step h [h.top, hx, hd', hl]
  exact k'
theorem g_istoreN (A : Ax p l e R s m args below meth c T locs cells slots B) {k : Fin 4} {x : Int32} (hd : decode B pc = .ok (.istore_n k, 1)) (hl : storeLocals ls k.val (.int x) = some ls') (hp : pc + 1 = pc') (k : Go p e below P T (mkF m pc' ls' st)) : Go p e below P T (mkF m pc ls (.int x :: st)) := by
  subst hp; exact Go.of (fun _ k' => XS.istoreN A.1.here A.2.1 rfl (hb A.2.2 hd) rfl hl k') k
theorem g_istore (A : Ax p l e R s m args below meth c T locs cells slots B) {k : Nat} {x : Int32} (hd : decode B pc = .ok (.istore k, 2)) (hl : storeLocals ls k (.int x) = some ls') (hp : pc + 2 = pc') (k : Go p e below P T (mkF m pc' ls' st)) : Go p e below P T (mkF m pc ls (.int x :: st)) := by
  subst hp; exact Go.of (fun _ k' => XS.istore A.1.here A.2.1 rfl (hb A.2.2 hd) rfl hl k') k
theorem g_lstoreN (A : Ax p l e R s m args below meth c T locs cells slots B) {k : Fin 4} {x : Int64} (hd : decode B pc = .ok (.lstore_n k, 1)) (hl : storeLocals ls k.val (.long x) = some ls') (hp : pc + 1 = pc') (k : Go p e below P T (mkF m pc' ls' st)) : Go p e below P T (mkF m pc ls (.long x :: st)) := by
  subst hp; exact Go.of (fun _ k' => XT.lstoreN A.1.here A.2.1 rfl (hb A.2.2 hd) rfl hl k') k
theorem g_lstore (A : Ax p l e R s m args below meth c T locs cells slots B) {k : Nat} {x : Int64} (hd : decode B pc = .ok (.lstore k, 2)) (hl : storeLocals ls k (.long x) = some ls') (hp : pc + 2 = pc') (k : Go p e below P T (mkF m pc' ls' st)) : Go p e below P T (mkF m pc ls (.long x :: st)) := by
  subst hp; exact Go.of (fun _ k' => XT.lstore A.1.here A.2.1 rfl (hb A.2.2 hd) rfl hl k') k
theorem g_astoreN (A : Ax p l e R s m args below meth c T locs cells slots B) {k : Fin 4} {x : Value} (hd : decode B pc = .ok (.astore_n k, 1)) (hv : x.isRef = true) (hl : storeLocals ls k.val x = some ls') (hp : pc + 1 = pc') (k : Go p e below P T (mkF m pc' ls' st)) : Go p e below P T (mkF m pc ls (x :: st)) := by
  subst hp; exact Go.of (fun _ k' => XS.astoreN A.1.here A.2.1 rfl (hb A.2.2 hd) rfl hv hl k') k
theorem g_astore (A : Ax p l e R s m args below meth c T locs cells slots B) {k : Nat} {x : Value} (hd : decode B pc = .ok (.astore k, 2)) (hv : x.isRef = true) (hl : storeLocals ls k x = some ls') (hp : pc + 2 = pc') (k : Go p e below P T (mkF m pc' ls' st)) : Go p e below P T (mkF m pc ls (x :: st)) := by
  subst hp; exact Go.of (fun _ k' => XS.astore A.1.here A.2.1 rfl (hb A.2.2 hd) rfl hv hl k') k
theorem g_dstoreN (A : Ax p l e R s m args below meth c T locs cells slots B) {k : Fin 4} {x : UInt64} (hd : decode B pc = .ok (.dstore_n k, 1)) (hl : storeLocals ls k.val (.double x) = some ls') (hp : pc + 1 = pc') (k : Go p e below P T (mkF m pc' ls' st)) : Go p e below P T (mkF m pc ls (.double x :: st)) := by
  subst hp
  refine Go.of (fun t k' => ?_) k
  have h := A.1.here
  have hx := A.2.1
  have hd' := hb A.2.2 hd
  show Steps p.tables e below (T.setTop { method := m, pc := pc, locals := ls, stack := .double x :: st, locked := none }) _
  jvm_step h [h.top, hx, hd']
  exact ⟨ls', hl, k'⟩
theorem g_dstore (A : Ax p l e R s m args below meth c T locs cells slots B) {k : Nat} {x : UInt64} (hd : decode B pc = .ok (.dstore k, 2)) (hl : storeLocals ls k (.double x) = some ls') (hp : pc + 2 = pc') (k : Go p e below P T (mkF m pc' ls' st)) : Go p e below P T (mkF m pc ls (.double x :: st)) := by
  subst hp
  refine Go.of (fun t k' => ?_) k
  have h := A.1.here
  have hx := A.2.1
  have hd' := hb A.2.2 hd
  show Steps p.tables e below (T.setTop { method := m, pc := pc, locals := ls, stack := .double x :: st, locked := none }) _
  jvm_step h [h.top, hx, hd']
  exact ⟨ls', hl, k'⟩
theorem g_iconst (A : Ax p l e R s m args below meth c T locs cells slots B) {i : Int} {v : Int32} (hd : decode B pc = .ok (.iconst i, 1)) (hv : Int32.ofInt i = v) (hp : pc + 1 = pc') (k : Go p e below P T (mkF m pc' ls (.int v :: st))) : Go p e below P T (mkF m pc ls st) := by
  subst hp hv; exact Go.of (fun _ k' => XS.iconst A.1.here A.2.1 rfl (hb A.2.2 hd) k') k
theorem g_bipush (A : Ax p l e R s m args below meth c T locs cells slots B) {i : Int} {v : Int32} (hd : decode B pc = .ok (.bipush i, 2)) (hv : (Int8.ofInt i).toInt32 = v) (hp : pc + 2 = pc') (k : Go p e below P T (mkF m pc' ls (.int v :: st))) : Go p e below P T (mkF m pc ls st) := by
  subst hp hv; exact Go.of (fun _ k' => XS.bipush A.1.here A.2.1 rfl (hb A.2.2 hd) k') k
theorem g_sipush (A : Ax p l e R s m args below meth c T locs cells slots B) {i : Int} {v : Int32} (hd : decode B pc = .ok (.sipush i, 3)) (hv : (Int16.ofInt i).toInt32 = v) (hp : pc + 3 = pc') (k : Go p e below P T (mkF m pc' ls (.int v :: st))) : Go p e below P T (mkF m pc ls st) := by
  subst hp hv; exact Go.of (fun _ k' => XS.sipush A.1.here A.2.1 rfl (hb A.2.2 hd) k') k
theorem g_aconst (A : Ax p l e R s m args below meth c T locs cells slots B) (hd : decode B pc = .ok (.aconst_null, 1)) (hp : pc + 1 = pc') (k : Go p e below P T (mkF m pc' ls (.null :: st))) : Go p e below P T (mkF m pc ls st) := by
  subst hp; exact Go.of (fun _ k' => XS.aconstNull A.1.here A.2.1 rfl (hb A.2.2 hd) k') k
theorem g_lconst (A : Ax p l e R s m args below meth c T locs cells slots B) {i : Fin 2} {v : Int64} (hd : decode B pc = .ok (.lconst i, 1)) (hv : Int64.ofNat i = v) (hp : pc + 1 = pc') (k : Go p e below P T (mkF m pc' ls (.long v :: st))) : Go p e below P T (mkF m pc ls st) := by
  subst hp hv; exact Go.of (fun _ k' => XT.lconst A.1.here A.2.1 rfl (hb A.2.2 hd) k') k
theorem g_dconst0 (A : Ax p l e R s m args below meth c T locs cells slots B) (hd : decode B pc = .ok (.dconst 0, 1)) (hp : pc + 1 = pc') (k : Go p e below P T (mkF m pc' ls (.double (0 : UInt64) :: st))) : Go p e below P T (mkF m pc ls st) := by
  subst hp
  refine Go.of (fun t k' => ?_) k
  have h := A.1.here
  have hx := A.2.1
  have hd' := hb A.2.2 hd
  show Steps p.tables e below (T.setTop { method := m, pc := pc, locals := ls, stack := st, locked := none }) _
  jvm_step h [h.top, hx, hd']
  exact k'
theorem g_dconst1 (A : Ax p l e R s m args below meth c T locs cells slots B) (hd : decode B pc = .ok (.dconst 1, 1)) (hp : pc + 1 = pc') (k : Go p e below P T (mkF m pc' ls (.double (4607182418800017408 : UInt64) :: st))) : Go p e below P T (mkF m pc ls st) := by
  subst hp
  refine Go.of (fun t k' => ?_) k
  have h := A.1.here
  have hx := A.2.1
  have hd' := hb A.2.2 hd
  show Steps p.tables e below (T.setTop { method := m, pc := pc, locals := ls, stack := st, locked := none }) _
  jvm_step h [h.top, hx, hd']
  exact k'
theorem g_dadd (A : Ax p l e R s m args below meth c T locs cells slots B) {x y : UInt64} (hd : decode B pc = .ok (.dadd, 1)) (hn : NoNaN64 (FP.dadd x y)) (hp : pc + 1 = pc') (k : Go p e below P T (mkF m pc' ls (.double (FP.dadd x y) :: st))) : Go p e below P T (mkF m pc ls (.double y :: .double x :: st)) := by
  subst hp
  refine Go.of (fun t k' => ?_) k
  have h := A.1.here
  have hx := A.2.1
  have hd' := hb A.2.2 hd
  show Steps p.tables e below (T.setTop { method := m, pc := pc, locals := ls, stack := .double y :: .double x :: st, locked := none }) _
  jvm_step h [h.top, hx, hd', Op.dadd.at_number h.top hn]
  exact k'
theorem g_dsub (A : Ax p l e R s m args below meth c T locs cells slots B) {x y : UInt64} (hd : decode B pc = .ok (.dsub, 1)) (hn : NoNaN64 (FP.dsub x y)) (hp : pc + 1 = pc') (k : Go p e below P T (mkF m pc' ls (.double (FP.dsub x y) :: st))) : Go p e below P T (mkF m pc ls (.double y :: .double x :: st)) := by
  subst hp
  refine Go.of (fun t k' => ?_) k
  have h := A.1.here
  have hx := A.2.1
  have hd' := hb A.2.2 hd
  show Steps p.tables e below (T.setTop { method := m, pc := pc, locals := ls, stack := .double y :: .double x :: st, locked := none }) _
  jvm_step h [h.top, hx, hd', Op.dsub.at_number h.top hn]
  exact k'
theorem g_dmul (A : Ax p l e R s m args below meth c T locs cells slots B) {x y : UInt64} (hd : decode B pc = .ok (.dmul, 1)) (hn : NoNaN64 (FP.dmul x y)) (hp : pc + 1 = pc') (k : Go p e below P T (mkF m pc' ls (.double (FP.dmul x y) :: st))) : Go p e below P T (mkF m pc ls (.double y :: .double x :: st)) := by
  subst hp
  refine Go.of (fun t k' => ?_) k
  have h := A.1.here
  have hx := A.2.1
  have hd' := hb A.2.2 hd
  show Steps p.tables e below (T.setTop { method := m, pc := pc, locals := ls, stack := .double y :: .double x :: st, locked := none }) _
  jvm_step h [h.top, hx, hd', Op.dmul.at_number h.top hn]
  exact k'
theorem g_ddiv (A : Ax p l e R s m args below meth c T locs cells slots B) {x y : UInt64} (hd : decode B pc = .ok (.ddiv, 1)) (hn : NoNaN64 (FP.ddiv x y)) (hp : pc + 1 = pc') (k : Go p e below P T (mkF m pc' ls (.double (FP.ddiv x y) :: st))) : Go p e below P T (mkF m pc ls (.double y :: .double x :: st)) := by
  subst hp
  refine Go.of (fun t k' => ?_) k
  have h := A.1.here
  have hx := A.2.1
  have hd' := hb A.2.2 hd
  show Steps p.tables e below (T.setTop { method := m, pc := pc, locals := ls, stack := .double y :: .double x :: st, locked := none }) _
  jvm_step h [h.top, hx, hd', Op.ddiv.at_number h.top hn]
  exact k'
theorem g_dneg (A : Ax p l e R s m args below meth c T locs cells slots B) {x : UInt64} (hd : decode B pc = .ok (.dneg, 1)) (hp : pc + 1 = pc') (k : Go p e below P T (mkF m pc' ls (.double (FP.dneg x) :: st))) : Go p e below P T (mkF m pc ls (.double x :: st)) := by
  subst hp
  refine Go.of (fun t k' => ?_) k
  have h := A.1.here
  have hx := A.2.1
  have hd' := hb A.2.2 hd
  show Steps p.tables e below (T.setTop { method := m, pc := pc, locals := ls, stack := .double x :: st, locked := none }) _
  jvm_step h [h.top, hx, hd']
  exact k'
theorem g_i2d (A : Ax p l e R s m args below meth c T locs cells slots B) {x : Int32} (hd : decode B pc = .ok (.i2d, 1)) (hp : pc + 1 = pc') (k : Go p e below P T (mkF m pc' ls (.double (FP.i2d x) :: st))) : Go p e below P T (mkF m pc ls (.int x :: st)) := by
  subst hp
  refine Go.of (fun t k' => ?_) k
  have h := A.1.here
  have hx := A.2.1
  have hd' := hb A.2.2 hd
  show Steps p.tables e below (T.setTop { method := m, pc := pc, locals := ls, stack := .int x :: st, locked := none }) _
  jvm_step h [h.top, hx, hd']
  exact k'
theorem g_l2d (A : Ax p l e R s m args below meth c T locs cells slots B) {x : Int64} (hd : decode B pc = .ok (.l2d, 1)) (hp : pc + 1 = pc') (k : Go p e below P T (mkF m pc' ls (.double (FP.l2d x) :: st))) : Go p e below P T (mkF m pc ls (.long x :: st)) := by
  subst hp
  refine Go.of (fun t k' => ?_) k
  have h := A.1.here
  have hx := A.2.1
  have hd' := hb A.2.2 hd
  show Steps p.tables e below (T.setTop { method := m, pc := pc, locals := ls, stack := .long x :: st, locked := none }) _
  jvm_step h [h.top, hx, hd']
  exact k'
theorem g_dcmp (A : Ax p l e R s m args below meth c T locs cells slots B) {x y : UInt64} {op : CmpOp} (hd : decode B pc = .ok (.dcmp op, 1)) (hp : pc + 1 = pc') (k : Go p e below P T (mkF m pc' ls (.int (cmpValue (FP.dcmp x y) op) :: st))) : Go p e below P T (mkF m pc ls (.double y :: .double x :: st)) := by
  subst hp
  refine Go.of (fun t k' => ?_) k
  have h := A.1.here
  have hx := A.2.1
  have hd' := hb A.2.2 hd
  show Steps p.tables e below (T.setTop { method := m, pc := pc, locals := ls, stack := .double y :: .double x :: st, locked := none }) _
  jvm_step h [h.top, hx, hd']
  exact k'
theorem g_lcmp (A : Ax p l e R s m args below meth c T locs cells slots B) {x y : Int64} (hd : decode B pc = .ok (.lcmp, 1)) (hp : pc + 1 = pc') (k : Go p e below P T (mkF m pc' ls (.int (XT.cmpL x y) :: st))) : Go p e below P T (mkF m pc ls (.long y :: .long x :: st)) := by
  subst hp; exact Go.of (fun _ k' => XT.lcmp A.1.here A.2.1 rfl (hb A.2.2 hd) rfl k') k
theorem g_dup (A : Ax p l e R s m args below meth c T locs cells slots B) {x : Value} (hd : decode B pc = .ok (.dup, 1)) (hc : x.category = 1) (hp : pc + 1 = pc') (k : Go p e below P T (mkF m pc' ls (x :: x :: st))) : Go p e below P T (mkF m pc ls (x :: st)) := by
  subst hp; exact Go.of (fun _ k' => XS.dup A.1.here A.2.1 rfl (hb A.2.2 hd) rfl hc k') k
theorem g_pop (A : Ax p l e R s m args below meth c T locs cells slots B) {x : Value} (hd : decode B pc = .ok (.pop, 1)) (hc : x.category = 1) (hp : pc + 1 = pc') (k : Go p e below P T (mkF m pc' ls st)) : Go p e below P T (mkF m pc ls (x :: st)) := by
  subst hp; exact Go.of (fun _ k' => XT.pop A.1.here A.2.1 rfl (hb A.2.2 hd) rfl hc k') k
theorem g_iinc (A : Ax p l e R s m args below meth c T locs cells slots B) {k : Nat} {i : Int} {x y : Int32} (hd : decode B pc = .ok (.iinc k i, 3)) (hl : ls[k]? = some (.val (.int x))) (hy : x + Int32.ofInt i = y) (hl' : storeLocals ls k (.int y) = some ls') (hp : pc + 3 = pc') (k : Go p e below P T (mkF m pc' ls' st)) : Go p e below P T (mkF m pc ls st) := by
  subst hp hy; exact Go.of (fun _ k' => XS.iinc A.1.here A.2.1 rfl (hb A.2.2 hd) hl hl' k') k
theorem own_off {pc pc' : Nat} {o : Int} (h : (pc : Int) + o = (pc' : Int)) : 0 ≤ (pc : Int) + o ∧ ((pc : Int) + o).toNat = pc' := by omega
theorem g_goto (A : Ax p l e R s m args below meth c T locs cells slots B) {o : Int} (hd : decode B pc = .ok (.goto o, 3)) (hp : (pc : Int) + o = (pc' : Int)) (k : Go p e below P T (mkF m pc' ls st)) : Go p e below P T (mkF m pc ls st) := Go.of (fun _ k' => XS.goto A.1.here A.2.1 rfl rfl (hb A.2.2 hd) (own_off hp).1 (own_off hp).2 k') k
theorem g_ifY (A : Ax p l e R s m args below meth c T locs cells slots B) {o : Int} {cd : ClassFile.Cond} {x : Int32} (hd : decode B pc = .ok (.ifCond cd o, 3)) (hc : ifCond.holds cd x = true) (hp : (pc : Int) + o = (pc' : Int)) (k : Go p e below P T (mkF m pc' ls st)) : Go p e below P T (mkF m pc ls (.int x :: st)) := Go.of (fun _ k' => XS.ifYes A.1.here A.2.1 rfl rfl (hb A.2.2 hd) rfl hc (own_off hp).1 (own_off hp).2 k') k
theorem g_ifN (A : Ax p l e R s m args below meth c T locs cells slots B) {o : Int} {cd : ClassFile.Cond} {x : Int32} (hd : decode B pc = .ok (.ifCond cd o, 3)) (hc : ifCond.holds cd x = false) (hp : pc + 3 = pc') (k : Go p e below P T (mkF m pc' ls st)) : Go p e below P T (mkF m pc ls (.int x :: st)) := by
  subst hp; exact Go.of (fun _ k' => XS.ifNo A.1.here A.2.1 rfl (hb A.2.2 hd) rfl hc k') k
theorem g_icY (A : Ax p l e R s m args below meth c T locs cells slots B) {o : Int} {cd : ClassFile.Cond} {x y : Int32} (hd : decode B pc = .ok (.if_icmp cd o, 3)) (hc : if_icmp.holds cd x y = true) (hp : (pc : Int) + o = (pc' : Int)) (k : Go p e below P T (mkF m pc' ls st)) : Go p e below P T (mkF m pc ls (.int y :: .int x :: st)) := Go.of (fun _ k' => XS.icmpYes A.1.here A.2.1 rfl rfl (hb A.2.2 hd) rfl hc (own_off hp).1 (own_off hp).2 k') k
theorem g_icN (A : Ax p l e R s m args below meth c T locs cells slots B) {o : Int} {cd : ClassFile.Cond} {x y : Int32} (hd : decode B pc = .ok (.if_icmp cd o, 3)) (hc : if_icmp.holds cd x y = false) (hp : pc + 3 = pc') (k : Go p e below P T (mkF m pc' ls st)) : Go p e below P T (mkF m pc ls (.int y :: .int x :: st)) := by
  subst hp; exact Go.of (fun _ k' => XS.icmpNo A.1.here A.2.1 rfl (hb A.2.2 hd) rfl hc k') k
theorem c0_eq_t {x : Int32} (h : x = 0) : ifCond.holds .eq x = true := (if0 _ _).trans (teq h).1
theorem c0_eq_f {x : Int32} (h : ¬ x = 0) : ifCond.holds .eq x = false := (if0 _ _).trans (feq h).1
theorem c0_ne_t {x : Int32} (h : ¬ x = 0) : ifCond.holds .ne x = true := (if0 _ _).trans (feq h).2
theorem c0_ne_f {x : Int32} (h : x = 0) : ifCond.holds .ne x = false := (if0 _ _).trans (teq h).2
theorem c0_lt_t {x : Int32} (h : x < 0) : ifCond.holds .lt x = true := (if0 _ _).trans (tlt h).1
theorem c0_lt_f {x : Int32} (h : ¬ x < 0) : ifCond.holds .lt x = false := (if0 _ _).trans (flt h).1
theorem c0_ge_t {x : Int32} (h : ¬ x < 0) : ifCond.holds .ge x = true := (if0 _ _).trans (flt h).2.1
theorem c0_ge_f {x : Int32} (h : x < 0) : ifCond.holds .ge x = false := (if0 _ _).trans (tlt h).2.1
theorem c0_gt_t {x : Int32} (h : 0 < x) : ifCond.holds .gt x = true := (if0 _ _).trans (tlt h).2.2.1
theorem c0_gt_f {x : Int32} (h : ¬ 0 < x) : ifCond.holds .gt x = false := (if0 _ _).trans (flt h).2.2.1
theorem c0_le_t {x : Int32} (h : ¬ 0 < x) : ifCond.holds .le x = true := (if0 _ _).trans (flt h).2.2.2
theorem c0_le_f {x : Int32} (h : 0 < x) : ifCond.holds .le x = false := (if0 _ _).trans (tlt h).2.2.2
theorem c2_eq_t {x y : Int32} (h : x = y) : if_icmp.holds .eq x y = true := (teq h).1
theorem c2_eq_f {x y : Int32} (h : ¬ x = y) : if_icmp.holds .eq x y = false := (feq h).1
theorem c2_ne_t {x y : Int32} (h : ¬ x = y) : if_icmp.holds .ne x y = true := (feq h).2
theorem c2_ne_f {x y : Int32} (h : x = y) : if_icmp.holds .ne x y = false := (teq h).2
theorem c2_lt_t {x y : Int32} (h : x < y) : if_icmp.holds .lt x y = true := (tlt h).1
theorem c2_lt_f {x y : Int32} (h : ¬ x < y) : if_icmp.holds .lt x y = false := (flt h).1
theorem c2_ge_t {x y : Int32} (h : ¬ x < y) : if_icmp.holds .ge x y = true := (flt h).2.1
theorem c2_ge_f {x y : Int32} (h : x < y) : if_icmp.holds .ge x y = false := (tlt h).2.1
theorem c2_gt_t {x y : Int32} (h : y < x) : if_icmp.holds .gt x y = true := (tlt h).2.2.1
theorem c2_gt_f {x y : Int32} (h : ¬ y < x) : if_icmp.holds .gt x y = false := (flt h).2.2.1
theorem c2_le_t {x y : Int32} (h : ¬ y < x) : if_icmp.holds .le x y = true := (flt h).2.2.2
theorem c2_le_f {x y : Int32} (h : y < x) : if_icmp.holds .le x y = false := (tlt h).2.2.2
theorem b0_eq_t {C : Prop} [Decidable C] {v : Int32} (e : v = if C then 1 else 0) (h : ¬ C) : ifCond.holds .eq v = true := c0_eq_t (by rw [e, if_neg h])
theorem b0_eq_f {C : Prop} [Decidable C] {v : Int32} (e : v = if C then 1 else 0) (h : C) : ifCond.holds .eq v = false := c0_eq_f (by rw [e, if_pos h]; decide)
theorem b0_ne_t {C : Prop} [Decidable C] {v : Int32} (e : v = if C then 1 else 0) (h : C) : ifCond.holds .ne v = true := c0_ne_t (by rw [e, if_pos h]; decide)
theorem b0_ne_f {C : Prop} [Decidable C] {v : Int32} (e : v = if C then 1 else 0) (h : ¬ C) : ifCond.holds .ne v = false := c0_ne_f (by rw [e, if_neg h])
theorem own_b01 {C : Prop} [Decidable C] {v : Int32} (e : v = if C then 1 else 0) : narrow .boolean (.int v) = .int v := by
  subst e; by_cases h : C
  · rw [if_pos h]; rfl
  · rw [if_neg h]; rfl
theorem own_fb {C : Prop} [Decidable C] {v : Int32} (e : v = if C then 1 else 0) : fits .boolean (.int v) = true := by
  subst e; by_cases h : C
  · rw [if_pos h]; rfl
  · rw [if_neg h]; rfl
theorem own_ndadd {x y : UInt64} (h1 : Fin64 x) (h2 : Fin64 y) : NoNaN64 (FP.dadd x y) := dadd_out h1.noNaN h2
theorem own_ndsub {x y : UInt64} (h1 : Fin64 x) (h2 : Fin64 y) : NoNaN64 (FP.dsub x y) := dsub_out h1.noNaN h2
theorem own_ndmul {x y : UInt64} (h1 : Fin64 x) (h2 : Fin64 y) : NoNaN64 (FP.dmul x y) := dmul_out h1 h2
theorem own_fin {x : UInt64} : Fin64 x ↔ FP.Core.DFin x := fin64_core
theorem own_fneg {x : UInt64} (h : Fin64 x) : Fin64 (FP.dneg x) := by
  obtain ⟨s, c, q, e⟩ := fin64_core.mp h
  exact fin64_core.mpr ⟨!s, c, q, (FP.val64_dneg x).trans (by rw [e]; rfl)⟩
theorem own_self {x : UInt64} (h : Fin64 x) : FP.dcmp x x = some .eq := FP.Core.dcmp_self (fin64_core.mp h).ne_nan
theorem own_sgt {x : UInt64} (h : Fin64 x) : ¬ FP.dcmp x x = some .gt := by rw [own_self h]; decide
theorem own_slt {x : UInt64} (h : Fin64 x) : ¬ FP.dcmp x x = some .lt := by rw [own_self h]; decide
theorem own_and {c d : Jvm.Cond} {a : Array Value} {s : State} (h1 : c.before a s = true) (h2 : d.before a s = true) : (Jvm.Cond.and c d).before a s = true := by rw [Cond.before_and, h1, h2]; rfl
theorem own_isfin {x : UInt64} (h : Fin64 x) : some (Value.int (if Jvm.Free.Fl.relLe (FP.dcmp (x &&& 0x7fffffffffffffff) Jvm.Free.Fl.maxD) = true then (1 : Int32) else 0)) = some (.int (1 : Int32)) := by rw [if_pos ((le_max_iff h.noNaN).mpr h)]
theorem own_isinf {x : UInt64} (h : Fin64 x) : some (Value.int (if Jvm.Free.Fl.relGt (FP.dcmp (x &&& 0x7fffffffffffffff) Jvm.Free.Fl.maxD) = true then (1 : Int32) else 0)) = some (.int (0 : Int32)) := by rw [if_neg (fun h4 => (gt_max_iff h.noNaN).mp h4 h)]
theorem own_dfin {i : Int} {x : UInt64} (h : FP.Core.DInt i x) : Fin64 x := by
  refine fin64_core.mpr ?_
  have q : FP.Core.Whole i (FP.Core.val64 x) := h
  cases e : FP.Core.val64 x with
  | nan => rw [e] at q; exact q.elim
  | inf s => rw [e] at q; exact q.elim
  | fin s c q => exact ⟨s, c, q, e⟩
theorem own_fn {v : Int32} (h : narrow .boolean (.int v) = .int v) : fits .boolean (.int v) = true := by
  have q : v &&& 1 = v := Value.int.inj h
  rcases and_one v with z | z <;> rw [z] at q <;> subst q <;> rfl
/-- a double less than, equal to .. another, as the code asks it -/
abbrev oGe (o : Option Ordering) : Prop := o = some .gt ∨ o = some .eq
abbrev oLe (o : Option Ordering) : Prop := o = some .lt ∨ o = some .eq
theorem d_l_eq_t {o : Option Ordering} (h : o = some .eq) : ifCond.holds .eq (cmpValue o .l) = true := by
  rcases o with _ | _ | _ | _ <;> first | rfl | decide | (exfalso; revert h; decide)
theorem d_l_eq_f {o : Option Ordering} (h : ¬ o = some .eq) : ifCond.holds .eq (cmpValue o .l) = false := by
  rcases o with _ | _ | _ | _ <;> first | rfl | decide | (exfalso; revert h; decide)
theorem d_l_ne_t {o : Option Ordering} (h : ¬ o = some .eq) : ifCond.holds .ne (cmpValue o .l) = true := by
  rcases o with _ | _ | _ | _ <;> first | rfl | decide | (exfalso; revert h; decide)
theorem d_l_ne_f {o : Option Ordering} (h : o = some .eq) : ifCond.holds .ne (cmpValue o .l) = false := by
  rcases o with _ | _ | _ | _ <;> first | rfl | decide | (exfalso; revert h; decide)
theorem d_g_eq_t {o : Option Ordering} (h : o = some .eq) : ifCond.holds .eq (cmpValue o .g) = true := by
  rcases o with _ | _ | _ | _ <;> first | rfl | decide | (exfalso; revert h; decide)
theorem d_g_eq_f {o : Option Ordering} (h : ¬ o = some .eq) : ifCond.holds .eq (cmpValue o .g) = false := by
  rcases o with _ | _ | _ | _ <;> first | rfl | decide | (exfalso; revert h; decide)
theorem d_g_ne_t {o : Option Ordering} (h : ¬ o = some .eq) : ifCond.holds .ne (cmpValue o .g) = true := by
  rcases o with _ | _ | _ | _ <;> first | rfl | decide | (exfalso; revert h; decide)
theorem d_g_ne_f {o : Option Ordering} (h : o = some .eq) : ifCond.holds .ne (cmpValue o .g) = false := by
  rcases o with _ | _ | _ | _ <;> first | rfl | decide | (exfalso; revert h; decide)
theorem d_l_lt_t {o : Option Ordering} (h : ¬ oGe o) : ifCond.holds .lt (cmpValue o .l) = true := by
  rcases o with _ | _ | _ | _ <;> first | rfl | decide | (exfalso; revert h; decide)
theorem d_l_lt_f {o : Option Ordering} (h : oGe o) : ifCond.holds .lt (cmpValue o .l) = false := by
  rcases o with _ | _ | _ | _ <;> first | rfl | decide | (exfalso; revert h; decide)
theorem d_l_ge_t {o : Option Ordering} (h : oGe o) : ifCond.holds .ge (cmpValue o .l) = true := by
  rcases o with _ | _ | _ | _ <;> first | rfl | decide | (exfalso; revert h; decide)
theorem d_l_ge_f {o : Option Ordering} (h : ¬ oGe o) : ifCond.holds .ge (cmpValue o .l) = false := by
  rcases o with _ | _ | _ | _ <;> first | rfl | decide | (exfalso; revert h; decide)
theorem d_l_gt_t {o : Option Ordering} (h : o = some .gt) : ifCond.holds .gt (cmpValue o .l) = true := by
  rcases o with _ | _ | _ | _ <;> first | rfl | decide | (exfalso; revert h; decide)
theorem d_l_gt_f {o : Option Ordering} (h : ¬ o = some .gt) : ifCond.holds .gt (cmpValue o .l) = false := by
  rcases o with _ | _ | _ | _ <;> first | rfl | decide | (exfalso; revert h; decide)
theorem d_l_le_t {o : Option Ordering} (h : ¬ o = some .gt) : ifCond.holds .le (cmpValue o .l) = true := by
  rcases o with _ | _ | _ | _ <;> first | rfl | decide | (exfalso; revert h; decide)
theorem d_l_le_f {o : Option Ordering} (h : o = some .gt) : ifCond.holds .le (cmpValue o .l) = false := by
  rcases o with _ | _ | _ | _ <;> first | rfl | decide | (exfalso; revert h; decide)
theorem d_g_lt_t {o : Option Ordering} (h : o = some .lt) : ifCond.holds .lt (cmpValue o .g) = true := by
  rcases o with _ | _ | _ | _ <;> first | rfl | decide | (exfalso; revert h; decide)
theorem d_g_lt_f {o : Option Ordering} (h : ¬ o = some .lt) : ifCond.holds .lt (cmpValue o .g) = false := by
  rcases o with _ | _ | _ | _ <;> first | rfl | decide | (exfalso; revert h; decide)
theorem d_g_ge_t {o : Option Ordering} (h : ¬ o = some .lt) : ifCond.holds .ge (cmpValue o .g) = true := by
  rcases o with _ | _ | _ | _ <;> first | rfl | decide | (exfalso; revert h; decide)
theorem d_g_ge_f {o : Option Ordering} (h : o = some .lt) : ifCond.holds .ge (cmpValue o .g) = false := by
  rcases o with _ | _ | _ | _ <;> first | rfl | decide | (exfalso; revert h; decide)
theorem d_g_gt_t {o : Option Ordering} (h : ¬ oLe o) : ifCond.holds .gt (cmpValue o .g) = true := by
  rcases o with _ | _ | _ | _ <;> first | rfl | decide | (exfalso; revert h; decide)
theorem d_g_gt_f {o : Option Ordering} (h : oLe o) : ifCond.holds .gt (cmpValue o .g) = false := by
  rcases o with _ | _ | _ | _ <;> first | rfl | decide | (exfalso; revert h; decide)
theorem d_g_le_t {o : Option Ordering} (h : oLe o) : ifCond.holds .le (cmpValue o .g) = true := by
  rcases o with _ | _ | _ | _ <;> first | rfl | decide | (exfalso; revert h; decide)
theorem d_g_le_f {o : Option Ordering} (h : ¬ oLe o) : ifCond.holds .le (cmpValue o .g) = false := by
  rcases o with _ | _ | _ | _ <;> first | rfl | decide | (exfalso; revert h; decide)
theorem l_eq (x y : Int64) : XT.cmpL x y = 0 ↔ x = y := lw_eq x y
theorem l_lt (x y : Int64) : XT.cmpL x y < 0 ↔ x < y := lw_lt x y
theorem l_gt (x y : Int64) : 0 < XT.cmpL x y ↔ y < x := lw_gt x y
theorem g_ret (A : Ax p l e R s m args below meth c T locs cells slots B) {w : Value} {t : FieldType} {i : Instr} {Q : Option Value → Heap → List Loc → Prop} {K S : Nat} (hd : decode B pc = .ok (i, 1)) (hlk : meth.locks = false) (hret : meth.sig.returnType = some t) (hn : narrow t w = w)
    (hi : (i = .ireturn ∧ (t = .int ∨ t = .boolean ∨ t = .byte ∨ t = .char ∨ t = .short) ∧ ∃ z, w = .int z) ∨ (i = .lreturn ∧ t = .long ∧ ∃ z, w = .long z) ∨ (i = .dreturn ∧ t = .double ∧ ∃ z, w = .double z) ∨ (i = .freturn ∧ t = .float ∧ ∃ z, w = .float z) ∨ (i = .areturn ∧ t.isReference = true ∧ w.isRef = true))
    (hK : cells ≤ K) (hS : slots ≤ S) (hQ : Q (some w) T.heap locs) : Go p e below (fun U o => ∃ v L, o = .returned v ∧ Q v U.heap L ∧ FrameEnd s o U L K S) T (mkF m pc ls (w :: st)) := by
  obtain ⟨fs, hr, hrun, hended, hW, hsame⟩ := A.1.leave (v := some w) (fun h => by rw [hret] at h; cases h) hlk
  exact ⟨_, _, retOut A.1 A.2.1 hret hn hi (hb A.2.2 hd) hr, hrun, hended, _, _, rfl, hQ, ⟨_, rfl⟩, hW, hsame.mono hK hS⟩
theorem g_retV (A : Ax p l e R s m args below meth c T locs cells slots B) {Q : Option Value → Heap → List Loc → Prop} {K S : Nat} (hd : decode B pc = .ok (.return_, 1)) (hlk : meth.locks = false) (hret : meth.sig.returnType = none)
    (hK : cells ≤ K) (hS : slots ≤ S) (hQ : Q none T.heap locs) : Go p e below (fun U o => ∃ v L, o = .returned v ∧ Q v U.heap L ∧ FrameEnd s o U L K S) T (mkF m pc ls []) := by
  obtain ⟨fs, hr, hrun, hended, hW, hsame⟩ := A.1.leave (v := none) (fun _ => rfl) hlk
  exact ⟨_, _, A.1.returnOut A.2.1 hret (hb A.2.2 hd) hr, hrun, hended, _, _, rfl, hQ, ⟨_, rfl⟩, hW, hsame.mono hK hS⟩
theorem g_ldcI (A : Ax p l e R s m args below meth c T locs cells slots B) {Z : State} {a0 : Array Value} {own : String} {i : Nat} {v : Int32} (hZ : Z.Warmed39 s.vm) (hown : s.vm.findClass own = some m.cls) (w : (Jvm.Cond.constant own i v).before a0 Z = true) (hd : decode B pc = .ok (.ldc i, 2)) (hp : pc + 2 = pc') (k : Go p e below P T (mkF m pc' ls (.int v :: st))) : Go p e below P T (mkF m pc ls st) := by
  subst hp; exact Go.of (A.1.ldcInt A.2.1 hown (mvT hZ w) (g := mkF m pc ls st) rfl (hb A.2.2 hd)) k
theorem g_ldcD (A : Ax p l e R s m args below meth c T locs cells slots B) {Z : State} {a0 : Array Value} {own : String} {i : Nat} {v : UInt64} (hZ : Z.Warmed39 s.vm) (hown : s.vm.findClass own = some m.cls) (w : (Jvm.Cond.constantDouble own i v).before a0 Z = true) (hd : decode B pc = .ok (.ldc2_w i, 3)) (hp : pc + 3 = pc') (k : Go p e below P T (mkF m pc' ls (.double v :: st))) : Go p e below P T (mkF m pc ls st) := by
  subst hp; exact Go.of (A.1.ldc2DoubleC A.2.1 hown (mvT hZ w) (g := mkF m pc ls st) rfl (hb A.2.2 hd)) k
theorem g_ldcL (A : Ax p l e R s m args below meth c T locs cells slots B) {Z : State} {a0 : Array Value} {own : String} {i : Nat} {v : Int64} (hZ : Z.Warmed39 s.vm) (hown : s.vm.findClass own = some m.cls) (w : (Jvm.Cond.constantLong own i v).before a0 Z = true) (hd : decode B pc = .ok (.ldc2_w i, 3)) (hp : pc + 3 = pc') (k : Go p e below P T (mkF m pc' ls (.long v :: st))) : Go p e below P T (mkF m pc ls st) := by
  subst hp; exact Go.of (A.1.ldc2Long A.2.1 hown (mvT hZ w) (g := mkF m pc ls st) rfl (hb A.2.2 hd)) k
theorem g_nnY (A : Ax p l e R s m args below meth c T locs cells slots B) {o : Int} {b : Addr} (hd : decode B pc = .ok (.ifnonnull o, 3)) (hp : (pc : Int) + o = (pc' : Int)) (k : Go p e below P T (mkF m pc' ls st)) : Go p e below P T (mkF m pc ls (.ref b :: st)) := Go.of (fun _ k' => XT.ifnonnullYes A.1.here A.2.1 rfl rfl (hb A.2.2 hd) rfl (own_off hp).1 (own_off hp).2 k') k
theorem g_nnN (A : Ax p l e R s m args below meth c T locs cells slots B) {o : Int} (hd : decode B pc = .ok (.ifnonnull o, 3)) (hp : pc + 3 = pc') (k : Go p e below P T (mkF m pc' ls st)) : Go p e below P T (mkF m pc ls (.null :: st)) := by
  subst hp; exact Go.of (fun _ k' => XT.ifnonnullNo A.1.here A.2.1 rfl (hb A.2.2 hd) rfl k') k
theorem g_nuY (A : Ax p l e R s m args below meth c T locs cells slots B) {o : Int} (hd : decode B pc = .ok (.ifnull o, 3)) (hp : (pc : Int) + o = (pc' : Int)) (k : Go p e below P T (mkF m pc' ls st)) : Go p e below P T (mkF m pc ls (.null :: st)) := Go.of (fun _ k' => XS.ifnullYes A.1.here A.2.1 rfl rfl (hb A.2.2 hd) rfl (own_off hp).1 (own_off hp).2 k') k
theorem g_nuN (A : Ax p l e R s m args below meth c T locs cells slots B) {o : Int} {b : Addr} (hd : decode B pc = .ok (.ifnull o, 3)) (hp : pc + 3 = pc') (k : Go p e below P T (mkF m pc' ls st)) : Go p e below P T (mkF m pc ls (.ref b :: st)) := by
  subst hp; exact Go.of (fun _ k' => XS.ifnullNo A.1.here A.2.1 rfl (hb A.2.2 hd) rfl k') k
theorem g_acY (A : Ax p l e R s m args below meth c T locs cells slots B) {o : Int} {cd : ClassFile.ACond} {x y : Value} (hd : decode B pc = .ok (.if_acmp cd o, 3)) (h1 : x.isRef = true) (h2 : y.isRef = true) (hc : XT.acmp cd x y = true) (hp : (pc : Int) + o = (pc' : Int)) (k : Go p e below P T (mkF m pc' ls st)) : Go p e below P T (mkF m pc ls (y :: x :: st)) := Go.of (fun _ k' => XT.acmpYes A.1.here A.2.1 rfl rfl (hb A.2.2 hd) rfl h1 h2 hc (own_off hp).1 (own_off hp).2 k') k
theorem g_acN (A : Ax p l e R s m args below meth c T locs cells slots B) {o : Int} {cd : ClassFile.ACond} {x y : Value} (hd : decode B pc = .ok (.if_acmp cd o, 3)) (h1 : x.isRef = true) (h2 : y.isRef = true) (hc : XT.acmp cd x y = false) (hp : pc + 3 = pc') (k : Go p e below P T (mkF m pc' ls st)) : Go p e below P T (mkF m pc ls (y :: x :: st)) := by
  subst hp; exact Go.of (fun _ k' => XT.acmpNo A.1.here A.2.1 rfl (hb A.2.2 hd) rfl h1 h2 hc k') k
/-- an array of n places: its i-th holds f i -/
def Dar (Z : State) (h : Heap) (a : Addr) (ty : FieldType) (n : Nat) (f : Nat → Value) : Prop := ∃ cl : Cell, RoadKit.Arr Z h a cl ty ∧ cl.slots.size = n ∧ n < 2147483648 ∧ ∀ i, i < n → cl.slots[i]? = some (f i)
variable {Z : State} {h h' : Heap} {a b : Addr} {ty : FieldType} {n : Nat} {f g : Nat → Value} {sl : Nat} {v : Value} {ws : List Addr}
theorem Dar.lt (F : Dar Z h a ty n f) : a < h.size := by obtain ⟨cl, A, -⟩ := F; exact A.lt
theorem Dar.ext (E : Ext h h') (F : Dar Z h a ty n f) : Dar Z h' a ty n f := by obtain ⟨cl, A, r⟩ := F; exact ⟨cl, A.ext E, r⟩
theorem Dar.other (W : Wr h h' b sl v) (F : Dar Z h a ty n f) (q : a ≠ b) : Dar Z h' a ty n f := by obtain ⟨cl, A, r⟩ := F; exact ⟨cl, A.other W q, r⟩
theorem Dar.keep (F : Dar Z h a ty n f) (K : Keep h h' ws) (q : a ∉ ws) : Dar Z h' a ty n f := by obtain ⟨cl, A, r⟩ := F; exact ⟨cl, ⟨K.2.1 a cl A.1 q, A.2⟩, r⟩
theorem Dar.congr (F : Dar Z h a ty n f) (q : ∀ i, i < n → f i = g i) : Dar Z h a ty n g := by obtain ⟨cl, A, r1, r2, r3⟩ := F; exact ⟨cl, A, r1, r2, fun i hi => by rw [← q i hi]; exact r3 i hi⟩
theorem Dar.new {cA : ClassId} {z : Int32} (A : RoadKit.Arr Z h a (newA cA ty z) ty) (hz : z.toNatClampNeg = n) : Dar Z h a ty n (fun _ => defaultValue ty) := by
  refine ⟨_, A, (sz_new _ _ _).trans hz, ?_, fun i hi => by subst hz; simp [newA, hi]⟩
  have := z.toInt_lt
  rw [← hz, Int32.toNatClampNeg]; omega
theorem Dar.ne_exa {a0 : Array Value} {k : Nat} {C : String} (F : Dar Z h a ty n f) (E : Exa Z h b C) (wi : (Jvm.Cond.instantiable C k).before a0 Z = true) : a ≠ b := by obtain ⟨cl, A, -⟩ := F; exact fun q => ne_arr E wi A q.symm
theorem own_ne {a b : Nat} {h : Heap} (g : a = h.size) (q : b < h.size) : b ≠ a := by rw [g]; exact Nat.ne_of_lt q
theorem own_clamp {i : Nat} (hi : i < 2147483648) : (Int32.ofNat i).toNatClampNeg = i ∧ ¬ Int32.ofNat i < 0 := by
  have e : (Int32.ofNat i).toInt = i := Int32.toInt_ofNat_of_lt hi
  refine ⟨by rw [Int32.toNatClampNeg, e]; omega, fun q => ?_⟩
  rw [Int32.lt_iff_toInt_lt, e] at q
  have : (0 : Int32).toInt = 0 := rfl
  omega
theorem Dar.set {i : Nat} (F : Dar Z h a ty n f) (W : Wr h h' a i v) (q : ∀ j, j < n → g j = if j = i then v else f j) : Dar Z h' a ty n g := by
  obtain ⟨cl, A, r1, r2, r3⟩ := F
  refine ⟨_, A.same W, (sz_set _ _ _).trans r1, r2, fun j hj => ?_⟩
  rw [q j hj]
  by_cases e : j = i
  · subst e; rw [if_pos rfl]; simp [Cell.setSlot, r1, hj]
  · rw [if_neg e]; exact (Array.getElem?_setIfInBounds_ne (Ne.symm e)).trans (r3 j hj)
theorem own_in {cl : Cell} {i : Nat} (S : cl.slots.size = n) (hn : n < 2147483648) (hi : i < n) : ¬ (Int32.ofNat i < 0 ∨ cl.slots.size ≤ (Int32.ofNat i).toNatClampNeg) := by
  obtain ⟨q1, q2⟩ := own_clamp (i := i) (by omega)
  rw [q1, S]; exact fun z => z.elim q2 (by omega)
theorem g_daload (A : Ax p l e R s m args below meth c T locs cells slots B) (hZ : Z.Warmed39 s.vm) (eT : T.heap = h) {j : Int32} {i : Nat} {x : UInt64} (F : Dar Z h a .double n f) (hi : i < n) (hj : j = Int32.ofNat i) (hv : f i = .double x) (hd : decode B pc = .ok (.daload, 1)) (hp : pc + 1 = pc') (k : Go p e below P T (mkF m pc' ls (.double x :: st))) : Go p e below P T (mkF m pc ls (.int j :: .ref a :: st)) := by
  subst hp hj
  obtain ⟨cl, A2, r1, r2, r3⟩ := F
  have q := (own_clamp (i := i) (by omega)).1
  exact Go.of (fun t k' => A.1.daload A.2.1 (j := Int32.ofNat i) (v := .double x) (by rw [eT]; exact A2.1) (State.isArrayOf_alike hZ.alike A2.2.1) A2.2.2 (own_in r1 r2 hi) (by rw [q, ← hv]; exact r3 i hi) (g := mkF m pc ls (.int (Int32.ofNat i) :: .ref a :: st)) rfl rfl (hb A.2.2 hd) t k') k
theorem g_iaload (A : Ax p l e R s m args below meth c T locs cells slots B) (hZ : Z.Warmed39 s.vm) (eT : T.heap = h) {j : Int32} {i : Nat} {x : Int32} (F : Dar Z h a .int n f) (hi : i < n) (hj : j = Int32.ofNat i) (hv : f i = .int x) (hd : decode B pc = .ok (.iaload, 1)) (hp : pc + 1 = pc') (k : Go p e below P T (mkF m pc' ls (.int x :: st))) : Go p e below P T (mkF m pc ls (.int j :: .ref a :: st)) := by
  subst hp hj
  obtain ⟨cl, A2, r1, r2, r3⟩ := F
  have q := (own_clamp (i := i) (by omega)).1
  exact Go.of (fun t k' => A.1.iaload A.2.1 (j := Int32.ofNat i) (v := .int x) (by rw [eT]; exact A2.1) (State.isArrayOf_alike hZ.alike A2.2.1) A2.2.2 (own_in r1 r2 hi) (by rw [q, ← hv]; exact r3 i hi) (g := mkF m pc ls (.int (Int32.ofNat i) :: .ref a :: st)) rfl rfl (hb A.2.2 hd) t k') k
theorem g_baload (A : Ax p l e R s m args below meth c T locs cells slots B) (hZ : Z.Warmed39 s.vm) (eT : T.heap = h) {j : Int32} {i : Nat} {x : Int32} (F : Dar Z h a .boolean n f) (hi : i < n) (hj : j = Int32.ofNat i) (hv : f i = .int x) (hd : decode B pc = .ok (.baload, 1)) (hp : pc + 1 = pc') (k : Go p e below P T (mkF m pc' ls (.int x :: st))) : Go p e below P T (mkF m pc ls (.int j :: .ref a :: st)) := by
  subst hp hj
  obtain ⟨cl, A2, r1, r2, r3⟩ := F
  have q := (own_clamp (i := i) (by omega)).1
  exact Go.of (fun t k' => A.1.baloadBooleans A.2.1 (j := Int32.ofNat i) (v := .int x) (by rw [eT]; exact A2.1) (State.isArrayOf_alike hZ.alike A2.2.1) A2.2.2 (own_in r1 r2 hi) (by rw [q, ← hv]; exact r3 i hi) (g := mkF m pc ls (.int (Int32.ofNat i) :: .ref a :: st)) rfl rfl (hb A.2.2 hd) t k') k
theorem g_alen (A : Ax p l e R s m args below meth c T locs cells slots B) (hZ : Z.Warmed39 s.vm) (eT : T.heap = h) (F : Dar Z h a ty n f) (hd : decode B pc = .ok (.arraylength, 1)) {z : Int32} (hz : Int32.ofNat n = z) (hp : pc + 1 = pc') (k : Go p e below P T (mkF m pc' ls (.int z :: st))) : Go p e below P T (mkF m pc ls (.ref a :: st)) := by
  subst hp hz
  obtain ⟨cl, A2, r1, r2, r3⟩ := F
  exact Go.of (fun t k' => A.1.arraylength A.2.1 (cell := cl) (by rw [eT]; exact A2.1) (State.isArrayOf_alike hZ.alike A2.2.1) (g := mkF m pc ls (.ref a :: st)) rfl (rest := st) rfl (hb A.2.2 hd) t (by rw [r1]; exact k')) k
theorem s_dastore (A : Ax p l e R s m args below meth c T locs cells slots B) (hZ : Z.Warmed39 s.vm) (eT : T.heap = h) {j : Int32} {i : Nat} {x : UInt64} (F : Dar Z h a .double n f) (hi : i < n) (hj : j = Int32.ofNat i) (hd : decode B pc = .ok (.dastore, 1)) (hp : pc + 1 = pc') :
    ∃ T' h', Ax p l e R s m args below meth c T' (locs ++ [⟨a, i⟩]) cells slots B ∧ T'.heap = h' ∧ Wr h h' a i (.double x) ∧ ∀ {P : State → Outcome → Prop}, Go p e below P T' (mkF m pc' ls st) → Go p e below P T (mkF m pc ls (.double x :: .int j :: .ref a :: st)) := by
  subst hp hj
  obtain ⟨cl, A2, r1, r2, r3⟩ := F
  have q := (own_clamp (i := i) (by omega)).1
  obtain ⟨X', st'⟩ := A.1.dastore A.2.1 (by rw [eT]; exact A2.1) (State.isArrayOf_alike hZ.alike A2.2.1) A2.2.2 (own_in r1 r2 hi) (x := x) (g := mkF m pc ls (.double x :: .int (Int32.ofNat i) :: .ref a :: st)) rfl rfl (hb A.2.2 hd)
  rw [q] at X' st'
  exact ⟨_, _, ⟨X', A.2⟩, rfl, ⟨cl, A2.1, A2.plain, by rw [r1]; exact hi, by rw [← eT]; rfl⟩, fun k => Go.of st' k⟩
theorem s_iastore (A : Ax p l e R s m args below meth c T locs cells slots B) (hZ : Z.Warmed39 s.vm) (eT : T.heap = h) {j : Int32} {i : Nat} {x : Int32} (F : Dar Z h a .int n f) (hi : i < n) (hj : j = Int32.ofNat i) (hd : decode B pc = .ok (.iastore, 1)) (hp : pc + 1 = pc') :
    ∃ T' h', Ax p l e R s m args below meth c T' (locs ++ [⟨a, i⟩]) cells slots B ∧ T'.heap = h' ∧ Wr h h' a i (.int x) ∧ ∀ {P : State → Outcome → Prop}, Go p e below P T' (mkF m pc' ls st) → Go p e below P T (mkF m pc ls (.int x :: .int j :: .ref a :: st)) := by
  subst hp hj
  obtain ⟨cl, A2, r1, r2, r3⟩ := F
  have q := (own_clamp (i := i) (by omega)).1
  obtain ⟨T', h', X', e', W, st'⟩ := stI A.1 A.2.1 hZ eT A2 (own_in r1 r2 hi) (x := x) (g := mkF m pc ls (.int x :: .int (Int32.ofNat i) :: .ref a :: st)) rfl rfl (hb A.2.2 hd)
  rw [q] at X' W
  exact ⟨_, _, ⟨X', A.2⟩, e', W, fun k => Go.of st' k⟩
theorem s_zastore (A : Ax p l e R s m args below meth c T locs cells slots B) (hZ : Z.Warmed39 s.vm) (eT : T.heap = h) {j : Int32} {i : Nat} {x : Int32} (F : Dar Z h a .boolean n f) (hi : i < n) (hj : j = Int32.ofNat i) (hx1 : narrow .boolean (.int x) = .int x) (hd : decode B pc = .ok (.bastore, 1)) (hp : pc + 1 = pc') :
    ∃ T' h', Ax p l e R s m args below meth c T' (locs ++ [⟨a, i⟩]) cells slots B ∧ T'.heap = h' ∧ Wr h h' a i (.int x) ∧ ∀ {P : State → Outcome → Prop}, Go p e below P T' (mkF m pc' ls st) → Go p e below P T (mkF m pc ls (.int x :: .int j :: .ref a :: st)) := by
  subst hp hj
  obtain ⟨cl, A2, r1, r2, r3⟩ := F
  have q := (own_clamp (i := i) (by omega)).1
  obtain ⟨T', h', X', e', W, st'⟩ := stZ A.1 A.2.1 hZ eT A2 (own_in r1 r2 hi) (x := x) (g := mkF m pc ls (.int x :: .int (Int32.ofNat i) :: .ref a :: st)) rfl rfl (hb A.2.2 hd)
  have q2 : nar .boolean x = x := Value.int.inj hx1
  rw [q] at X' W; rw [q2] at W
  exact ⟨_, _, ⟨X', A.2⟩, e', W, fun k => Go.of st' k⟩
end own_go
theorem d2_0 : decode jdk_30_method_1_code 0 = .ok (.aload_n 0, 1) := by decide +kernel
theorem d2_1 : decode jdk_30_method_1_code 1 = .ok (.invokespecial 1, 3) := by decide +kernel
theorem d2_4 : decode jdk_30_method_1_code 4 = .ok (.return_, 1) := by decide +kernel
theorem pn_0 : plainName "java/lang/Record" = true := by first | (simp [plainName, overriddenIn]; done) | decide +kernel
theorem ef1 (m : MethodId) (a1 : Addr) : entryFrame m #[(.ref a1)] 1 = mkF m 0 #[.val (.ref a1)] [] := by first | (simp [entryFrame, mkF, argsToLocals, Value.category]; done) | rfl
def Q2 (Z : State) (a1 : Addr) (h0 : Heap) (n0 : Nat) (v : Option Value) (h : Heap) (L : List Loc) : Prop := v = none ∧ Fr n0 L ∧ h = h0
set_option maxRecDepth 65536 in
set_option maxHeartbeats 40000000 in
theorem rm2 (l : Launch) (Z : State) (a0 : Array Value) (hw : ∀ d ∈ tables_1, d.before a0 Z = true) (ws : List Jvm.Cond) (a1 : Addr) (h0 : Heap) (n0 : Nat) (Z0 : n0 ≤ h0.size)  :
    MetFree l (⟨"java/lang/Record", "<init>", "()V"⟩ : MethodName) (head1 (Jvm.Cond.code (⟨"java/lang/Record", "<init>", "()V"⟩ : MethodName) jdk_30_method_1_code 1 none :: ws) ({ frames := 1, cells := 0, slots := 0, locals := 12 } : Room)) (fun a U => a = #[(.ref a1)] ∧ Z.Warmed39 U.vm ∧ U.heap = h0) (fun _ _ _ _ _ => True) (fun _ U o U' => ∃ v L, o = .returned v ∧ Q2 Z a1 h0 n0 v U'.heap L ∧ FrameEnd U o U' L 0 0) := by
  refine MetFree.of_bodySF (plainFor_of_name pn_0) hisR ?_
  intro p e s m args below meth c s₁ Bd hml0 hP hK
  obtain ⟨rfl, hZ, hh⟩ := hP
  have hx := Bd.exec
  have hby := Bd.bytes
  have hml : c.maxLocals = 1 := hml0
  have hown : s.vm.findClass "java/lang/Record" = some m.cls := findClass_of_methodNamed Bd.named
  have hnm := (name_of_methodNamed Bd.named Bd.method).1
  have X0 : Stand p l e ({ frames := 1, cells := 0, slots := 0, locals := 12 } : Room) s m #[(.ref a1)] below meth c s₁ [] 0 0 := Stand.of_body Bd
  have e0 : s₁.heap = h0 := by rw [← hh, Bd.state]; rfl
  have N0 := Fr.nil n0
  have A0 := (⟨X0, hx, hby⟩ : Ax _ _ _ _ _ _ _ _ _ _ _ _ _ _ _)
  show Go p e below (fun U o => ∃ v L, o = .returned v ∧ Q2 Z a1 h0 n0 v U.heap L ∧ FrameEnd s o U L 0 0) s₁ (entryFrame m #[(.ref a1)] 1)
  refine Go.cast (ef1 m a1) ?_
  refine g_aloadN A0 d2_0 rfl rfl (pc' := 1) rfl ?_
  obtain ⟨T2, X2, e2, st2⟩ := initO X0 hx hZ hown (hw _ (List.mem_of_getElem? (i := 11) rfl)) (hw _ (List.mem_of_getElem? (i := 12) rfl)) (hw _ (List.mem_of_getElem? (i := 13) rfl)) e0 (g := (mkF m 1 #[.val (.ref a1)] [(.ref a1)])) rfl (by rw [hml]; rfl) rfl (hb hby d2_1) (by decide) (W := 0) (by show 2 * 0 + _ ≤ _; exact Nat.le_of_eq rfl) (by decide)
  refine Go.of (g' := (mkF m 4 #[.val (.ref a1)] [])) st2 ?_
  have A3 := (⟨X2, hx, hby⟩ : Ax _ _ _ _ _ _ _ _ _ _ _ _ _ _ _)
  exact g_retV (Q := Q2 Z a1 h0 n0) A3 d2_4 Bd.notSynchronized Bd.returns (by decide) (by decide) (by rw [e2]; exact ⟨rfl, N0, rfl⟩)
theorem d6_0 : decode jdk_117_method_6_code 0 = .ok (.dload_n 0, 1) := by decide +kernel
theorem d6_1 : decode jdk_117_method_6_code 1 = .ok (.dload_n 0, 1) := by decide +kernel
theorem d6_2 : decode jdk_117_method_6_code 2 = .ok (.dcmp .l, 1) := by decide +kernel
theorem d6_3 : decode jdk_117_method_6_code 3 = .ok (.ifCond .eq 7, 3) := by decide +kernel
theorem d6_6 : decode jdk_117_method_6_code 6 = .ok (.iconst 1, 1) := by decide +kernel
theorem d6_7 : decode jdk_117_method_6_code 7 = .ok (.goto 4, 3) := by decide +kernel
theorem d6_10 : decode jdk_117_method_6_code 10 = .ok (.iconst 0, 1) := by decide +kernel
theorem d6_11 : decode jdk_117_method_6_code 11 = .ok (.ireturn, 1) := by decide +kernel
theorem pn_1 : plainName "java/lang/Double" = true := by first | (simp [plainName, overriddenIn]; done) | decide +kernel
theorem ef4 (m : MethodId) (x1 : UInt64) : entryFrame m #[(.double x1)] 2 = mkF m 0 #[.val (.double x1), .second] [] := by first | (simp [entryFrame, mkF, argsToLocals, Value.category]; done) | rfl
def Q6 (Z : State) (x1 : UInt64) (h0 : Heap) (n0 : Nat) (v : Option Value) (h : Heap) (L : List Loc) : Prop := v = some (.int (0 : Int32)) ∧ Fr n0 L ∧ h = h0
set_option maxRecDepth 65536 in
set_option maxHeartbeats 40000000 in
theorem rm6 (l : Launch) (Z : State) (a0 : Array Value) (hw : ∀ d ∈ tables_1, d.before a0 Z = true) (ws : List Jvm.Cond) (x1 : UInt64) (h0 : Heap) (n0 : Nat) (Z0 : n0 ≤ h0.size) (hf : Fin64 x1) :
    MetFree l (⟨"java/lang/Double", "isNaN", "(D)Z"⟩ : MethodName) (head1 (Jvm.Cond.code (⟨"java/lang/Double", "isNaN", "(D)Z"⟩ : MethodName) jdk_117_method_6_code 2 (some .boolean) :: ws) ({ frames := 0, cells := 0, slots := 0, locals := 0 } : Room)) (fun a U => a = #[(.double x1)] ∧ Z.Warmed39 U.vm ∧ U.heap = h0) (fun _ _ _ _ _ => True) (fun _ U o U' => ∃ v L, o = .returned v ∧ Q6 Z x1 h0 n0 v U'.heap L ∧ FrameEnd U o U' L 0 0) := by
  refine MetFree.of_bodySF (plainFor_of_name pn_1) hisR ?_
  intro p e s m args below meth c s₁ Bd hml0 hP hK
  obtain ⟨rfl, hZ, hh⟩ := hP
  have hx := Bd.exec
  have hby := Bd.bytes
  have hml : c.maxLocals = 2 := hml0
  have hown : s.vm.findClass "java/lang/Double" = some m.cls := findClass_of_methodNamed Bd.named
  have hnm := (name_of_methodNamed Bd.named Bd.method).1
  have X0 : Stand p l e ({ frames := 0, cells := 0, slots := 0, locals := 0 } : Room) s m #[(.double x1)] below meth c s₁ [] 0 0 := Stand.of_body Bd
  have e0 : s₁.heap = h0 := by rw [← hh, Bd.state]; rfl
  have N0 := Fr.nil n0
  have A0 := (⟨X0, hx, hby⟩ : Ax _ _ _ _ _ _ _ _ _ _ _ _ _ _ _)
  show Go p e below (fun U o => ∃ v L, o = .returned v ∧ Q6 Z x1 h0 n0 v U.heap L ∧ FrameEnd s o U L 0 0) s₁ (entryFrame m #[(.double x1)] 2)
  refine Go.cast (ef4 m x1) ?_
  refine g_dloadN A0 d6_0 rfl (pc' := 1) rfl ?_
  refine g_dloadN A0 d6_1 rfl (pc' := 2) rfl ?_
  refine g_dcmp A0 d6_2 (pc' := 3) rfl ?_
  refine g_ifY A0 d6_3 (d_l_eq_t (own_self hf)) (pc' := 10) rfl ?_
  refine g_iconst A0 d6_10 (v := (0 : Int32)) rfl (pc' := 11) rfl ?_
  exact g_ret (Q := Q6 Z x1 h0 n0) A0 d6_11 Bd.notSynchronized Bd.returns rfl (Or.inl ⟨rfl, by simp, _, rfl⟩) (by decide) (by decide) (by rw [e0]; exact ⟨rfl, N0, rfl⟩)
theorem d1_0 : decode prog_1_method_1_code 0 = .ok (.aload_n 0, 1) := by decide +kernel
theorem d1_1 : decode prog_1_method_1_code 1 = .ok (.invokespecial 1, 3) := by decide +kernel
theorem d1_4 : decode prog_1_method_1_code 4 = .ok (.iload_n 1, 1) := by decide +kernel
theorem d1_5 : decode prog_1_method_1_code 5 = .ok (.ifCond .eq 17, 3) := by decide +kernel
theorem d1_8 : decode prog_1_method_1_code 8 = .ok (.iload_n 2, 1) := by decide +kernel
theorem d1_9 : decode prog_1_method_1_code 9 = .ok (.ifCond .eq 13, 3) := by decide +kernel
theorem d1_12 : decode prog_1_method_1_code 12 = .ok (.new 7, 3) := by decide +kernel
theorem d1_15 : decode prog_1_method_1_code 15 = .ok (.dup, 1) := by decide +kernel
theorem d1_16 : decode prog_1_method_1_code 16 = .ok (.ldc 9, 2) := by decide +kernel
theorem d1_18 : decode prog_1_method_1_code 18 = .ok (.invokespecial 11, 3) := by decide +kernel
theorem d1_21 : decode prog_1_method_1_code 21 = .ok (.athrow, 1) := by decide +kernel
theorem d1_22 : decode prog_1_method_1_code 22 = .ok (.iload_n 1, 1) := by decide +kernel
theorem d1_23 : decode prog_1_method_1_code 23 = .ok (.ifCond .eq 12, 3) := by decide +kernel
theorem d1_26 : decode prog_1_method_1_code 26 = .ok (.iload_n 3, 1) := by decide +kernel
theorem d1_27 : decode prog_1_method_1_code 27 = .ok (.ifCond .ne 17, 3) := by decide +kernel
theorem d1_30 : decode prog_1_method_1_code 30 = .ok (.iload 4, 2) := by decide +kernel
theorem d1_32 : decode prog_1_method_1_code 32 = .ok (.ifCond .ne 12, 3) := by decide +kernel
theorem d1_35 : decode prog_1_method_1_code 35 = .ok (.iload_n 3, 1) := by decide +kernel
theorem d1_36 : decode prog_1_method_1_code 36 = .ok (.ifCond .eq 18, 3) := by decide +kernel
theorem d1_39 : decode prog_1_method_1_code 39 = .ok (.iload 4, 2) := by decide +kernel
theorem d1_41 : decode prog_1_method_1_code 41 = .ok (.ifCond .eq 13, 3) := by decide +kernel
theorem d1_44 : decode prog_1_method_1_code 44 = .ok (.new 7, 3) := by decide +kernel
theorem d1_47 : decode prog_1_method_1_code 47 = .ok (.dup, 1) := by decide +kernel
theorem d1_48 : decode prog_1_method_1_code 48 = .ok (.ldc 14, 2) := by decide +kernel
theorem d1_50 : decode prog_1_method_1_code 50 = .ok (.invokespecial 11, 3) := by decide +kernel
theorem d1_53 : decode prog_1_method_1_code 53 = .ok (.athrow, 1) := by decide +kernel
theorem d1_54 : decode prog_1_method_1_code 54 = .ok (.aload_n 0, 1) := by decide +kernel
theorem d1_55 : decode prog_1_method_1_code 55 = .ok (.iload_n 1, 1) := by decide +kernel
theorem d1_56 : decode prog_1_method_1_code 56 = .ok (.putfield 16, 3) := by decide +kernel
theorem d1_59 : decode prog_1_method_1_code 59 = .ok (.aload_n 0, 1) := by decide +kernel
theorem d1_60 : decode prog_1_method_1_code 60 = .ok (.iload_n 2, 1) := by decide +kernel
theorem d1_61 : decode prog_1_method_1_code 61 = .ok (.putfield 22, 3) := by decide +kernel
theorem d1_64 : decode prog_1_method_1_code 64 = .ok (.aload_n 0, 1) := by decide +kernel
theorem d1_65 : decode prog_1_method_1_code 65 = .ok (.iload_n 3, 1) := by decide +kernel
theorem d1_66 : decode prog_1_method_1_code 66 = .ok (.putfield 25, 3) := by decide +kernel
theorem d1_69 : decode prog_1_method_1_code 69 = .ok (.aload_n 0, 1) := by decide +kernel
theorem d1_70 : decode prog_1_method_1_code 70 = .ok (.iload 4, 2) := by decide +kernel
theorem d1_72 : decode prog_1_method_1_code 72 = .ok (.putfield 28, 3) := by decide +kernel
theorem d1_75 : decode prog_1_method_1_code 75 = .ok (.return_, 1) := by decide +kernel
theorem pn_2 : plainName "com/example/flat_pager/flatpager/AddCondition" = true := by first | (simp [plainName, overriddenIn]; done) | decide +kernel
theorem ef5 (m : MethodId) (a1 : Addr) (b1 : Int32) (b2 : Int32) (b3 : Int32) (b4 : Int32) (u0 : Value) (u1 : Value) (u2 : Value) (u3 : Value) : entryFrame m #[(.ref a1), (.int b1), (.int b2), (.int b3), (.int b4)] 5 = mkF m 0 #[.val (.ref a1), .val (.int b1), .val (.int b2), .val (.int b3), .val (.int b4)] [] := by first | (simp [entryFrame, mkF, argsToLocals, Value.category]; done) | rfl
def Q1 (Z : State) (a1 : Addr) (b1 : Int32) (b2 : Int32) (b3 : Int32) (b4 : Int32) (u0 : Value) (u1 : Value) (u2 : Value) (u3 : Value) (h0 : Heap) (n0 : Nat) (v : Option Value) (h : Heap) (L : List Loc) : Prop := v = none ∧ Fr n0 L ∧ Keep h0 h [a1] ∧ Fld Z h a1 "com/example/flat_pager/flatpager/AddCondition" "onlyNew" "Z" (.int b1) ∧ Fld Z h a1 "com/example/flat_pager/flatpager/AddCondition" "onlyExisting" "Z" (.int b2) ∧ Fld Z h a1 "com/example/flat_pager/flatpager/AddCondition" "onlyGreater" "Z" (.int b3) ∧ Fld Z h a1 "com/example/flat_pager/flatpager/AddCondition" "onlyLower" "Z" (.int b4)
theorem pd_0 : parseMethodDescriptor "()V" = some ⟨[], none⟩ := by decide +kernel
set_option maxRecDepth 65536 in
set_option maxHeartbeats 40000000 in
theorem rm1 (l : Launch) (Z : State) (a0 : Array Value) (hw : ∀ d ∈ tables_1, d.before a0 Z = true) (ws : List Jvm.Cond) (a1 : Addr) (b1 : Int32) (b2 : Int32) (b3 : Int32) (b4 : Int32) (u0 : Value) (u1 : Value) (u2 : Value) (u3 : Value) (h0 : Heap) (n0 : Nat) (Z0 : n0 ≤ h0.size) (E6 : Exa Z h0 a1 "com/example/flat_pager/flatpager/AddCondition") (F7 : Fld Z h0 a1 "com/example/flat_pager/flatpager/AddCondition" "onlyNew" "Z" u0) (F8 : Fld Z h0 a1 "com/example/flat_pager/flatpager/AddCondition" "onlyExisting" "Z" u1) (F9 : Fld Z h0 a1 "com/example/flat_pager/flatpager/AddCondition" "onlyGreater" "Z" u2) (F10 : Fld Z h0 a1 "com/example/flat_pager/flatpager/AddCondition" "onlyLower" "Z" u3) (g11 : n0 ≤ a1) (hb_b1 : narrow .boolean (.int b1) = .int b1) (hb_b2 : narrow .boolean (.int b2) = .int b2) (hb_b3 : narrow .boolean (.int b3) = .int b3) (hb_b4 : narrow .boolean (.int b4) = .int b4) (h1 : b1 = 0 ∨ b2 = 0) (h2 : b1 = 0 ∨ (b3 = 0 ∧ b4 = 0)) (h3 : b3 = 0 ∨ b4 = 0) :
    MetFree l (⟨"com/example/flat_pager/flatpager/AddCondition", "<init>", "(ZZZZ)V"⟩ : MethodName) (head1 (Jvm.Cond.code (⟨"com/example/flat_pager/flatpager/AddCondition", "<init>", "(ZZZZ)V"⟩ : MethodName) prog_1_method_1_code 5 none :: ws) ({ frames := 2, cells := 0, slots := 0, locals := 24 } : Room)) (fun a U => a = #[(.ref a1), (.int b1), (.int b2), (.int b3), (.int b4)] ∧ Z.Warmed39 U.vm ∧ U.heap = h0) (fun _ _ _ _ _ => True) (fun _ U o U' => ∃ v L, o = .returned v ∧ Q1 Z a1 b1 b2 b3 b4 u0 u1 u2 u3 h0 n0 v U'.heap L ∧ FrameEnd U o U' L 0 0) := by
  refine MetFree.of_bodySF (plainFor_of_name pn_2) hisR ?_
  intro p e s m args below meth c s₁ Bd hml0 hP hK
  obtain ⟨rfl, hZ, hh⟩ := hP
  have hx := Bd.exec
  have hby := Bd.bytes
  have hml : c.maxLocals = 5 := hml0
  have hown : s.vm.findClass "com/example/flat_pager/flatpager/AddCondition" = some m.cls := findClass_of_methodNamed Bd.named
  have hnm := (name_of_methodNamed Bd.named Bd.method).1
  have X0 : Stand p l e ({ frames := 2, cells := 0, slots := 0, locals := 24 } : Room) s m #[(.ref a1), (.int b1), (.int b2), (.int b3), (.int b4)] below meth c s₁ [] 0 0 := Stand.of_body Bd
  have e0 : s₁.heap = h0 := by rw [← hh, Bd.state]; rfl
  have N0 := Fr.nil n0
  have A0 := (⟨X0, hx, hby⟩ : Ax _ _ _ _ _ _ _ _ _ _ _ _ _ _ _)
  show Go p e below (fun U o => ∃ v L, o = .returned v ∧ Q1 Z a1 b1 b2 b3 b4 u0 u1 u2 u3 h0 n0 v U.heap L ∧ FrameEnd s o U L 0 0) s₁ (entryFrame m #[(.ref a1), (.int b1), (.int b2), (.int b3), (.int b4)] 5)
  refine Go.cast (ef5 m a1 b1 b2 b3 b4 u0 u1 u2 u3) ?_
  refine g_aloadN A0 d1_0 rfl rfl (pc' := 1) rfl ?_
  obtain ⟨_, _, ⟨T12, L12, k12, n12⟩, -, X12, ⟨L12c, hQ12, l12, y12, z12⟩, st12⟩ := X0.specialBack hx (y := (⟨"java/lang/Record", "<init>", "()V"⟩ : MethodName)) rfl hown (mvT hZ (hw _ (List.mem_of_getElem? (i := 6) rfl))) (mvT hZ (hw _ (List.mem_of_getElem? (i := 7) rfl))) (mvT hZ (hw _ (List.mem_of_getElem? (i := 10) rfl))) (by decide) (backOf (W := 0) (rm2 l Z a0 hw [] a1 h0 n0 Z0 ) hZ (hw _ (List.mem_of_getElem? (i := 10) rfl)) (hw _ (List.mem_of_getElem? (i := 9) rfl)) (by decide) (by decide)) (g := (mkF m 1 #[.val (.ref a1), .val (.int b1), .val (.int b2), .val (.int b3), .val (.int b4)] [(.ref a1)])) rfl (by rw [hml]; rfl) (Steps.refl _) (a := a1) (argsL := []) (rest := []) (lenOf pd_0 rfl) rfl (by show 2 * 0 + _ ≤ _; exact Nat.le_of_eq rfl) (hb hby d1_1) (fun _ _ => ⟨rfl, e0, (by decide : 0 + 0 ≤ _), (by decide : 0 + 0 ≤ _)⟩)
  dsimp only [Pt.U, Pt.locs, Pt.cells, Pt.slots] at X12 l12 y12 z12 st12 hQ12
  subst l12 y12 z12
  obtain ⟨rfl, Nq13, Kq14⟩ := hQ12
  have N15 := Fr.app N0 Nq13
  refine Go.tr (g' := (mkF m 4 #[.val (.ref a1), .val (.int b1), .val (.int b2), .val (.int b3), .val (.int b4)] [])) st12 ?_
  have e16 : T12.heap = h0 := Kq14
  have A17 := (⟨X12, hx, hby⟩ : Ax _ _ _ _ _ _ _ _ _ _ _ _ _ _ _)
  refine g_iloadN A17 d1_4 rfl (pc' := 5) rfl ?_
  have sg18 : ∀ {P : State → Outcome → Prop}, Go p e below P T12 (mkF m 22 #[.val (.ref a1), .val (.int b1), .val (.int b2), .val (.int b3), .val (.int b4)] []) → Go p e below P T12 (mkF m 5 #[.val (.ref a1), .val (.int b1), .val (.int b2), .val (.int b3), .val (.int b4)] [(.int b1)]) := by
    intro P hr
    by_cases c19 : b1 = 0
    · skip
      refine g_ifY A17 d1_5 (c0_eq_t c19) (pc' := 22) rfl ?_
      exact hr
    · skip
      refine g_ifN A17 d1_5 (c0_eq_f c19) (pc' := 8) rfl ?_
      refine g_iloadN A17 d1_8 rfl (pc' := 9) rfl ?_
      refine g_ifY A17 d1_9 (c0_eq_t (h1.resolve_left c19)) (pc' := 22) rfl ?_
      exact hr
  refine sg18 ?_
  refine g_iloadN A17 d1_22 rfl (pc' := 23) rfl ?_
  have sg20 : ∀ {P : State → Outcome → Prop}, Go p e below P T12 (mkF m 35 #[.val (.ref a1), .val (.int b1), .val (.int b2), .val (.int b3), .val (.int b4)] []) → Go p e below P T12 (mkF m 23 #[.val (.ref a1), .val (.int b1), .val (.int b2), .val (.int b3), .val (.int b4)] [(.int b1)]) := by
    intro P hr
    by_cases c21 : b1 = 0
    · skip
      refine g_ifY A17 d1_23 (c0_eq_t c21) (pc' := 35) rfl ?_
      exact hr
    · skip
      refine g_ifN A17 d1_23 (c0_eq_f c21) (pc' := 26) rfl ?_
      refine g_iloadN A17 d1_26 rfl (pc' := 27) rfl ?_
      refine g_ifN A17 d1_27 (c0_ne_f (h2.resolve_left c21).1) (pc' := 30) rfl ?_
      refine g_iload A17 d1_30 rfl (pc' := 32) rfl ?_
      refine g_ifN A17 d1_32 (c0_ne_f (h2.resolve_left c21).2) (pc' := 35) rfl ?_
      exact hr
  refine sg20 ?_
  refine g_iloadN A17 d1_35 rfl (pc' := 36) rfl ?_
  have sg22 : ∀ {P : State → Outcome → Prop}, Go p e below P T12 (mkF m 54 #[.val (.ref a1), .val (.int b1), .val (.int b2), .val (.int b3), .val (.int b4)] []) → Go p e below P T12 (mkF m 36 #[.val (.ref a1), .val (.int b1), .val (.int b2), .val (.int b3), .val (.int b4)] [(.int b3)]) := by
    intro P hr
    by_cases c23 : b3 = 0
    · skip
      refine g_ifY A17 d1_36 (c0_eq_t c23) (pc' := 54) rfl ?_
      exact hr
    · skip
      refine g_ifN A17 d1_36 (c0_eq_f c23) (pc' := 39) rfl ?_
      refine g_iload A17 d1_39 rfl (pc' := 41) rfl ?_
      refine g_ifY A17 d1_41 (c0_eq_t (h3.resolve_left c23)) (pc' := 54) rfl ?_
      exact hr
  refine sg22 ?_
  refine g_aloadN A17 d1_54 rfl rfl (pc' := 55) rfl ?_
  refine g_iloadN A17 d1_55 rfl (pc' := 56) rfl ?_
  obtain ⟨T24, h24, X24, e24, W24, st24⟩ := putF X12 hx hZ hown (host := "") (Or.inl (hw _ (List.mem_of_getElem? (i := 14) rfl))) Via.refl e16 F7 E6 (Or.inr ⟨(hw _ (List.mem_of_getElem? (i := 15) rfl)), rfl, hnm⟩) (hw _ (List.mem_of_getElem? (i := 1) rfl)) (ty := .boolean) (by decide) hb_b1 (own_fn hb_b1) (g := (mkF m 56 #[.val (.ref a1), .val (.int b1), .val (.int b2), .val (.int b3), .val (.int b4)] [(.int b1), (.ref a1)])) rfl rfl (hb hby d1_56)
  have N25 := Fr.snoc X24 N15 g11
  have K26 : Keep h0 h24 [a1] := (Keep.refl h0 [a1]).wr W24 (Or.inl (List.mem_of_getElem? (i := 0) rfl))
  have E27 : Exa Z h24 a1 "com/example/flat_pager/flatpager/AddCondition" := Exa.wr W24 E6
  have F28 : Fld Z h24 a1 "com/example/flat_pager/flatpager/AddCondition" "onlyExisting" "Z" u1 := Fld.other W24 F8 (Or.inr (slot_ne (Or.inr (hw _ (List.mem_of_getElem? (i := 17) rfl))) (Or.inr (hw _ (List.mem_of_getElem? (i := 15) rfl))) (by decide) (t := .boolean) (t' := .boolean) (by decide) (by decide)))
  have F29 : Fld Z h24 a1 "com/example/flat_pager/flatpager/AddCondition" "onlyGreater" "Z" u2 := Fld.other W24 F9 (Or.inr (slot_ne (Or.inr (hw _ (List.mem_of_getElem? (i := 19) rfl))) (Or.inr (hw _ (List.mem_of_getElem? (i := 15) rfl))) (by decide) (t := .boolean) (t' := .boolean) (by decide) (by decide)))
  have F30 : Fld Z h24 a1 "com/example/flat_pager/flatpager/AddCondition" "onlyLower" "Z" u3 := Fld.other W24 F10 (Or.inr (slot_ne (Or.inr (hw _ (List.mem_of_getElem? (i := 21) rfl))) (Or.inr (hw _ (List.mem_of_getElem? (i := 15) rfl))) (by decide) (t := .boolean) (t' := .boolean) (by decide) (by decide)))
  have F31 : Fld Z h24 a1 "com/example/flat_pager/flatpager/AddCondition" "onlyNew" "Z" (.int b1) := Fld.same W24 F7
  have Z32 : n0 ≤ h24.size := by rw [W24.size]; exact Z0
  refine Go.of (g' := (mkF m 59 #[.val (.ref a1), .val (.int b1), .val (.int b2), .val (.int b3), .val (.int b4)] [])) st24 ?_
  have A33 := (⟨X24, hx, hby⟩ : Ax _ _ _ _ _ _ _ _ _ _ _ _ _ _ _)
  refine g_aloadN A33 d1_59 rfl rfl (pc' := 60) rfl ?_
  refine g_iloadN A33 d1_60 rfl (pc' := 61) rfl ?_
  obtain ⟨T34, h34, X34, e34, W34, st34⟩ := putF X24 hx hZ hown (host := "") (Or.inl (hw _ (List.mem_of_getElem? (i := 16) rfl))) Via.refl e24 F28 E27 (Or.inr ⟨(hw _ (List.mem_of_getElem? (i := 17) rfl)), rfl, hnm⟩) (hw _ (List.mem_of_getElem? (i := 1) rfl)) (ty := .boolean) (by decide) hb_b2 (own_fn hb_b2) (g := (mkF m 61 #[.val (.ref a1), .val (.int b1), .val (.int b2), .val (.int b3), .val (.int b4)] [(.int b2), (.ref a1)])) rfl rfl (hb hby d1_61)
  have N35 := Fr.snoc X34 N25 g11
  have K36 : Keep h0 h34 [a1] := K26.wr W34 (Or.inl (List.mem_of_getElem? (i := 0) rfl))
  have E37 : Exa Z h34 a1 "com/example/flat_pager/flatpager/AddCondition" := Exa.wr W34 E27
  have F38 : Fld Z h34 a1 "com/example/flat_pager/flatpager/AddCondition" "onlyGreater" "Z" u2 := Fld.other W34 F29 (Or.inr (slot_ne (Or.inr (hw _ (List.mem_of_getElem? (i := 19) rfl))) (Or.inr (hw _ (List.mem_of_getElem? (i := 17) rfl))) (by decide) (t := .boolean) (t' := .boolean) (by decide) (by decide)))
  have F39 : Fld Z h34 a1 "com/example/flat_pager/flatpager/AddCondition" "onlyLower" "Z" u3 := Fld.other W34 F30 (Or.inr (slot_ne (Or.inr (hw _ (List.mem_of_getElem? (i := 21) rfl))) (Or.inr (hw _ (List.mem_of_getElem? (i := 17) rfl))) (by decide) (t := .boolean) (t' := .boolean) (by decide) (by decide)))
  have F40 : Fld Z h34 a1 "com/example/flat_pager/flatpager/AddCondition" "onlyNew" "Z" (.int b1) := Fld.other W34 F31 (Or.inr (slot_ne (Or.inr (hw _ (List.mem_of_getElem? (i := 15) rfl))) (Or.inr (hw _ (List.mem_of_getElem? (i := 17) rfl))) (by decide) (t := .boolean) (t' := .boolean) (by decide) (by decide)))
  have F41 : Fld Z h34 a1 "com/example/flat_pager/flatpager/AddCondition" "onlyExisting" "Z" (.int b2) := Fld.same W34 F28
  have Z42 : n0 ≤ h34.size := by rw [W34.size]; exact Z32
  refine Go.of (g' := (mkF m 64 #[.val (.ref a1), .val (.int b1), .val (.int b2), .val (.int b3), .val (.int b4)] [])) st34 ?_
  have A43 := (⟨X34, hx, hby⟩ : Ax _ _ _ _ _ _ _ _ _ _ _ _ _ _ _)
  refine g_aloadN A43 d1_64 rfl rfl (pc' := 65) rfl ?_
  refine g_iloadN A43 d1_65 rfl (pc' := 66) rfl ?_
  obtain ⟨T44, h44, X44, e44, W44, st44⟩ := putF X34 hx hZ hown (host := "") (Or.inl (hw _ (List.mem_of_getElem? (i := 18) rfl))) Via.refl e34 F38 E37 (Or.inr ⟨(hw _ (List.mem_of_getElem? (i := 19) rfl)), rfl, hnm⟩) (hw _ (List.mem_of_getElem? (i := 1) rfl)) (ty := .boolean) (by decide) hb_b3 (own_fn hb_b3) (g := (mkF m 66 #[.val (.ref a1), .val (.int b1), .val (.int b2), .val (.int b3), .val (.int b4)] [(.int b3), (.ref a1)])) rfl rfl (hb hby d1_66)
  have N45 := Fr.snoc X44 N35 g11
  have K46 : Keep h0 h44 [a1] := K36.wr W44 (Or.inl (List.mem_of_getElem? (i := 0) rfl))
  have E47 : Exa Z h44 a1 "com/example/flat_pager/flatpager/AddCondition" := Exa.wr W44 E37
  have F48 : Fld Z h44 a1 "com/example/flat_pager/flatpager/AddCondition" "onlyLower" "Z" u3 := Fld.other W44 F39 (Or.inr (slot_ne (Or.inr (hw _ (List.mem_of_getElem? (i := 21) rfl))) (Or.inr (hw _ (List.mem_of_getElem? (i := 19) rfl))) (by decide) (t := .boolean) (t' := .boolean) (by decide) (by decide)))
  have F49 : Fld Z h44 a1 "com/example/flat_pager/flatpager/AddCondition" "onlyNew" "Z" (.int b1) := Fld.other W44 F40 (Or.inr (slot_ne (Or.inr (hw _ (List.mem_of_getElem? (i := 15) rfl))) (Or.inr (hw _ (List.mem_of_getElem? (i := 19) rfl))) (by decide) (t := .boolean) (t' := .boolean) (by decide) (by decide)))
  have F50 : Fld Z h44 a1 "com/example/flat_pager/flatpager/AddCondition" "onlyExisting" "Z" (.int b2) := Fld.other W44 F41 (Or.inr (slot_ne (Or.inr (hw _ (List.mem_of_getElem? (i := 17) rfl))) (Or.inr (hw _ (List.mem_of_getElem? (i := 19) rfl))) (by decide) (t := .boolean) (t' := .boolean) (by decide) (by decide)))
  have F51 : Fld Z h44 a1 "com/example/flat_pager/flatpager/AddCondition" "onlyGreater" "Z" (.int b3) := Fld.same W44 F38
  have Z52 : n0 ≤ h44.size := by rw [W44.size]; exact Z42
  refine Go.of (g' := (mkF m 69 #[.val (.ref a1), .val (.int b1), .val (.int b2), .val (.int b3), .val (.int b4)] [])) st44 ?_
  have A53 := (⟨X44, hx, hby⟩ : Ax _ _ _ _ _ _ _ _ _ _ _ _ _ _ _)
  refine g_aloadN A53 d1_69 rfl rfl (pc' := 70) rfl ?_
  refine g_iload A53 d1_70 rfl (pc' := 72) rfl ?_
  obtain ⟨T54, h54, X54, e54, W54, st54⟩ := putF X44 hx hZ hown (host := "") (Or.inl (hw _ (List.mem_of_getElem? (i := 20) rfl))) Via.refl e44 F48 E47 (Or.inr ⟨(hw _ (List.mem_of_getElem? (i := 21) rfl)), rfl, hnm⟩) (hw _ (List.mem_of_getElem? (i := 1) rfl)) (ty := .boolean) (by decide) hb_b4 (own_fn hb_b4) (g := (mkF m 72 #[.val (.ref a1), .val (.int b1), .val (.int b2), .val (.int b3), .val (.int b4)] [(.int b4), (.ref a1)])) rfl rfl (hb hby d1_72)
  have N55 := Fr.snoc X54 N45 g11
  have K56 : Keep h0 h54 [a1] := K46.wr W54 (Or.inl (List.mem_of_getElem? (i := 0) rfl))
  have E57 : Exa Z h54 a1 "com/example/flat_pager/flatpager/AddCondition" := Exa.wr W54 E47
  have F58 : Fld Z h54 a1 "com/example/flat_pager/flatpager/AddCondition" "onlyNew" "Z" (.int b1) := Fld.other W54 F49 (Or.inr (slot_ne (Or.inr (hw _ (List.mem_of_getElem? (i := 15) rfl))) (Or.inr (hw _ (List.mem_of_getElem? (i := 21) rfl))) (by decide) (t := .boolean) (t' := .boolean) (by decide) (by decide)))
  have F59 : Fld Z h54 a1 "com/example/flat_pager/flatpager/AddCondition" "onlyExisting" "Z" (.int b2) := Fld.other W54 F50 (Or.inr (slot_ne (Or.inr (hw _ (List.mem_of_getElem? (i := 17) rfl))) (Or.inr (hw _ (List.mem_of_getElem? (i := 21) rfl))) (by decide) (t := .boolean) (t' := .boolean) (by decide) (by decide)))
  have F60 : Fld Z h54 a1 "com/example/flat_pager/flatpager/AddCondition" "onlyGreater" "Z" (.int b3) := Fld.other W54 F51 (Or.inr (slot_ne (Or.inr (hw _ (List.mem_of_getElem? (i := 19) rfl))) (Or.inr (hw _ (List.mem_of_getElem? (i := 21) rfl))) (by decide) (t := .boolean) (t' := .boolean) (by decide) (by decide)))
  have F61 : Fld Z h54 a1 "com/example/flat_pager/flatpager/AddCondition" "onlyLower" "Z" (.int b4) := Fld.same W54 F48
  have Z62 : n0 ≤ h54.size := by rw [W54.size]; exact Z52
  refine Go.of (g' := (mkF m 75 #[.val (.ref a1), .val (.int b1), .val (.int b2), .val (.int b3), .val (.int b4)] [])) st54 ?_
  have A63 := (⟨X54, hx, hby⟩ : Ax _ _ _ _ _ _ _ _ _ _ _ _ _ _ _)
  exact g_retV (Q := Q1 Z a1 b1 b2 b3 b4 u0 u1 u2 u3 h0 n0) A63 d1_75 Bd.notSynchronized Bd.returns (by decide) (by decide) (by rw [e54]; exact ⟨rfl, N55, K56, F58, F59, F60, F61⟩)
theorem d7_0 : decode prog_18_method_5_code 0 = .ok (.aload_n 0, 1) := by decide +kernel
theorem d7_1 : decode prog_18_method_5_code 1 = .ok (.getfield 20, 3) := by decide +kernel
theorem d7_4 : decode prog_18_method_5_code 4 = .ok (.dreturn, 1) := by decide +kernel
theorem pn_3 : plainName "com/example/flat_pager/flatpager/Entry" = true := by first | (simp [plainName, overriddenIn]; done) | decide +kernel
theorem ef64 (m : MethodId) (a1 : Addr) (x2 : UInt64) : entryFrame m #[(.ref a1)] 1 = mkF m 0 #[.val (.ref a1)] [] := by first | (simp [entryFrame, mkF, argsToLocals, Value.category]; done) | rfl
def Q7 (Z : State) (a1 : Addr) (x2 : UInt64) (h0 : Heap) (n0 : Nat) (v : Option Value) (h : Heap) (L : List Loc) : Prop := v = some (.double x2) ∧ Fr n0 L ∧ h = h0
set_option maxRecDepth 65536 in
set_option maxHeartbeats 40000000 in
theorem rm7 (l : Launch) (Z : State) (a0 : Array Value) (hw : ∀ d ∈ tables_1, d.before a0 Z = true) (ws : List Jvm.Cond) (a1 : Addr) (x2 : UInt64) (h0 : Heap) (n0 : Nat) (Z0 : n0 ≤ h0.size) (F65 : Fld Z h0 a1 "com/example/flat_pager/flatpager/Entry" "score" "D" (.double x2)) :
    MetFree l (⟨"com/example/flat_pager/flatpager/Entry", "score", "()D"⟩ : MethodName) (head1 (Jvm.Cond.code (⟨"com/example/flat_pager/flatpager/Entry", "score", "()D"⟩ : MethodName) prog_18_method_5_code 1 (some .double) :: ws) ({ frames := 0, cells := 0, slots := 0, locals := 0 } : Room)) (fun a U => a = #[(.ref a1)] ∧ Z.Warmed39 U.vm ∧ U.heap = h0) (fun _ _ _ _ _ => True) (fun _ U o U' => ∃ v L, o = .returned v ∧ Q7 Z a1 x2 h0 n0 v U'.heap L ∧ FrameEnd U o U' L 0 0) := by
  refine MetFree.of_bodySF (plainFor_of_name pn_3) hisR ?_
  intro p e s m args below meth c s₁ Bd hml0 hP hK
  obtain ⟨rfl, hZ, hh⟩ := hP
  have hx := Bd.exec
  have hby := Bd.bytes
  have hml : c.maxLocals = 1 := hml0
  have hown : s.vm.findClass "com/example/flat_pager/flatpager/Entry" = some m.cls := findClass_of_methodNamed Bd.named
  have hnm := (name_of_methodNamed Bd.named Bd.method).1
  have X0 : Stand p l e ({ frames := 0, cells := 0, slots := 0, locals := 0 } : Room) s m #[(.ref a1)] below meth c s₁ [] 0 0 := Stand.of_body Bd
  have e0 : s₁.heap = h0 := by rw [← hh, Bd.state]; rfl
  have N0 := Fr.nil n0
  have A0 := (⟨X0, hx, hby⟩ : Ax _ _ _ _ _ _ _ _ _ _ _ _ _ _ _)
  show Go p e below (fun U o => ∃ v L, o = .returned v ∧ Q7 Z a1 x2 h0 n0 v U.heap L ∧ FrameEnd s o U L 0 0) s₁ (entryFrame m #[(.ref a1)] 1)
  refine Go.cast (ef64 m a1 x2) ?_
  refine g_aloadN A0 d7_0 rfl rfl (pc' := 1) rfl ?_
  obtain ⟨T66, X66, e66, st66⟩ := getF X0 hx hZ hown (host := "") (Or.inl (hw _ (List.mem_of_getElem? (i := 38) rfl))) Via.refl e0 F65 (g := (mkF m 1 #[.val (.ref a1)] [(.ref a1)])) rfl rfl (hb hby d7_1)
  refine Go.of (g' := (mkF m 4 #[.val (.ref a1)] [(.double x2)])) st66 ?_
  have A67 := (⟨X66, hx, hby⟩ : Ax _ _ _ _ _ _ _ _ _ _ _ _ _ _ _)
  exact g_ret (Q := Q7 Z a1 x2 h0 n0) A67 d7_4 Bd.notSynchronized Bd.returns rfl (Or.inr (Or.inr (Or.inl ⟨rfl, rfl, _, rfl⟩))) (by decide) (by decide) (by rw [e66]; exact ⟨rfl, N0, rfl⟩)
theorem d5_0 : decode prog_18_method_1_code 0 = .ok (.aload_n 0, 1) := by decide +kernel
theorem d5_1 : decode prog_18_method_1_code 1 = .ok (.invokespecial 1, 3) := by decide +kernel
theorem d5_4 : decode prog_18_method_1_code 4 = .ok (.dload_n 1, 1) := by decide +kernel
theorem d5_5 : decode prog_18_method_1_code 5 = .ok (.invokestatic 7, 3) := by decide +kernel
theorem d5_8 : decode prog_18_method_1_code 8 = .ok (.ifCond .eq 13, 3) := by decide +kernel
theorem d5_11 : decode prog_18_method_1_code 11 = .ok (.new 13, 3) := by decide +kernel
theorem d5_14 : decode prog_18_method_1_code 14 = .ok (.dup, 1) := by decide +kernel
theorem d5_15 : decode prog_18_method_1_code 15 = .ok (.ldc 15, 2) := by decide +kernel
theorem d5_17 : decode prog_18_method_1_code 17 = .ok (.invokespecial 17, 3) := by decide +kernel
theorem d5_20 : decode prog_18_method_1_code 20 = .ok (.athrow, 1) := by decide +kernel
theorem d5_21 : decode prog_18_method_1_code 21 = .ok (.dload_n 1, 1) := by decide +kernel
theorem d5_22 : decode prog_18_method_1_code 22 = .ok (.dconst 0, 1) := by decide +kernel
theorem d5_23 : decode prog_18_method_1_code 23 = .ok (.dcmp .l, 1) := by decide +kernel
theorem d5_24 : decode prog_18_method_1_code 24 = .ok (.ifCond .ne 7, 3) := by decide +kernel
theorem d5_27 : decode prog_18_method_1_code 27 = .ok (.dconst 0, 1) := by decide +kernel
theorem d5_28 : decode prog_18_method_1_code 28 = .ok (.goto 4, 3) := by decide +kernel
theorem d5_31 : decode prog_18_method_1_code 31 = .ok (.dload_n 1, 1) := by decide +kernel
theorem d5_32 : decode prog_18_method_1_code 32 = .ok (.dstore_n 1, 1) := by decide +kernel
theorem d5_33 : decode prog_18_method_1_code 33 = .ok (.aload_n 0, 1) := by decide +kernel
theorem d5_34 : decode prog_18_method_1_code 34 = .ok (.dload_n 1, 1) := by decide +kernel
theorem d5_35 : decode prog_18_method_1_code 35 = .ok (.putfield 20, 3) := by decide +kernel
theorem d5_38 : decode prog_18_method_1_code 38 = .ok (.aload_n 0, 1) := by decide +kernel
theorem d5_39 : decode prog_18_method_1_code 39 = .ok (.aload_n 3, 1) := by decide +kernel
theorem d5_40 : decode prog_18_method_1_code 40 = .ok (.putfield 26, 3) := by decide +kernel
theorem d5_43 : decode prog_18_method_1_code 43 = .ok (.return_, 1) := by decide +kernel
theorem ef68 (m : MethodId) (a1 : Addr) (x2 : UInt64) (u0 : Value) (u1 : Value) : entryFrame m #[(.ref a1), (.double x2), .null] 4 = mkF m 0 #[.val (.ref a1), .val (.double x2), .second, .val .null] [] := by first | (simp [entryFrame, mkF, argsToLocals, Value.category]; done) | rfl
def Q5 (Z : State) (a1 : Addr) (x2 : UInt64) (u0 : Value) (u1 : Value) (h0 : Heap) (n0 : Nat) (v : Option Value) (h : Heap) (L : List Loc) : Prop := v = none ∧ Fr n0 L ∧ Keep h0 h [a1] ∧ Fld Z h a1 "com/example/flat_pager/flatpager/Entry" "score" "D" (.double (if FP.dcmp x2 (0 : UInt64) = some .eq then (0 : UInt64) else x2))
theorem pd_1 : parseMethodDescriptor "(D)Z" = some ⟨[.double], some .boolean⟩ := by decide +kernel
set_option maxRecDepth 65536 in
set_option maxHeartbeats 40000000 in
theorem rm5 (l : Launch) (Z : State) (a0 : Array Value) (hw : ∀ d ∈ tables_1, d.before a0 Z = true) (ws : List Jvm.Cond) (a1 : Addr) (x2 : UInt64) (u0 : Value) (u1 : Value) (h0 : Heap) (n0 : Nat) (Z0 : n0 ≤ h0.size) (E69 : Exa Z h0 a1 "com/example/flat_pager/flatpager/Entry") (F70 : Fld Z h0 a1 "com/example/flat_pager/flatpager/Entry" "score" "D" u0) (F71 : Fld Z h0 a1 "com/example/flat_pager/flatpager/Entry" "member" "Lcom/example/flat_pager/flatpager/Bytes;" u1) (g72 : n0 ≤ a1) (hf : Fin64 x2) :
    MetFree l (⟨"com/example/flat_pager/flatpager/Entry", "<init>", "(DLcom/example/flat_pager/flatpager/Bytes;)V"⟩ : MethodName) (head1 (Jvm.Cond.code (⟨"com/example/flat_pager/flatpager/Entry", "<init>", "(DLcom/example/flat_pager/flatpager/Bytes;)V"⟩ : MethodName) prog_18_method_1_code 4 none :: ws) ({ frames := 2, cells := 0, slots := 0, locals := 24 } : Room)) (fun a U => a = #[(.ref a1), (.double x2), .null] ∧ Z.Warmed39 U.vm ∧ U.heap = h0) (fun _ _ _ _ _ => True) (fun _ U o U' => ∃ v L, o = .returned v ∧ Q5 Z a1 x2 u0 u1 h0 n0 v U'.heap L ∧ FrameEnd U o U' L 0 0) := by
  refine MetFree.of_bodySF (plainFor_of_name pn_3) hisR ?_
  intro p e s m args below meth c s₁ Bd hml0 hP hK
  obtain ⟨rfl, hZ, hh⟩ := hP
  have hx := Bd.exec
  have hby := Bd.bytes
  have hml : c.maxLocals = 4 := hml0
  have hown : s.vm.findClass "com/example/flat_pager/flatpager/Entry" = some m.cls := findClass_of_methodNamed Bd.named
  have hnm := (name_of_methodNamed Bd.named Bd.method).1
  have X0 : Stand p l e ({ frames := 2, cells := 0, slots := 0, locals := 24 } : Room) s m #[(.ref a1), (.double x2), .null] below meth c s₁ [] 0 0 := Stand.of_body Bd
  have e0 : s₁.heap = h0 := by rw [← hh, Bd.state]; rfl
  have N0 := Fr.nil n0
  have A0 := (⟨X0, hx, hby⟩ : Ax _ _ _ _ _ _ _ _ _ _ _ _ _ _ _)
  show Go p e below (fun U o => ∃ v L, o = .returned v ∧ Q5 Z a1 x2 u0 u1 h0 n0 v U.heap L ∧ FrameEnd s o U L 0 0) s₁ (entryFrame m #[(.ref a1), (.double x2), .null] 4)
  refine Go.cast (ef68 m a1 x2 u0 u1) ?_
  refine g_aloadN A0 d5_0 rfl rfl (pc' := 1) rfl ?_
  obtain ⟨_, _, ⟨T73, L73, k73, n73⟩, -, X73, ⟨L73c, hQ73, l73, y73, z73⟩, st73⟩ := X0.specialBack hx (y := (⟨"java/lang/Record", "<init>", "()V"⟩ : MethodName)) rfl hown (mvT hZ (hw _ (List.mem_of_getElem? (i := 33) rfl))) (mvT hZ (hw _ (List.mem_of_getElem? (i := 7) rfl))) (mvT hZ (hw _ (List.mem_of_getElem? (i := 10) rfl))) (by decide) (backOf (W := 0) (rm2 l Z a0 hw [] a1 h0 n0 Z0 ) hZ (hw _ (List.mem_of_getElem? (i := 10) rfl)) (hw _ (List.mem_of_getElem? (i := 9) rfl)) (by decide) (by decide)) (g := (mkF m 1 #[.val (.ref a1), .val (.double x2), .second, .val .null] [(.ref a1)])) rfl (by rw [hml]; rfl) (Steps.refl _) (a := a1) (argsL := []) (rest := []) (lenOf pd_0 rfl) rfl (by show 2 * 0 + _ ≤ _; exact Nat.le_of_eq rfl) (hb hby d5_1) (fun _ _ => ⟨rfl, e0, (by decide : 0 + 0 ≤ _), (by decide : 0 + 0 ≤ _)⟩)
  dsimp only [Pt.U, Pt.locs, Pt.cells, Pt.slots] at X73 l73 y73 z73 st73 hQ73
  subst l73 y73 z73
  obtain ⟨rfl, Nq74, Kq75⟩ := hQ73
  have N76 := Fr.app N0 Nq74
  refine Go.tr (g' := (mkF m 4 #[.val (.ref a1), .val (.double x2), .second, .val .null] [])) st73 ?_
  have e77 : T73.heap = h0 := Kq75
  have A78 := (⟨X73, hx, hby⟩ : Ax _ _ _ _ _ _ _ _ _ _ _ _ _ _ _)
  refine g_dloadN A78 d5_4 rfl (pc' := 5) rfl ?_
  obtain ⟨_, _, ⟨T79, L79, k79, n79⟩, -, X79, ⟨L79c, hQ79, l79, y79, z79⟩, st79⟩ := Jvm.LawKit.callS X73 hx (y := (⟨"java/lang/Double", "isNaN", "(D)Z"⟩ : MethodName)) hown (mvT hZ (hw _ (List.mem_of_getElem? (i := 34) rfl))) (mvT hZ (hw _ (List.mem_of_getElem? (i := 35) rfl))) (mvT hZ (hw _ (List.mem_of_getElem? (i := 36) rfl))) (mvT hZ (hw _ (List.mem_of_getElem? (i := 37) rfl))) (by decide) (backOf (W := 0) (rm6 l Z a0 hw [] x2 h0 n0 Z0 hf) hZ (hw _ (List.mem_of_getElem? (i := 37) rfl)) (hw _ (List.mem_of_getElem? (i := 36) rfl)) (by decide) (by decide)) (g := (mkF m 5 #[.val (.ref a1), .val (.double x2), .second, .val .null] [(.double x2)])) rfl (by rw [hml]; rfl) (argsL := [(.double x2)]) (rest := []) (lenOf pd_1 rfl) rfl (by show 2 * 0 + _ ≤ _; exact Nat.le_of_eq rfl) (hb hby d5_5) (fun _ _ => ⟨rfl, e77, (by decide : 0 + 0 ≤ _), (by decide : 0 + 0 ≤ _)⟩)
  dsimp only [Pt.U, Pt.locs, Pt.cells, Pt.slots] at X79 l79 y79 z79 st79 hQ79
  subst l79 y79 z79
  obtain ⟨rfl, Nq80, Kq81⟩ := hQ79
  have N82 := Fr.app N76 Nq80
  refine Go.of (g' := (mkF m 8 #[.val (.ref a1), .val (.double x2), .second, .val .null] [(.int (0 : Int32))])) st79 ?_
  have e83 : T79.heap = h0 := Kq81
  have A84 := (⟨X79, hx, hby⟩ : Ax _ _ _ _ _ _ _ _ _ _ _ _ _ _ _)
  refine g_ifY A84 d5_8 (c0_eq_t (by decide)) (pc' := 21) rfl ?_
  refine g_dloadN A84 d5_21 rfl (pc' := 22) rfl ?_
  refine g_dconst0 A84 d5_22 (pc' := 23) rfl ?_
  refine g_dcmp A84 d5_23 (pc' := 24) rfl ?_
  obtain ⟨v85, hv85⟩ : ∃ z : UInt64, z = (if FP.dcmp x2 (0 : UInt64) = some .eq then (0 : UInt64) else x2) := ⟨_, rfl⟩
  have sg86 : ∀ {P : State → Outcome → Prop}, Go p e below P T79 (mkF m 32 #[.val (.ref a1), .val (.double x2), .second, .val .null] [(.double v85)]) → Go p e below P T79 (mkF m 24 #[.val (.ref a1), .val (.double x2), .second, .val .null] [(.int (cmpValue (FP.dcmp x2 (0 : UInt64)) .l))]) := by
    intro P hr
    by_cases c87 : FP.dcmp x2 (0 : UInt64) = some .eq
    · skip
      refine g_ifN A84 d5_24 (d_l_ne_f c87) (pc' := 27) rfl ?_
      refine g_dconst0 A84 d5_27 (pc' := 28) rfl ?_
      refine g_goto A84 d5_28 (pc' := 32) rfl ?_
      obtain rfl : v85 = (0 : UInt64) := hv85.trans ((if_pos c87).trans rfl)
      exact hr
    · skip
      refine g_ifY A84 d5_24 (d_l_ne_t c87) (pc' := 31) rfl ?_
      refine g_dloadN A84 d5_31 rfl (pc' := 32) rfl ?_
      obtain rfl : v85 = x2 := hv85.trans ((if_neg c87).trans rfl)
      exact hr
  refine sg86 ?_
  subst hv85
  refine g_dstoreN A84 d5_32 (ls' := #[.val (.ref a1), .val (.double (if FP.dcmp x2 (0 : UInt64) = some .eq then (0 : UInt64) else x2)), .second, .val .null]) rfl (pc' := 33) rfl ?_
  refine g_aloadN A84 d5_33 rfl rfl (pc' := 34) rfl ?_
  refine g_dloadN A84 d5_34 rfl (pc' := 35) rfl ?_
  obtain ⟨T88, h88, X88, e88, W88, st88⟩ := putF X79 hx hZ hown (host := "") (Or.inl (hw _ (List.mem_of_getElem? (i := 38) rfl))) Via.refl e83 F70 E69 (Or.inr ⟨(hw _ (List.mem_of_getElem? (i := 39) rfl)), rfl, hnm⟩) (hw _ (List.mem_of_getElem? (i := 28) rfl)) (ty := .double) (by decide) rfl rfl (g := (mkF m 35 #[.val (.ref a1), .val (.double (if FP.dcmp x2 (0 : UInt64) = some .eq then (0 : UInt64) else x2)), .second, .val .null] [(.double (if FP.dcmp x2 (0 : UInt64) = some .eq then (0 : UInt64) else x2)), (.ref a1)])) rfl rfl (hb hby d5_35)
  have N89 := Fr.snoc X88 N82 g72
  have K90 : Keep h0 h88 [a1] := (Keep.refl h0 [a1]).wr W88 (Or.inl (List.mem_of_getElem? (i := 0) rfl))
  have E91 : Exa Z h88 a1 "com/example/flat_pager/flatpager/Entry" := Exa.wr W88 E69
  have F92 : Fld Z h88 a1 "com/example/flat_pager/flatpager/Entry" "member" "Lcom/example/flat_pager/flatpager/Bytes;" u1 := Fld.other W88 F71 (Or.inr (slot_ne (Or.inr (hw _ (List.mem_of_getElem? (i := 41) rfl))) (Or.inr (hw _ (List.mem_of_getElem? (i := 39) rfl))) (by decide) (t := (.object "com/example/flat_pager/flatpager/Bytes")) (t' := .double) (by decide) (by decide)))
  have F93 : Fld Z h88 a1 "com/example/flat_pager/flatpager/Entry" "score" "D" (.double (if FP.dcmp x2 (0 : UInt64) = some .eq then (0 : UInt64) else x2)) := Fld.same W88 F70
  have Z94 : n0 ≤ h88.size := by rw [W88.size]; exact Z0
  refine Go.of (g' := (mkF m 38 #[.val (.ref a1), .val (.double (if FP.dcmp x2 (0 : UInt64) = some .eq then (0 : UInt64) else x2)), .second, .val .null] [])) st88 ?_
  have A95 := (⟨X88, hx, hby⟩ : Ax _ _ _ _ _ _ _ _ _ _ _ _ _ _ _)
  refine g_aloadN A95 d5_38 rfl rfl (pc' := 39) rfl ?_
  refine g_aloadN A95 d5_39 rfl rfl (pc' := 40) rfl ?_
  obtain ⟨T96, h96, X96, e96, W96, st96⟩ := putF X88 hx hZ hown (host := "") (Or.inl (hw _ (List.mem_of_getElem? (i := 40) rfl))) Via.refl e88 F92 E91 (Or.inr ⟨(hw _ (List.mem_of_getElem? (i := 41) rfl)), rfl, hnm⟩) (hw _ (List.mem_of_getElem? (i := 28) rfl)) (ty := (.object "com/example/flat_pager/flatpager/Bytes")) (by decide) rfl rfl (g := (mkF m 40 #[.val (.ref a1), .val (.double (if FP.dcmp x2 (0 : UInt64) = some .eq then (0 : UInt64) else x2)), .second, .val .null] [.null, (.ref a1)])) rfl rfl (hb hby d5_40)
  have N97 := Fr.snoc X96 N89 g72
  have K98 : Keep h0 h96 [a1] := K90.wr W96 (Or.inl (List.mem_of_getElem? (i := 0) rfl))
  have E99 : Exa Z h96 a1 "com/example/flat_pager/flatpager/Entry" := Exa.wr W96 E91
  have F100 : Fld Z h96 a1 "com/example/flat_pager/flatpager/Entry" "score" "D" (.double (if FP.dcmp x2 (0 : UInt64) = some .eq then (0 : UInt64) else x2)) := Fld.other W96 F93 (Or.inr (slot_ne (Or.inr (hw _ (List.mem_of_getElem? (i := 39) rfl))) (Or.inr (hw _ (List.mem_of_getElem? (i := 41) rfl))) (by decide) (t := .double) (t' := (.object "com/example/flat_pager/flatpager/Bytes")) (by decide) (by decide)))
  have F101 : Fld Z h96 a1 "com/example/flat_pager/flatpager/Entry" "member" "Lcom/example/flat_pager/flatpager/Bytes;" .null := Fld.same W96 F92
  have Z102 : n0 ≤ h96.size := by rw [W96.size]; exact Z94
  refine Go.of (g' := (mkF m 43 #[.val (.ref a1), .val (.double (if FP.dcmp x2 (0 : UInt64) = some .eq then (0 : UInt64) else x2)), .second, .val .null] [])) st96 ?_
  have A103 := (⟨X96, hx, hby⟩ : Ax _ _ _ _ _ _ _ _ _ _ _ _ _ _ _)
  exact g_retV (Q := Q5 Z a1 x2 u0 u1 h0 n0) A103 d5_43 Bd.notSynchronized Bd.returns (by decide) (by decide) (by rw [e96]; exact ⟨rfl, N97, K98, F100⟩)
theorem d4_0 : decode prog_1_method_2_code 0 = .ok (.aload_n 1, 1) := by decide +kernel
theorem d4_1 : decode prog_1_method_2_code 1 = .ok (.ifnonnull 12, 3) := by decide +kernel
theorem d4_4 : decode prog_1_method_2_code 4 = .ok (.aload_n 0, 1) := by decide +kernel
theorem d4_5 : decode prog_1_method_2_code 5 = .ok (.getfield 22, 3) := by decide +kernel
theorem d4_8 : decode prog_1_method_2_code 8 = .ok (.istore 4, 2) := by decide +kernel
theorem d4_10 : decode prog_1_method_2_code 10 = .ok (.goto 71, 3) := by decide +kernel
theorem d4_13 : decode prog_1_method_2_code 13 = .ok (.aload_n 0, 1) := by decide +kernel
theorem d4_14 : decode prog_1_method_2_code 14 = .ok (.getfield 16, 3) := by decide +kernel
theorem d4_17 : decode prog_1_method_2_code 17 = .ok (.ifCond .eq 9, 3) := by decide +kernel
theorem d4_20 : decode prog_1_method_2_code 20 = .ok (.iconst 1, 1) := by decide +kernel
theorem d4_21 : decode prog_1_method_2_code 21 = .ok (.istore 4, 2) := by decide +kernel
theorem d4_23 : decode prog_1_method_2_code 23 = .ok (.goto 58, 3) := by decide +kernel
theorem d4_26 : decode prog_1_method_2_code 26 = .ok (.aload_n 0, 1) := by decide +kernel
theorem d4_27 : decode prog_1_method_2_code 27 = .ok (.getfield 25, 3) := by decide +kernel
theorem d4_30 : decode prog_1_method_2_code 30 = .ok (.ifCond .eq 22, 3) := by decide +kernel
theorem d4_33 : decode prog_1_method_2_code 33 = .ok (.dload_n 2, 1) := by decide +kernel
theorem d4_34 : decode prog_1_method_2_code 34 = .ok (.aload_n 1, 1) := by decide +kernel
theorem d4_35 : decode prog_1_method_2_code 35 = .ok (.invokevirtual 31, 3) := by decide +kernel
theorem d4_38 : decode prog_1_method_2_code 38 = .ok (.dcmp .g, 1) := by decide +kernel
theorem d4_39 : decode prog_1_method_2_code 39 = .ok (.ifCond .gt 7, 3) := by decide +kernel
theorem d4_42 : decode prog_1_method_2_code 42 = .ok (.iconst 1, 1) := by decide +kernel
theorem d4_43 : decode prog_1_method_2_code 43 = .ok (.goto 4, 3) := by decide +kernel
theorem d4_46 : decode prog_1_method_2_code 46 = .ok (.iconst 0, 1) := by decide +kernel
theorem d4_47 : decode prog_1_method_2_code 47 = .ok (.istore 4, 2) := by decide +kernel
theorem d4_49 : decode prog_1_method_2_code 49 = .ok (.goto 32, 3) := by decide +kernel
theorem d4_52 : decode prog_1_method_2_code 52 = .ok (.aload_n 0, 1) := by decide +kernel
theorem d4_53 : decode prog_1_method_2_code 53 = .ok (.getfield 28, 3) := by decide +kernel
theorem d4_56 : decode prog_1_method_2_code 56 = .ok (.ifCond .eq 22, 3) := by decide +kernel
theorem d4_59 : decode prog_1_method_2_code 59 = .ok (.dload_n 2, 1) := by decide +kernel
theorem d4_60 : decode prog_1_method_2_code 60 = .ok (.aload_n 1, 1) := by decide +kernel
theorem d4_61 : decode prog_1_method_2_code 61 = .ok (.invokevirtual 31, 3) := by decide +kernel
theorem d4_64 : decode prog_1_method_2_code 64 = .ok (.dcmp .l, 1) := by decide +kernel
theorem d4_65 : decode prog_1_method_2_code 65 = .ok (.ifCond .lt 7, 3) := by decide +kernel
theorem d4_68 : decode prog_1_method_2_code 68 = .ok (.iconst 1, 1) := by decide +kernel
theorem d4_69 : decode prog_1_method_2_code 69 = .ok (.goto 4, 3) := by decide +kernel
theorem d4_72 : decode prog_1_method_2_code 72 = .ok (.iconst 0, 1) := by decide +kernel
theorem d4_73 : decode prog_1_method_2_code 73 = .ok (.istore 4, 2) := by decide +kernel
theorem d4_75 : decode prog_1_method_2_code 75 = .ok (.goto 6, 3) := by decide +kernel
theorem d4_78 : decode prog_1_method_2_code 78 = .ok (.iconst 0, 1) := by decide +kernel
theorem d4_79 : decode prog_1_method_2_code 79 = .ok (.istore 4, 2) := by decide +kernel
theorem d4_81 : decode prog_1_method_2_code 81 = .ok (.iload 4, 2) := by decide +kernel
theorem d4_83 : decode prog_1_method_2_code 83 = .ok (.ireturn, 1) := by decide +kernel
theorem ef104 (m : MethodId) (a1 : Addr) (x3 : UInt64) (b2 : Int32) : entryFrame m #[(.ref a1), .null, (.double x3)] 5 = mkF m 0 #[.val (.ref a1), .val .null, .val (.double x3), .second, .unset] [] := by first | (simp [entryFrame, mkF, argsToLocals, Value.category]; done) | rfl
def Q4n (Z : State) (a1 : Addr) (x3 : UInt64) (b2 : Int32) (h0 : Heap) (n0 : Nat) (v : Option Value) (h : Heap) (L : List Loc) : Prop := v = some (.int b2) ∧ Fr n0 L ∧ h = h0
set_option maxRecDepth 65536 in
set_option maxHeartbeats 40000000 in
theorem rm4n (l : Launch) (Z : State) (a0 : Array Value) (hw : ∀ d ∈ tables_1, d.before a0 Z = true) (ws : List Jvm.Cond) (a1 : Addr) (x3 : UInt64) (b2 : Int32) (h0 : Heap) (n0 : Nat) (Z0 : n0 ≤ h0.size) (F105 : Fld Z h0 a1 "com/example/flat_pager/flatpager/AddCondition" "onlyExisting" "Z" (.int b2)) (hbo : narrow .boolean (.int b2) = .int b2) :
    MetFree l (⟨"com/example/flat_pager/flatpager/AddCondition", "stops", "(Lcom/example/flat_pager/flatpager/Entry;D)Z"⟩ : MethodName) (head1 (Jvm.Cond.code (⟨"com/example/flat_pager/flatpager/AddCondition", "stops", "(Lcom/example/flat_pager/flatpager/Entry;D)Z"⟩ : MethodName) prog_1_method_2_code 5 (some .boolean) :: ws) ({ frames := 0, cells := 0, slots := 0, locals := 0 } : Room)) (fun a U => a = #[(.ref a1), .null, (.double x3)] ∧ Z.Warmed39 U.vm ∧ U.heap = h0) (fun _ _ _ _ _ => True) (fun _ U o U' => ∃ v L, o = .returned v ∧ Q4n Z a1 x3 b2 h0 n0 v U'.heap L ∧ FrameEnd U o U' L 0 0) := by
  refine MetFree.of_bodySF (plainFor_of_name pn_2) hisR ?_
  intro p e s m args below meth c s₁ Bd hml0 hP hK
  obtain ⟨rfl, hZ, hh⟩ := hP
  have hx := Bd.exec
  have hby := Bd.bytes
  have hml : c.maxLocals = 5 := hml0
  have hown : s.vm.findClass "com/example/flat_pager/flatpager/AddCondition" = some m.cls := findClass_of_methodNamed Bd.named
  have hnm := (name_of_methodNamed Bd.named Bd.method).1
  have X0 : Stand p l e ({ frames := 0, cells := 0, slots := 0, locals := 0 } : Room) s m #[(.ref a1), .null, (.double x3)] below meth c s₁ [] 0 0 := Stand.of_body Bd
  have e0 : s₁.heap = h0 := by rw [← hh, Bd.state]; rfl
  have N0 := Fr.nil n0
  have A0 := (⟨X0, hx, hby⟩ : Ax _ _ _ _ _ _ _ _ _ _ _ _ _ _ _)
  show Go p e below (fun U o => ∃ v L, o = .returned v ∧ Q4n Z a1 x3 b2 h0 n0 v U.heap L ∧ FrameEnd s o U L 0 0) s₁ (entryFrame m #[(.ref a1), .null, (.double x3)] 5)
  refine Go.cast (ef104 m a1 x3 b2) ?_
  refine g_aloadN A0 d4_0 rfl rfl (pc' := 1) rfl ?_
  refine g_nnN A0 d4_1 (pc' := 4) rfl ?_
  refine g_aloadN A0 d4_4 rfl rfl (pc' := 5) rfl ?_
  obtain ⟨T106, X106, e106, st106⟩ := getF X0 hx hZ hown (host := "") (Or.inl (hw _ (List.mem_of_getElem? (i := 16) rfl))) Via.refl e0 F105 (g := (mkF m 5 #[.val (.ref a1), .val .null, .val (.double x3), .second, .unset] [(.ref a1)])) rfl rfl (hb hby d4_5)
  refine Go.of (g' := (mkF m 8 #[.val (.ref a1), .val .null, .val (.double x3), .second, .unset] [(.int b2)])) st106 ?_
  have A107 := (⟨X106, hx, hby⟩ : Ax _ _ _ _ _ _ _ _ _ _ _ _ _ _ _)
  refine g_istore A107 d4_8 (ls' := #[.val (.ref a1), .val .null, .val (.double x3), .second, .val (.int b2)]) rfl (pc' := 10) rfl ?_
  refine g_goto A107 d4_10 (pc' := 81) rfl ?_
  refine g_iload A107 d4_81 rfl (pc' := 83) rfl ?_
  exact g_ret (Q := Q4n Z a1 x3 b2 h0 n0) A107 d4_83 Bd.notSynchronized Bd.returns hbo (Or.inl ⟨rfl, by simp, _, rfl⟩) (by decide) (by decide) (by rw [e106]; exact ⟨rfl, N0, rfl⟩)
def own_r_rm4r (x3 : UInt64) (y4 : UInt64) (b1 : Int32) (b3 : Int32) (b4 : Int32) : Int32 := (if b1 = 0 then (if b3 = 0 then (if b4 = 0 then (0 : Int32) else (if oGe (FP.dcmp x3 y4) then (1 : Int32) else 0)) else (if oLe (FP.dcmp x3 y4) then (1 : Int32) else 0)) else (1 : Int32))
theorem ef108 (m : MethodId) (a1 : Addr) (a2 : Addr) (x3 : UInt64) (y4 : UInt64) (b1 : Int32) (b3 : Int32) (b4 : Int32) : entryFrame m #[(.ref a1), (.ref a2), (.double x3)] 5 = mkF m 0 #[.val (.ref a1), .val (.ref a2), .val (.double x3), .second, .unset] [] := by first | (simp [entryFrame, mkF, argsToLocals, Value.category]; done) | rfl
def Q4r (Z : State) (a1 : Addr) (a2 : Addr) (x3 : UInt64) (y4 : UInt64) (b1 : Int32) (b3 : Int32) (b4 : Int32) (h0 : Heap) (n0 : Nat) (v : Option Value) (h : Heap) (L : List Loc) : Prop := v = some (.int (own_r_rm4r x3 y4 b1 b3 b4)) ∧ Fr n0 L ∧ h = h0
theorem pd_2 : parseMethodDescriptor "()D" = some ⟨[], some .double⟩ := by decide +kernel
set_option maxRecDepth 65536 in
set_option maxHeartbeats 40000000 in
theorem rm4r (l : Launch) (Z : State) (a0 : Array Value) (hw : ∀ d ∈ tables_1, d.before a0 Z = true) (ws : List Jvm.Cond) (a1 : Addr) (a2 : Addr) (x3 : UInt64) (y4 : UInt64) (b1 : Int32) (b3 : Int32) (b4 : Int32) (h0 : Heap) (n0 : Nat) (Z0 : n0 ≤ h0.size) (F109 : Fld Z h0 a1 "com/example/flat_pager/flatpager/AddCondition" "onlyNew" "Z" (.int b1)) (F110 : Fld Z h0 a1 "com/example/flat_pager/flatpager/AddCondition" "onlyGreater" "Z" (.int b3)) (F111 : Fld Z h0 a1 "com/example/flat_pager/flatpager/AddCondition" "onlyLower" "Z" (.int b4)) (E112 : Exa Z h0 a2 "com/example/flat_pager/flatpager/Entry") (F113 : Fld Z h0 a2 "com/example/flat_pager/flatpager/Entry" "score" "D" (.double y4)) :
    MetFree l (⟨"com/example/flat_pager/flatpager/AddCondition", "stops", "(Lcom/example/flat_pager/flatpager/Entry;D)Z"⟩ : MethodName) (head1 (Jvm.Cond.code (⟨"com/example/flat_pager/flatpager/AddCondition", "stops", "(Lcom/example/flat_pager/flatpager/Entry;D)Z"⟩ : MethodName) prog_1_method_2_code 5 (some .boolean) :: ws) ({ frames := 1, cells := 0, slots := 0, locals := 14 } : Room)) (fun a U => a = #[(.ref a1), (.ref a2), (.double x3)] ∧ Z.Warmed39 U.vm ∧ U.heap = h0) (fun _ _ _ _ _ => True) (fun _ U o U' => ∃ v L, o = .returned v ∧ Q4r Z a1 a2 x3 y4 b1 b3 b4 h0 n0 v U'.heap L ∧ FrameEnd U o U' L 0 0) := by
  refine MetFree.of_bodySF (plainFor_of_name pn_2) hisR ?_
  intro p e s m args below meth c s₁ Bd hml0 hP hK
  obtain ⟨rfl, hZ, hh⟩ := hP
  have hx := Bd.exec
  have hby := Bd.bytes
  have hml : c.maxLocals = 5 := hml0
  have hown : s.vm.findClass "com/example/flat_pager/flatpager/AddCondition" = some m.cls := findClass_of_methodNamed Bd.named
  have hnm := (name_of_methodNamed Bd.named Bd.method).1
  have X0 : Stand p l e ({ frames := 1, cells := 0, slots := 0, locals := 14 } : Room) s m #[(.ref a1), (.ref a2), (.double x3)] below meth c s₁ [] 0 0 := Stand.of_body Bd
  have e0 : s₁.heap = h0 := by rw [← hh, Bd.state]; rfl
  have N0 := Fr.nil n0
  have A0 := (⟨X0, hx, hby⟩ : Ax _ _ _ _ _ _ _ _ _ _ _ _ _ _ _)
  show Go p e below (fun U o => ∃ v L, o = .returned v ∧ Q4r Z a1 a2 x3 y4 b1 b3 b4 h0 n0 v U.heap L ∧ FrameEnd s o U L 0 0) s₁ (entryFrame m #[(.ref a1), (.ref a2), (.double x3)] 5)
  refine Go.cast (ef108 m a1 a2 x3 y4 b1 b3 b4) ?_
  refine g_aloadN A0 d4_0 rfl rfl (pc' := 1) rfl ?_
  refine g_nnY A0 d4_1 (pc' := 13) rfl ?_
  refine g_aloadN A0 d4_13 rfl rfl (pc' := 14) rfl ?_
  obtain ⟨T114, X114, e114, st114⟩ := getF X0 hx hZ hown (host := "") (Or.inl (hw _ (List.mem_of_getElem? (i := 14) rfl))) Via.refl e0 F109 (g := (mkF m 14 #[.val (.ref a1), .val (.ref a2), .val (.double x3), .second, .unset] [(.ref a1)])) rfl rfl (hb hby d4_14)
  refine Go.of (g' := (mkF m 17 #[.val (.ref a1), .val (.ref a2), .val (.double x3), .second, .unset] [(.int b1)])) st114 ?_
  have A115 := (⟨X114, hx, hby⟩ : Ax _ _ _ _ _ _ _ _ _ _ _ _ _ _ _)
  by_cases hc116 : b1 = 0
  · skip
    refine g_ifY A115 d4_17 (c0_eq_t hc116) (pc' := 26) rfl ?_
    refine g_aloadN A115 d4_26 rfl rfl (pc' := 27) rfl ?_
    obtain ⟨T117, X117, e117, st117⟩ := getF X114 hx hZ hown (host := "") (Or.inl (hw _ (List.mem_of_getElem? (i := 18) rfl))) Via.refl e114 F110 (g := (mkF m 27 #[.val (.ref a1), .val (.ref a2), .val (.double x3), .second, .unset] [(.ref a1)])) rfl rfl (hb hby d4_27)
    refine Go.of (g' := (mkF m 30 #[.val (.ref a1), .val (.ref a2), .val (.double x3), .second, .unset] [(.int b3)])) st117 ?_
    have A118 := (⟨X117, hx, hby⟩ : Ax _ _ _ _ _ _ _ _ _ _ _ _ _ _ _)
    by_cases hc119 : b3 = 0
    · skip
      refine g_ifY A118 d4_30 (c0_eq_t hc119) (pc' := 52) rfl ?_
      refine g_aloadN A118 d4_52 rfl rfl (pc' := 53) rfl ?_
      obtain ⟨T120, X120, e120, st120⟩ := getF X117 hx hZ hown (host := "") (Or.inl (hw _ (List.mem_of_getElem? (i := 20) rfl))) Via.refl e117 F111 (g := (mkF m 53 #[.val (.ref a1), .val (.ref a2), .val (.double x3), .second, .unset] [(.ref a1)])) rfl rfl (hb hby d4_53)
      refine Go.of (g' := (mkF m 56 #[.val (.ref a1), .val (.ref a2), .val (.double x3), .second, .unset] [(.int b4)])) st120 ?_
      have A121 := (⟨X120, hx, hby⟩ : Ax _ _ _ _ _ _ _ _ _ _ _ _ _ _ _)
      by_cases hc122 : b4 = 0
      · skip
        refine g_ifY A121 d4_56 (c0_eq_t hc122) (pc' := 78) rfl ?_
        refine g_iconst A121 d4_78 (v := (0 : Int32)) rfl (pc' := 79) rfl ?_
        refine g_istore A121 d4_79 (ls' := #[.val (.ref a1), .val (.ref a2), .val (.double x3), .second, .val (.int (0 : Int32))]) rfl (pc' := 81) rfl ?_
        refine g_iload A121 d4_81 rfl (pc' := 83) rfl ?_
        exact g_ret (Q := Q4r Z a1 a2 x3 y4 b1 b3 b4 h0 n0) A121 d4_83 Bd.notSynchronized Bd.returns rfl (Or.inl ⟨rfl, by simp, _, rfl⟩) (by decide) (by decide) (by rw [e120]; exact ⟨(congrArg (fun z => some (Value.int z)) (by rw [own_r_rm4r, if_pos hc116, if_pos hc119, if_pos hc122])), N0, rfl⟩)
      · skip
        refine g_ifN A121 d4_56 (c0_eq_f hc122) (pc' := 59) rfl ?_
        refine g_dloadN A121 d4_59 rfl (pc' := 60) rfl ?_
        refine g_aloadN A121 d4_60 rfl rfl (pc' := 61) rfl ?_
        obtain ⟨cq124, kq124, q124a, q124b, q124c⟩ := isOf hZ e120 E112
        obtain ⟨_, _, ⟨T123, L123, k123, n123⟩, -, X123, ⟨L123c, hQ123, l123, y123, z123⟩, st123⟩ := X120.virtualBack hx (y := (⟨"com/example/flat_pager/flatpager/Entry", "score", "()D"⟩ : MethodName)) (z := (⟨"com/example/flat_pager/flatpager/Entry", "score", "()D"⟩ : MethodName)) hown (mvT hZ (hw _ (List.mem_of_getElem? (i := 42) rfl))) (mvT hZ (hw _ (List.mem_of_getElem? (i := 43) rfl))) (notFace_of_selects (args := #[]) (mvT hZ (hw _ (List.mem_of_getElem? (i := 45) rfl)))) (mvT hZ (hw _ (List.mem_of_getElem? (i := 45) rfl))) (mvT hZ (hw _ (List.mem_of_getElem? (i := 44) rfl))) (by decide) (backOf (W := 2) (rm7 l Z a0 hw [] a2 y4 h0 n0 Z0 F113) hZ (hw _ (List.mem_of_getElem? (i := 46) rfl)) (hw _ (List.mem_of_getElem? (i := 29) rfl)) (by decide) (by decide)) q124a q124c (g := (mkF m 61 #[.val (.ref a1), .val (.ref a2), .val (.double x3), .second, .unset] [(.ref a2), (.double x3)])) rfl (by rw [hml]; rfl) (Steps.refl _) (argsL := []) (rest := [(.double x3)]) (lenOf pd_2 rfl) rfl (by show 2 * 0 + _ ≤ _; exact Nat.le_of_eq rfl) (hb hby d4_61) (fun _ _ => ⟨rfl, e120, (by decide : 0 + 0 ≤ _), (by decide : 0 + 0 ≤ _)⟩)
        dsimp only [Pt.U, Pt.locs, Pt.cells, Pt.slots] at X123 l123 y123 z123 st123 hQ123
        subst l123 y123 z123
        obtain ⟨rfl, Nq125, Kq126⟩ := hQ123
        have N127 := Fr.app N0 Nq125
        refine Go.tr (g' := (mkF m 64 #[.val (.ref a1), .val (.ref a2), .val (.double x3), .second, .unset] [(.double y4), (.double x3)])) st123 ?_
        have e128 : T123.heap = h0 := Kq126
        have A129 := (⟨X123, hx, hby⟩ : Ax _ _ _ _ _ _ _ _ _ _ _ _ _ _ _)
        refine g_dcmp A129 d4_64 (pc' := 65) rfl ?_
        obtain ⟨v130, hv130⟩ : ∃ z : Int32, z = if oGe (FP.dcmp x3 y4) then (1 : Int32) else 0 := ⟨_, rfl⟩
        have sg131 : ∀ {P : State → Outcome → Prop}, Go p e below P T123 (mkF m 73 #[.val (.ref a1), .val (.ref a2), .val (.double x3), .second, .unset] [(.int v130)]) → Go p e below P T123 (mkF m 65 #[.val (.ref a1), .val (.ref a2), .val (.double x3), .second, .unset] [(.int (cmpValue (FP.dcmp x3 y4) .l))]) := by
          intro P hr
          by_cases c132 : oGe (FP.dcmp x3 y4)
          · skip
            refine g_ifN A129 d4_65 (d_l_lt_f c132) (pc' := 68) rfl ?_
            refine g_iconst A129 d4_68 (v := (1 : Int32)) rfl (pc' := 69) rfl ?_
            refine g_goto A129 d4_69 (pc' := 73) rfl ?_
            obtain rfl : v130 = (1 : Int32) := hv130.trans (if_pos c132)
            exact hr
          · skip
            refine g_ifY A129 d4_65 (d_l_lt_t c132) (pc' := 72) rfl ?_
            refine g_iconst A129 d4_72 (v := (0 : Int32)) rfl (pc' := 73) rfl ?_
            obtain rfl : v130 = (0 : Int32) := hv130.trans (if_neg c132)
            exact hr
        refine sg131 ?_
        refine g_istore A129 d4_73 (ls' := #[.val (.ref a1), .val (.ref a2), .val (.double x3), .second, .val (.int v130)]) rfl (pc' := 75) rfl ?_
        refine g_goto A129 d4_75 (pc' := 81) rfl ?_
        refine g_iload A129 d4_81 rfl (pc' := 83) rfl ?_
        exact g_ret (Q := Q4r Z a1 a2 x3 y4 b1 b3 b4 h0 n0) A129 d4_83 Bd.notSynchronized Bd.returns (own_b01 hv130) (Or.inl ⟨rfl, by simp, _, rfl⟩) (by decide) (by decide) (by rw [e128]; exact ⟨(congrArg (fun z => some (Value.int z)) (by rw [hv130, own_r_rm4r, if_pos hc116, if_pos hc119, if_neg hc122])), N127, rfl⟩)
    · skip
      refine g_ifN A118 d4_30 (c0_eq_f hc119) (pc' := 33) rfl ?_
      refine g_dloadN A118 d4_33 rfl (pc' := 34) rfl ?_
      refine g_aloadN A118 d4_34 rfl rfl (pc' := 35) rfl ?_
      obtain ⟨cq134, kq134, q134a, q134b, q134c⟩ := isOf hZ e117 E112
      obtain ⟨_, _, ⟨T133, L133, k133, n133⟩, -, X133, ⟨L133c, hQ133, l133, y133, z133⟩, st133⟩ := X117.virtualBack hx (y := (⟨"com/example/flat_pager/flatpager/Entry", "score", "()D"⟩ : MethodName)) (z := (⟨"com/example/flat_pager/flatpager/Entry", "score", "()D"⟩ : MethodName)) hown (mvT hZ (hw _ (List.mem_of_getElem? (i := 42) rfl))) (mvT hZ (hw _ (List.mem_of_getElem? (i := 43) rfl))) (notFace_of_selects (args := #[]) (mvT hZ (hw _ (List.mem_of_getElem? (i := 45) rfl)))) (mvT hZ (hw _ (List.mem_of_getElem? (i := 45) rfl))) (mvT hZ (hw _ (List.mem_of_getElem? (i := 44) rfl))) (by decide) (backOf (W := 2) (rm7 l Z a0 hw [] a2 y4 h0 n0 Z0 F113) hZ (hw _ (List.mem_of_getElem? (i := 46) rfl)) (hw _ (List.mem_of_getElem? (i := 29) rfl)) (by decide) (by decide)) q134a q134c (g := (mkF m 35 #[.val (.ref a1), .val (.ref a2), .val (.double x3), .second, .unset] [(.ref a2), (.double x3)])) rfl (by rw [hml]; rfl) (Steps.refl _) (argsL := []) (rest := [(.double x3)]) (lenOf pd_2 rfl) rfl (by show 2 * 0 + _ ≤ _; exact Nat.le_of_eq rfl) (hb hby d4_35) (fun _ _ => ⟨rfl, e117, (by decide : 0 + 0 ≤ _), (by decide : 0 + 0 ≤ _)⟩)
      dsimp only [Pt.U, Pt.locs, Pt.cells, Pt.slots] at X133 l133 y133 z133 st133 hQ133
      subst l133 y133 z133
      obtain ⟨rfl, Nq135, Kq136⟩ := hQ133
      have N137 := Fr.app N0 Nq135
      refine Go.tr (g' := (mkF m 38 #[.val (.ref a1), .val (.ref a2), .val (.double x3), .second, .unset] [(.double y4), (.double x3)])) st133 ?_
      have e138 : T133.heap = h0 := Kq136
      have A139 := (⟨X133, hx, hby⟩ : Ax _ _ _ _ _ _ _ _ _ _ _ _ _ _ _)
      refine g_dcmp A139 d4_38 (pc' := 39) rfl ?_
      obtain ⟨v140, hv140⟩ : ∃ z : Int32, z = if oLe (FP.dcmp x3 y4) then (1 : Int32) else 0 := ⟨_, rfl⟩
      have sg141 : ∀ {P : State → Outcome → Prop}, Go p e below P T133 (mkF m 47 #[.val (.ref a1), .val (.ref a2), .val (.double x3), .second, .unset] [(.int v140)]) → Go p e below P T133 (mkF m 39 #[.val (.ref a1), .val (.ref a2), .val (.double x3), .second, .unset] [(.int (cmpValue (FP.dcmp x3 y4) .g))]) := by
        intro P hr
        by_cases c142 : oLe (FP.dcmp x3 y4)
        · skip
          refine g_ifN A139 d4_39 (d_g_gt_f c142) (pc' := 42) rfl ?_
          refine g_iconst A139 d4_42 (v := (1 : Int32)) rfl (pc' := 43) rfl ?_
          refine g_goto A139 d4_43 (pc' := 47) rfl ?_
          obtain rfl : v140 = (1 : Int32) := hv140.trans (if_pos c142)
          exact hr
        · skip
          refine g_ifY A139 d4_39 (d_g_gt_t c142) (pc' := 46) rfl ?_
          refine g_iconst A139 d4_46 (v := (0 : Int32)) rfl (pc' := 47) rfl ?_
          obtain rfl : v140 = (0 : Int32) := hv140.trans (if_neg c142)
          exact hr
      refine sg141 ?_
      refine g_istore A139 d4_47 (ls' := #[.val (.ref a1), .val (.ref a2), .val (.double x3), .second, .val (.int v140)]) rfl (pc' := 49) rfl ?_
      refine g_goto A139 d4_49 (pc' := 81) rfl ?_
      refine g_iload A139 d4_81 rfl (pc' := 83) rfl ?_
      exact g_ret (Q := Q4r Z a1 a2 x3 y4 b1 b3 b4 h0 n0) A139 d4_83 Bd.notSynchronized Bd.returns (own_b01 hv140) (Or.inl ⟨rfl, by simp, _, rfl⟩) (by decide) (by decide) (by rw [e138]; exact ⟨(congrArg (fun z => some (Value.int z)) (by rw [hv140, own_r_rm4r, if_pos hc116, if_neg hc119])), N137, rfl⟩)
  · skip
    refine g_ifN A115 d4_17 (c0_eq_f hc116) (pc' := 20) rfl ?_
    refine g_iconst A115 d4_20 (v := (1 : Int32)) rfl (pc' := 21) rfl ?_
    refine g_istore A115 d4_21 (ls' := #[.val (.ref a1), .val (.ref a2), .val (.double x3), .second, .val (.int (1 : Int32))]) rfl (pc' := 23) rfl ?_
    refine g_goto A115 d4_23 (pc' := 81) rfl ?_
    refine g_iload A115 d4_81 rfl (pc' := 83) rfl ?_
    exact g_ret (Q := Q4r Z a1 a2 x3 y4 b1 b3 b4 h0 n0) A115 d4_83 Bd.notSynchronized Bd.returns rfl (Or.inl ⟨rfl, by simp, _, rfl⟩) (by decide) (by decide) (by rw [e114]; exact ⟨(congrArg (fun z => some (Value.int z)) (by rw [own_r_rm4r, if_neg hc116])), N0, rfl⟩)
theorem own_iff {A C D X Y : Prop} (h : ¬ (C ∧ D)) : (A ∨ ((C ∧ X) ∨ (¬ C ∧ (D ∧ Y)))) ↔ (A ∨ (C ∧ X) ∨ (D ∧ Y)) :=
  ⟨fun q => q.imp id fun q => q.imp id fun q => q.2, fun q => q.imp id fun q => q.imp id fun q => ⟨fun c => h ⟨c, q.1⟩, q⟩⟩
theorem own_or {a b : Int32} {C D : Prop} [Decidable C] [Decidable D] (e1 : a = if C then 1 else 0) (e2 : b = if D then 1 else 0) (h : ¬ (C ∧ D)) : a = 0 ∨ b = 0 := by
  by_cases c : C
  · exact Or.inr (e2.trans (if_neg fun d => h ⟨c, d⟩))
  · exact Or.inl (e1.trans (if_neg c))
theorem own_or2 {a b d : Int32} (h1 : a = 0 ∨ b = 0) (h2 : a = 0 ∨ d = 0) : a = 0 ∨ (b = 0 ∧ d = 0) := by
  rcases h1 with h | h
  · exact Or.inl h
  · exact h2.imp id fun q => ⟨h, q⟩
theorem own_sc (o : Int32) : FP.Core.DInt o.toInt (if FP.dcmp (FP.i2d o) (0 : UInt64) = some .eq then (0 : UInt64) else FP.i2d o) := by
  by_cases h : FP.dcmp (FP.i2d o) (0 : UInt64) = some .eq
  · rw [if_pos h]
    have z : FP.Core.DInt 0 (0 : UInt64) := by
      have q := FP.Core.i2d_int 0
      have e : FP.Core.i2d 0 = (0 : UInt64) := by decide +kernel
      rw [e] at q; exact q
    have q := (FP.Core.dcmp_int (FP.Core.i2d_int o) z).symm.trans h
    have e := (FP.Core.compare_eq_iff _ _).mp (Option.some.inj q)
    rw [e]; exact z
  · rw [if_neg h]; exact FP.Core.i2d_int o
theorem own_ii {P Q : Prop} [Decidable P] [Decidable Q] (h : P ↔ Q) : (if P then (1 : Int32) else 0) = if Q then 1 else 0 := by
  by_cases p : P
  · rw [if_pos p, if_pos (h.mp p)]
  · rw [if_neg p, if_neg (fun q => p (h.mpr q))]
theorem own_end (o n a b d w : Int32) {A C D F : Prop} [Decidable A] [Decidable C] [Decidable D] [Decidable F] (ha : a = if A then 1 else 0) (hb : b = if C then 1 else 0) (hd : d = if D then 1 else 0) (hw : w = if F then 1 else 0)
    (hX : ¬ (A ∧ C)) (hY : ¬ (A ∧ D)) (hZ : ¬ (C ∧ D)) (hF : F ↔ (A ∨ (C ∧ ¬ (o < n)) ∨ (D ∧ ¬ (n < o)))) : own_r_rm4r (FP.i2d n) (if FP.dcmp (FP.i2d o) (0 : UInt64) = some .eq then (0 : UInt64) else FP.i2d o) a b d = w := by
  have e := FP.Core.dcmp_int (FP.Core.i2d_int n) (own_sc o)
  change FP.dcmp _ _ = _ at e
  have g1 := FP.Core.compare_gt_iff n.toInt o.toInt
  have g2 := FP.Core.compare_eq_iff n.toInt o.toInt
  have g3 := FP.Core.compare_lt_iff n.toInt o.toInt
  rw [Int32.lt_iff_toInt_lt, Int32.lt_iff_toInt_lt] at hF
  have k1 : oLe (FP.dcmp (FP.i2d n) (if FP.dcmp (FP.i2d o) (0 : UInt64) = some .eq then (0 : UInt64) else FP.i2d o)) ↔ ¬ o.toInt < n.toInt := by
    rw [e]; simp only [oLe, Option.some.injEq, g2, g3]; omega
  have k2 : oGe (FP.dcmp (FP.i2d n) (if FP.dcmp (FP.i2d o) (0 : UInt64) = some .eq then (0 : UInt64) else FP.i2d o)) ↔ ¬ n.toInt < o.toInt := by
    rw [e]; simp only [oGe, Option.some.injEq, g2, g1]; omega
  rw [own_r_rm4r, hw]
  by_cases x : A
  · have f : F := hF.mpr (Or.inl x)
    rw [ha, if_pos x, if_neg (by decide), if_pos f]
  · rw [ha, if_neg x, if_pos rfl]
    by_cases y : C
    · have z : ¬ D := fun q => hZ ⟨y, q⟩
      rw [hb, if_pos y, if_neg (by decide)]
      refine own_ii (k1.trans ?_)
      rw [hF]; simp only [x, y, z, false_or, true_and, false_and, or_false]
    · rw [hb, if_neg y, if_pos rfl]
      by_cases z : D
      · rw [hd, if_pos z, if_neg (by decide)]
        refine own_ii (k2.trans ?_)
        rw [hF]; simp only [x, y, z, false_or, true_and, false_and]
      · rw [hd, if_neg z, if_pos rfl, if_neg]
        rw [hF]; simp only [x, y, z, false_or, false_and, or_false, not_false_eq_true]
theorem pn_4 : plainName "com/example/flat_pager/flatpager/AddConditionStopsPinLaw" = true := by first | (simp [plainName, overriddenIn]; done) | decide +kernel
theorem ef143 (m : MethodId) (p0 : Int32) (p1 : Int32) (p2 : Int32) : entryFrame m #[(.int p0), (.int p1), (.int p2)] maxLocals = mkF m 0 #[.val (.int p0), .val (.int p1), .val (.int p2), .unset, .unset, .unset, .unset, .unset, .unset, .unset, .unset] [] := by first | (simp [entryFrame, mkF, argsToLocals, Value.category, maxLocals]; done) | rfl
def Q0 (Z : State) (p0 : Int32) (p1 : Int32) (p2 : Int32) (h0 : Heap) (n0 : Nat) (v : Option Value) (h : Heap) (L : List Loc) : Prop := v = some (.int 1) ∧ Fr n0 L
theorem pd_3 : parseMethodDescriptor "(ZZZZ)V" = some ⟨[.boolean, .boolean, .boolean, .boolean], none⟩ := by decide +kernel
theorem pd_4 : parseMethodDescriptor "(Lcom/example/flat_pager/flatpager/Entry;D)Z" = some ⟨[(.object "com/example/flat_pager/flatpager/Entry"), .double], some .boolean⟩ := by decide +kernel
theorem pd_5 : parseMethodDescriptor "(DLcom/example/flat_pager/flatpager/Bytes;)V" = some ⟨[.double, (.object "com/example/flat_pager/flatpager/Bytes")], none⟩ := by decide +kernel
set_option maxRecDepth 65536 in
set_option maxHeartbeats 40000000 in
theorem rm0 (l : Launch) (Z : State) (a0 : Array Value) (hw : ∀ d ∈ tables_1, d.before a0 Z = true) (ws : List Jvm.Cond) (p0 : Int32) (p1 : Int32) (p2 : Int32) (h0 : Heap) (n0 : Nat) (Z0 : n0 ≤ h0.size)  :
    MetFree l x (head1 (Jvm.Cond.code x code maxLocals ret :: ws) room_1) (fun a U => a = #[(.int p0), (.int p1), (.int p2)] ∧ Z.Warmed39 U.vm ∧ U.heap = h0) (fun _ _ _ _ _ => True) (fun _ U o U' => ∃ v L, o = .returned v ∧ Q0 Z p0 p1 p2 h0 n0 v U'.heap L ∧ FrameEnd U o U' L 2 6) := by
  refine MetFree.of_bodySF (plainFor_of_name pn_4) hisR ?_
  intro p e s m args below meth c s₁ Bd hml0 hP hK
  obtain ⟨rfl, hZ, hh⟩ := hP
  have hx := Bd.exec
  have hby := Bd.bytes
  have hml : c.maxLocals = 11 := hml0
  have hown : s.vm.findClass "com/example/flat_pager/flatpager/AddConditionStopsPinLaw" = some m.cls := findClass_of_methodNamed Bd.named
  have hnm := (name_of_methodNamed Bd.named Bd.method).1
  have X0 : Stand p l e room_1 s m #[(.int p0), (.int p1), (.int p2)] below meth c s₁ [] 0 0 := Stand.of_body Bd
  have e0 : s₁.heap = h0 := by rw [← hh, Bd.state]; rfl
  have N0 := Fr.nil n0
  have A0 := (⟨X0, hx, hby⟩ : Ax _ _ _ _ _ _ _ _ _ _ _ _ _ _ _)
  show Go p e below (fun U o => ∃ v L, o = .returned v ∧ Q0 Z p0 p1 p2 h0 n0 v U.heap L ∧ FrameEnd s o U L 2 6) s₁ (entryFrame m #[(.int p0), (.int p1), (.int p2)] maxLocals)
  refine Go.cast (ef143 m p0 p1 p2) ?_
  refine g_iloadN A0 at_0 rfl (pc' := 1) rfl ?_
  refine g_iconst A0 at_1 (v := (1 : Int32)) rfl (pc' := 2) rfl ?_
  refine g_iand A0 at_2 (pc' := 3) rfl ?_
  obtain ⟨v144, hv144⟩ : ∃ z : Int32, z = if ¬ ((p0 &&& (1 : Int32)) = 0) then (1 : Int32) else 0 := ⟨_, rfl⟩
  have sg145 : ∀ {P : State → Outcome → Prop}, Go p e below P s₁ (mkF m 11 #[.val (.int p0), .val (.int p1), .val (.int p2), .unset, .unset, .unset, .unset, .unset, .unset, .unset, .unset] [(.int v144)]) → Go p e below P s₁ (mkF m 3 #[.val (.int p0), .val (.int p1), .val (.int p2), .unset, .unset, .unset, .unset, .unset, .unset, .unset, .unset] [(.int (p0 &&& (1 : Int32)))]) := by
    intro P hr
    by_cases c146 : (p0 &&& (1 : Int32)) = 0
    · skip
      refine g_ifY A0 at_3 (c0_eq_t c146) (pc' := 10) rfl ?_
      refine g_iconst A0 at_10 (v := (0 : Int32)) rfl (pc' := 11) rfl ?_
      obtain rfl : v144 = (0 : Int32) := hv144.trans (if_neg (fun q => q c146))
      exact hr
    · skip
      refine g_ifN A0 at_3 (c0_eq_f c146) (pc' := 6) rfl ?_
      refine g_iconst A0 at_6 (v := (1 : Int32)) rfl (pc' := 7) rfl ?_
      refine g_goto A0 at_7 (pc' := 11) rfl ?_
      obtain rfl : v144 = (1 : Int32) := hv144.trans (if_pos c146)
      exact hr
  refine sg145 ?_
  refine g_istoreN A0 at_11 (ls' := #[.val (.int p0), .val (.int p1), .val (.int p2), .val (.int v144), .unset, .unset, .unset, .unset, .unset, .unset, .unset]) rfl (pc' := 12) rfl ?_
  refine g_iloadN A0 at_12 rfl (pc' := 13) rfl ?_
  obtain ⟨v147, hv147⟩ : ∃ z : Int32, z = if (((p0 &&& (1 : Int32)) = 0) ∧ (¬ ((p0 &&& (2 : Int32)) = 0))) then (1 : Int32) else 0 := ⟨_, rfl⟩
  have sg148 : ∀ {P : State → Outcome → Prop}, Go p e below P s₁ (mkF m 27 #[.val (.int p0), .val (.int p1), .val (.int p2), .val (.int v144), .unset, .unset, .unset, .unset, .unset, .unset, .unset] [(.int v147)]) → Go p e below P s₁ (mkF m 13 #[.val (.int p0), .val (.int p1), .val (.int p2), .val (.int v144), .unset, .unset, .unset, .unset, .unset, .unset, .unset] [(.int v144)]) := by
    intro P hr
    by_cases c149 : (p0 &&& (1 : Int32)) = 0
    · skip
      refine g_ifN A0 at_13 (b0_ne_f hv144 (fun q => q c149)) (pc' := 16) rfl ?_
      refine g_iloadN A0 at_16 rfl (pc' := 17) rfl ?_
      refine g_iconst A0 at_17 (v := (2 : Int32)) rfl (pc' := 18) rfl ?_
      refine g_iand A0 at_18 (pc' := 19) rfl ?_
      by_cases c150 : (p0 &&& (2 : Int32)) = 0
      · skip
        refine g_ifY A0 at_19 (c0_eq_t c150) (pc' := 26) rfl ?_
        refine g_iconst A0 at_26 (v := (0 : Int32)) rfl (pc' := 27) rfl ?_
        obtain rfl : v147 = (0 : Int32) := hv147.trans (if_neg (fun q => (fun q => q c150) q.2))
        exact hr
      · skip
        refine g_ifN A0 at_19 (c0_eq_f c150) (pc' := 22) rfl ?_
        refine g_iconst A0 at_22 (v := (1 : Int32)) rfl (pc' := 23) rfl ?_
        refine g_goto A0 at_23 (pc' := 27) rfl ?_
        obtain rfl : v147 = (1 : Int32) := hv147.trans (if_pos ⟨c149, c150⟩)
        exact hr
    · skip
      refine g_ifY A0 at_13 (b0_ne_t hv144 c149) (pc' := 26) rfl ?_
      refine g_iconst A0 at_26 (v := (0 : Int32)) rfl (pc' := 27) rfl ?_
      obtain rfl : v147 = (0 : Int32) := hv147.trans (if_neg (fun q => c149 q.1))
      exact hr
  refine sg148 ?_
  refine g_istore A0 at_27 (ls' := #[.val (.int p0), .val (.int p1), .val (.int p2), .val (.int v144), .val (.int v147), .unset, .unset, .unset, .unset, .unset, .unset]) rfl (pc' := 29) rfl ?_
  refine g_iloadN A0 at_29 rfl (pc' := 30) rfl ?_
  obtain ⟨v151, hv151⟩ : ∃ z : Int32, z = if (((p0 &&& (1 : Int32)) = 0) ∧ (¬ ((p0 &&& (4 : Int32)) = 0))) then (1 : Int32) else 0 := ⟨_, rfl⟩
  have sg152 : ∀ {P : State → Outcome → Prop}, Go p e below P s₁ (mkF m 44 #[.val (.int p0), .val (.int p1), .val (.int p2), .val (.int v144), .val (.int v147), .unset, .unset, .unset, .unset, .unset, .unset] [(.int v151)]) → Go p e below P s₁ (mkF m 30 #[.val (.int p0), .val (.int p1), .val (.int p2), .val (.int v144), .val (.int v147), .unset, .unset, .unset, .unset, .unset, .unset] [(.int v144)]) := by
    intro P hr
    by_cases c153 : (p0 &&& (1 : Int32)) = 0
    · skip
      refine g_ifN A0 at_30 (b0_ne_f hv144 (fun q => q c153)) (pc' := 33) rfl ?_
      refine g_iloadN A0 at_33 rfl (pc' := 34) rfl ?_
      refine g_iconst A0 at_34 (v := (4 : Int32)) rfl (pc' := 35) rfl ?_
      refine g_iand A0 at_35 (pc' := 36) rfl ?_
      by_cases c154 : (p0 &&& (4 : Int32)) = 0
      · skip
        refine g_ifY A0 at_36 (c0_eq_t c154) (pc' := 43) rfl ?_
        refine g_iconst A0 at_43 (v := (0 : Int32)) rfl (pc' := 44) rfl ?_
        obtain rfl : v151 = (0 : Int32) := hv151.trans (if_neg (fun q => (fun q => q c154) q.2))
        exact hr
      · skip
        refine g_ifN A0 at_36 (c0_eq_f c154) (pc' := 39) rfl ?_
        refine g_iconst A0 at_39 (v := (1 : Int32)) rfl (pc' := 40) rfl ?_
        refine g_goto A0 at_40 (pc' := 44) rfl ?_
        obtain rfl : v151 = (1 : Int32) := hv151.trans (if_pos ⟨c153, c154⟩)
        exact hr
    · skip
      refine g_ifY A0 at_30 (b0_ne_t hv144 c153) (pc' := 43) rfl ?_
      refine g_iconst A0 at_43 (v := (0 : Int32)) rfl (pc' := 44) rfl ?_
      obtain rfl : v151 = (0 : Int32) := hv151.trans (if_neg (fun q => c153 q.1))
      exact hr
  refine sg152 ?_
  refine g_istore A0 at_44 (ls' := #[.val (.int p0), .val (.int p1), .val (.int p2), .val (.int v144), .val (.int v147), .val (.int v151), .unset, .unset, .unset, .unset, .unset]) rfl (pc' := 46) rfl ?_
  refine g_iloadN A0 at_46 rfl (pc' := 47) rfl ?_
  obtain ⟨v155, hv155⟩ : ∃ z : Int32, z = if (((p0 &&& (1 : Int32)) = 0) ∧ (((¬ ((((p0 &&& (1 : Int32)) = 0) ∧ (¬ ((p0 &&& (4 : Int32)) = 0))))) ∧ (¬ ((p0 &&& (8 : Int32)) = 0))))) then (1 : Int32) else 0 := ⟨_, rfl⟩
  have sg156 : ∀ {P : State → Outcome → Prop}, Go p e below P s₁ (mkF m 67 #[.val (.int p0), .val (.int p1), .val (.int p2), .val (.int v144), .val (.int v147), .val (.int v151), .unset, .unset, .unset, .unset, .unset] [(.int v155)]) → Go p e below P s₁ (mkF m 47 #[.val (.int p0), .val (.int p1), .val (.int p2), .val (.int v144), .val (.int v147), .val (.int v151), .unset, .unset, .unset, .unset, .unset] [(.int v144)]) := by
    intro P hr
    by_cases c157 : (p0 &&& (1 : Int32)) = 0
    · skip
      refine g_ifN A0 at_47 (b0_ne_f hv144 (fun q => q c157)) (pc' := 50) rfl ?_
      refine g_iload A0 at_50 rfl (pc' := 52) rfl ?_
      by_cases c158 : (((p0 &&& (1 : Int32)) = 0) ∧ (¬ ((p0 &&& (4 : Int32)) = 0)))
      · skip
        refine g_ifY A0 at_52 (b0_ne_t hv151 c158) (pc' := 66) rfl ?_
        refine g_iconst A0 at_66 (v := (0 : Int32)) rfl (pc' := 67) rfl ?_
        obtain rfl : v155 = (0 : Int32) := hv155.trans (if_neg (fun q => (fun q => (fun q => q c158) q.1) q.2))
        exact hr
      · skip
        refine g_ifN A0 at_52 (b0_ne_f hv151 c158) (pc' := 55) rfl ?_
        refine g_iloadN A0 at_55 rfl (pc' := 56) rfl ?_
        refine g_bipush A0 at_56 (v := (8 : Int32)) rfl (pc' := 58) rfl ?_
        refine g_iand A0 at_58 (pc' := 59) rfl ?_
        by_cases c159 : (p0 &&& (8 : Int32)) = 0
        · skip
          refine g_ifY A0 at_59 (c0_eq_t c159) (pc' := 66) rfl ?_
          refine g_iconst A0 at_66 (v := (0 : Int32)) rfl (pc' := 67) rfl ?_
          obtain rfl : v155 = (0 : Int32) := hv155.trans (if_neg (fun q => (fun q => (fun q => q c159) q.2) q.2))
          exact hr
        · skip
          refine g_ifN A0 at_59 (c0_eq_f c159) (pc' := 62) rfl ?_
          refine g_iconst A0 at_62 (v := (1 : Int32)) rfl (pc' := 63) rfl ?_
          refine g_goto A0 at_63 (pc' := 67) rfl ?_
          obtain rfl : v155 = (1 : Int32) := hv155.trans (if_pos ⟨c157, ⟨c158, c159⟩⟩)
          exact hr
    · skip
      refine g_ifY A0 at_47 (b0_ne_t hv144 c157) (pc' := 66) rfl ?_
      refine g_iconst A0 at_66 (v := (0 : Int32)) rfl (pc' := 67) rfl ?_
      obtain rfl : v155 = (0 : Int32) := hv155.trans (if_neg (fun q => c157 q.1))
      exact hr
  refine sg156 ?_
  refine g_istore A0 at_67 (ls' := #[.val (.int p0), .val (.int p1), .val (.int p2), .val (.int v144), .val (.int v147), .val (.int v151), .val (.int v155), .unset, .unset, .unset, .unset]) rfl (pc' := 69) rfl ?_
  refine g_iloadN A0 at_69 rfl (pc' := 70) rfl ?_
  refine g_bipush A0 at_70 (v := (16 : Int32)) rfl (pc' := 72) rfl ?_
  refine g_iand A0 at_72 (pc' := 73) rfl ?_
  obtain ⟨v160, hv160⟩ : ∃ z : Int32, z = if ¬ ((p0 &&& (16 : Int32)) = 0) then (1 : Int32) else 0 := ⟨_, rfl⟩
  have sg161 : ∀ {P : State → Outcome → Prop}, Go p e below P s₁ (mkF m 81 #[.val (.int p0), .val (.int p1), .val (.int p2), .val (.int v144), .val (.int v147), .val (.int v151), .val (.int v155), .unset, .unset, .unset, .unset] [(.int v160)]) → Go p e below P s₁ (mkF m 73 #[.val (.int p0), .val (.int p1), .val (.int p2), .val (.int v144), .val (.int v147), .val (.int v151), .val (.int v155), .unset, .unset, .unset, .unset] [(.int (p0 &&& (16 : Int32)))]) := by
    intro P hr
    by_cases c162 : (p0 &&& (16 : Int32)) = 0
    · skip
      refine g_ifY A0 at_73 (c0_eq_t c162) (pc' := 80) rfl ?_
      refine g_iconst A0 at_80 (v := (0 : Int32)) rfl (pc' := 81) rfl ?_
      obtain rfl : v160 = (0 : Int32) := hv160.trans (if_neg (fun q => q c162))
      exact hr
    · skip
      refine g_ifN A0 at_73 (c0_eq_f c162) (pc' := 76) rfl ?_
      refine g_iconst A0 at_76 (v := (1 : Int32)) rfl (pc' := 77) rfl ?_
      refine g_goto A0 at_77 (pc' := 81) rfl ?_
      obtain rfl : v160 = (1 : Int32) := hv160.trans (if_pos c162)
      exact hr
  refine sg161 ?_
  refine g_istore A0 at_81 (ls' := #[.val (.int p0), .val (.int p1), .val (.int p2), .val (.int v144), .val (.int v147), .val (.int v151), .val (.int v155), .val (.int v160), .unset, .unset, .unset]) rfl (pc' := 83) rfl ?_
  obtain ⟨T163, h163, X163, e163, E163, EA163, D163, -, st163⟩ := newO X0 hx hZ hown (hw _ (List.mem_of_getElem? (i := 0) rfl)) (hw _ (List.mem_of_getElem? (i := 1) rfl)) (hw _ (List.mem_of_getElem? (i := 2) rfl)) e0 (g := (mkF m 83 #[.val (.int p0), .val (.int p1), .val (.int p2), .val (.int v144), .val (.int v147), .val (.int v151), .val (.int v155), .val (.int v160), .unset, .unset, .unset] [])) rfl (hb hby at_83) (by decide) (by decide)
  obtain ⟨a164, ea164⟩ : ∃ z, z = h0.size := ⟨_, rfl⟩
  rw [← ea164] at EA163 D163 st163
  have g165 : n0 ≤ a164 := by rw [ea164]; exact Z0
  have gh166 : h0.size ≤ a164 := by rw [ea164]; exact (Keep.refl h0 []).1
  have K167 : Keep h0 h163 [] := (Keep.refl h0 []).ext E163
  have Z168 : n0 ≤ h163.size := Nat.le_trans Z0 E163.1
  have F169 : Fld Z h163 a164 "com/example/flat_pager/flatpager/AddCondition" "onlyNew" "Z" (.int (0 : Int32)) := D163 (Or.inr (hw _ (List.mem_of_getElem? (i := 15) rfl))) (ty := .boolean) (by decide)
  have F170 : Fld Z h163 a164 "com/example/flat_pager/flatpager/AddCondition" "onlyExisting" "Z" (.int (0 : Int32)) := D163 (Or.inr (hw _ (List.mem_of_getElem? (i := 17) rfl))) (ty := .boolean) (by decide)
  have F171 : Fld Z h163 a164 "com/example/flat_pager/flatpager/AddCondition" "onlyGreater" "Z" (.int (0 : Int32)) := D163 (Or.inr (hw _ (List.mem_of_getElem? (i := 19) rfl))) (ty := .boolean) (by decide)
  have F172 : Fld Z h163 a164 "com/example/flat_pager/flatpager/AddCondition" "onlyLower" "Z" (.int (0 : Int32)) := D163 (Or.inr (hw _ (List.mem_of_getElem? (i := 21) rfl))) (ty := .boolean) (by decide)
  refine Go.of (g' := (mkF m 86 #[.val (.int p0), .val (.int p1), .val (.int p2), .val (.int v144), .val (.int v147), .val (.int v151), .val (.int v155), .val (.int v160), .unset, .unset, .unset] [(.ref a164)])) st163 ?_
  have A173 := (⟨X163, hx, hby⟩ : Ax _ _ _ _ _ _ _ _ _ _ _ _ _ _ _)
  refine g_dup A173 at_86 rfl (pc' := 87) rfl ?_
  refine g_iloadN A173 at_87 rfl (pc' := 88) rfl ?_
  refine g_iload A173 at_88 rfl (pc' := 90) rfl ?_
  refine g_iload A173 at_90 rfl (pc' := 92) rfl ?_
  refine g_iload A173 at_92 rfl (pc' := 94) rfl ?_
  have h174 : v144 = 0 ∨ v147 = 0 := own_or hv144 hv147 (fun q => q.1 q.2.1)
  have h175 : v144 = 0 ∨ v151 = 0 := own_or hv144 hv151 (fun q => q.1 q.2.1)
  have h176 : v144 = 0 ∨ v155 = 0 := own_or hv144 hv155 (fun q => q.1 q.2.1)
  have h177 : v151 = 0 ∨ v155 = 0 := own_or hv151 hv155 (fun q => q.2.2.1 q.1)
  obtain ⟨_, _, ⟨T178, L178, k178, n178⟩, -, X178, ⟨L178c, hQ178, l178, y178, z178⟩, st178⟩ := X163.specialBack hx (y := (⟨"com/example/flat_pager/flatpager/AddCondition", "<init>", "(ZZZZ)V"⟩ : MethodName)) rfl hown (mvT hZ (hw _ (List.mem_of_getElem? (i := 3) rfl))) (mvT hZ (hw _ (List.mem_of_getElem? (i := 4) rfl))) (mvT hZ (hw _ (List.mem_of_getElem? (i := 5) rfl))) (by decide) (backOf (W := 1) (rm1 l Z a0 hw [] a164 v144 v147 v151 v155 (.int (0 : Int32)) (.int (0 : Int32)) (.int (0 : Int32)) (.int (0 : Int32)) h163 n0 Z168 EA163 F169 F170 F171 F172 g165 (own_b01 hv144) (own_b01 hv147) (own_b01 hv151) (own_b01 hv155) h174 (own_or2 h175 h176) h177) hZ (hw _ (List.mem_of_getElem? (i := 5) rfl)) (hw _ (List.mem_of_getElem? (i := 2) rfl)) (by decide) (by decide)) (g := (mkF m 94 #[.val (.int p0), .val (.int p1), .val (.int p2), .val (.int v144), .val (.int v147), .val (.int v151), .val (.int v155), .val (.int v160), .unset, .unset, .unset] [(.int v155), (.int v151), (.int v147), (.int v144), (.ref a164), (.ref a164)])) rfl (by rw [hml]; rfl) (Steps.refl _) (a := a164) (argsL := [(.int v144), (.int v147), (.int v151), (.int v155)]) (rest := [(.ref a164)]) (lenOf pd_3 rfl) rfl (by show 2 * 0 + _ ≤ _; exact Nat.le_of_eq rfl) (hb hby at_94) (fun _ _ => ⟨rfl, e163, (by decide : 1 + 0 ≤ _), (by decide : 4 + 0 ≤ _)⟩)
  dsimp only [Pt.U, Pt.locs, Pt.cells, Pt.slots] at X178 l178 y178 z178 st178 hQ178
  subst l178 y178 z178
  obtain ⟨rfl, Nq179, Kq180, F181, F182, F183, F184⟩ := hQ178
  have N185 := Fr.app N0 Nq179
  refine Go.tr (g' := (mkF m 97 #[.val (.int p0), .val (.int p1), .val (.int p2), .val (.int v144), .val (.int v147), .val (.int v151), .val (.int v155), .val (.int v160), .unset, .unset, .unset] [(.ref a164)])) st178 ?_
  have E186 : Exa Z T178.heap a164 "com/example/flat_pager/flatpager/AddCondition" := Exa.keep EA163 Kq180
  have Z187 : n0 ≤ T178.heap.size := Nat.le_trans Z168 Kq180.1
  have K188 : Keep h0 T178.heap [] := K167.trans Kq180 (allS (Or.inr gh166) all0)
  have A189 := (⟨X178, hx, hby⟩ : Ax _ _ _ _ _ _ _ _ _ _ _ _ _ _ _)
  refine g_astore A189 at_97 rfl (ls' := #[.val (.int p0), .val (.int p1), .val (.int p2), .val (.int v144), .val (.int v147), .val (.int v151), .val (.int v155), .val (.int v160), .val (.ref a164), .unset, .unset]) rfl (pc' := 99) rfl ?_
  refine g_iload A189 at_99 rfl (pc' := 101) rfl ?_
  by_cases hc190 : (p0 &&& (16 : Int32)) = 0
  · skip
    refine g_ifY A189 at_101 (b0_eq_t hv160 (fun q => q hc190)) (pc' := 117) rfl ?_
    refine g_aconst A189 at_117 (pc' := 118) rfl ?_
    refine g_astore A189 at_118 rfl (ls' := #[.val (.int p0), .val (.int p1), .val (.int p2), .val (.int v144), .val (.int v147), .val (.int v151), .val (.int v155), .val (.int v160), .val (.ref a164), .val .null, .unset]) rfl (pc' := 120) rfl ?_
    refine g_iload A189 at_120 rfl (pc' := 122) rfl ?_
    refine g_ifN A189 at_122 (b0_ne_f hv160 (fun q => q hc190)) (pc' := 125) rfl ?_
    refine g_iload A189 at_125 rfl (pc' := 127) rfl ?_
    refine g_istore A189 at_127 (ls' := #[.val (.int p0), .val (.int p1), .val (.int p2), .val (.int v144), .val (.int v147), .val (.int v151), .val (.int v155), .val (.int v160), .val (.ref a164), .val .null, .val (.int v147)]) rfl (pc' := 129) rfl ?_
    refine g_goto A189 at_129 (pc' := 163) rfl ?_
    refine g_aload A189 at_163 rfl rfl (pc' := 165) rfl ?_
    refine g_aload A189 at_165 rfl rfl (pc' := 167) rfl ?_
    refine g_iloadN A189 at_167 rfl (pc' := 168) rfl ?_
    refine g_i2d A189 at_168 (pc' := 169) rfl ?_
    obtain ⟨cq192, kq192, q192a, q192b, q192c⟩ := isOf hZ rfl E186
    obtain ⟨_, _, ⟨T191, L191, k191, n191⟩, -, X191, ⟨L191c, hQ191, l191, y191, z191⟩, st191⟩ := X178.virtualBack hx (y := (⟨"com/example/flat_pager/flatpager/AddCondition", "stops", "(Lcom/example/flat_pager/flatpager/Entry;D)Z"⟩ : MethodName)) (z := (⟨"com/example/flat_pager/flatpager/AddCondition", "stops", "(Lcom/example/flat_pager/flatpager/Entry;D)Z"⟩ : MethodName)) hown (mvT hZ (hw _ (List.mem_of_getElem? (i := 22) rfl))) (mvT hZ (hw _ (List.mem_of_getElem? (i := 23) rfl))) (notFace_of_selects (args := #[]) (mvT hZ (hw _ (List.mem_of_getElem? (i := 25) rfl)))) (mvT hZ (hw _ (List.mem_of_getElem? (i := 25) rfl))) (mvT hZ (hw _ (List.mem_of_getElem? (i := 24) rfl))) (by decide) (backOf (W := 0) (rm4n l Z a0 hw [] a164 (FP.i2d p2) v147 T178.heap n0 Z187 F182 (own_b01 hv147)) hZ (hw _ (List.mem_of_getElem? (i := 26) rfl)) (hw _ (List.mem_of_getElem? (i := 2) rfl)) (by decide) (by decide)) q192a q192c (g := (mkF m 169 #[.val (.int p0), .val (.int p1), .val (.int p2), .val (.int v144), .val (.int v147), .val (.int v151), .val (.int v155), .val (.int v160), .val (.ref a164), .val .null, .val (.int v147)] [(.double (FP.i2d p2)), .null, (.ref a164)])) rfl (by rw [hml]; rfl) (Steps.refl _) (argsL := [.null, (.double (FP.i2d p2))]) (rest := []) (lenOf pd_4 rfl) rfl (by show 2 * 0 + _ ≤ _; exact Nat.le_of_eq rfl) (hb hby at_169) (fun _ _ => ⟨rfl, rfl, (by decide : 1 + 0 ≤ _), (by decide : 4 + 0 ≤ _)⟩)
    dsimp only [Pt.U, Pt.locs, Pt.cells, Pt.slots] at X191 l191 y191 z191 st191 hQ191
    subst l191 y191 z191
    obtain ⟨rfl, Nq193, Kq194⟩ := hQ191
    have N195 := Fr.app N185 Nq193
    refine Go.tr (g' := (mkF m 172 #[.val (.int p0), .val (.int p1), .val (.int p2), .val (.int v144), .val (.int v147), .val (.int v151), .val (.int v155), .val (.int v160), .val (.ref a164), .val .null, .val (.int v147)] [(.int v147)])) st191 ?_
    have e196 : T191.heap = T178.heap := Kq194
    have A197 := (⟨X191, hx, hby⟩ : Ax _ _ _ _ _ _ _ _ _ _ _ _ _ _ _)
    refine g_iload A197 at_172 rfl (pc' := 174) rfl ?_
    refine g_icN A197 at_174 (c2_ne_f rfl) (pc' := 177) rfl ?_
    refine g_iconst A197 at_177 (v := (1 : Int32)) rfl (pc' := 178) rfl ?_
    refine g_goto A197 at_178 (pc' := 182) rfl ?_
    exact g_ret (Q := Q0 Z p0 p1 p2 h0 n0) A197 at_182 Bd.notSynchronized Bd.returns rfl (Or.inl ⟨rfl, by simp, _, rfl⟩) (by decide) (by decide) (by rw [e196]; exact ⟨rfl, N195⟩)
  · skip
    refine g_ifN A189 at_101 (b0_eq_f hv160 hc190) (pc' := 104) rfl ?_
    obtain ⟨T198, h198, X198, e198, E198, EA198, D198, -, st198⟩ := newO X178 hx hZ hown (hw _ (List.mem_of_getElem? (i := 27) rfl)) (hw _ (List.mem_of_getElem? (i := 28) rfl)) (hw _ (List.mem_of_getElem? (i := 29) rfl)) rfl (g := (mkF m 104 #[.val (.int p0), .val (.int p1), .val (.int p2), .val (.int v144), .val (.int v147), .val (.int v151), .val (.int v155), .val (.int v160), .val (.ref a164), .unset, .unset] [])) rfl (hb hby at_104) (by decide) (by decide)
    obtain ⟨a199, ea199⟩ : ∃ z, z = T178.heap.size := ⟨_, rfl⟩
    rw [← ea199] at EA198 D198 st198
    have ne200 : a164 ≠ a199 := own_ne ea199 E186.lt
    have g201 : n0 ≤ a199 := by rw [ea199]; exact Z187
    have gh202 : h0.size ≤ a199 := by rw [ea199]; exact K188.1
    have K203 : Keep h0 h198 [] := K188.ext E198
    have E204 : Exa Z h198 a164 "com/example/flat_pager/flatpager/AddCondition" := Exa.ext E198 E186
    have F205 : Fld Z h198 a164 "com/example/flat_pager/flatpager/AddCondition" "onlyNew" "Z" (.int v144) := Fld.ext E198 F181
    have F206 : Fld Z h198 a164 "com/example/flat_pager/flatpager/AddCondition" "onlyExisting" "Z" (.int v147) := Fld.ext E198 F182
    have F207 : Fld Z h198 a164 "com/example/flat_pager/flatpager/AddCondition" "onlyGreater" "Z" (.int v151) := Fld.ext E198 F183
    have F208 : Fld Z h198 a164 "com/example/flat_pager/flatpager/AddCondition" "onlyLower" "Z" (.int v155) := Fld.ext E198 F184
    have Z209 : n0 ≤ h198.size := Nat.le_trans Z187 E198.1
    have F210 : Fld Z h198 a199 "com/example/flat_pager/flatpager/Entry" "score" "D" (.double (0 : UInt64)) := D198 (Or.inr (hw _ (List.mem_of_getElem? (i := 39) rfl))) (ty := .double) (by decide)
    have F211 : Fld Z h198 a199 "com/example/flat_pager/flatpager/Entry" "member" "Lcom/example/flat_pager/flatpager/Bytes;" .null := D198 (Or.inr (hw _ (List.mem_of_getElem? (i := 41) rfl))) (ty := (.object "com/example/flat_pager/flatpager/Bytes")) (by decide)
    refine Go.of (g' := (mkF m 107 #[.val (.int p0), .val (.int p1), .val (.int p2), .val (.int v144), .val (.int v147), .val (.int v151), .val (.int v155), .val (.int v160), .val (.ref a164), .unset, .unset] [(.ref a199)])) st198 ?_
    have A212 := (⟨X198, hx, hby⟩ : Ax _ _ _ _ _ _ _ _ _ _ _ _ _ _ _)
    refine g_dup A212 at_107 rfl (pc' := 108) rfl ?_
    refine g_iloadN A212 at_108 rfl (pc' := 109) rfl ?_
    refine g_i2d A212 at_109 (pc' := 110) rfl ?_
    refine g_aconst A212 at_110 (pc' := 111) rfl ?_
    obtain ⟨_, _, ⟨T213, L213, k213, n213⟩, -, X213, ⟨L213c, hQ213, l213, y213, z213⟩, st213⟩ := X198.specialBack hx (y := (⟨"com/example/flat_pager/flatpager/Entry", "<init>", "(DLcom/example/flat_pager/flatpager/Bytes;)V"⟩ : MethodName)) rfl hown (mvT hZ (hw _ (List.mem_of_getElem? (i := 30) rfl))) (mvT hZ (hw _ (List.mem_of_getElem? (i := 31) rfl))) (mvT hZ (hw _ (List.mem_of_getElem? (i := 32) rfl))) (by decide) (backOf (W := 1) (rm5 l Z a0 hw [] a199 (FP.i2d p1) (.double (0 : UInt64)) .null h198 n0 Z209 EA198 F210 F211 g201 (i2d_fin p1)) hZ (hw _ (List.mem_of_getElem? (i := 32) rfl)) (hw _ (List.mem_of_getElem? (i := 29) rfl)) (by decide) (by decide)) (g := (mkF m 111 #[.val (.int p0), .val (.int p1), .val (.int p2), .val (.int v144), .val (.int v147), .val (.int v151), .val (.int v155), .val (.int v160), .val (.ref a164), .unset, .unset] [.null, (.double (FP.i2d p1)), (.ref a199), (.ref a199)])) rfl (by rw [hml]; rfl) (Steps.refl _) (a := a199) (argsL := [(.double (FP.i2d p1)), .null]) (rest := [(.ref a199)]) (lenOf pd_5 rfl) rfl (by show 2 * 0 + _ ≤ _; exact Nat.le_of_eq rfl) (hb hby at_111) (fun _ _ => ⟨rfl, e198, (by decide : 2 + 0 ≤ _), (by decide : 6 + 0 ≤ _)⟩)
    dsimp only [Pt.U, Pt.locs, Pt.cells, Pt.slots] at X213 l213 y213 z213 st213 hQ213
    subst l213 y213 z213
    obtain ⟨rfl, Nq214, Kq215, F216⟩ := hQ213
    have N217 := Fr.app N185 Nq214
    refine Go.tr (g' := (mkF m 114 #[.val (.int p0), .val (.int p1), .val (.int p2), .val (.int v144), .val (.int v147), .val (.int v151), .val (.int v155), .val (.int v160), .val (.ref a164), .unset, .unset] [(.ref a199)])) st213 ?_
    have E218 : Exa Z T213.heap a164 "com/example/flat_pager/flatpager/AddCondition" := Exa.keep E204 Kq215
    have F219 : Fld Z T213.heap a164 "com/example/flat_pager/flatpager/AddCondition" "onlyNew" "Z" (.int v144) := Fld.keep F205 Kq215 (ninS ne200 nin0)
    have F220 : Fld Z T213.heap a164 "com/example/flat_pager/flatpager/AddCondition" "onlyExisting" "Z" (.int v147) := Fld.keep F206 Kq215 (ninS ne200 nin0)
    have F221 : Fld Z T213.heap a164 "com/example/flat_pager/flatpager/AddCondition" "onlyGreater" "Z" (.int v151) := Fld.keep F207 Kq215 (ninS ne200 nin0)
    have F222 : Fld Z T213.heap a164 "com/example/flat_pager/flatpager/AddCondition" "onlyLower" "Z" (.int v155) := Fld.keep F208 Kq215 (ninS ne200 nin0)
    have E223 : Exa Z T213.heap a199 "com/example/flat_pager/flatpager/Entry" := Exa.keep EA198 Kq215
    have Z224 : n0 ≤ T213.heap.size := Nat.le_trans Z209 Kq215.1
    have K225 : Keep h0 T213.heap [] := K203.trans Kq215 (allS (Or.inr gh202) all0)
    have A226 := (⟨X213, hx, hby⟩ : Ax _ _ _ _ _ _ _ _ _ _ _ _ _ _ _)
    refine g_goto A226 at_114 (pc' := 118) rfl ?_
    refine g_astore A226 at_118 rfl (ls' := #[.val (.int p0), .val (.int p1), .val (.int p2), .val (.int v144), .val (.int v147), .val (.int v151), .val (.int v155), .val (.int v160), .val (.ref a164), .val (.ref a199), .unset]) rfl (pc' := 120) rfl ?_
    refine g_iload A226 at_120 rfl (pc' := 122) rfl ?_
    refine g_ifY A226 at_122 (b0_ne_t hv160 hc190) (pc' := 132) rfl ?_
    refine g_iloadN A226 at_132 rfl (pc' := 133) rfl ?_
    obtain ⟨v227, hv227⟩ : ∃ z : Int32, z = if ((¬ ((p0 &&& (1 : Int32)) = 0)) ∨ ((((((((p0 &&& (1 : Int32)) = 0) ∧ (¬ ((p0 &&& (4 : Int32)) = 0)))) ∧ (¬ (p1 < p2)))) ∨ (((¬ ((((p0 &&& (1 : Int32)) = 0) ∧ (¬ ((p0 &&& (4 : Int32)) = 0))))) ∧ ((((((p0 &&& (1 : Int32)) = 0) ∧ (((¬ ((((p0 &&& (1 : Int32)) = 0) ∧ (¬ ((p0 &&& (4 : Int32)) = 0))))) ∧ (¬ ((p0 &&& (8 : Int32)) = 0)))))) ∧ (¬ (p2 < p1))))))))) then (1 : Int32) else 0 := ⟨_, rfl⟩
    have sg228 : ∀ {P : State → Outcome → Prop}, Go p e below P T213 (mkF m 161 #[.val (.int p0), .val (.int p1), .val (.int p2), .val (.int v144), .val (.int v147), .val (.int v151), .val (.int v155), .val (.int v160), .val (.ref a164), .val (.ref a199), .unset] [(.int v227)]) → Go p e below P T213 (mkF m 133 #[.val (.int p0), .val (.int p1), .val (.int p2), .val (.int v144), .val (.int v147), .val (.int v151), .val (.int v155), .val (.int v160), .val (.ref a164), .val (.ref a199), .unset] [(.int v144)]) := by
      intro P hr
      by_cases c229 : (p0 &&& (1 : Int32)) = 0
      · skip
        refine g_ifN A226 at_133 (b0_ne_f hv144 (fun q => q c229)) (pc' := 136) rfl ?_
        refine g_iload A226 at_136 rfl (pc' := 138) rfl ?_
        by_cases c230 : (((p0 &&& (1 : Int32)) = 0) ∧ (¬ ((p0 &&& (4 : Int32)) = 0)))
        · skip
          refine g_ifN A226 at_138 (b0_eq_f hv151 c230) (pc' := 141) rfl ?_
          refine g_iloadN A226 at_141 rfl (pc' := 142) rfl ?_
          refine g_iloadN A226 at_142 rfl (pc' := 143) rfl ?_
          by_cases c231 : p1 < p2
          · skip
            refine g_icN A226 at_143 (c2_le_f c231) (pc' := 146) rfl ?_
            refine g_iload A226 at_146 rfl (pc' := 148) rfl ?_
            refine g_ifY A226 at_148 (b0_eq_t hv155 (fun q => (fun q => (fun q => q c230) q.1) q.2)) (pc' := 160) rfl ?_
            refine g_iconst A226 at_160 (v := (0 : Int32)) rfl (pc' := 161) rfl ?_
            obtain rfl : v227 = (0 : Int32) := hv227.trans (if_neg (fun q => q.elim (fun q => q c229) (fun q => q.elim (fun q => (fun q => q c231) q.2) (fun q => (fun q => q c230) q.1))))
            exact hr
          · skip
            refine g_icY A226 at_143 (c2_le_t c231) (pc' := 156) rfl ?_
            refine g_iconst A226 at_156 (v := (1 : Int32)) rfl (pc' := 157) rfl ?_
            refine g_goto A226 at_157 (pc' := 161) rfl ?_
            obtain rfl : v227 = (1 : Int32) := hv227.trans (if_pos (Or.inr (Or.inl ⟨c230, c231⟩)))
            exact hr
        · skip
          refine g_ifY A226 at_138 (b0_eq_t hv151 c230) (pc' := 146) rfl ?_
          refine g_iload A226 at_146 rfl (pc' := 148) rfl ?_
          by_cases c232 : (((p0 &&& (1 : Int32)) = 0) ∧ (((¬ ((((p0 &&& (1 : Int32)) = 0) ∧ (¬ ((p0 &&& (4 : Int32)) = 0))))) ∧ (¬ ((p0 &&& (8 : Int32)) = 0)))))
          · skip
            refine g_ifN A226 at_148 (b0_eq_f hv155 c232) (pc' := 151) rfl ?_
            refine g_iloadN A226 at_151 rfl (pc' := 152) rfl ?_
            refine g_iloadN A226 at_152 rfl (pc' := 153) rfl ?_
            by_cases c233 : p2 < p1
            · skip
              refine g_icY A226 at_153 (c2_lt_t c233) (pc' := 160) rfl ?_
              refine g_iconst A226 at_160 (v := (0 : Int32)) rfl (pc' := 161) rfl ?_
              obtain rfl : v227 = (0 : Int32) := hv227.trans (if_neg (fun q => q.elim (fun q => q c229) (fun q => q.elim (fun q => c230 q.1) (fun q => (fun q => (fun q => q c233) q.2) q.2))))
              exact hr
            · skip
              refine g_icN A226 at_153 (c2_lt_f c233) (pc' := 156) rfl ?_
              refine g_iconst A226 at_156 (v := (1 : Int32)) rfl (pc' := 157) rfl ?_
              refine g_goto A226 at_157 (pc' := 161) rfl ?_
              obtain rfl : v227 = (1 : Int32) := hv227.trans (if_pos (Or.inr (Or.inr ⟨c230, ⟨c232, c233⟩⟩)))
              exact hr
          · skip
            refine g_ifY A226 at_148 (b0_eq_t hv155 c232) (pc' := 160) rfl ?_
            refine g_iconst A226 at_160 (v := (0 : Int32)) rfl (pc' := 161) rfl ?_
            obtain rfl : v227 = (0 : Int32) := hv227.trans (if_neg (fun q => q.elim (fun q => q c229) (fun q => q.elim (fun q => c230 q.1) (fun q => (fun q => c232 q.1) q.2))))
            exact hr
      · skip
        refine g_ifY A226 at_133 (b0_ne_t hv144 c229) (pc' := 156) rfl ?_
        refine g_iconst A226 at_156 (v := (1 : Int32)) rfl (pc' := 157) rfl ?_
        refine g_goto A226 at_157 (pc' := 161) rfl ?_
        obtain rfl : v227 = (1 : Int32) := hv227.trans (if_pos (Or.inl c229))
        exact hr
    refine sg228 ?_
    refine g_istore A226 at_161 (ls' := #[.val (.int p0), .val (.int p1), .val (.int p2), .val (.int v144), .val (.int v147), .val (.int v151), .val (.int v155), .val (.int v160), .val (.ref a164), .val (.ref a199), .val (.int v227)]) rfl (pc' := 163) rfl ?_
    refine g_aload A226 at_163 rfl rfl (pc' := 165) rfl ?_
    refine g_aload A226 at_165 rfl rfl (pc' := 167) rfl ?_
    refine g_iloadN A226 at_167 rfl (pc' := 168) rfl ?_
    refine g_i2d A226 at_168 (pc' := 169) rfl ?_
    obtain ⟨cq235, kq235, q235a, q235b, q235c⟩ := isOf hZ rfl E218
    obtain ⟨_, _, ⟨T234, L234, k234, n234⟩, -, X234, ⟨L234c, hQ234, l234, y234, z234⟩, st234⟩ := X213.virtualBack hx (y := (⟨"com/example/flat_pager/flatpager/AddCondition", "stops", "(Lcom/example/flat_pager/flatpager/Entry;D)Z"⟩ : MethodName)) (z := (⟨"com/example/flat_pager/flatpager/AddCondition", "stops", "(Lcom/example/flat_pager/flatpager/Entry;D)Z"⟩ : MethodName)) hown (mvT hZ (hw _ (List.mem_of_getElem? (i := 22) rfl))) (mvT hZ (hw _ (List.mem_of_getElem? (i := 23) rfl))) (notFace_of_selects (args := #[]) (mvT hZ (hw _ (List.mem_of_getElem? (i := 25) rfl)))) (mvT hZ (hw _ (List.mem_of_getElem? (i := 25) rfl))) (mvT hZ (hw _ (List.mem_of_getElem? (i := 24) rfl))) (by decide) (backOf (W := 0) (rm4r l Z a0 hw [] a164 a199 (FP.i2d p2) (if FP.dcmp (FP.i2d p1) (0 : UInt64) = some .eq then (0 : UInt64) else (FP.i2d p1)) v144 v151 v155 T213.heap n0 Z224 F219 F221 F222 E223 F216) hZ (hw _ (List.mem_of_getElem? (i := 26) rfl)) (hw _ (List.mem_of_getElem? (i := 2) rfl)) (by decide) (by decide)) q235a q235c (g := (mkF m 169 #[.val (.int p0), .val (.int p1), .val (.int p2), .val (.int v144), .val (.int v147), .val (.int v151), .val (.int v155), .val (.int v160), .val (.ref a164), .val (.ref a199), .val (.int v227)] [(.double (FP.i2d p2)), (.ref a199), (.ref a164)])) rfl (by rw [hml]; rfl) (Steps.refl _) (argsL := [(.ref a199), (.double (FP.i2d p2))]) (rest := []) (lenOf pd_4 rfl) rfl (by show 2 * 0 + _ ≤ _; exact Nat.le_of_eq rfl) (hb hby at_169) (fun _ _ => ⟨rfl, rfl, (by decide : 2 + 0 ≤ _), (by decide : 6 + 0 ≤ _)⟩)
    dsimp only [Pt.U, Pt.locs, Pt.cells, Pt.slots] at X234 l234 y234 z234 st234 hQ234
    subst l234 y234 z234
    obtain ⟨rfl, Nq236, Kq237⟩ := hQ234
    have N238 := Fr.app N217 Nq236
    refine Go.tr (g' := (mkF m 172 #[.val (.int p0), .val (.int p1), .val (.int p2), .val (.int v144), .val (.int v147), .val (.int v151), .val (.int v155), .val (.int v160), .val (.ref a164), .val (.ref a199), .val (.int v227)] [(.int (own_r_rm4r (FP.i2d p2) (if FP.dcmp (FP.i2d p1) (0 : UInt64) = some .eq then (0 : UInt64) else (FP.i2d p1)) v144 v151 v155))])) st234 ?_
    have e239 : T234.heap = T213.heap := Kq237
    have A240 := (⟨X234, hx, hby⟩ : Ax _ _ _ _ _ _ _ _ _ _ _ _ _ _ _)
    refine g_iload A240 at_172 rfl (pc' := 174) rfl ?_
    have h241 : (own_r_rm4r (FP.i2d p2) (if FP.dcmp (FP.i2d p1) (0 : UInt64) = some .eq then (0 : UInt64) else (FP.i2d p1)) v144 v151 v155) = v227 := own_end p1 p2 _ _ _ _ hv144 hv151 hv155 hv227 (fun q => q.1 q.2.1) (fun q => q.1 q.2.1) (fun q => q.2.2.1 q.1) (own_iff (fun q => q.2.2.1 q.1))
    refine g_icN A240 at_174 (c2_ne_f h241) (pc' := 177) rfl ?_
    refine g_iconst A240 at_177 (v := (1 : Int32)) rfl (pc' := 178) rfl ?_
    refine g_goto A240 at_178 (pc' := 182) rfl ?_
    exact g_ret (Q := Q0 Z p0 p1 p2 h0 n0) A240 at_182 Bd.notSynchronized Bd.returns rfl (Or.inl ⟨rfl, by simp, _, rfl⟩) (by decide) (by decide) (by rw [e239]; exact ⟨rfl, N238⟩)
set_option maxRecDepth 65536 in
set_option maxHeartbeats 40000000 in
theorem comes_1 {Post : Tables → Env → Array Value → State → Outcome → State → Prop} (hpost : ∀ tb e args s v u, (limb_1_1.after args s (.returned v) u = true ∧ limb_1_2.after args s (.returned v) u = true ∧ True) → FrameEnd s (.returned v) u (Jvm.fieldLocs frame_1_writes args s ++ Jvm.arrayLocs frame_1_arrays args s ++ Jvm.staticLocs frame_1_statics s) 16 128 → Post tb e args s (.returned v) u) :
    ArmFor flags0 classFile x code maxLocals ret World_1 tables_1 room_1 Calls_1 rest_1 Pre_1 Post := by
  intro l hfl _ _ p e ha hc hk s m args below hf hA hF happ hP
  obtain ⟨hcalls, hrest, hpre⟩ := hP
  obtain ⟨-, -, -, hnamed, -, -, -, hat⟩ := (Spec.applies_iff hf).mp happ
  obtain ⟨hg, hn⟩ := and_e (Cond.before_iff.mp (show (Jvm.Cond.and given_1 narrow_1).before args s = true from hpre))
  obtain ⟨g0, hg1⟩ := and_e hg
  obtain ⟨w0, w1, w2, rfl⟩ : ∃ w0 w1 w2 : Value, args = #[w0, w1, w2] := by
    have hs : args.size = 3 := by simpa [Cond.value, given_1] using g0
    obtain ⟨L⟩ := args
    match L, hs with
    | [w0, w1, w2], _ => exact ⟨w0, w1, w2, rfl⟩
  have hw := fun d (hd : d ∈ tables_1) => atoms_spec (ws := Jvm.Cond.code x code maxLocals ret :: tables_1) hat d (List.mem_cons_of_mem _ hd)
  have hfit : Fit s := fun {y c} hc i hi => by
    obtain ⟨ha, rfl⟩ := Array.getElem?_eq_some_iff.mp hc
    have q := List.all_eq_true.mp ((Array.all_eq_true_iff_forall_mem.mp hF) _ (Array.getElem_mem ha)) i (List.mem_range.mpr hi)
    simpa [Array.getElem?_eq_getElem hi] using q
  obtain ⟨k0, hg2⟩ := and_e hg1
  obtain ⟨i0, j0⟩ := is_v k0
  obtain rfl : w0 = (.int i0) := Option.some.inj j0
  obtain ⟨k1, hg3⟩ := and_e hg2
  obtain ⟨i1, j1⟩ := is_v k1
  obtain rfl : w1 = (.int i1) := Option.some.inj j1
  obtain ⟨i2, j2⟩ := is_v hg3
  obtain rfl : w2 = (.int i2) := Option.some.inj j2
  obtain ⟨n, o, h1, h2, h3, _, L, rfl, ⟨rfl, N⟩, hq⟩ := rm0 l s _ hw tables_1 i0 i1 i2 s.heap s.heap.size (Nat.le_refl _)  p e ha hc hk s m _ below hf ((Spec.applies_iff_loose hf).mp happ).1 ⟨rfl, State.Warmed39.refl s, rfl⟩ trivial
  refine ⟨n, _, h1, h2, h3, hpost _ _ _ _ _ _ ⟨Cond.after_iff.mpr rfl, Cond.after_iff.mpr (eq_i res_at (Term.int_eval (1)) rfl), trivial⟩ ⟨hq.1, hq.2.1, (hq.2.2.sift fun y hy => Or.inr (N y hy)).mono (by decide) (by decide)⟩⟩
theorem main_1_1 : Claimed_1_1 := comes_1 fun _ _ _ _ _ _ h hF => ⟨h.1, hF⟩
theorem main_1_2 : Claimed_1_2 := comes_1 fun _ _ _ _ _ _ h hF => ⟨h.2.1, hF⟩
end Jvm.Pilot.@@N@@
namespace Jvm.Pilot.@@N@@
open Jvm Jvm.ClassFile Sem Op Lib Jvm.Free Jvm.Stand Jvm.Pilot.@@N@@.Jvm.D
/-! MADE BY PROGRAM (witnessworld.py) out of the Statement's table words and the real class files: 16 classes; the members and pool entries that the words name. The judged class is class 1, her method 1. -/
namespace start1
open Jvm.ClassFile
def u (s : String) : CpInfo := .utf8 (stringToUtf16 s)
/-- a pool by its gaps: so many unusable entries, then the entry; so many at the end -/
def gap : Nat → List CpInfo → List CpInfo
  | 0, r => r
  | n + 1, r => .unusable :: gap n r
def poolList (es : List (Nat × CpInfo)) (last : Nat) : List CpInfo := es.foldr (fun e r => gap e.1 (e.2 :: r)) (gap last [])
def pool (es : List (Nat × CpInfo)) (last : Nat) : Array CpInfo := ⟨poolList es last⟩
def fileOf (pool : Array CpInfo) (this : Nat) (attrs : Array Attribute := #[]) (ms : Array MethodInfo := #[]) (fl : Nat := 33) (sup : Nat := 0) (ifs : Array Nat := #[]) (fds : Array FieldInfo := #[]) : ClassFile where
  minorVersion := 0
  majorVersion := 65
  constantPool := pool
  accessFlags := fl
  thisClass := this
  superClass := sup
  interfaces := ifs
  fields := fds
  methods := ms
  attributes := attrs
def plain (name : String) (sup : Option ClassId) : Class where
  name := name
  kind := .ordinary
  loader := none
  accessFlags := 33
  super := sup
  interfaces := #[]
  cf := none
  fields := #[]
  methods := #[]
  instanceTypes := #[]
  staticTypes := #[]
  resolved := #[]
  callSites := []
  init := .initialized
  statics := none
  mirror := none

def pool0 : Array CpInfo := pool [(5, u "<init>"), (0, u "()V"), (1, .class_ 10), (1, u "java/lang/Object")] 113

def k0c0 : Code := { maxStack := 0, maxLocals := 1, code := object_method_1_code, exceptionTable := #[], attributes := #[] }
def k0m0 : Method := { name := "<init>", desc := "()V", sig := { parameters := [], returnType := none }, accessFlags := 1, code := some k0c0 }
/-- java/lang/Object -/
def k0 : Class := { plain "java/lang/Object" none with
  accessFlags := 33
  interfaces := #[]
  cf := some (fileOf pool0 8 #[] #[{ accessFlags := 1, nameIndex := 5, descriptorIndex := 6, attributes := #[] }] 33 0 #[] #[])
  fields := #[]
  methods := #[k0m0]
  instanceTypes := #[]
  staticTypes := #[]
  resolved := Array.replicate 124 none
  statics := none }

def pool1 : Array CpInfo := pool [(2, .class_ 4), (1, u "java/lang/Object"), (0, u "<init>"), (0, u "()V"), (0, .class_ 8), (0, u "com/example/flat_pager/flatpager/AddCondition"), (0, .methodref 7 10), (0, .nameAndType 5 11), (0, u "(ZZZZ)V"), (0, .class_ 13), (0, u "com/example/flat_pager/flatpager/Entry"), (0, .methodref 12 15), (0, .nameAndType 5 16), (0, u "(DLcom/example/flat_pager/flatpager/Bytes;)V"), (0, .methodref 7 18), (0, .nameAndType 19 20), (0, u "stops"), (0, u "(Lcom/example/flat_pager/flatpager/Entry;D)Z"), (0, .class_ 22), (0, u "com/example/flat_pager/flatpager/AddConditionStopsPinLaw"), (2, u "law"), (0, u "(III)Z")] 3

def k1m0 : Method := { name := "<init>", desc := "()V", sig := { parameters := [], returnType := none }, accessFlags := 1, code := none }
def k1c1 : Code := { maxStack := 6, maxLocals := 11, code := code, exceptionTable := #[], attributes := #[] }
def k1m1 : Method := { name := "law", desc := "(III)Z", sig := { parameters := [.int, .int, .int], returnType := some .boolean }, accessFlags := 9, code := some k1c1 }
/-- com/example/flat_pager/flatpager/AddConditionStopsPinLaw -/
def k1 : Class := { plain "com/example/flat_pager/flatpager/AddConditionStopsPinLaw" (some 0) with
  accessFlags := 49
  interfaces := #[]
  cf := some (fileOf pool1 21 #[] #[{ accessFlags := 1, nameIndex := 5, descriptorIndex := 6, attributes := #[] }, { accessFlags := 9, nameIndex := 25, descriptorIndex := 26, attributes := #[] }] 49 2 #[] #[])
  fields := #[]
  methods := #[k1m0, k1m1]
  instanceTypes := #[]
  staticTypes := #[]
  resolved := Array.replicate 30 none
  statics := none }

def pool2 : Array CpInfo := pool [(1, .methodref 2 3), (0, .class_ 4), (0, .nameAndType 5 6), (0, u "java/lang/Object"), (0, u "<init>"), (0, u "()V"), (0, .class_ 8), (0, u "java/lang/Record")] 13

def k2c0 : Code := { maxStack := 1, maxLocals := 1, code := jdk_30_method_1_code, exceptionTable := #[], attributes := #[] }
def k2m0 : Method := { name := "<init>", desc := "()V", sig := { parameters := [], returnType := none }, accessFlags := 4, code := some k2c0 }
/-- java/lang/Record -/
def k2 : Class := { plain "java/lang/Record" (some 0) with
  accessFlags := 1057
  interfaces := #[]
  cf := some (fileOf pool2 7 #[] #[{ accessFlags := 4, nameIndex := 5, descriptorIndex := 6, attributes := #[] }] 1057 2 #[] #[])
  fields := #[]
  methods := #[k2m0]
  instanceTypes := #[]
  staticTypes := #[]
  resolved := Array.replicate 22 none
  statics := none }

def pool3 : Array CpInfo := pool [(1, .methodref 2 3), (0, .class_ 4), (0, .nameAndType 5 6), (0, u "java/lang/Record"), (0, u "<init>"), (0, u "()V"), (9, .fieldref 17 18), (0, .class_ 19), (0, .nameAndType 20 21), (0, u "com/example/flat_pager/flatpager/AddCondition"), (0, u "onlyNew"), (0, u "Z"), (0, .fieldref 17 23), (0, .nameAndType 24 21), (0, u "onlyExisting"), (0, .fieldref 17 26), (0, .nameAndType 27 21), (0, u "onlyGreater"), (0, .fieldref 17 29), (0, .nameAndType 30 21), (0, u "onlyLower"), (0, .methodref 32 33), (0, .class_ 34), (0, .nameAndType 35 36), (0, u "com/example/flat_pager/flatpager/Entry"), (0, u "score"), (0, u "()D"), (14, u "(ZZZZ)V"), (2, u "NONE"), (0, u "Lcom/example/flat_pager/flatpager/AddCondition;"), (4, u "stops"), (0, u "(Lcom/example/flat_pager/flatpager/Entry;D)Z")] 28

def k3c0 : Code := { maxStack := 3, maxLocals := 5, code := prog_1_method_1_code, exceptionTable := #[], attributes := #[] }
def k3m0 : Method := { name := "<init>", desc := "(ZZZZ)V", sig := { parameters := [.boolean, .boolean, .boolean, .boolean], returnType := none }, accessFlags := 0, code := some k3c0 }
def k3c1 : Code := { maxStack := 4, maxLocals := 5, code := prog_1_method_2_code, exceptionTable := #[], attributes := #[] }
def k3m1 : Method := { name := "stops", desc := "(Lcom/example/flat_pager/flatpager/Entry;D)Z", sig := { parameters := [(.object "com/example/flat_pager/flatpager/Entry"), .double], returnType := some .boolean }, accessFlags := 0, code := some k3c1 }
/-- com/example/flat_pager/flatpager/AddCondition -/
def k3 : Class := { plain "com/example/flat_pager/flatpager/AddCondition" (some 2) with
  accessFlags := 48
  interfaces := #[]
  cf := some (fileOf pool3 17 #[] #[{ accessFlags := 0, nameIndex := 5, descriptorIndex := 51, attributes := #[] }, { accessFlags := 0, nameIndex := 60, descriptorIndex := 61, attributes := #[] }] 48 2 #[] #[{ accessFlags := 18, nameIndex := 20, descriptorIndex := 21, attributes := #[] }, { accessFlags := 18, nameIndex := 24, descriptorIndex := 21, attributes := #[] }, { accessFlags := 18, nameIndex := 27, descriptorIndex := 21, attributes := #[] }, { accessFlags := 18, nameIndex := 30, descriptorIndex := 21, attributes := #[] }, { accessFlags := 24, nameIndex := 54, descriptorIndex := 55, attributes := #[] }])
  fields := #[{ name := "onlyNew", type := .boolean, accessFlags := 18, slot := 0, constantValue := 0 }, { name := "onlyExisting", type := .boolean, accessFlags := 18, slot := 1, constantValue := 0 }, { name := "onlyGreater", type := .boolean, accessFlags := 18, slot := 2, constantValue := 0 }, { name := "onlyLower", type := .boolean, accessFlags := 18, slot := 3, constantValue := 0 }, { name := "NONE", type := (.object "com/example/flat_pager/flatpager/AddCondition"), accessFlags := 24, slot := 0, constantValue := 0 }]
  methods := #[k3m0, k3m1]
  instanceTypes := #[.boolean, .boolean, .boolean, .boolean]
  staticTypes := #[(.object "com/example/flat_pager/flatpager/AddCondition")]
  resolved := Array.replicate 90 none
  statics := none }

def pool4 : Array CpInfo := pool [(1, .methodref 2 3), (0, .class_ 4), (0, .nameAndType 5 6), (0, u "java/lang/Record"), (0, u "<init>"), (0, u "()V"), (0, .methodref 8 9), (0, .class_ 10), (0, .nameAndType 11 12), (0, u "java/lang/Double"), (0, u "isNaN"), (0, u "(D)Z"), (7, .fieldref 21 22), (0, .class_ 23), (0, .nameAndType 24 25), (0, u "com/example/flat_pager/flatpager/Entry"), (0, u "score"), (0, u "D"), (0, .fieldref 21 27), (0, .nameAndType 28 29), (0, u "member"), (0, u "Lcom/example/flat_pager/flatpager/Bytes;"), (32, u "ORDER"), (0, u "Ljava/util/Comparator;"), (2, u "(DLcom/example/flat_pager/flatpager/Bytes;)V"), (9, u "()D")] 44

def k4c0 : Code := { maxStack := 4, maxLocals := 4, code := prog_18_method_1_code, exceptionTable := #[], attributes := #[] }
def k4m0 : Method := { name := "<init>", desc := "(DLcom/example/flat_pager/flatpager/Bytes;)V", sig := { parameters := [.double, (.object "com/example/flat_pager/flatpager/Bytes")], returnType := none }, accessFlags := 0, code := some k4c0 }
def k4c1 : Code := { maxStack := 2, maxLocals := 1, code := prog_18_method_5_code, exceptionTable := #[], attributes := #[] }
def k4m1 : Method := { name := "score", desc := "()D", sig := { parameters := [], returnType := some .double }, accessFlags := 1, code := some k4c1 }
/-- com/example/flat_pager/flatpager/Entry -/
def k4 : Class := { plain "com/example/flat_pager/flatpager/Entry" (some 2) with
  accessFlags := 48
  interfaces := #[]
  cf := some (fileOf pool4 21 #[] #[{ accessFlags := 0, nameIndex := 5, descriptorIndex := 66, attributes := #[] }, { accessFlags := 1, nameIndex := 24, descriptorIndex := 76, attributes := #[] }] 48 2 #[] #[{ accessFlags := 18, nameIndex := 24, descriptorIndex := 25, attributes := #[] }, { accessFlags := 18, nameIndex := 28, descriptorIndex := 29, attributes := #[] }, { accessFlags := 24, nameIndex := 62, descriptorIndex := 63, attributes := #[] }])
  fields := #[{ name := "score", type := .double, accessFlags := 18, slot := 0, constantValue := 0 }, { name := "member", type := (.object "com/example/flat_pager/flatpager/Bytes"), accessFlags := 18, slot := 1, constantValue := 0 }, { name := "ORDER", type := (.object "java/util/Comparator"), accessFlags := 24, slot := 0, constantValue := 0 }]
  methods := #[k4m0, k4m1]
  instanceTypes := #[.double, (.object "com/example/flat_pager/flatpager/Bytes")]
  staticTypes := #[(.object "java/util/Comparator")]
  resolved := Array.replicate 121 none
  statics := none }

def pool5 : Array CpInfo := pool [(1, .class_ 2), (0, u "java/io/Serializable"), (0, .class_ 4), (0, u "java/lang/Object")] 2

/-- java/io/Serializable -/
def k5 : Class := { plain "java/io/Serializable" (some 0) with
  accessFlags := 1537
  interfaces := #[]
  cf := some (fileOf pool5 1 #[] #[] 1537 3 #[] #[])
  fields := #[]
  methods := #[]
  instanceTypes := #[]
  staticTypes := #[]
  resolved := Array.replicate 7 none
  statics := none }

def pool6 : Array CpInfo := pool [(2, .class_ 4), (1, u "java/lang/Object"), (0, u "<init>"), (0, u "()V"), (1, .class_ 10), (1, u "java/lang/Number"), (2, .class_ 14), (0, u "java/io/Serializable"), (0, u "serialVersionUID"), (0, u "J")] 20

def k6m0 : Method := { name := "<init>", desc := "()V", sig := { parameters := [], returnType := none }, accessFlags := 1, code := none }
/-- java/lang/Number -/
def k6 : Class := { plain "java/lang/Number" (some 0) with
  accessFlags := 1057
  interfaces := #[5]
  cf := some (fileOf pool6 8 #[] #[{ accessFlags := 1, nameIndex := 5, descriptorIndex := 6, attributes := #[] }] 1057 2 #[13] #[{ accessFlags := 26, nameIndex := 15, descriptorIndex := 16, attributes := #[] }])
  fields := #[{ name := "serialVersionUID", type := .long, accessFlags := 26, slot := 0, constantValue := 0 }]
  methods := #[k6m0]
  instanceTypes := #[]
  staticTypes := #[.long]
  resolved := Array.replicate 37 none
  statics := none }

def pool7 : Array CpInfo := pool [(1, .class_ 2), (0, u "java/lang/Comparable"), (0, .class_ 4), (0, u "java/lang/Object")] 7

/-- java/lang/Comparable -/
def k7 : Class := { plain "java/lang/Comparable" (some 0) with
  accessFlags := 1537
  interfaces := #[]
  cf := some (fileOf pool7 1 #[] #[] 1537 3 #[] #[])
  fields := #[]
  methods := #[]
  instanceTypes := #[]
  staticTypes := #[]
  resolved := Array.replicate 12 none
  statics := none }

def pool8 : Array CpInfo := pool [(1, .class_ 2), (0, u "java/lang/constant/Constable"), (0, .class_ 4), (0, u "java/lang/Object")] 6

/-- java/lang/constant/Constable -/
def k8 : Class := { plain "java/lang/constant/Constable" (some 0) with
  accessFlags := 1537
  interfaces := #[]
  cf := some (fileOf pool8 1 #[] #[] 1537 3 #[] #[])
  fields := #[]
  methods := #[]
  instanceTypes := #[]
  staticTypes := #[]
  resolved := Array.replicate 11 none
  statics := none }

def pool9 : Array CpInfo := pool [(1, .class_ 2), (0, u "java/lang/constant/ConstantDesc"), (0, .class_ 4), (0, u "java/lang/Object")] 32

/-- java/lang/constant/ConstantDesc -/
def k9 : Class := { plain "java/lang/constant/ConstantDesc" (some 0) with
  accessFlags := 1537
  interfaces := #[]
  cf := some (fileOf pool9 1 #[] #[] 1537 3 #[] #[])
  fields := #[]
  methods := #[]
  instanceTypes := #[]
  staticTypes := #[]
  resolved := Array.replicate 37 none
  statics := none }

def pool10 : Array CpInfo := pool [(1, .class_ 2), (0, u "java/lang/Double"), (11, u "(D)Z"), (99, .class_ 116), (1, u "java/lang/Number"), (3, u "value"), (0, u "D"), (2, u "isNaN"), (48, u "TYPE"), (0, u "Ljava/lang/Class;"), (0, .class_ 176), (0, u "java/lang/Comparable"), (0, .class_ 178), (0, u "java/lang/constant/Constable"), (0, .class_ 180), (0, u "java/lang/constant/ConstantDesc"), (0, u "POSITIVE_INFINITY"), (3, u "NEGATIVE_INFINITY"), (2, u "NaN"), (2, u "MAX_VALUE"), (0, u "MIN_NORMAL"), (0, u "MIN_VALUE"), (2, u "SIZE"), (0, u "I"), (1, u "PRECISION"), (1, u "MAX_EXPONENT"), (1, u "MIN_EXPONENT"), (1, u "BYTES"), (3, u "serialVersionUID"), (0, u "J")] 79

def k10c0 : Code := { maxStack := 4, maxLocals := 2, code := jdk_117_method_6_code, exceptionTable := #[], attributes := #[] }
def k10m0 : Method := { name := "isNaN", desc := "(D)Z", sig := { parameters := [.double], returnType := some .boolean }, accessFlags := 9, code := some k10c0 }
/-- java/lang/Double -/
def k10 : Class := { plain "java/lang/Double" (some 6) with
  accessFlags := 49
  interfaces := #[7, 8, 9]
  cf := some (fileOf pool10 1 #[] #[{ accessFlags := 9, nameIndex := 124, descriptorIndex := 14, attributes := #[] }] 49 114 #[175, 177, 179] #[{ accessFlags := 25, nameIndex := 181, descriptorIndex := 121, attributes := #[] }, { accessFlags := 25, nameIndex := 185, descriptorIndex := 121, attributes := #[] }, { accessFlags := 25, nameIndex := 188, descriptorIndex := 121, attributes := #[] }, { accessFlags := 25, nameIndex := 191, descriptorIndex := 121, attributes := #[] }, { accessFlags := 25, nameIndex := 192, descriptorIndex := 121, attributes := #[] }, { accessFlags := 25, nameIndex := 193, descriptorIndex := 121, attributes := #[] }, { accessFlags := 25, nameIndex := 196, descriptorIndex := 197, attributes := #[] }, { accessFlags := 25, nameIndex := 199, descriptorIndex := 197, attributes := #[] }, { accessFlags := 25, nameIndex := 201, descriptorIndex := 197, attributes := #[] }, { accessFlags := 25, nameIndex := 203, descriptorIndex := 197, attributes := #[] }, { accessFlags := 25, nameIndex := 205, descriptorIndex := 197, attributes := #[] }, { accessFlags := 25, nameIndex := 173, descriptorIndex := 174, attributes := #[] }, { accessFlags := 18, nameIndex := 120, descriptorIndex := 121, attributes := #[] }, { accessFlags := 26, nameIndex := 209, descriptorIndex := 210, attributes := #[] }])
  fields := #[{ name := "POSITIVE_INFINITY", type := .double, accessFlags := 25, slot := 0, constantValue := 0 }, { name := "NEGATIVE_INFINITY", type := .double, accessFlags := 25, slot := 1, constantValue := 0 }, { name := "NaN", type := .double, accessFlags := 25, slot := 2, constantValue := 0 }, { name := "MAX_VALUE", type := .double, accessFlags := 25, slot := 3, constantValue := 0 }, { name := "MIN_NORMAL", type := .double, accessFlags := 25, slot := 4, constantValue := 0 }, { name := "MIN_VALUE", type := .double, accessFlags := 25, slot := 5, constantValue := 0 }, { name := "SIZE", type := .int, accessFlags := 25, slot := 6, constantValue := 0 }, { name := "PRECISION", type := .int, accessFlags := 25, slot := 7, constantValue := 0 }, { name := "MAX_EXPONENT", type := .int, accessFlags := 25, slot := 8, constantValue := 0 }, { name := "MIN_EXPONENT", type := .int, accessFlags := 25, slot := 9, constantValue := 0 }, { name := "BYTES", type := .int, accessFlags := 25, slot := 10, constantValue := 0 }, { name := "TYPE", type := (.object "java/lang/Class"), accessFlags := 25, slot := 11, constantValue := 0 }, { name := "value", type := .double, accessFlags := 18, slot := 0, constantValue := 0 }, { name := "serialVersionUID", type := .long, accessFlags := 26, slot := 12, constantValue := 0 }]
  methods := #[k10m0]
  instanceTypes := #[.double]
  staticTypes := #[.double, .double, .double, .double, .double, .double, .int, .int, .int, .int, .int, (.object "java/lang/Class"), .long]
  resolved := Array.replicate 290 none
  statics := none }

def pool11 : Array CpInfo := pool [(1, u "java/lang/Cloneable"), (0, .class_ 1), (0, u "java/lang/Object"), (0, .class_ 3)] 3

/-- java/lang/Cloneable -/
def k11 : Class := { plain "java/lang/Cloneable" (some 0) with
  accessFlags := 1537
  interfaces := #[]
  cf := some (fileOf pool11 2 #[] #[] 1537 4 #[] #[])
  fields := #[]
  methods := #[]
  instanceTypes := #[]
  staticTypes := #[]
  resolved := Array.replicate 8 none
  statics := none }

/-- the primitive byte -/
def k12 : Class := { plain "byte" none with kind := .primitive 'B', accessFlags := 0x411 }
/-- [B -/
def k13 : Class := { plain "[B" (some 0) with kind := .array 12 .byte, interfaces := #[11, 5], accessFlags := 1041 }

/-- the primitive int -/
def k14 : Class := { plain "int" none with kind := .primitive 'I', accessFlags := 0x411 }
/-- [I -/
def k15 : Class := { plain "[I" (some 0) with kind := .array 14 .int, interfaces := #[11, 5], accessFlags := 1041 }

def heap : Heap := #[]
def classes : Array Class := #[k0, k1, k2, k3, k4, k5, k6, k7, k8, k9, k10, k11, k12, k13, k14, k15]
def interned : List (Array UInt16 × Addr) := []
def slotsUsed : Nat := 0
def theMethod : MethodId := ⟨1, 1⟩
def args0 : Array Value := #[.int 21, .int 3, .int 1]
def aboutOver (below : List Frame) : State where
  vm := { classes := classes, interned := interned.toArray }
  heap := heap
  slotsUsed := slotsUsed
  threads := #[{ frames := .invoking theMethod args0 :: below }]
def below0 : List Frame := [.native { method := ⟨0, 0⟩, args := #[] }]
def about1 : State := aboutOver below0
def p0 : Program := .bare "" "" ""
def e0 : Env := launch0.env 0 0 0
theorem w_frames : about1.frames = Frame.invoking theMethod args0 :: below0 := rfl
set_option maxRecDepth 65536 in
theorem w_args : argsFit about1.vm theMethod args0 = true := by decide +kernel
set_option maxRecDepth 65536 in
theorem w_heap : heapFits about1 = true := by decide +kernel
set_option maxRecDepth 65536 in
theorem w_runnable : about1.curStatus? = some .runnable := by decide +kernel
set_option maxRecDepth 65536 in
theorem w_alone : about1.alone = true := by decide +kernel
set_option maxRecDepth 65536 in
theorem w_named : about1.methodNamed? x = some theMethod := by decide +kernel
set_option maxRecDepth 65536 in
theorem w_hears : about1.hears theMethod below0 = true := by decide +kernel
set_option maxRecDepth 65536 in
theorem w_ripe : about1.ripe theMethod args0 below0 = true := by decide +kernel
theorem w_running : about1.status = .running := rfl
set_option maxRecDepth 65536 in
theorem w_room : about1.hasRoom e0.platform room_1 = true :=
  launch0.hasRoom_least _ room_1 (by decide +kernel) (by decide +kernel) (by decide +kernel) (by decide +kernel) (by decide +kernel) (by decide +kernel)
theorem allAtoms_all (ts : List Jvm.Cond) (a : Array Jvm.Value) (st : Jvm.State) : (allAtoms ts).before a st = ts.all (fun c => c.before a st) := by
  induction ts with
  | nil => rfl
  | cons c t ih =>
    show (Jvm.Cond.and c (allAtoms t)).before a st = _
    rw [Jvm.Cond.before_and, ih, List.all_cons]
def words1 : List Jvm.Cond := Jvm.Cond.code x code maxLocals ret :: tables_1
/-- a 'code' word, met by the world's own term for the bytes: nothing is compared byte by byte -/
theorem code_word {y : MethodName} {bytes : ByteArray} {mx : Nat} {rt : Option FieldType} {a : Array Value} {s : State} {m : MethodId} {meth : Method} {c : Code} (h1 : s.methodNamed? y = some m) (h2 : s.vm.method? m = some meth) (h3 : meth.code = some c) (h4 : c.code = bytes)
    (h5 : (c.maxLocals == mx && c.exceptionTable.isEmpty && decide (c.maxStack ≤ mostOperands) && decide (meth.sig.returnType = rt) && !meth.locks && decide (parseMethodDescriptor y.desc = some meth.sig)) = true) : (Jvm.Cond.code y bytes mx rt).before a s = true := by
  simp only [Bool.and_eq_true, beq_iff_eq, Bool.not_eq_true', decide_eq_true_eq] at h5
  obtain ⟨⟨⟨⟨⟨g1, g2⟩, g3⟩, g4⟩, g5⟩, g6⟩ := h5
  simp [Cond.before, Cond.holds, Cond.value, h1, h2, h3, h4, g1, g2, g3, g4, g5, g6]
def isCode : Jvm.Cond → Bool
  | .code _ _ _ _ => true
  | _ => false
theorem all_split {L : List Jvm.Cond} {P : Jvm.Cond → Bool} (h1 : L.all (fun c => isCode c || P c) = true) (h2 : ∀ c ∈ L.filter isCode, P c = true) : L.all P = true := by
  refine List.all_eq_true.mpr fun c hc => ?_
  have h := List.all_eq_true.mp h1 c hc
  rcases Bool.eq_false_or_eq_true (isCode c) with hi | hi
  · exact h2 c (List.mem_filter.mpr ⟨hc, hi⟩)
  · simpa [hi] using h
set_option maxRecDepth 65536 in
theorem w_c0 : (Jvm.Cond.code x code maxLocals ret).before args0 about1 = true := code_word (m := ⟨1, 1⟩) (meth := k1m1) (c := k1c1) (by decide +kernel) rfl rfl rfl (by decide +kernel)
set_option maxRecDepth 65536 in
theorem w_c1 : (Jvm.Cond.code ({ cls := "com/example/flat_pager/flatpager/AddCondition", name := "<init>", desc := "(ZZZZ)V" } : Jvm.MethodName) prog_1_method_1_code (5 : Nat) (Option.none : Option Jvm.ClassFile.FieldType)).before args0 about1 = true := code_word (m := ⟨3, 0⟩) (meth := k3m0) (c := k3c0) (by decide +kernel) rfl rfl rfl (by decide +kernel)
set_option maxRecDepth 65536 in
theorem w_c2 : (Jvm.Cond.code ({ cls := "java/lang/Record", name := "<init>", desc := "()V" } : Jvm.MethodName) jdk_30_method_1_code (1 : Nat) (Option.none : Option Jvm.ClassFile.FieldType)).before args0 about1 = true := code_word (m := ⟨2, 0⟩) (meth := k2m0) (c := k2c0) (by decide +kernel) rfl rfl rfl (by decide +kernel)
set_option maxRecDepth 65536 in
theorem w_c3 : (Jvm.Cond.code ({ cls := "java/lang/Object", name := "<init>", desc := "()V" } : Jvm.MethodName) object_method_1_code (1 : Nat) (Option.none : Option Jvm.ClassFile.FieldType)).before args0 about1 = true := code_word (m := ⟨0, 0⟩) (meth := k0m0) (c := k0c0) (by decide +kernel) rfl rfl rfl (by decide +kernel)
set_option maxRecDepth 65536 in
theorem w_c4 : (Jvm.Cond.code ({ cls := "com/example/flat_pager/flatpager/AddCondition", name := "stops", desc := "(Lcom/example/flat_pager/flatpager/Entry;D)Z" } : Jvm.MethodName) prog_1_method_2_code (5 : Nat) (Option.some Jvm.ClassFile.FieldType.boolean)).before args0 about1 = true := code_word (m := ⟨3, 1⟩) (meth := k3m1) (c := k3c1) (by decide +kernel) rfl rfl rfl (by decide +kernel)
set_option maxRecDepth 65536 in
theorem w_c5 : (Jvm.Cond.code ({ cls := "com/example/flat_pager/flatpager/Entry", name := "<init>", desc := "(DLcom/example/flat_pager/flatpager/Bytes;)V" } : Jvm.MethodName) prog_18_method_1_code (4 : Nat) (Option.none : Option Jvm.ClassFile.FieldType)).before args0 about1 = true := code_word (m := ⟨4, 0⟩) (meth := k4m0) (c := k4c0) (by decide +kernel) rfl rfl rfl (by decide +kernel)
set_option maxRecDepth 65536 in
theorem w_c6 : (Jvm.Cond.code ({ cls := "java/lang/Double", name := "isNaN", desc := "(D)Z" } : Jvm.MethodName) jdk_117_method_6_code (2 : Nat) (Option.some Jvm.ClassFile.FieldType.boolean)).before args0 about1 = true := code_word (m := ⟨10, 0⟩) (meth := k10m0) (c := k10c0) (by decide +kernel) rfl rfl rfl (by decide +kernel)
set_option maxRecDepth 65536 in
theorem w_c7 : (Jvm.Cond.code ({ cls := "com/example/flat_pager/flatpager/Entry", name := "score", desc := "()D" } : Jvm.MethodName) prog_18_method_5_code (1 : Nat) (Option.some Jvm.ClassFile.FieldType.double)).before args0 about1 = true := code_word (m := ⟨4, 1⟩) (meth := k4m1) (c := k4c1) (by decide +kernel) rfl rfl rfl (by decide +kernel)
def codes1 : List Jvm.Cond := [Jvm.Cond.code x code maxLocals ret, Jvm.Cond.code ({ cls := "com/example/flat_pager/flatpager/AddCondition", name := "<init>", desc := "(ZZZZ)V" } : Jvm.MethodName) prog_1_method_1_code (5 : Nat) (Option.none : Option Jvm.ClassFile.FieldType), Jvm.Cond.code ({ cls := "java/lang/Record", name := "<init>", desc := "()V" } : Jvm.MethodName) jdk_30_method_1_code (1 : Nat) (Option.none : Option Jvm.ClassFile.FieldType), Jvm.Cond.code ({ cls := "java/lang/Object", name := "<init>", desc := "()V" } : Jvm.MethodName) object_method_1_code (1 : Nat) (Option.none : Option Jvm.ClassFile.FieldType), Jvm.Cond.code ({ cls := "com/example/flat_pager/flatpager/AddCondition", name := "stops", desc := "(Lcom/example/flat_pager/flatpager/Entry;D)Z" } : Jvm.MethodName) prog_1_method_2_code (5 : Nat) (Option.some Jvm.ClassFile.FieldType.boolean), Jvm.Cond.code ({ cls := "com/example/flat_pager/flatpager/Entry", name := "<init>", desc := "(DLcom/example/flat_pager/flatpager/Bytes;)V" } : Jvm.MethodName) prog_18_method_1_code (4 : Nat) (Option.none : Option Jvm.ClassFile.FieldType), Jvm.Cond.code ({ cls := "java/lang/Double", name := "isNaN", desc := "(D)Z" } : Jvm.MethodName) jdk_117_method_6_code (2 : Nat) (Option.some Jvm.ClassFile.FieldType.boolean), Jvm.Cond.code ({ cls := "com/example/flat_pager/flatpager/Entry", name := "score", desc := "()D" } : Jvm.MethodName) prog_18_method_5_code (1 : Nat) (Option.some Jvm.ClassFile.FieldType.double)]
set_option maxRecDepth 65536 in
theorem codes_eq : words1.filter isCode = codes1 := rfl
theorem w_codes : ∀ c ∈ words1.filter isCode, c.before args0 about1 = true := by
  rw [codes_eq]
  intro c hc
  simp only [codes1, List.mem_cons, List.not_mem_nil, or_false] at hc
  rcases hc with rfl | rfl | rfl | rfl | rfl | rfl | rfl | rfl
  · exact w_c0
  · exact w_c1
  · exact w_c2
  · exact w_c3
  · exact w_c4
  · exact w_c5
  · exact w_c6
  · exact w_c7
set_option maxRecDepth 65536 in
theorem w_t1 : (words1.take 24).all (fun c => isCode c || c.before args0 about1) = true := by decide +kernel
set_option maxRecDepth 65536 in
theorem w_t2 : (words1.drop 24).all (fun c => isCode c || c.before args0 about1) = true := by decide +kernel
theorem w_tables : (allAtoms (Jvm.Cond.code x code maxLocals ret :: tables_1)).before args0 about1 = true := by
  rw [allAtoms_all]
  show words1.all (fun c => c.before args0 about1) = true
  refine all_split ?_ w_codes
  rw [← List.take_append_drop 24 words1, List.all_append, w_t1, w_t2]
  rfl
set_option maxRecDepth 65536 in
theorem w_case : (Jvm.Cond.and given_1 narrow_1).before args0 about1 = true := by decide +kernel
theorem w_applies : (headSpec (Jvm.Cond.code x code maxLocals ret :: tables_1) room_1).applies x e0.platform about1 = true :=
  (Spec.applies_iff w_frames).mpr ⟨w_running, w_runnable, w_alone, w_named, w_hears, w_ripe, w_room, w_tables⟩
theorem atStart : AtStart classFile x code maxLocals ret World_1 tables_1 room_1 Calls_1 rest_1 Pre_1 launch0 p0 e0 about1 theMethod args0 below0 :=
  ⟨lists_1, trivial, launch0.admits_env _ _ _, launch0.least_env, fairChoices_fair.cas, fairChoices_fair.clock, w_frames, w_args, w_heap, w_applies, trivial, trivial, w_case⟩
end start1
theorem witness_1 : WitnessClaimed_1 := ⟨start1.p0, start1.e0, start1.about1, start1.theMethod, start1.args0, start1.below0, start1.atStart⟩
end Jvm.Pilot.@@N@@
