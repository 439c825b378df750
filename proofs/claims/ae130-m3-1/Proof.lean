import JvmDerived
import JvmDerived.Pilot.@@N@@Statement
import JvmDerived.Pilot.@@N@@Code
set_option linter.unusedVariables false
set_option linter.unusedSimpArgs false
namespace Jvm.Pilot.@@N@@
open Jvm Jvm.ClassFile Sem Op Lib Jvm.Free Jvm.Free.Fl Jvm.Stand Jvm.LawKit Jvm.RoadKit Bundle Jvm.Pilot.@@N@@.Jvm.D
section own_go
/-- where the walk stands, with the two facts that every step asks -/
def Ax (p : Program) (l : Launch) (e : Env) (R : Room) (s : State) (m : MethodId) (args : Array Value) (below : List Frame) (meth : Method) (c : Code) (T : State) (locs : List Loc) (cells slots : Nat) (B : ByteArray) : Prop := Stand p l e R s m args below meth c T locs cells slots ∧ p.tables.exec = Jvm.exec ∧ c.code = B
/-- from this frame the run ends, and P holds of its end -/
def Go (p : Program) (e : Env) (below : List Frame) (P : State → Outcome → Prop) (T : State) (g : JFrame) : Prop := ∃ U o, Steps p.tables e below (T.setTop g) U ∧ U.status = .running ∧ Ended U below o ∧ P U o
variable {p : Program} {l : Launch} {e : Env} {R : Room} {s : State} {m : MethodId} {args : Array Value} {below : List Frame} {meth : Method} {c : Code} {T : State} {locs : List Loc} {cells slots : Nat} {P : State → Outcome → Prop} {B : ByteArray} {pc pc' : Nat} {ls ls' : Array Slot} {st : List Value}
theorem Go.of {T' : State} {g g' : JFrame} (k : ∀ t, Steps p.tables e below (T'.setTop g') t → Steps p.tables e below (T.setTop g) t) (h : Go p e below P T' g') : Go p e below P T g := by
  obtain ⟨U, o, h1, h2⟩ := h
  exact ⟨U, o, k _ h1, h2⟩
theorem Go.tr {T' : State} {g g' : JFrame} (k : Steps p.tables e below (T.setTop g) (T'.setTop g')) (h : Go p e below P T' g') : Go p e below P T g := Go.of (fun _ h => k.trans h) h
theorem Go.cast {g g' : JFrame} (q : g = g') (h : Go p e below P T g') : Go p e below P T g := q ▸ h

theorem g_iadd (A : Ax p l e R s m args below meth c T locs cells slots B) {x : Int32} {y : Int32} (hd : decode B pc = .ok (.iadd, 1)) (hp : pc + 1 = pc') (k : Go p e below P T (mkF m pc' ls (.int (x + y) :: st))) : Go p e below P T (mkF m pc ls (.int y :: .int x :: st)) := by
  subst hp; exact Go.of (fun _ k' => XS.iadd A.1.here A.2.1 rfl (hb A.2.2 hd) rfl k') k
theorem g_isub (A : Ax p l e R s m args below meth c T locs cells slots B) {x : Int32} {y : Int32} (hd : decode B pc = .ok (.isub, 1)) (hp : pc + 1 = pc') (k : Go p e below P T (mkF m pc' ls (.int (x - y) :: st))) : Go p e below P T (mkF m pc ls (.int y :: .int x :: st)) := by
  subst hp; exact Go.of (fun _ k' => XS.isub A.1.here A.2.1 rfl (hb A.2.2 hd) rfl k') k
theorem g_iand (A : Ax p l e R s m args below meth c T locs cells slots B) {x : Int32} {y : Int32} (hd : decode B pc = .ok (.iand, 1)) (hp : pc + 1 = pc') (k : Go p e below P T (mkF m pc' ls (.int (x &&& y) :: st))) : Go p e below P T (mkF m pc ls (.int y :: .int x :: st)) := by
  subst hp; exact Go.of (fun _ k' => XS.iand A.1.here A.2.1 rfl (hb A.2.2 hd) rfl k') k
theorem g_imul (A : Ax p l e R s m args below meth c T locs cells slots B) {x : Int32} {y : Int32} (hd : decode B pc = .ok (.imul, 1)) (hp : pc + 1 = pc') (k : Go p e below P T (mkF m pc' ls (.int (x * y) :: st))) : Go p e below P T (mkF m pc ls (.int y :: .int x :: st)) := by
  subst hp; exact Go.of (fun _ k' => XS.imul A.1.here A.2.1 rfl (hb A.2.2 hd) rfl k') k
theorem g_ixor (A : Ax p l e R s m args below meth c T locs cells slots B) {x : Int32} {y : Int32} (hd : decode B pc = .ok (.ixor, 1)) (hp : pc + 1 = pc') (k : Go p e below P T (mkF m pc' ls (.int (x ^^^ y) :: st))) : Go p e below P T (mkF m pc ls (.int y :: .int x :: st)) := by
  subst hp; exact Go.of (fun _ k' => XT.ixor A.1.here A.2.1 rfl (hb A.2.2 hd) rfl k') k
theorem g_ior (A : Ax p l e R s m args below meth c T locs cells slots B) {x : Int32} {y : Int32} (hd : decode B pc = .ok (.ior, 1)) (hp : pc + 1 = pc') (k : Go p e below P T (mkF m pc' ls (.int (x ||| y) :: st))) : Go p e below P T (mkF m pc ls (.int y :: .int x :: st)) := by
  subst hp; exact Go.of (fun _ k' => XT.ior A.1.here A.2.1 rfl (hb A.2.2 hd) rfl k') k
theorem g_ishl (A : Ax p l e R s m args below meth c T locs cells slots B) {x : Int32} {y : Int32} (hd : decode B pc = .ok (.ishl, 1)) (hp : pc + 1 = pc') (k : Go p e below P T (mkF m pc' ls (.int (x <<< (y &&& 31)) :: st))) : Go p e below P T (mkF m pc ls (.int y :: .int x :: st)) := by
  subst hp; exact Go.of (fun _ k' => XT.ishl A.1.here A.2.1 rfl (hb A.2.2 hd) rfl k') k
theorem g_ishr (A : Ax p l e R s m args below meth c T locs cells slots B) {x : Int32} {y : Int32} (hd : decode B pc = .ok (.ishr, 1)) (hp : pc + 1 = pc') (k : Go p e below P T (mkF m pc' ls (.int (x >>> (y &&& 31)) :: st))) : Go p e below P T (mkF m pc ls (.int y :: .int x :: st)) := by
  subst hp; exact Go.of (fun _ k' => XT.ishr A.1.here A.2.1 rfl (hb A.2.2 hd) rfl k') k
theorem g_iushr (A : Ax p l e R s m args below meth c T locs cells slots B) {x : Int32} {y : Int32} (hd : decode B pc = .ok (.iushr, 1)) (hp : pc + 1 = pc') (k : Go p e below P T (mkF m pc' ls (.int (XT.ushr x y) :: st))) : Go p e below P T (mkF m pc ls (.int y :: .int x :: st)) := by
  subst hp; exact Go.of (fun _ k' => XT.iushr A.1.here A.2.1 rfl (hb A.2.2 hd) rfl k') k
theorem g_idiv (A : Ax p l e R s m args below meth c T locs cells slots B) {x : Int32} {y : Int32} (hd : decode B pc = .ok (.idiv, 1)) (hy : y ≠ 0) (hp : pc + 1 = pc') (k : Go p e below P T (mkF m pc' ls (.int (x / y) :: st))) : Go p e below P T (mkF m pc ls (.int y :: .int x :: st)) := by
  subst hp; exact Go.of (fun _ k' => XS.idiv A.1.here A.2.1 rfl (hb A.2.2 hd) rfl hy k') k
theorem g_ladd (A : Ax p l e R s m args below meth c T locs cells slots B) {x : Int64} {y : Int64} (hd : decode B pc = .ok (.ladd, 1)) (hp : pc + 1 = pc') (k : Go p e below P T (mkF m pc' ls (.long (x + y) :: st))) : Go p e below P T (mkF m pc ls (.long y :: .long x :: st)) := by
  subst hp; exact Go.of (fun _ k' => XT.ladd A.1.here A.2.1 rfl (hb A.2.2 hd) rfl k') k
theorem g_lsub (A : Ax p l e R s m args below meth c T locs cells slots B) {x : Int64} {y : Int64} (hd : decode B pc = .ok (.lsub, 1)) (hp : pc + 1 = pc') (k : Go p e below P T (mkF m pc' ls (.long (x - y) :: st))) : Go p e below P T (mkF m pc ls (.long y :: .long x :: st)) := by
  subst hp; exact Go.of (fun _ k' => XT.lsub A.1.here A.2.1 rfl (hb A.2.2 hd) rfl k') k
theorem g_lmul (A : Ax p l e R s m args below meth c T locs cells slots B) {x : Int64} {y : Int64} (hd : decode B pc = .ok (.lmul, 1)) (hp : pc + 1 = pc') (k : Go p e below P T (mkF m pc' ls (.long (x * y) :: st))) : Go p e below P T (mkF m pc ls (.long y :: .long x :: st)) := by
  subst hp; exact Go.of (fun _ k' => XT.lmul A.1.here A.2.1 rfl (hb A.2.2 hd) rfl k') k
theorem g_land (A : Ax p l e R s m args below meth c T locs cells slots B) {x : Int64} {y : Int64} (hd : decode B pc = .ok (.land, 1)) (hp : pc + 1 = pc') (k : Go p e below P T (mkF m pc' ls (.long (x &&& y) :: st))) : Go p e below P T (mkF m pc ls (.long y :: .long x :: st)) := by
  subst hp; exact Go.of (fun _ k' => XT.land A.1.here A.2.1 rfl (hb A.2.2 hd) rfl k') k
theorem g_lor (A : Ax p l e R s m args below meth c T locs cells slots B) {x : Int64} {y : Int64} (hd : decode B pc = .ok (.lor, 1)) (hp : pc + 1 = pc') (k : Go p e below P T (mkF m pc' ls (.long (x ||| y) :: st))) : Go p e below P T (mkF m pc ls (.long y :: .long x :: st)) := by
  subst hp; exact Go.of (fun _ k' => XT.lor A.1.here A.2.1 rfl (hb A.2.2 hd) rfl k') k
theorem g_lxor (A : Ax p l e R s m args below meth c T locs cells slots B) {x : Int64} {y : Int64} (hd : decode B pc = .ok (.lxor, 1)) (hp : pc + 1 = pc') (k : Go p e below P T (mkF m pc' ls (.long (x ^^^ y) :: st))) : Go p e below P T (mkF m pc ls (.long y :: .long x :: st)) := by
  subst hp; exact Go.of (fun _ k' => XT.lxor A.1.here A.2.1 rfl (hb A.2.2 hd) rfl k') k
theorem g_lshl (A : Ax p l e R s m args below meth c T locs cells slots B) {x : Int64} {y : Int32} (hd : decode B pc = .ok (.lshl, 1)) (hp : pc + 1 = pc') (k : Go p e below P T (mkF m pc' ls (.long (x <<< (y.toInt64 &&& 63)) :: st))) : Go p e below P T (mkF m pc ls (.int y :: .long x :: st)) := by
  subst hp; exact Go.of (fun _ k' => XT.lshl A.1.here A.2.1 rfl (hb A.2.2 hd) rfl k') k
theorem g_lshr (A : Ax p l e R s m args below meth c T locs cells slots B) {x : Int64} {y : Int32} (hd : decode B pc = .ok (.lshr, 1)) (hp : pc + 1 = pc') (k : Go p e below P T (mkF m pc' ls (.long (x >>> (y.toInt64 &&& 63)) :: st))) : Go p e below P T (mkF m pc ls (.int y :: .long x :: st)) := by
  subst hp; exact Go.of (fun _ k' => XT.lshr A.1.here A.2.1 rfl (hb A.2.2 hd) rfl k') k
theorem g_lushr (A : Ax p l e R s m args below meth c T locs cells slots B) {x : Int64} {y : Int32} (hd : decode B pc = .ok (.lushr, 1)) (hp : pc + 1 = pc') (k : Go p e below P T (mkF m pc' ls (.long (XT.ushrL x y) :: st))) : Go p e below P T (mkF m pc ls (.int y :: .long x :: st)) := by
  subst hp; exact Go.of (fun _ k' => XT.lushr A.1.here A.2.1 rfl (hb A.2.2 hd) rfl k') k
theorem g_ldiv (A : Ax p l e R s m args below meth c T locs cells slots B) {x : Int64} {y : Int64} (hd : decode B pc = .ok (.ldiv, 1)) (hy : y ≠ 0) (hp : pc + 1 = pc') (k : Go p e below P T (mkF m pc' ls (.long (x / y) :: st))) : Go p e below P T (mkF m pc ls (.long y :: .long x :: st)) := by
  subst hp; exact Go.of (fun _ k' => XT.ldiv A.1.here A.2.1 rfl (hb A.2.2 hd) rfl hy k') k
theorem g_lrem (A : Ax p l e R s m args below meth c T locs cells slots B) {x y : Int64} (hd : decode B pc = .ok (.lrem, 1)) (hy : y ≠ 0) (hp : pc + 1 = pc') (k : Go p e below P T (mkF m pc' ls (.long (x % y) :: st))) : Go p e below P T (mkF m pc ls (.long y :: .long x :: st)) := by
  subst hp; rw [← lrem_mod] at k; exact Go.of (fun _ k' => XT.lrem A.1.here A.2.1 rfl (hb A.2.2 hd) rfl hy k') k
theorem g_i2s (A : Ax p l e R s m args below meth c T locs cells slots B) {x : Int32} (hd : decode B pc = .ok (.i2s, 1)) (hp : pc + 1 = pc') (k : Go p e below P T (mkF m pc' ls (.int (x.toInt16.toInt32) :: st))) : Go p e below P T (mkF m pc ls (.int x :: st)) := by
  subst hp; exact Go.of (fun _ k' => XT.i2s A.1.here A.2.1 rfl (hb A.2.2 hd) rfl k') k
theorem g_i2b (A : Ax p l e R s m args below meth c T locs cells slots B) {x : Int32} (hd : decode B pc = .ok (.i2b, 1)) (hp : pc + 1 = pc') (k : Go p e below P T (mkF m pc' ls (.int (x.toInt8.toInt32) :: st))) : Go p e below P T (mkF m pc ls (.int x :: st)) := by
  subst hp; exact Go.of (fun _ k' => XT.i2b A.1.here A.2.1 rfl (hb A.2.2 hd) rfl k') k
theorem g_i2c (A : Ax p l e R s m args below meth c T locs cells slots B) {x : Int32} (hd : decode B pc = .ok (.i2c, 1)) (hp : pc + 1 = pc') (k : Go p e below P T (mkF m pc' ls (.int (x.toUInt32.toUInt16.toUInt32.toInt32) :: st))) : Go p e below P T (mkF m pc ls (.int x :: st)) := by
  subst hp; exact Go.of (fun _ k' => XT.i2c A.1.here A.2.1 rfl (hb A.2.2 hd) rfl k') k
theorem g_ineg (A : Ax p l e R s m args below meth c T locs cells slots B) {x : Int32} (hd : decode B pc = .ok (.ineg, 1)) (hp : pc + 1 = pc') (k : Go p e below P T (mkF m pc' ls (.int (-x) :: st))) : Go p e below P T (mkF m pc ls (.int x :: st)) := by
  subst hp; exact Go.of (fun _ k' => XS.ineg A.1.here A.2.1 rfl (hb A.2.2 hd) rfl k') k
theorem g_lneg (A : Ax p l e R s m args below meth c T locs cells slots B) {x : Int64} (hd : decode B pc = .ok (.lneg, 1)) (hp : pc + 1 = pc') (k : Go p e below P T (mkF m pc' ls (.long (-x) :: st))) : Go p e below P T (mkF m pc ls (.long x :: st)) := by
  subst hp; exact Go.of (fun _ k' => XT.lneg A.1.here A.2.1 rfl (hb A.2.2 hd) rfl k') k
theorem g_i2l (A : Ax p l e R s m args below meth c T locs cells slots B) {x : Int32} (hd : decode B pc = .ok (.i2l, 1)) (hp : pc + 1 = pc') (k : Go p e below P T (mkF m pc' ls (.long (x.toInt64) :: st))) : Go p e below P T (mkF m pc ls (.int x :: st)) := by
  subst hp; exact Go.of (fun _ k' => XT.i2l A.1.here A.2.1 rfl (hb A.2.2 hd) rfl k') k
theorem g_l2i (A : Ax p l e R s m args below meth c T locs cells slots B) {x : Int64} (hd : decode B pc = .ok (.l2i, 1)) (hp : pc + 1 = pc') (k : Go p e below P T (mkF m pc' ls (.int (x.toInt32) :: st))) : Go p e below P T (mkF m pc ls (.long x :: st)) := by
  subst hp; exact Go.of (fun _ k' => XT.l2i A.1.here A.2.1 rfl (hb A.2.2 hd) rfl k') k
theorem g_irem (A : Ax p l e R s m args below meth c T locs cells slots B) {x y : Int32} (hd : decode B pc = .ok (.irem, 1)) (hy : y ≠ 0) (hp : pc + 1 = pc') (k : Go p e below P T (mkF m pc' ls (.int (x % y) :: st))) : Go p e below P T (mkF m pc ls (.int y :: .int x :: st)) := by
  subst hp; exact Go.of (fun _ k' => iremM A.1 A.2.1 rfl (hb A.2.2 hd) rfl hy k') k
theorem g_iloadN (A : Ax p l e R s m args below meth c T locs cells slots B) {k : Fin 4} {v : Int32} (hd : decode B pc = .ok (.iload_n k, 1)) (hl : ls[k.val]? = some (.val (.int v))) (hp : pc + 1 = pc') (k : Go p e below P T (mkF m pc' ls (.int v :: st))) : Go p e below P T (mkF m pc ls st) := by
  subst hp; exact Go.of (fun _ k' => XS.iloadN A.1.here A.2.1 rfl (hb A.2.2 hd) hl k') k
theorem g_iload (A : Ax p l e R s m args below meth c T locs cells slots B) {k : Nat} {v : Int32} (hd : decode B pc = .ok (.iload k, 2)) (hl : ls[k]? = some (.val (.int v))) (hp : pc + 2 = pc') (k : Go p e below P T (mkF m pc' ls (.int v :: st))) : Go p e below P T (mkF m pc ls st) := by
  subst hp; exact Go.of (fun _ k' => XS.iload A.1.here A.2.1 rfl (hb A.2.2 hd) hl k') k
theorem g_lloadN (A : Ax p l e R s m args below meth c T locs cells slots B) {k : Fin 4} {v : Int64} (hd : decode B pc = .ok (.lload_n k, 1)) (hl : ls[k.val]? = some (.val (.long v))) (hp : pc + 1 = pc') (k : Go p e below P T (mkF m pc' ls (.long v :: st))) : Go p e below P T (mkF m pc ls st) := by
  subst hp; exact Go.of (fun _ k' => XT.lloadN A.1.here A.2.1 rfl (hb A.2.2 hd) hl k') k
theorem g_lload (A : Ax p l e R s m args below meth c T locs cells slots B) {k : Nat} {v : Int64} (hd : decode B pc = .ok (.lload k, 2)) (hl : ls[k]? = some (.val (.long v))) (hp : pc + 2 = pc') (k : Go p e below P T (mkF m pc' ls (.long v :: st))) : Go p e below P T (mkF m pc ls st) := by
  subst hp; exact Go.of (fun _ k' => XT.lload A.1.here A.2.1 rfl (hb A.2.2 hd) hl k') k
theorem g_aloadN (A : Ax p l e R s m args below meth c T locs cells slots B) {k : Fin 4} {v : Value} (hd : decode B pc = .ok (.aload_n k, 1)) (hl : ls[k.val]? = some (.val v)) (hv : v.isRef = true) (hp : pc + 1 = pc') (k : Go p e below P T (mkF m pc' ls (v :: st))) : Go p e below P T (mkF m pc ls st) := by
  subst hp; exact Go.of (fun _ k' => XS.aloadN A.1.here A.2.1 rfl (hb A.2.2 hd) hl hv k') k
theorem g_aload (A : Ax p l e R s m args below meth c T locs cells slots B) {k : Nat} {v : Value} (hd : decode B pc = .ok (.aload k, 2)) (hl : ls[k]? = some (.val v)) (hv : v.isRef = true) (hp : pc + 2 = pc') (k : Go p e below P T (mkF m pc' ls (v :: st))) : Go p e below P T (mkF m pc ls st) := by
  subst hp; exact Go.of (fun _ k' => XS.aload A.1.here A.2.1 rfl (hb A.2.2 hd) hl hv k') k
theorem g_dloadN (A : Ax p l e R s m args below meth c T locs cells slots B) {k : Fin 4} {v : UInt64} (hd : decode B pc = .ok (.dload_n k, 1)) (hl : ls[k.val]? = some (.val (.double v))) (hp : pc + 1 = pc') (k : Go p e below P T (mkF m pc' ls (.double v :: st))) : Go p e below P T (mkF m pc ls st) := by
  subst hp
  refine Go.of (fun t k' => ?_) k
  have h := A.1.here
  have hx := A.2.1
  have hd' := hb A.2.2 hd
  show Steps p.tables e below (T.setTop { method := m, pc := pc, locals := ls, stack := st, locked := none }) _
  jvm_step h [h.top, hx, hd', hl]
  exact k'
theorem g_dload (A : Ax p l e R s m args below meth c T locs cells slots B) {k : Nat} {v : UInt64} (hd : decode B pc = .ok (.dload k, 2)) (hl : ls[k]? = some (.val (.double v))) (hp : pc + 2 = pc') (k : Go p e below P T (mkF m pc' ls (.double v :: st))) : Go p e below P T (mkF m pc ls st) := by
  subst hp
  refine Go.of (fun t k' => ?_) k
  have h := A.1.here
  have hx := A.2.1
  have hd' := hb A.2.2 hd
  show Steps p.tables e below (T.setTop { method := m, pc := pc, locals := ls, stack := st, locked := none }) _
  jvm_step h [h.top, hx, hd', hl]
  exact k'
theorem g_istoreN (A : Ax p l e R s m args below meth c T locs cells slots B) {k : Fin 4} {x : Int32} (hd : decode B pc = .ok (.istore_n k, 1)) (hl : storeLocals ls k.val (.int x) = some ls') (hp : pc + 1 = pc') (k : Go p e below P T (mkF m pc' ls' st)) : Go p e below P T (mkF m pc ls (.int x :: st)) := by
  subst hp; exact Go.of (fun _ k' => XS.istoreN A.1.here A.2.1 rfl (hb A.2.2 hd) rfl hl k') k
theorem g_istore (A : Ax p l e R s m args below meth c T locs cells slots B) {k : Nat} {x : Int32} (hd : decode B pc = .ok (.istore k, 2)) (hl : storeLocals ls k (.int x) = some ls') (hp : pc + 2 = pc') (k : Go p e below P T (mkF m pc' ls' st)) : Go p e below P T (mkF m pc ls (.int x :: st)) := by
  subst hp; exact Go.of (fun _ k' => XS.istore A.1.here A.2.1 rfl (hb A.2.2 hd) rfl hl k') k
theorem g_lstoreN (A : Ax p l e R s m args below meth c T locs cells slots B) {k : Fin 4} {x : Int64} (hd : decode B pc = .ok (.lstore_n k, 1)) (hl : storeLocals ls k.val (.long x) = some ls') (hp : pc + 1 = pc') (k : Go p e below P T (mkF m pc' ls' st)) : Go p e below P T (mkF m pc ls (.long x :: st)) := by
  subst hp; exact Go.of (fun _ k' => XT.lstoreN A.1.here A.2.1 rfl (hb A.2.2 hd) rfl hl k') k
theorem g_lstore (A : Ax p l e R s m args below meth c T locs cells slots B) {k : Nat} {x : Int64} (hd : decode B pc = .ok (.lstore k, 2)) (hl : storeLocals ls k (.long x) = some ls') (hp : pc + 2 = pc') (k : Go p e below P T (mkF m pc' ls' st)) : Go p e below P T (mkF m pc ls (.long x :: st)) := by
  subst hp; exact Go.of (fun _ k' => XT.lstore A.1.here A.2.1 rfl (hb A.2.2 hd) rfl hl k') k
theorem g_astoreN (A : Ax p l e R s m args below meth c T locs cells slots B) {k : Fin 4} {x : Value} (hd : decode B pc = .ok (.astore_n k, 1)) (hv : x.isRef = true) (hl : storeLocals ls k.val x = some ls') (hp : pc + 1 = pc') (k : Go p e below P T (mkF m pc' ls' st)) : Go p e below P T (mkF m pc ls (x :: st)) := by
  subst hp; exact Go.of (fun _ k' => XS.astoreN A.1.here A.2.1 rfl (hb A.2.2 hd) rfl hv hl k') k
theorem g_astore (A : Ax p l e R s m args below meth c T locs cells slots B) {k : Nat} {x : Value} (hd : decode B pc = .ok (.astore k, 2)) (hv : x.isRef = true) (hl : storeLocals ls k x = some ls') (hp : pc + 2 = pc') (k : Go p e below P T (mkF m pc' ls' st)) : Go p e below P T (mkF m pc ls (x :: st)) := by
  subst hp; exact Go.of (fun _ k' => XS.astore A.1.here A.2.1 rfl (hb A.2.2 hd) rfl hv hl k') k
theorem g_dstoreN (A : Ax p l e R s m args below meth c T locs cells slots B) {k : Fin 4} {x : UInt64} (hd : decode B pc = .ok (.dstore_n k, 1)) (hl : storeLocals ls k.val (.double x) = some ls') (hp : pc + 1 = pc') (k : Go p e below P T (mkF m pc' ls' st)) : Go p e below P T (mkF m pc ls (.double x :: st)) := by
  subst hp
  refine Go.of (fun t k' => ?_) k
  have h := A.1.here
  have hx := A.2.1
  have hd' := hb A.2.2 hd
  show Steps p.tables e below (T.setTop { method := m, pc := pc, locals := ls, stack := .double x :: st, locked := none }) _
  jvm_step h [h.top, hx, hd']
  exact ⟨ls', hl, k'⟩
theorem g_dstore (A : Ax p l e R s m args below meth c T locs cells slots B) {k : Nat} {x : UInt64} (hd : decode B pc = .ok (.dstore k, 2)) (hl : storeLocals ls k (.double x) = some ls') (hp : pc + 2 = pc') (k : Go p e below P T (mkF m pc' ls' st)) : Go p e below P T (mkF m pc ls (.double x :: st)) := by
  subst hp
  refine Go.of (fun t k' => ?_) k
  have h := A.1.here
  have hx := A.2.1
  have hd' := hb A.2.2 hd
  show Steps p.tables e below (T.setTop { method := m, pc := pc, locals := ls, stack := .double x :: st, locked := none }) _
  jvm_step h [h.top, hx, hd']
  exact ⟨ls', hl, k'⟩
theorem g_iconst (A : Ax p l e R s m args below meth c T locs cells slots B) {i : Int} {v : Int32} (hd : decode B pc = .ok (.iconst i, 1)) (hv : Int32.ofInt i = v) (hp : pc + 1 = pc') (k : Go p e below P T (mkF m pc' ls (.int v :: st))) : Go p e below P T (mkF m pc ls st) := by
  subst hp hv; exact Go.of (fun _ k' => XS.iconst A.1.here A.2.1 rfl (hb A.2.2 hd) k') k
theorem g_bipush (A : Ax p l e R s m args below meth c T locs cells slots B) {i : Int} {v : Int32} (hd : decode B pc = .ok (.bipush i, 2)) (hv : (Int8.ofInt i).toInt32 = v) (hp : pc + 2 = pc') (k : Go p e below P T (mkF m pc' ls (.int v :: st))) : Go p e below P T (mkF m pc ls st) := by
  subst hp hv; exact Go.of (fun _ k' => XS.bipush A.1.here A.2.1 rfl (hb A.2.2 hd) k') k
theorem g_sipush (A : Ax p l e R s m args below meth c T locs cells slots B) {i : Int} {v : Int32} (hd : decode B pc = .ok (.sipush i, 3)) (hv : (Int16.ofInt i).toInt32 = v) (hp : pc + 3 = pc') (k : Go p e below P T (mkF m pc' ls (.int v :: st))) : Go p e below P T (mkF m pc ls st) := by
  subst hp hv; exact Go.of (fun _ k' => XS.sipush A.1.here A.2.1 rfl (hb A.2.2 hd) k') k
theorem g_aconst (A : Ax p l e R s m args below meth c T locs cells slots B) (hd : decode B pc = .ok (.aconst_null, 1)) (hp : pc + 1 = pc') (k : Go p e below P T (mkF m pc' ls (.null :: st))) : Go p e below P T (mkF m pc ls st) := by
  subst hp; exact Go.of (fun _ k' => XS.aconstNull A.1.here A.2.1 rfl (hb A.2.2 hd) k') k
theorem g_lconst (A : Ax p l e R s m args below meth c T locs cells slots B) {i : Fin 2} {v : Int64} (hd : decode B pc = .ok (.lconst i, 1)) (hv : Int64.ofNat i = v) (hp : pc + 1 = pc') (k : Go p e below P T (mkF m pc' ls (.long v :: st))) : Go p e below P T (mkF m pc ls st) := by
  subst hp hv; exact Go.of (fun _ k' => XT.lconst A.1.here A.2.1 rfl (hb A.2.2 hd) k') k
theorem g_dconst0 (A : Ax p l e R s m args below meth c T locs cells slots B) (hd : decode B pc = .ok (.dconst 0, 1)) (hp : pc + 1 = pc') (k : Go p e below P T (mkF m pc' ls (.double (0 : UInt64) :: st))) : Go p e below P T (mkF m pc ls st) := by
  subst hp
  refine Go.of (fun t k' => ?_) k
  have h := A.1.here
  have hx := A.2.1
  have hd' := hb A.2.2 hd
  show Steps p.tables e below (T.setTop { method := m, pc := pc, locals := ls, stack := st, locked := none }) _
  jvm_step h [h.top, hx, hd']
  exact k'
theorem g_dconst1 (A : Ax p l e R s m args below meth c T locs cells slots B) (hd : decode B pc = .ok (.dconst 1, 1)) (hp : pc + 1 = pc') (k : Go p e below P T (mkF m pc' ls (.double (4607182418800017408 : UInt64) :: st))) : Go p e below P T (mkF m pc ls st) := by
  subst hp
  refine Go.of (fun t k' => ?_) k
  have h := A.1.here
  have hx := A.2.1
  have hd' := hb A.2.2 hd
  show Steps p.tables e below (T.setTop { method := m, pc := pc, locals := ls, stack := st, locked := none }) _
  jvm_step h [h.top, hx, hd']
  exact k'
theorem g_dadd (A : Ax p l e R s m args below meth c T locs cells slots B) {x y : UInt64} (hd : decode B pc = .ok (.dadd, 1)) (hn : NoNaN64 (FP.dadd x y)) (hp : pc + 1 = pc') (k : Go p e below P T (mkF m pc' ls (.double (FP.dadd x y) :: st))) : Go p e below P T (mkF m pc ls (.double y :: .double x :: st)) := by
  subst hp
  refine Go.of (fun t k' => ?_) k
  have h := A.1.here
  have hx := A.2.1
  have hd' := hb A.2.2 hd
  show Steps p.tables e below (T.setTop { method := m, pc := pc, locals := ls, stack := .double y :: .double x :: st, locked := none }) _
  jvm_step h [h.top, hx, hd', Op.dadd.at_number h.top hn]
  exact k'
theorem g_dsub (A : Ax p l e R s m args below meth c T locs cells slots B) {x y : UInt64} (hd : decode B pc = .ok (.dsub, 1)) (hn : NoNaN64 (FP.dsub x y)) (hp : pc + 1 = pc') (k : Go p e below P T (mkF m pc' ls (.double (FP.dsub x y) :: st))) : Go p e below P T (mkF m pc ls (.double y :: .double x :: st)) := by
  subst hp
  refine Go.of (fun t k' => ?_) k
  have h := A.1.here
  have hx := A.2.1
  have hd' := hb A.2.2 hd
  show Steps p.tables e below (T.setTop { method := m, pc := pc, locals := ls, stack := .double y :: .double x :: st, locked := none }) _
  jvm_step h [h.top, hx, hd', Op.dsub.at_number h.top hn]
  exact k'
theorem g_dmul (A : Ax p l e R s m args below meth c T locs cells slots B) {x y : UInt64} (hd : decode B pc = .ok (.dmul, 1)) (hn : NoNaN64 (FP.dmul x y)) (hp : pc + 1 = pc') (k : Go p e below P T (mkF m pc' ls (.double (FP.dmul x y) :: st))) : Go p e below P T (mkF m pc ls (.double y :: .double x :: st)) := by
  subst hp
  refine Go.of (fun t k' => ?_) k
  have h := A.1.here
  have hx := A.2.1
  have hd' := hb A.2.2 hd
  show Steps p.tables e below (T.setTop { method := m, pc := pc, locals := ls, stack := .double y :: .double x :: st, locked := none }) _
  jvm_step h [h.top, hx, hd', Op.dmul.at_number h.top hn]
  exact k'
theorem g_ddiv (A : Ax p l e R s m args below meth c T locs cells slots B) {x y : UInt64} (hd : decode B pc = .ok (.ddiv, 1)) (hn : NoNaN64 (FP.ddiv x y)) (hp : pc + 1 = pc') (k : Go p e below P T (mkF m pc' ls (.double (FP.ddiv x y) :: st))) : Go p e below P T (mkF m pc ls (.double y :: .double x :: st)) := by
  subst hp
  refine Go.of (fun t k' => ?_) k
  have h := A.1.here
  have hx := A.2.1
  have hd' := hb A.2.2 hd
  show Steps p.tables e below (T.setTop { method := m, pc := pc, locals := ls, stack := .double y :: .double x :: st, locked := none }) _
  jvm_step h [h.top, hx, hd', Op.ddiv.at_number h.top hn]
  exact k'
theorem g_dneg (A : Ax p l e R s m args below meth c T locs cells slots B) {x : UInt64} (hd : decode B pc = .ok (.dneg, 1)) (hp : pc + 1 = pc') (k : Go p e below P T (mkF m pc' ls (.double (FP.dneg x) :: st))) : Go p e below P T (mkF m pc ls (.double x :: st)) := by
  subst hp
  refine Go.of (fun t k' => ?_) k
  have h := A.1.here
  have hx := A.2.1
  have hd' := hb A.2.2 hd
  show Steps p.tables e below (T.setTop { method := m, pc := pc, locals := ls, stack := .double x :: st, locked := none }) _
  jvm_step h [h.top, hx, hd']
  exact k'
theorem g_i2d (A : Ax p l e R s m args below meth c T locs cells slots B) {x : Int32} (hd : decode B pc = .ok (.i2d, 1)) (hp : pc + 1 = pc') (k : Go p e below P T (mkF m pc' ls (.double (FP.i2d x) :: st))) : Go p e below P T (mkF m pc ls (.int x :: st)) := by
  subst hp
  refine Go.of (fun t k' => ?_) k
  have h := A.1.here
  have hx := A.2.1
  have hd' := hb A.2.2 hd
  show Steps p.tables e below (T.setTop { method := m, pc := pc, locals := ls, stack := .int x :: st, locked := none }) _
  jvm_step h [h.top, hx, hd']
  exact k'
theorem g_l2d (A : Ax p l e R s m args below meth c T locs cells slots B) {x : Int64} (hd : decode B pc = .ok (.l2d, 1)) (hp : pc + 1 = pc') (k : Go p e below P T (mkF m pc' ls (.double (FP.l2d x) :: st))) : Go p e below P T (mkF m pc ls (.long x :: st)) := by
  subst hp
  refine Go.of (fun t k' => ?_) k
  have h := A.1.here
  have hx := A.2.1
  have hd' := hb A.2.2 hd
  show Steps p.tables e below (T.setTop { method := m, pc := pc, locals := ls, stack := .long x :: st, locked := none }) _
  jvm_step h [h.top, hx, hd']
  exact k'
theorem g_dcmp (A : Ax p l e R s m args below meth c T locs cells slots B) {x y : UInt64} {op : CmpOp} (hd : decode B pc = .ok (.dcmp op, 1)) (hp : pc + 1 = pc') (k : Go p e below P T (mkF m pc' ls (.int (cmpValue (FP.dcmp x y) op) :: st))) : Go p e below P T (mkF m pc ls (.double y :: .double x :: st)) := by
  subst hp
  refine Go.of (fun t k' => ?_) k
  have h := A.1.here
  have hx := A.2.1
  have hd' := hb A.2.2 hd
  show Steps p.tables e below (T.setTop { method := m, pc := pc, locals := ls, stack := .double y :: .double x :: st, locked := none }) _
  jvm_step h [h.top, hx, hd']
  exact k'
theorem g_lcmp (A : Ax p l e R s m args below meth c T locs cells slots B) {x y : Int64} (hd : decode B pc = .ok (.lcmp, 1)) (hp : pc + 1 = pc') (k : Go p e below P T (mkF m pc' ls (.int (XT.cmpL x y) :: st))) : Go p e below P T (mkF m pc ls (.long y :: .long x :: st)) := by
  subst hp; exact Go.of (fun _ k' => XT.lcmp A.1.here A.2.1 rfl (hb A.2.2 hd) rfl k') k
theorem g_dup (A : Ax p l e R s m args below meth c T locs cells slots B) {x : Value} (hd : decode B pc = .ok (.dup, 1)) (hc : x.category = 1) (hp : pc + 1 = pc') (k : Go p e below P T (mkF m pc' ls (x :: x :: st))) : Go p e below P T (mkF m pc ls (x :: st)) := by
  subst hp; exact Go.of (fun _ k' => XS.dup A.1.here A.2.1 rfl (hb A.2.2 hd) rfl hc k') k
theorem g_pop (A : Ax p l e R s m args below meth c T locs cells slots B) {x : Value} (hd : decode B pc = .ok (.pop, 1)) (hc : x.category = 1) (hp : pc + 1 = pc') (k : Go p e below P T (mkF m pc' ls st)) : Go p e below P T (mkF m pc ls (x :: st)) := by
  subst hp; exact Go.of (fun _ k' => XT.pop A.1.here A.2.1 rfl (hb A.2.2 hd) rfl hc k') k
theorem g_iinc (A : Ax p l e R s m args below meth c T locs cells slots B) {k : Nat} {i : Int} {x y : Int32} (hd : decode B pc = .ok (.iinc k i, 3)) (hl : ls[k]? = some (.val (.int x))) (hy : x + Int32.ofInt i = y) (hl' : storeLocals ls k (.int y) = some ls') (hp : pc + 3 = pc') (k : Go p e below P T (mkF m pc' ls' st)) : Go p e below P T (mkF m pc ls st) := by
  subst hp hy; exact Go.of (fun _ k' => XS.iinc A.1.here A.2.1 rfl (hb A.2.2 hd) hl hl' k') k
theorem own_off {pc pc' : Nat} {o : Int} (h : (pc : Int) + o = (pc' : Int)) : 0 ≤ (pc : Int) + o ∧ ((pc : Int) + o).toNat = pc' := by omega
theorem g_goto (A : Ax p l e R s m args below meth c T locs cells slots B) {o : Int} (hd : decode B pc = .ok (.goto o, 3)) (hp : (pc : Int) + o = (pc' : Int)) (k : Go p e below P T (mkF m pc' ls st)) : Go p e below P T (mkF m pc ls st) := Go.of (fun _ k' => XS.goto A.1.here A.2.1 rfl rfl (hb A.2.2 hd) (own_off hp).1 (own_off hp).2 k') k
theorem g_ifY (A : Ax p l e R s m args below meth c T locs cells slots B) {o : Int} {cd : ClassFile.Cond} {x : Int32} (hd : decode B pc = .ok (.ifCond cd o, 3)) (hc : ifCond.holds cd x = true) (hp : (pc : Int) + o = (pc' : Int)) (k : Go p e below P T (mkF m pc' ls st)) : Go p e below P T (mkF m pc ls (.int x :: st)) := Go.of (fun _ k' => XS.ifYes A.1.here A.2.1 rfl rfl (hb A.2.2 hd) rfl hc (own_off hp).1 (own_off hp).2 k') k
theorem g_ifN (A : Ax p l e R s m args below meth c T locs cells slots B) {o : Int} {cd : ClassFile.Cond} {x : Int32} (hd : decode B pc = .ok (.ifCond cd o, 3)) (hc : ifCond.holds cd x = false) (hp : pc + 3 = pc') (k : Go p e below P T (mkF m pc' ls st)) : Go p e below P T (mkF m pc ls (.int x :: st)) := by
  subst hp; exact Go.of (fun _ k' => XS.ifNo A.1.here A.2.1 rfl (hb A.2.2 hd) rfl hc k') k
theorem g_icY (A : Ax p l e R s m args below meth c T locs cells slots B) {o : Int} {cd : ClassFile.Cond} {x y : Int32} (hd : decode B pc = .ok (.if_icmp cd o, 3)) (hc : if_icmp.holds cd x y = true) (hp : (pc : Int) + o = (pc' : Int)) (k : Go p e below P T (mkF m pc' ls st)) : Go p e below P T (mkF m pc ls (.int y :: .int x :: st)) := Go.of (fun _ k' => XS.icmpYes A.1.here A.2.1 rfl rfl (hb A.2.2 hd) rfl hc (own_off hp).1 (own_off hp).2 k') k
theorem g_icN (A : Ax p l e R s m args below meth c T locs cells slots B) {o : Int} {cd : ClassFile.Cond} {x y : Int32} (hd : decode B pc = .ok (.if_icmp cd o, 3)) (hc : if_icmp.holds cd x y = false) (hp : pc + 3 = pc') (k : Go p e below P T (mkF m pc' ls st)) : Go p e below P T (mkF m pc ls (.int y :: .int x :: st)) := by
  subst hp; exact Go.of (fun _ k' => XS.icmpNo A.1.here A.2.1 rfl (hb A.2.2 hd) rfl hc k') k
theorem c0_eq_t {x : Int32} (h : x = 0) : ifCond.holds .eq x = true := (if0 _ _).trans (teq h).1
theorem c0_eq_f {x : Int32} (h : ¬ x = 0) : ifCond.holds .eq x = false := (if0 _ _).trans (feq h).1
theorem c0_ne_t {x : Int32} (h : ¬ x = 0) : ifCond.holds .ne x = true := (if0 _ _).trans (feq h).2
theorem c0_ne_f {x : Int32} (h : x = 0) : ifCond.holds .ne x = false := (if0 _ _).trans (teq h).2
theorem c0_lt_t {x : Int32} (h : x < 0) : ifCond.holds .lt x = true := (if0 _ _).trans (tlt h).1
theorem c0_lt_f {x : Int32} (h : ¬ x < 0) : ifCond.holds .lt x = false := (if0 _ _).trans (flt h).1
theorem c0_ge_t {x : Int32} (h : ¬ x < 0) : ifCond.holds .ge x = true := (if0 _ _).trans (flt h).2.1
theorem c0_ge_f {x : Int32} (h : x < 0) : ifCond.holds .ge x = false := (if0 _ _).trans (tlt h).2.1
theorem c0_gt_t {x : Int32} (h : 0 < x) : ifCond.holds .gt x = true := (if0 _ _).trans (tlt h).2.2.1
theorem c0_gt_f {x : Int32} (h : ¬ 0 < x) : ifCond.holds .gt x = false := (if0 _ _).trans (flt h).2.2.1
theorem c0_le_t {x : Int32} (h : ¬ 0 < x) : ifCond.holds .le x = true := (if0 _ _).trans (flt h).2.2.2
theorem c0_le_f {x : Int32} (h : 0 < x) : ifCond.holds .le x = false := (if0 _ _).trans (tlt h).2.2.2
theorem c2_eq_t {x y : Int32} (h : x = y) : if_icmp.holds .eq x y = true := (teq h).1
theorem c2_eq_f {x y : Int32} (h : ¬ x = y) : if_icmp.holds .eq x y = false := (feq h).1
theorem c2_ne_t {x y : Int32} (h : ¬ x = y) : if_icmp.holds .ne x y = true := (feq h).2
theorem c2_ne_f {x y : Int32} (h : x = y) : if_icmp.holds .ne x y = false := (teq h).2
theorem c2_lt_t {x y : Int32} (h : x < y) : if_icmp.holds .lt x y = true := (tlt h).1
theorem c2_lt_f {x y : Int32} (h : ¬ x < y) : if_icmp.holds .lt x y = false := (flt h).1
theorem c2_ge_t {x y : Int32} (h : ¬ x < y) : if_icmp.holds .ge x y = true := (flt h).2.1
theorem c2_ge_f {x y : Int32} (h : x < y) : if_icmp.holds .ge x y = false := (tlt h).2.1
theorem c2_gt_t {x y : Int32} (h : y < x) : if_icmp.holds .gt x y = true := (tlt h).2.2.1
theorem c2_gt_f {x y : Int32} (h : ¬ y < x) : if_icmp.holds .gt x y = false := (flt h).2.2.1
theorem c2_le_t {x y : Int32} (h : ¬ y < x) : if_icmp.holds .le x y = true := (flt h).2.2.2
theorem c2_le_f {x y : Int32} (h : y < x) : if_icmp.holds .le x y = false := (tlt h).2.2.2
theorem b0_eq_t {C : Prop} [Decidable C] {v : Int32} (e : v = if C then 1 else 0) (h : ¬ C) : ifCond.holds .eq v = true := c0_eq_t (by rw [e, if_neg h])
theorem b0_eq_f {C : Prop} [Decidable C] {v : Int32} (e : v = if C then 1 else 0) (h : C) : ifCond.holds .eq v = false := c0_eq_f (by rw [e, if_pos h]; decide)
theorem b0_ne_t {C : Prop} [Decidable C] {v : Int32} (e : v = if C then 1 else 0) (h : C) : ifCond.holds .ne v = true := c0_ne_t (by rw [e, if_pos h]; decide)
theorem b0_ne_f {C : Prop} [Decidable C] {v : Int32} (e : v = if C then 1 else 0) (h : ¬ C) : ifCond.holds .ne v = false := c0_ne_f (by rw [e, if_neg h])
theorem own_b01 {C : Prop} [Decidable C] {v : Int32} (e : v = if C then 1 else 0) : narrow .boolean (.int v) = .int v := by
  subst e; by_cases h : C
  · rw [if_pos h]; rfl
  · rw [if_neg h]; rfl
theorem own_fb {C : Prop} [Decidable C] {v : Int32} (e : v = if C then 1 else 0) : fits .boolean (.int v) = true := by
  subst e; by_cases h : C
  · rw [if_pos h]; rfl
  · rw [if_neg h]; rfl
theorem own_ndadd {x y : UInt64} (h1 : Fin64 x) (h2 : Fin64 y) : NoNaN64 (FP.dadd x y) := dadd_out h1.noNaN h2
theorem own_ndsub {x y : UInt64} (h1 : Fin64 x) (h2 : Fin64 y) : NoNaN64 (FP.dsub x y) := dsub_out h1.noNaN h2
theorem own_ndmul {x y : UInt64} (h1 : Fin64 x) (h2 : Fin64 y) : NoNaN64 (FP.dmul x y) := dmul_out h1 h2
theorem own_fin {x : UInt64} : Fin64 x ↔ FP.Core.DFin x := fin64_core
theorem own_fneg {x : UInt64} (h : Fin64 x) : Fin64 (FP.dneg x) := by
  obtain ⟨s, c, q, e⟩ := fin64_core.mp h
  exact fin64_core.mpr ⟨!s, c, q, (FP.val64_dneg x).trans (by rw [e]; rfl)⟩
theorem own_self {x : UInt64} (h : Fin64 x) : FP.dcmp x x = some .eq := FP.Core.dcmp_self (fin64_core.mp h).ne_nan
theorem own_sgt {x : UInt64} (h : Fin64 x) : ¬ FP.dcmp x x = some .gt := by rw [own_self h]; decide
theorem own_slt {x : UInt64} (h : Fin64 x) : ¬ FP.dcmp x x = some .lt := by rw [own_self h]; decide
theorem own_and {c d : Jvm.Cond} {a : Array Value} {s : State} (h1 : c.before a s = true) (h2 : d.before a s = true) : (Jvm.Cond.and c d).before a s = true := by rw [Cond.before_and, h1, h2]; rfl
theorem own_isfin {x : UInt64} (h : Fin64 x) : some (Value.int (if Jvm.Free.Fl.relLe (FP.dcmp (x &&& 0x7fffffffffffffff) Jvm.Free.Fl.maxD) = true then (1 : Int32) else 0)) = some (.int (1 : Int32)) := by rw [if_pos ((le_max_iff h.noNaN).mpr h)]
theorem own_isinf {x : UInt64} (h : Fin64 x) : some (Value.int (if Jvm.Free.Fl.relGt (FP.dcmp (x &&& 0x7fffffffffffffff) Jvm.Free.Fl.maxD) = true then (1 : Int32) else 0)) = some (.int (0 : Int32)) := by rw [if_neg (fun h4 => (gt_max_iff h.noNaN).mp h4 h)]
theorem own_dfin {i : Int} {x : UInt64} (h : FP.Core.DInt i x) : Fin64 x := by
  refine fin64_core.mpr ?_
  have q : FP.Core.Whole i (FP.Core.val64 x) := h
  cases e : FP.Core.val64 x with
  | nan => rw [e] at q; exact q.elim
  | inf s => rw [e] at q; exact q.elim
  | fin s c q => exact ⟨s, c, q, e⟩
theorem own_fn {v : Int32} (h : narrow .boolean (.int v) = .int v) : fits .boolean (.int v) = true := by
  have q : v &&& 1 = v := Value.int.inj h
  rcases and_one v with z | z <;> rw [z] at q <;> subst q <;> rfl
/-- a double less than, equal to .. another, as the code asks it -/
abbrev oGe (o : Option Ordering) : Prop := o = some .gt ∨ o = some .eq
abbrev oLe (o : Option Ordering) : Prop := o = some .lt ∨ o = some .eq
theorem d_l_eq_t {o : Option Ordering} (h : o = some .eq) : ifCond.holds .eq (cmpValue o .l) = true := by
  rcases o with _ | _ | _ | _ <;> first | rfl | decide | (exfalso; revert h; decide)
theorem d_l_eq_f {o : Option Ordering} (h : ¬ o = some .eq) : ifCond.holds .eq (cmpValue o .l) = false := by
  rcases o with _ | _ | _ | _ <;> first | rfl | decide | (exfalso; revert h; decide)
theorem d_l_ne_t {o : Option Ordering} (h : ¬ o = some .eq) : ifCond.holds .ne (cmpValue o .l) = true := by
  rcases o with _ | _ | _ | _ <;> first | rfl | decide | (exfalso; revert h; decide)
theorem d_l_ne_f {o : Option Ordering} (h : o = some .eq) : ifCond.holds .ne (cmpValue o .l) = false := by
  rcases o with _ | _ | _ | _ <;> first | rfl | decide | (exfalso; revert h; decide)
theorem d_g_eq_t {o : Option Ordering} (h : o = some .eq) : ifCond.holds .eq (cmpValue o .g) = true := by
  rcases o with _ | _ | _ | _ <;> first | rfl | decide | (exfalso; revert h; decide)
theorem d_g_eq_f {o : Option Ordering} (h : ¬ o = some .eq) : ifCond.holds .eq (cmpValue o .g) = false := by
  rcases o with _ | _ | _ | _ <;> first | rfl | decide | (exfalso; revert h; decide)
theorem d_g_ne_t {o : Option Ordering} (h : ¬ o = some .eq) : ifCond.holds .ne (cmpValue o .g) = true := by
  rcases o with _ | _ | _ | _ <;> first | rfl | decide | (exfalso; revert h; decide)
theorem d_g_ne_f {o : Option Ordering} (h : o = some .eq) : ifCond.holds .ne (cmpValue o .g) = false := by
  rcases o with _ | _ | _ | _ <;> first | rfl | decide | (exfalso; revert h; decide)
theorem d_l_lt_t {o : Option Ordering} (h : ¬ oGe o) : ifCond.holds .lt (cmpValue o .l) = true := by
  rcases o with _ | _ | _ | _ <;> first | rfl | decide | (exfalso; revert h; decide)
theorem d_l_lt_f {o : Option Ordering} (h : oGe o) : ifCond.holds .lt (cmpValue o .l) = false := by
  rcases o with _ | _ | _ | _ <;> first | rfl | decide | (exfalso; revert h; decide)
theorem d_l_ge_t {o : Option Ordering} (h : oGe o) : ifCond.holds .ge (cmpValue o .l) = true := by
  rcases o with _ | _ | _ | _ <;> first | rfl | decide | (exfalso; revert h; decide)
theorem d_l_ge_f {o : Option Ordering} (h : ¬ oGe o) : ifCond.holds .ge (cmpValue o .l) = false := by
  rcases o with _ | _ | _ | _ <;> first | rfl | decide | (exfalso; revert h; decide)
theorem d_l_gt_t {o : Option Ordering} (h : o = some .gt) : ifCond.holds .gt (cmpValue o .l) = true := by
  rcases o with _ | _ | _ | _ <;> first | rfl | decide | (exfalso; revert h; decide)
theorem d_l_gt_f {o : Option Ordering} (h : ¬ o = some .gt) : ifCond.holds .gt (cmpValue o .l) = false := by
  rcases o with _ | _ | _ | _ <;> first | rfl | decide | (exfalso; revert h; decide)
theorem d_l_le_t {o : Option Ordering} (h : ¬ o = some .gt) : ifCond.holds .le (cmpValue o .l) = true := by
  rcases o with _ | _ | _ | _ <;> first | rfl | decide | (exfalso; revert h; decide)
theorem d_l_le_f {o : Option Ordering} (h : o = some .gt) : ifCond.holds .le (cmpValue o .l) = false := by
  rcases o with _ | _ | _ | _ <;> first | rfl | decide | (exfalso; revert h; decide)
theorem d_g_lt_t {o : Option Ordering} (h : o = some .lt) : ifCond.holds .lt (cmpValue o .g) = true := by
  rcases o with _ | _ | _ | _ <;> first | rfl | decide | (exfalso; revert h; decide)
theorem d_g_lt_f {o : Option Ordering} (h : ¬ o = some .lt) : ifCond.holds .lt (cmpValue o .g) = false := by
  rcases o with _ | _ | _ | _ <;> first | rfl | decide | (exfalso; revert h; decide)
theorem d_g_ge_t {o : Option Ordering} (h : ¬ o = some .lt) : ifCond.holds .ge (cmpValue o .g) = true := by
  rcases o with _ | _ | _ | _ <;> first | rfl | decide | (exfalso; revert h; decide)
theorem d_g_ge_f {o : Option Ordering} (h : o = some .lt) : ifCond.holds .ge (cmpValue o .g) = false := by
  rcases o with _ | _ | _ | _ <;> first | rfl | decide | (exfalso; revert h; decide)
theorem d_g_gt_t {o : Option Ordering} (h : ¬ oLe o) : ifCond.holds .gt (cmpValue o .g) = true := by
  rcases o with _ | _ | _ | _ <;> first | rfl | decide | (exfalso; revert h; decide)
theorem d_g_gt_f {o : Option Ordering} (h : oLe o) : ifCond.holds .gt (cmpValue o .g) = false := by
  rcases o with _ | _ | _ | _ <;> first | rfl | decide | (exfalso; revert h; decide)
theorem d_g_le_t {o : Option Ordering} (h : oLe o) : ifCond.holds .le (cmpValue o .g) = true := by
  rcases o with _ | _ | _ | _ <;> first | rfl | decide | (exfalso; revert h; decide)
theorem d_g_le_f {o : Option Ordering} (h : ¬ oLe o) : ifCond.holds .le (cmpValue o .g) = false := by
  rcases o with _ | _ | _ | _ <;> first | rfl | decide | (exfalso; revert h; decide)
theorem l_eq (x y : Int64) : XT.cmpL x y = 0 ↔ x = y := lw_eq x y
theorem l_lt (x y : Int64) : XT.cmpL x y < 0 ↔ x < y := lw_lt x y
theorem l_gt (x y : Int64) : 0 < XT.cmpL x y ↔ y < x := lw_gt x y
theorem g_ret (A : Ax p l e R s m args below meth c T locs cells slots B) {w : Value} {t : FieldType} {i : Instr} {Q : Option Value → Heap → List Loc → Prop} {K S : Nat} (hd : decode B pc = .ok (i, 1)) (hlk : meth.locks = false) (hret : meth.sig.returnType = some t) (hn : narrow t w = w)
    (hi : (i = .ireturn ∧ (t = .int ∨ t = .boolean ∨ t = .byte ∨ t = .char ∨ t = .short) ∧ ∃ z, w = .int z) ∨ (i = .lreturn ∧ t = .long ∧ ∃ z, w = .long z) ∨ (i = .dreturn ∧ t = .double ∧ ∃ z, w = .double z) ∨ (i = .freturn ∧ t = .float ∧ ∃ z, w = .float z) ∨ (i = .areturn ∧ t.isReference = true ∧ w.isRef = true))
    (hK : cells ≤ K) (hS : slots ≤ S) (hQ : Q (some w) T.heap locs) : Go p e below (fun U o => ∃ v L, o = .returned v ∧ Q v U.heap L ∧ FrameEnd s o U L K S) T (mkF m pc ls (w :: st)) := by
  obtain ⟨fs, hr, hrun, hended, hW, hsame⟩ := A.1.leave (v := some w) (fun h => by rw [hret] at h; cases h) hlk
  exact ⟨_, _, retOut A.1 A.2.1 hret hn hi (hb A.2.2 hd) hr, hrun, hended, _, _, rfl, hQ, ⟨_, rfl⟩, hW, hsame.mono hK hS⟩
theorem g_retV (A : Ax p l e R s m args below meth c T locs cells slots B) {Q : Option Value → Heap → List Loc → Prop} {K S : Nat} (hd : decode B pc = .ok (.return_, 1)) (hlk : meth.locks = false) (hret : meth.sig.returnType = none)
    (hK : cells ≤ K) (hS : slots ≤ S) (hQ : Q none T.heap locs) : Go p e below (fun U o => ∃ v L, o = .returned v ∧ Q v U.heap L ∧ FrameEnd s o U L K S) T (mkF m pc ls []) := by
  obtain ⟨fs, hr, hrun, hended, hW, hsame⟩ := A.1.leave (v := none) (fun _ => rfl) hlk
  exact ⟨_, _, A.1.returnOut A.2.1 hret (hb A.2.2 hd) hr, hrun, hended, _, _, rfl, hQ, ⟨_, rfl⟩, hW, hsame.mono hK hS⟩
theorem g_ldcI (A : Ax p l e R s m args below meth c T locs cells slots B) {Z : State} {a0 : Array Value} {own : String} {i : Nat} {v : Int32} (hZ : Z.Warmed39 s.vm) (hown : s.vm.findClass own = some m.cls) (w : (Jvm.Cond.constant own i v).before a0 Z = true) (hd : decode B pc = .ok (.ldc i, 2)) (hp : pc + 2 = pc') (k : Go p e below P T (mkF m pc' ls (.int v :: st))) : Go p e below P T (mkF m pc ls st) := by
  subst hp; exact Go.of (A.1.ldcInt A.2.1 hown (mvT hZ w) (g := mkF m pc ls st) rfl (hb A.2.2 hd)) k
theorem g_ldcD (A : Ax p l e R s m args below meth c T locs cells slots B) {Z : State} {a0 : Array Value} {own : String} {i : Nat} {v : UInt64} (hZ : Z.Warmed39 s.vm) (hown : s.vm.findClass own = some m.cls) (w : (Jvm.Cond.constantDouble own i v).before a0 Z = true) (hd : decode B pc = .ok (.ldc2_w i, 3)) (hp : pc + 3 = pc') (k : Go p e below P T (mkF m pc' ls (.double v :: st))) : Go p e below P T (mkF m pc ls st) := by
  subst hp; exact Go.of (A.1.ldc2DoubleC A.2.1 hown (mvT hZ w) (g := mkF m pc ls st) rfl (hb A.2.2 hd)) k
theorem g_ldcL (A : Ax p l e R s m args below meth c T locs cells slots B) {Z : State} {a0 : Array Value} {own : String} {i : Nat} {v : Int64} (hZ : Z.Warmed39 s.vm) (hown : s.vm.findClass own = some m.cls) (w : (Jvm.Cond.constantLong own i v).before a0 Z = true) (hd : decode B pc = .ok (.ldc2_w i, 3)) (hp : pc + 3 = pc') (k : Go p e below P T (mkF m pc' ls (.long v :: st))) : Go p e below P T (mkF m pc ls st) := by
  subst hp; exact Go.of (A.1.ldc2Long A.2.1 hown (mvT hZ w) (g := mkF m pc ls st) rfl (hb A.2.2 hd)) k
theorem g_nnY (A : Ax p l e R s m args below meth c T locs cells slots B) {o : Int} {b : Addr} (hd : decode B pc = .ok (.ifnonnull o, 3)) (hp : (pc : Int) + o = (pc' : Int)) (k : Go p e below P T (mkF m pc' ls st)) : Go p e below P T (mkF m pc ls (.ref b :: st)) := Go.of (fun _ k' => XT.ifnonnullYes A.1.here A.2.1 rfl rfl (hb A.2.2 hd) rfl (own_off hp).1 (own_off hp).2 k') k
theorem g_nnN (A : Ax p l e R s m args below meth c T locs cells slots B) {o : Int} (hd : decode B pc = .ok (.ifnonnull o, 3)) (hp : pc + 3 = pc') (k : Go p e below P T (mkF m pc' ls st)) : Go p e below P T (mkF m pc ls (.null :: st)) := by
  subst hp; exact Go.of (fun _ k' => XT.ifnonnullNo A.1.here A.2.1 rfl (hb A.2.2 hd) rfl k') k
theorem g_nuY (A : Ax p l e R s m args below meth c T locs cells slots B) {o : Int} (hd : decode B pc = .ok (.ifnull o, 3)) (hp : (pc : Int) + o = (pc' : Int)) (k : Go p e below P T (mkF m pc' ls st)) : Go p e below P T (mkF m pc ls (.null :: st)) := Go.of (fun _ k' => XS.ifnullYes A.1.here A.2.1 rfl rfl (hb A.2.2 hd) rfl (own_off hp).1 (own_off hp).2 k') k
theorem g_nuN (A : Ax p l e R s m args below meth c T locs cells slots B) {o : Int} {b : Addr} (hd : decode B pc = .ok (.ifnull o, 3)) (hp : pc + 3 = pc') (k : Go p e below P T (mkF m pc' ls st)) : Go p e below P T (mkF m pc ls (.ref b :: st)) := by
  subst hp; exact Go.of (fun _ k' => XS.ifnullNo A.1.here A.2.1 rfl (hb A.2.2 hd) rfl k') k
theorem g_acY (A : Ax p l e R s m args below meth c T locs cells slots B) {o : Int} {cd : ClassFile.ACond} {x y : Value} (hd : decode B pc = .ok (.if_acmp cd o, 3)) (h1 : x.isRef = true) (h2 : y.isRef = true) (hc : XT.acmp cd x y = true) (hp : (pc : Int) + o = (pc' : Int)) (k : Go p e below P T (mkF m pc' ls st)) : Go p e below P T (mkF m pc ls (y :: x :: st)) := Go.of (fun _ k' => XT.acmpYes A.1.here A.2.1 rfl rfl (hb A.2.2 hd) rfl h1 h2 hc (own_off hp).1 (own_off hp).2 k') k
theorem g_acN (A : Ax p l e R s m args below meth c T locs cells slots B) {o : Int} {cd : ClassFile.ACond} {x y : Value} (hd : decode B pc = .ok (.if_acmp cd o, 3)) (h1 : x.isRef = true) (h2 : y.isRef = true) (hc : XT.acmp cd x y = false) (hp : pc + 3 = pc') (k : Go p e below P T (mkF m pc' ls st)) : Go p e below P T (mkF m pc ls (y :: x :: st)) := by
  subst hp; exact Go.of (fun _ k' => XT.acmpNo A.1.here A.2.1 rfl (hb A.2.2 hd) rfl h1 h2 hc k') k
/-- an array of n places: its i-th holds f i -/
def Dar (Z : State) (h : Heap) (a : Addr) (ty : FieldType) (n : Nat) (f : Nat → Value) : Prop := ∃ cl : Cell, RoadKit.Arr Z h a cl ty ∧ cl.slots.size = n ∧ n < 2147483648 ∧ ∀ i, i < n → cl.slots[i]? = some (f i)
variable {Z : State} {h h' : Heap} {a b : Addr} {ty : FieldType} {n : Nat} {f g : Nat → Value} {sl : Nat} {v : Value} {ws : List Addr}
theorem Dar.lt (F : Dar Z h a ty n f) : a < h.size := by obtain ⟨cl, A, -⟩ := F; exact A.lt
theorem Dar.ext (E : Ext h h') (F : Dar Z h a ty n f) : Dar Z h' a ty n f := by obtain ⟨cl, A, r⟩ := F; exact ⟨cl, A.ext E, r⟩
theorem Dar.other (W : Wr h h' b sl v) (F : Dar Z h a ty n f) (q : a ≠ b) : Dar Z h' a ty n f := by obtain ⟨cl, A, r⟩ := F; exact ⟨cl, A.other W q, r⟩
theorem Dar.keep (F : Dar Z h a ty n f) (K : Keep h h' ws) (q : a ∉ ws) : Dar Z h' a ty n f := by obtain ⟨cl, A, r⟩ := F; exact ⟨cl, ⟨K.2.1 a cl A.1 q, A.2⟩, r⟩
theorem Dar.congr (F : Dar Z h a ty n f) (q : ∀ i, i < n → f i = g i) : Dar Z h a ty n g := by obtain ⟨cl, A, r1, r2, r3⟩ := F; exact ⟨cl, A, r1, r2, fun i hi => by rw [← q i hi]; exact r3 i hi⟩
theorem Dar.new {cA : ClassId} {z : Int32} (A : RoadKit.Arr Z h a (newA cA ty z) ty) (hz : z.toNatClampNeg = n) : Dar Z h a ty n (fun _ => defaultValue ty) := by
  refine ⟨_, A, (sz_new _ _ _).trans hz, ?_, fun i hi => by subst hz; simp [newA, hi]⟩
  have := z.toInt_lt
  rw [← hz, Int32.toNatClampNeg]; omega
theorem Dar.ne_exa {a0 : Array Value} {k : Nat} {C : String} (F : Dar Z h a ty n f) (E : Exa Z h b C) (wi : (Jvm.Cond.instantiable C k).before a0 Z = true) : a ≠ b := by obtain ⟨cl, A, -⟩ := F; exact fun q => ne_arr E wi A q.symm
theorem own_ne {a b : Nat} {h : Heap} (g : a = h.size) (q : b < h.size) : b ≠ a := by rw [g]; exact Nat.ne_of_lt q
theorem own_clamp {i : Nat} (hi : i < 2147483648) : (Int32.ofNat i).toNatClampNeg = i ∧ ¬ Int32.ofNat i < 0 := by
  have e : (Int32.ofNat i).toInt = i := Int32.toInt_ofNat_of_lt hi
  refine ⟨by rw [Int32.toNatClampNeg, e]; omega, fun q => ?_⟩
  rw [Int32.lt_iff_toInt_lt, e] at q
  have : (0 : Int32).toInt = 0 := rfl
  omega
theorem Dar.set {i : Nat} (F : Dar Z h a ty n f) (W : Wr h h' a i v) (q : ∀ j, j < n → g j = if j = i then v else f j) : Dar Z h' a ty n g := by
  obtain ⟨cl, A, r1, r2, r3⟩ := F
  refine ⟨_, A.same W, (sz_set _ _ _).trans r1, r2, fun j hj => ?_⟩
  rw [q j hj]
  by_cases e : j = i
  · subst e; rw [if_pos rfl]; simp [Cell.setSlot, r1, hj]
  · rw [if_neg e]; exact (Array.getElem?_setIfInBounds_ne (Ne.symm e)).trans (r3 j hj)
theorem own_in {cl : Cell} {i : Nat} (S : cl.slots.size = n) (hn : n < 2147483648) (hi : i < n) : ¬ (Int32.ofNat i < 0 ∨ cl.slots.size ≤ (Int32.ofNat i).toNatClampNeg) := by
  obtain ⟨q1, q2⟩ := own_clamp (i := i) (by omega)
  rw [q1, S]; exact fun z => z.elim q2 (by omega)
theorem g_daload (A : Ax p l e R s m args below meth c T locs cells slots B) (hZ : Z.Warmed39 s.vm) (eT : T.heap = h) {j : Int32} {i : Nat} {x : UInt64} (F : Dar Z h a .double n f) (hi : i < n) (hj : j = Int32.ofNat i) (hv : f i = .double x) (hd : decode B pc = .ok (.daload, 1)) (hp : pc + 1 = pc') (k : Go p e below P T (mkF m pc' ls (.double x :: st))) : Go p e below P T (mkF m pc ls (.int j :: .ref a :: st)) := by
  subst hp hj
  obtain ⟨cl, A2, r1, r2, r3⟩ := F
  have q := (own_clamp (i := i) (by omega)).1
  exact Go.of (fun t k' => A.1.daload A.2.1 (j := Int32.ofNat i) (v := .double x) (by rw [eT]; exact A2.1) (State.isArrayOf_alike hZ.alike A2.2.1) A2.2.2 (own_in r1 r2 hi) (by rw [q, ← hv]; exact r3 i hi) (g := mkF m pc ls (.int (Int32.ofNat i) :: .ref a :: st)) rfl rfl (hb A.2.2 hd) t k') k
theorem g_iaload (A : Ax p l e R s m args below meth c T locs cells slots B) (hZ : Z.Warmed39 s.vm) (eT : T.heap = h) {j : Int32} {i : Nat} {x : Int32} (F : Dar Z h a .int n f) (hi : i < n) (hj : j = Int32.ofNat i) (hv : f i = .int x) (hd : decode B pc = .ok (.iaload, 1)) (hp : pc + 1 = pc') (k : Go p e below P T (mkF m pc' ls (.int x :: st))) : Go p e below P T (mkF m pc ls (.int j :: .ref a :: st)) := by
  subst hp hj
  obtain ⟨cl, A2, r1, r2, r3⟩ := F
  have q := (own_clamp (i := i) (by omega)).1
  exact Go.of (fun t k' => A.1.iaload A.2.1 (j := Int32.ofNat i) (v := .int x) (by rw [eT]; exact A2.1) (State.isArrayOf_alike hZ.alike A2.2.1) A2.2.2 (own_in r1 r2 hi) (by rw [q, ← hv]; exact r3 i hi) (g := mkF m pc ls (.int (Int32.ofNat i) :: .ref a :: st)) rfl rfl (hb A.2.2 hd) t k') k
theorem g_baload (A : Ax p l e R s m args below meth c T locs cells slots B) (hZ : Z.Warmed39 s.vm) (eT : T.heap = h) {j : Int32} {i : Nat} {x : Int32} (F : Dar Z h a .boolean n f) (hi : i < n) (hj : j = Int32.ofNat i) (hv : f i = .int x) (hd : decode B pc = .ok (.baload, 1)) (hp : pc + 1 = pc') (k : Go p e below P T (mkF m pc' ls (.int x :: st))) : Go p e below P T (mkF m pc ls (.int j :: .ref a :: st)) := by
  subst hp hj
  obtain ⟨cl, A2, r1, r2, r3⟩ := F
  have q := (own_clamp (i := i) (by omega)).1
  exact Go.of (fun t k' => A.1.baloadBooleans A.2.1 (j := Int32.ofNat i) (v := .int x) (by rw [eT]; exact A2.1) (State.isArrayOf_alike hZ.alike A2.2.1) A2.2.2 (own_in r1 r2 hi) (by rw [q, ← hv]; exact r3 i hi) (g := mkF m pc ls (.int (Int32.ofNat i) :: .ref a :: st)) rfl rfl (hb A.2.2 hd) t k') k
theorem g_alen (A : Ax p l e R s m args below meth c T locs cells slots B) (hZ : Z.Warmed39 s.vm) (eT : T.heap = h) (F : Dar Z h a ty n f) (hd : decode B pc = .ok (.arraylength, 1)) {z : Int32} (hz : Int32.ofNat n = z) (hp : pc + 1 = pc') (k : Go p e below P T (mkF m pc' ls (.int z :: st))) : Go p e below P T (mkF m pc ls (.ref a :: st)) := by
  subst hp hz
  obtain ⟨cl, A2, r1, r2, r3⟩ := F
  exact Go.of (fun t k' => A.1.arraylength A.2.1 (cell := cl) (by rw [eT]; exact A2.1) (State.isArrayOf_alike hZ.alike A2.2.1) (g := mkF m pc ls (.ref a :: st)) rfl (rest := st) rfl (hb A.2.2 hd) t (by rw [r1]; exact k')) k
theorem s_dastore (A : Ax p l e R s m args below meth c T locs cells slots B) (hZ : Z.Warmed39 s.vm) (eT : T.heap = h) {j : Int32} {i : Nat} {x : UInt64} (F : Dar Z h a .double n f) (hi : i < n) (hj : j = Int32.ofNat i) (hd : decode B pc = .ok (.dastore, 1)) (hp : pc + 1 = pc') :
    ∃ T' h', Ax p l e R s m args below meth c T' (locs ++ [⟨a, i⟩]) cells slots B ∧ T'.heap = h' ∧ Wr h h' a i (.double x) ∧ ∀ {P : State → Outcome → Prop}, Go p e below P T' (mkF m pc' ls st) → Go p e below P T (mkF m pc ls (.double x :: .int j :: .ref a :: st)) := by
  subst hp hj
  obtain ⟨cl, A2, r1, r2, r3⟩ := F
  have q := (own_clamp (i := i) (by omega)).1
  obtain ⟨X', st'⟩ := A.1.dastore A.2.1 (by rw [eT]; exact A2.1) (State.isArrayOf_alike hZ.alike A2.2.1) A2.2.2 (own_in r1 r2 hi) (x := x) (g := mkF m pc ls (.double x :: .int (Int32.ofNat i) :: .ref a :: st)) rfl rfl (hb A.2.2 hd)
  rw [q] at X' st'
  exact ⟨_, _, ⟨X', A.2⟩, rfl, ⟨cl, A2.1, A2.plain, by rw [r1]; exact hi, by rw [← eT]; rfl⟩, fun k => Go.of st' k⟩
theorem s_iastore (A : Ax p l e R s m args below meth c T locs cells slots B) (hZ : Z.Warmed39 s.vm) (eT : T.heap = h) {j : Int32} {i : Nat} {x : Int32} (F : Dar Z h a .int n f) (hi : i < n) (hj : j = Int32.ofNat i) (hd : decode B pc = .ok (.iastore, 1)) (hp : pc + 1 = pc') :
    ∃ T' h', Ax p l e R s m args below meth c T' (locs ++ [⟨a, i⟩]) cells slots B ∧ T'.heap = h' ∧ Wr h h' a i (.int x) ∧ ∀ {P : State → Outcome → Prop}, Go p e below P T' (mkF m pc' ls st) → Go p e below P T (mkF m pc ls (.int x :: .int j :: .ref a :: st)) := by
  subst hp hj
  obtain ⟨cl, A2, r1, r2, r3⟩ := F
  have q := (own_clamp (i := i) (by omega)).1
  obtain ⟨T', h', X', e', W, st'⟩ := stI A.1 A.2.1 hZ eT A2 (own_in r1 r2 hi) (x := x) (g := mkF m pc ls (.int x :: .int (Int32.ofNat i) :: .ref a :: st)) rfl rfl (hb A.2.2 hd)
  rw [q] at X' W
  exact ⟨_, _, ⟨X', A.2⟩, e', W, fun k => Go.of st' k⟩
theorem s_zastore (A : Ax p l e R s m args below meth c T locs cells slots B) (hZ : Z.Warmed39 s.vm) (eT : T.heap = h) {j : Int32} {i : Nat} {x : Int32} (F : Dar Z h a .boolean n f) (hi : i < n) (hj : j = Int32.ofNat i) (hx1 : narrow .boolean (.int x) = .int x) (hd : decode B pc = .ok (.bastore, 1)) (hp : pc + 1 = pc') :
    ∃ T' h', Ax p l e R s m args below meth c T' (locs ++ [⟨a, i⟩]) cells slots B ∧ T'.heap = h' ∧ Wr h h' a i (.int x) ∧ ∀ {P : State → Outcome → Prop}, Go p e below P T' (mkF m pc' ls st) → Go p e below P T (mkF m pc ls (.int x :: .int j :: .ref a :: st)) := by
  subst hp hj
  obtain ⟨cl, A2, r1, r2, r3⟩ := F
  have q := (own_clamp (i := i) (by omega)).1
  obtain ⟨T', h', X', e', W, st'⟩ := stZ A.1 A.2.1 hZ eT A2 (own_in r1 r2 hi) (x := x) (g := mkF m pc ls (.int x :: .int (Int32.ofNat i) :: .ref a :: st)) rfl rfl (hb A.2.2 hd)
  have q2 : nar .boolean x = x := Value.int.inj hx1
  rw [q] at X' W; rw [q2] at W
  exact ⟨_, _, ⟨X', A.2⟩, e', W, fun k => Go.of st' k⟩
end own_go
theorem d4_0 : decode jdk_30_method_1_code 0 = .ok (.aload_n 0, 1) := by decide +kernel
theorem d4_1 : decode jdk_30_method_1_code 1 = .ok (.invokespecial 1, 3) := by decide +kernel
theorem d4_4 : decode jdk_30_method_1_code 4 = .ok (.return_, 1) := by decide +kernel
theorem pn_0 : plainName "java/lang/Record" = true := by first | (simp [plainName, overriddenIn]; done) | decide +kernel
theorem ef1 (m : MethodId) (a1 : Addr) : entryFrame m #[(.ref a1)] 1 = mkF m 0 #[.val (.ref a1)] [] := by first | (simp [entryFrame, mkF, argsToLocals, Value.category]; done) | rfl
def Q4 (Z : State) (a1 : Addr) (h0 : Heap) (n0 : Nat) (v : Option Value) (h : Heap) (L : List Loc) : Prop := v = none ∧ Fr n0 L ∧ h = h0
set_option maxRecDepth 65536 in
set_option maxHeartbeats 40000000 in
theorem rm4 (l : Launch) (Z : State) (a0 : Array Value) (hw : ∀ d ∈ tables_1, d.before a0 Z = true) (ws : List Jvm.Cond) (a1 : Addr) (h0 : Heap) (n0 : Nat) (Z0 : n0 ≤ h0.size)  :
    MetFree l (⟨"java/lang/Record", "<init>", "()V"⟩ : MethodName) (head1 (Jvm.Cond.code (⟨"java/lang/Record", "<init>", "()V"⟩ : MethodName) jdk_30_method_1_code 1 none :: ws) ({ frames := 1, cells := 0, slots := 0, locals := 12 } : Room)) (fun a U => a = #[(.ref a1)] ∧ Z.Warmed39 U.vm ∧ U.heap = h0) (fun _ _ _ _ _ => True) (fun _ U o U' => ∃ v L, o = .returned v ∧ Q4 Z a1 h0 n0 v U'.heap L ∧ FrameEnd U o U' L 0 0) := by
  refine MetFree.of_bodySF (plainFor_of_name pn_0) hisR ?_
  intro p e s m args below meth c s₁ Bd hml0 hP hK
  obtain ⟨rfl, hZ, hh⟩ := hP
  have hx := Bd.exec
  have hby := Bd.bytes
  have hml : c.maxLocals = 1 := hml0
  have hown : s.vm.findClass "java/lang/Record" = some m.cls := findClass_of_methodNamed Bd.named
  have hnm := (name_of_methodNamed Bd.named Bd.method).1
  have X0 : Stand p l e ({ frames := 1, cells := 0, slots := 0, locals := 12 } : Room) s m #[(.ref a1)] below meth c s₁ [] 0 0 := Stand.of_body Bd
  have e0 : s₁.heap = h0 := by rw [← hh, Bd.state]; rfl
  have N0 := Fr.nil n0
  have A0 := (⟨X0, hx, hby⟩ : Ax _ _ _ _ _ _ _ _ _ _ _ _ _ _ _)
  show Go p e below (fun U o => ∃ v L, o = .returned v ∧ Q4 Z a1 h0 n0 v U.heap L ∧ FrameEnd s o U L 0 0) s₁ (entryFrame m #[(.ref a1)] 1)
  refine Go.cast (ef1 m a1) ?_
  refine g_aloadN A0 d4_0 rfl rfl (pc' := 1) rfl ?_
  obtain ⟨T2, X2, e2, st2⟩ := initO X0 hx hZ hown (hw _ (List.mem_of_getElem? (i := 21) rfl)) (hw _ (List.mem_of_getElem? (i := 22) rfl)) (hw _ (List.mem_of_getElem? (i := 23) rfl)) e0 (g := (mkF m 1 #[.val (.ref a1)] [(.ref a1)])) rfl (by rw [hml]; rfl) rfl (hb hby d4_1) (by decide) (W := 0) (by show 2 * 0 + _ ≤ _; exact Nat.le_of_eq rfl) (by decide)
  refine Go.of (g' := (mkF m 4 #[.val (.ref a1)] [])) st2 ?_
  have A3 := (⟨X2, hx, hby⟩ : Ax _ _ _ _ _ _ _ _ _ _ _ _ _ _ _)
  exact g_retV (Q := Q4 Z a1 h0 n0) A3 d4_4 Bd.notSynchronized Bd.returns (by decide) (by decide) (by rw [e2]; exact ⟨rfl, N0, rfl⟩)
theorem d3_0 : decode prog_52_method_1_code 0 = .ok (.aload_n 0, 1) := by decide +kernel
theorem d3_1 : decode prog_52_method_1_code 1 = .ok (.invokespecial 1, 3) := by decide +kernel
theorem d3_4 : decode prog_52_method_1_code 4 = .ok (.aload_n 0, 1) := by decide +kernel
theorem d3_5 : decode prog_52_method_1_code 5 = .ok (.dload_n 1, 1) := by decide +kernel
theorem d3_6 : decode prog_52_method_1_code 6 = .ok (.putfield 7, 3) := by decide +kernel
theorem d3_9 : decode prog_52_method_1_code 9 = .ok (.aload_n 0, 1) := by decide +kernel
theorem d3_10 : decode prog_52_method_1_code 10 = .ok (.iload_n 3, 1) := by decide +kernel
theorem d3_11 : decode prog_52_method_1_code 11 = .ok (.putfield 13, 3) := by decide +kernel
theorem d3_14 : decode prog_52_method_1_code 14 = .ok (.return_, 1) := by decide +kernel
theorem pn_1 : plainName "com/example/flat_pager/flatpager/ScoreWindow$Bound" = true := by first | (simp [plainName, overriddenIn]; done) | decide +kernel
theorem ef4 (m : MethodId) (a1 : Addr) (x2 : UInt64) (b3 : Int32) (u0 : Value) (u1 : Value) : entryFrame m #[(.ref a1), (.double x2), (.int b3)] 4 = mkF m 0 #[.val (.ref a1), .val (.double x2), .second, .val (.int b3)] [] := by first | (simp [entryFrame, mkF, argsToLocals, Value.category]; done) | rfl
def Q3 (Z : State) (a1 : Addr) (x2 : UInt64) (b3 : Int32) (u0 : Value) (u1 : Value) (h0 : Heap) (n0 : Nat) (v : Option Value) (h : Heap) (L : List Loc) : Prop := v = none ∧ Fr n0 L ∧ Keep h0 h [a1] ∧ Fld Z h a1 "com/example/flat_pager/flatpager/ScoreWindow$Bound" "score" "D" (.double x2) ∧ Fld Z h a1 "com/example/flat_pager/flatpager/ScoreWindow$Bound" "excluded" "Z" (.int b3)
theorem pd_0 : parseMethodDescriptor "()V" = some ⟨[], none⟩ := by decide +kernel
set_option maxRecDepth 65536 in
set_option maxHeartbeats 40000000 in
theorem rm3 (l : Launch) (Z : State) (a0 : Array Value) (hw : ∀ d ∈ tables_1, d.before a0 Z = true) (ws : List Jvm.Cond) (a1 : Addr) (x2 : UInt64) (b3 : Int32) (u0 : Value) (u1 : Value) (h0 : Heap) (n0 : Nat) (Z0 : n0 ≤ h0.size) (E5 : Exa Z h0 a1 "com/example/flat_pager/flatpager/ScoreWindow$Bound") (F6 : Fld Z h0 a1 "com/example/flat_pager/flatpager/ScoreWindow$Bound" "score" "D" u0) (F7 : Fld Z h0 a1 "com/example/flat_pager/flatpager/ScoreWindow$Bound" "excluded" "Z" u1) (g8 : n0 ≤ a1) (hb_b3 : narrow .boolean (.int b3) = .int b3) :
    MetFree l (⟨"com/example/flat_pager/flatpager/ScoreWindow$Bound", "<init>", "(DZ)V"⟩ : MethodName) (head1 (Jvm.Cond.code (⟨"com/example/flat_pager/flatpager/ScoreWindow$Bound", "<init>", "(DZ)V"⟩ : MethodName) prog_52_method_1_code 4 none :: ws) ({ frames := 2, cells := 0, slots := 0, locals := 24 } : Room)) (fun a U => a = #[(.ref a1), (.double x2), (.int b3)] ∧ Z.Warmed39 U.vm ∧ U.heap = h0) (fun _ _ _ _ _ => True) (fun _ U o U' => ∃ v L, o = .returned v ∧ Q3 Z a1 x2 b3 u0 u1 h0 n0 v U'.heap L ∧ FrameEnd U o U' L 0 0) := by
  refine MetFree.of_bodySF (plainFor_of_name pn_1) hisR ?_
  intro p e s m args below meth c s₁ Bd hml0 hP hK
  obtain ⟨rfl, hZ, hh⟩ := hP
  have hx := Bd.exec
  have hby := Bd.bytes
  have hml : c.maxLocals = 4 := hml0
  have hown : s.vm.findClass "com/example/flat_pager/flatpager/ScoreWindow$Bound" = some m.cls := findClass_of_methodNamed Bd.named
  have hnm := (name_of_methodNamed Bd.named Bd.method).1
  have X0 : Stand p l e ({ frames := 2, cells := 0, slots := 0, locals := 24 } : Room) s m #[(.ref a1), (.double x2), (.int b3)] below meth c s₁ [] 0 0 := Stand.of_body Bd
  have e0 : s₁.heap = h0 := by rw [← hh, Bd.state]; rfl
  have N0 := Fr.nil n0
  have A0 := (⟨X0, hx, hby⟩ : Ax _ _ _ _ _ _ _ _ _ _ _ _ _ _ _)
  show Go p e below (fun U o => ∃ v L, o = .returned v ∧ Q3 Z a1 x2 b3 u0 u1 h0 n0 v U.heap L ∧ FrameEnd s o U L 0 0) s₁ (entryFrame m #[(.ref a1), (.double x2), (.int b3)] 4)
  refine Go.cast (ef4 m a1 x2 b3 u0 u1) ?_
  refine g_aloadN A0 d3_0 rfl rfl (pc' := 1) rfl ?_
  obtain ⟨_, _, ⟨T9, L9, k9, n9⟩, -, X9, ⟨L9c, hQ9, l9, y9, z9⟩, st9⟩ := X0.specialBack hx (y := (⟨"java/lang/Record", "<init>", "()V"⟩ : MethodName)) rfl hown (mvT hZ (hw _ (List.mem_of_getElem? (i := 16) rfl))) (mvT hZ (hw _ (List.mem_of_getElem? (i := 17) rfl))) (mvT hZ (hw _ (List.mem_of_getElem? (i := 20) rfl))) (by decide) (backOf (W := 0) (rm4 l Z a0 hw [] a1 h0 n0 Z0 ) hZ (hw _ (List.mem_of_getElem? (i := 20) rfl)) (hw _ (List.mem_of_getElem? (i := 19) rfl)) (by decide) (by decide)) (g := (mkF m 1 #[.val (.ref a1), .val (.double x2), .second, .val (.int b3)] [(.ref a1)])) rfl (by rw [hml]; rfl) (Steps.refl _) (a := a1) (argsL := []) (rest := []) (lenOf pd_0 rfl) rfl (by show 2 * 0 + _ ≤ _; exact Nat.le_of_eq rfl) (hb hby d3_1) (fun _ _ => ⟨rfl, e0, (by decide : 0 + 0 ≤ _), (by decide : 0 + 0 ≤ _)⟩)
  dsimp only [Pt.U, Pt.locs, Pt.cells, Pt.slots] at X9 l9 y9 z9 st9 hQ9
  subst l9 y9 z9
  obtain ⟨rfl, Nq10, Kq11⟩ := hQ9
  have N12 := Fr.app N0 Nq10
  refine Go.tr (g' := (mkF m 4 #[.val (.ref a1), .val (.double x2), .second, .val (.int b3)] [])) st9 ?_
  have e13 : T9.heap = h0 := Kq11
  have A14 := (⟨X9, hx, hby⟩ : Ax _ _ _ _ _ _ _ _ _ _ _ _ _ _ _)
  refine g_aloadN A14 d3_4 rfl rfl (pc' := 5) rfl ?_
  refine g_dloadN A14 d3_5 rfl (pc' := 6) rfl ?_
  obtain ⟨T15, h15, X15, e15, W15, st15⟩ := putF X9 hx hZ hown (host := "") (Or.inl (hw _ (List.mem_of_getElem? (i := 24) rfl))) Via.refl e13 F6 E5 (Or.inr ⟨(hw _ (List.mem_of_getElem? (i := 25) rfl)), rfl, hnm⟩) (hw _ (List.mem_of_getElem? (i := 8) rfl)) (ty := .double) (by decide) rfl rfl (g := (mkF m 6 #[.val (.ref a1), .val (.double x2), .second, .val (.int b3)] [(.double x2), (.ref a1)])) rfl rfl (hb hby d3_6)
  have N16 := Fr.snoc X15 N12 g8
  have K17 : Keep h0 h15 [a1] := (Keep.refl h0 [a1]).wr W15 (Or.inl (List.mem_of_getElem? (i := 0) rfl))
  have E18 : Exa Z h15 a1 "com/example/flat_pager/flatpager/ScoreWindow$Bound" := Exa.wr W15 E5
  have F19 : Fld Z h15 a1 "com/example/flat_pager/flatpager/ScoreWindow$Bound" "excluded" "Z" u1 := Fld.other W15 F7 (Or.inr (slot_ne (Or.inr (hw _ (List.mem_of_getElem? (i := 27) rfl))) (Or.inr (hw _ (List.mem_of_getElem? (i := 25) rfl))) (by decide) (t := .boolean) (t' := .double) (by decide) (by decide)))
  have F20 : Fld Z h15 a1 "com/example/flat_pager/flatpager/ScoreWindow$Bound" "score" "D" (.double x2) := Fld.same W15 F6
  have Z21 : n0 ≤ h15.size := by rw [W15.size]; exact Z0
  refine Go.of (g' := (mkF m 9 #[.val (.ref a1), .val (.double x2), .second, .val (.int b3)] [])) st15 ?_
  have A22 := (⟨X15, hx, hby⟩ : Ax _ _ _ _ _ _ _ _ _ _ _ _ _ _ _)
  refine g_aloadN A22 d3_9 rfl rfl (pc' := 10) rfl ?_
  refine g_iloadN A22 d3_10 rfl (pc' := 11) rfl ?_
  obtain ⟨T23, h23, X23, e23, W23, st23⟩ := putF X15 hx hZ hown (host := "") (Or.inl (hw _ (List.mem_of_getElem? (i := 26) rfl))) Via.refl e15 F19 E18 (Or.inr ⟨(hw _ (List.mem_of_getElem? (i := 27) rfl)), rfl, hnm⟩) (hw _ (List.mem_of_getElem? (i := 8) rfl)) (ty := .boolean) (by decide) hb_b3 (own_fn hb_b3) (g := (mkF m 11 #[.val (.ref a1), .val (.double x2), .second, .val (.int b3)] [(.int b3), (.ref a1)])) rfl rfl (hb hby d3_11)
  have N24 := Fr.snoc X23 N16 g8
  have K25 : Keep h0 h23 [a1] := K17.wr W23 (Or.inl (List.mem_of_getElem? (i := 0) rfl))
  have E26 : Exa Z h23 a1 "com/example/flat_pager/flatpager/ScoreWindow$Bound" := Exa.wr W23 E18
  have F27 : Fld Z h23 a1 "com/example/flat_pager/flatpager/ScoreWindow$Bound" "score" "D" (.double x2) := Fld.other W23 F20 (Or.inr (slot_ne (Or.inr (hw _ (List.mem_of_getElem? (i := 25) rfl))) (Or.inr (hw _ (List.mem_of_getElem? (i := 27) rfl))) (by decide) (t := .double) (t' := .boolean) (by decide) (by decide)))
  have F28 : Fld Z h23 a1 "com/example/flat_pager/flatpager/ScoreWindow$Bound" "excluded" "Z" (.int b3) := Fld.same W23 F19
  have Z29 : n0 ≤ h23.size := by rw [W23.size]; exact Z21
  refine Go.of (g' := (mkF m 14 #[.val (.ref a1), .val (.double x2), .second, .val (.int b3)] [])) st23 ?_
  have A30 := (⟨X23, hx, hby⟩ : Ax _ _ _ _ _ _ _ _ _ _ _ _ _ _ _)
  exact g_retV (Q := Q3 Z a1 x2 b3 u0 u1 h0 n0) A30 d3_14 Bd.notSynchronized Bd.returns (by decide) (by decide) (by rw [e23]; exact ⟨rfl, N24, K25, F27, F28⟩)
theorem d6_0 : decode prog_51_method_1_code 0 = .ok (.aload_n 0, 1) := by decide +kernel
theorem d6_1 : decode prog_51_method_1_code 1 = .ok (.invokespecial 1, 3) := by decide +kernel
theorem d6_4 : decode prog_51_method_1_code 4 = .ok (.aload_n 0, 1) := by decide +kernel
theorem d6_5 : decode prog_51_method_1_code 5 = .ok (.aload_n 1, 1) := by decide +kernel
theorem d6_6 : decode prog_51_method_1_code 6 = .ok (.putfield 7, 3) := by decide +kernel
theorem d6_9 : decode prog_51_method_1_code 9 = .ok (.aload_n 0, 1) := by decide +kernel
theorem d6_10 : decode prog_51_method_1_code 10 = .ok (.aload_n 2, 1) := by decide +kernel
theorem d6_11 : decode prog_51_method_1_code 11 = .ok (.putfield 13, 3) := by decide +kernel
theorem d6_14 : decode prog_51_method_1_code 14 = .ok (.return_, 1) := by decide +kernel
theorem pn_2 : plainName "com/example/flat_pager/flatpager/ScoreWindow" = true := by first | (simp [plainName, overriddenIn]; done) | decide +kernel
theorem ef31 (m : MethodId) (a1 : Addr) (a2 : Addr) (a3 : Addr) (u0 : Value) (u1 : Value) : entryFrame m #[(.ref a1), (.ref a2), (.ref a3)] 3 = mkF m 0 #[.val (.ref a1), .val (.ref a2), .val (.ref a3)] [] := by first | (simp [entryFrame, mkF, argsToLocals, Value.category]; done) | rfl
def Q6 (Z : State) (a1 : Addr) (a2 : Addr) (a3 : Addr) (u0 : Value) (u1 : Value) (h0 : Heap) (n0 : Nat) (v : Option Value) (h : Heap) (L : List Loc) : Prop := v = none ∧ Fr n0 L ∧ Keep h0 h [a1] ∧ Fld Z h a1 "com/example/flat_pager/flatpager/ScoreWindow" "min" "Lcom/example/flat_pager/flatpager/ScoreWindow$Bound;" (.ref a2) ∧ Fld Z h a1 "com/example/flat_pager/flatpager/ScoreWindow" "max" "Lcom/example/flat_pager/flatpager/ScoreWindow$Bound;" (.ref a3)
set_option maxRecDepth 65536 in
set_option maxHeartbeats 40000000 in
theorem rm6 (l : Launch) (Z : State) (a0 : Array Value) (hw : ∀ d ∈ tables_1, d.before a0 Z = true) (ws : List Jvm.Cond) (a1 : Addr) (a2 : Addr) (a3 : Addr) (u0 : Value) (u1 : Value) (h0 : Heap) (n0 : Nat) (Z0 : n0 ≤ h0.size) (E32 : Exa Z h0 a1 "com/example/flat_pager/flatpager/ScoreWindow") (F33 : Fld Z h0 a1 "com/example/flat_pager/flatpager/ScoreWindow" "min" "Lcom/example/flat_pager/flatpager/ScoreWindow$Bound;" u0) (F34 : Fld Z h0 a1 "com/example/flat_pager/flatpager/ScoreWindow" "max" "Lcom/example/flat_pager/flatpager/ScoreWindow$Bound;" u1) (g35 : n0 ≤ a1) :
    MetFree l (⟨"com/example/flat_pager/flatpager/ScoreWindow", "<init>", "(Lcom/example/flat_pager/flatpager/ScoreWindow$Bound;Lcom/example/flat_pager/flatpager/ScoreWindow$Bound;)V"⟩ : MethodName) (head1 (Jvm.Cond.code (⟨"com/example/flat_pager/flatpager/ScoreWindow", "<init>", "(Lcom/example/flat_pager/flatpager/ScoreWindow$Bound;Lcom/example/flat_pager/flatpager/ScoreWindow$Bound;)V"⟩ : MethodName) prog_51_method_1_code 3 none :: ws) ({ frames := 2, cells := 0, slots := 0, locals := 24 } : Room)) (fun a U => a = #[(.ref a1), (.ref a2), (.ref a3)] ∧ Z.Warmed39 U.vm ∧ U.heap = h0) (fun _ _ _ _ _ => True) (fun _ U o U' => ∃ v L, o = .returned v ∧ Q6 Z a1 a2 a3 u0 u1 h0 n0 v U'.heap L ∧ FrameEnd U o U' L 0 0) := by
  refine MetFree.of_bodySF (plainFor_of_name pn_2) hisR ?_
  intro p e s m args below meth c s₁ Bd hml0 hP hK
  obtain ⟨rfl, hZ, hh⟩ := hP
  have hx := Bd.exec
  have hby := Bd.bytes
  have hml : c.maxLocals = 3 := hml0
  have hown : s.vm.findClass "com/example/flat_pager/flatpager/ScoreWindow" = some m.cls := findClass_of_methodNamed Bd.named
  have hnm := (name_of_methodNamed Bd.named Bd.method).1
  have X0 : Stand p l e ({ frames := 2, cells := 0, slots := 0, locals := 24 } : Room) s m #[(.ref a1), (.ref a2), (.ref a3)] below meth c s₁ [] 0 0 := Stand.of_body Bd
  have e0 : s₁.heap = h0 := by rw [← hh, Bd.state]; rfl
  have N0 := Fr.nil n0
  have A0 := (⟨X0, hx, hby⟩ : Ax _ _ _ _ _ _ _ _ _ _ _ _ _ _ _)
  show Go p e below (fun U o => ∃ v L, o = .returned v ∧ Q6 Z a1 a2 a3 u0 u1 h0 n0 v U.heap L ∧ FrameEnd s o U L 0 0) s₁ (entryFrame m #[(.ref a1), (.ref a2), (.ref a3)] 3)
  refine Go.cast (ef31 m a1 a2 a3 u0 u1) ?_
  refine g_aloadN A0 d6_0 rfl rfl (pc' := 1) rfl ?_
  obtain ⟨_, _, ⟨T36, L36, k36, n36⟩, -, X36, ⟨L36c, hQ36, l36, y36, z36⟩, st36⟩ := X0.specialBack hx (y := (⟨"java/lang/Record", "<init>", "()V"⟩ : MethodName)) rfl hown (mvT hZ (hw _ (List.mem_of_getElem? (i := 31) rfl))) (mvT hZ (hw _ (List.mem_of_getElem? (i := 17) rfl))) (mvT hZ (hw _ (List.mem_of_getElem? (i := 20) rfl))) (by decide) (backOf (W := 0) (rm4 l Z a0 hw [] a1 h0 n0 Z0 ) hZ (hw _ (List.mem_of_getElem? (i := 20) rfl)) (hw _ (List.mem_of_getElem? (i := 19) rfl)) (by decide) (by decide)) (g := (mkF m 1 #[.val (.ref a1), .val (.ref a2), .val (.ref a3)] [(.ref a1)])) rfl (by rw [hml]; rfl) (Steps.refl _) (a := a1) (argsL := []) (rest := []) (lenOf pd_0 rfl) rfl (by show 2 * 0 + _ ≤ _; exact Nat.le_of_eq rfl) (hb hby d6_1) (fun _ _ => ⟨rfl, e0, (by decide : 0 + 0 ≤ _), (by decide : 0 + 0 ≤ _)⟩)
  dsimp only [Pt.U, Pt.locs, Pt.cells, Pt.slots] at X36 l36 y36 z36 st36 hQ36
  subst l36 y36 z36
  obtain ⟨rfl, Nq37, Kq38⟩ := hQ36
  have N39 := Fr.app N0 Nq37
  refine Go.tr (g' := (mkF m 4 #[.val (.ref a1), .val (.ref a2), .val (.ref a3)] [])) st36 ?_
  have e40 : T36.heap = h0 := Kq38
  have A41 := (⟨X36, hx, hby⟩ : Ax _ _ _ _ _ _ _ _ _ _ _ _ _ _ _)
  refine g_aloadN A41 d6_4 rfl rfl (pc' := 5) rfl ?_
  refine g_aloadN A41 d6_5 rfl rfl (pc' := 6) rfl ?_
  obtain ⟨T42, h42, X42, e42, W42, st42⟩ := putF X36 hx hZ hown (host := "") (Or.inl (hw _ (List.mem_of_getElem? (i := 32) rfl))) Via.refl e40 F33 E32 (Or.inr ⟨(hw _ (List.mem_of_getElem? (i := 33) rfl)), rfl, hnm⟩) (hw _ (List.mem_of_getElem? (i := 5) rfl)) (ty := (.object "com/example/flat_pager/flatpager/ScoreWindow$Bound")) (by decide) rfl rfl (g := (mkF m 6 #[.val (.ref a1), .val (.ref a2), .val (.ref a3)] [(.ref a2), (.ref a1)])) rfl rfl (hb hby d6_6)
  have N43 := Fr.snoc X42 N39 g35
  have K44 : Keep h0 h42 [a1] := (Keep.refl h0 [a1]).wr W42 (Or.inl (List.mem_of_getElem? (i := 0) rfl))
  have E45 : Exa Z h42 a1 "com/example/flat_pager/flatpager/ScoreWindow" := Exa.wr W42 E32
  have F46 : Fld Z h42 a1 "com/example/flat_pager/flatpager/ScoreWindow" "max" "Lcom/example/flat_pager/flatpager/ScoreWindow$Bound;" u1 := Fld.other W42 F34 (Or.inr (slot_ne (Or.inr (hw _ (List.mem_of_getElem? (i := 35) rfl))) (Or.inr (hw _ (List.mem_of_getElem? (i := 33) rfl))) (by decide) (t := (.object "com/example/flat_pager/flatpager/ScoreWindow$Bound")) (t' := (.object "com/example/flat_pager/flatpager/ScoreWindow$Bound")) (by decide) (by decide)))
  have F47 : Fld Z h42 a1 "com/example/flat_pager/flatpager/ScoreWindow" "min" "Lcom/example/flat_pager/flatpager/ScoreWindow$Bound;" (.ref a2) := Fld.same W42 F33
  have Z48 : n0 ≤ h42.size := by rw [W42.size]; exact Z0
  refine Go.of (g' := (mkF m 9 #[.val (.ref a1), .val (.ref a2), .val (.ref a3)] [])) st42 ?_
  have A49 := (⟨X42, hx, hby⟩ : Ax _ _ _ _ _ _ _ _ _ _ _ _ _ _ _)
  refine g_aloadN A49 d6_9 rfl rfl (pc' := 10) rfl ?_
  refine g_aloadN A49 d6_10 rfl rfl (pc' := 11) rfl ?_
  obtain ⟨T50, h50, X50, e50, W50, st50⟩ := putF X42 hx hZ hown (host := "") (Or.inl (hw _ (List.mem_of_getElem? (i := 34) rfl))) Via.refl e42 F46 E45 (Or.inr ⟨(hw _ (List.mem_of_getElem? (i := 35) rfl)), rfl, hnm⟩) (hw _ (List.mem_of_getElem? (i := 5) rfl)) (ty := (.object "com/example/flat_pager/flatpager/ScoreWindow$Bound")) (by decide) rfl rfl (g := (mkF m 11 #[.val (.ref a1), .val (.ref a2), .val (.ref a3)] [(.ref a3), (.ref a1)])) rfl rfl (hb hby d6_11)
  have N51 := Fr.snoc X50 N43 g35
  have K52 : Keep h0 h50 [a1] := K44.wr W50 (Or.inl (List.mem_of_getElem? (i := 0) rfl))
  have E53 : Exa Z h50 a1 "com/example/flat_pager/flatpager/ScoreWindow" := Exa.wr W50 E45
  have F54 : Fld Z h50 a1 "com/example/flat_pager/flatpager/ScoreWindow" "min" "Lcom/example/flat_pager/flatpager/ScoreWindow$Bound;" (.ref a2) := Fld.other W50 F47 (Or.inr (slot_ne (Or.inr (hw _ (List.mem_of_getElem? (i := 33) rfl))) (Or.inr (hw _ (List.mem_of_getElem? (i := 35) rfl))) (by decide) (t := (.object "com/example/flat_pager/flatpager/ScoreWindow$Bound")) (t' := (.object "com/example/flat_pager/flatpager/ScoreWindow$Bound")) (by decide) (by decide)))
  have F55 : Fld Z h50 a1 "com/example/flat_pager/flatpager/ScoreWindow" "max" "Lcom/example/flat_pager/flatpager/ScoreWindow$Bound;" (.ref a3) := Fld.same W50 F46
  have Z56 : n0 ≤ h50.size := by rw [W50.size]; exact Z48
  refine Go.of (g' := (mkF m 14 #[.val (.ref a1), .val (.ref a2), .val (.ref a3)] [])) st50 ?_
  have A57 := (⟨X50, hx, hby⟩ : Ax _ _ _ _ _ _ _ _ _ _ _ _ _ _ _)
  exact g_retV (Q := Q6 Z a1 a2 a3 u0 u1 h0 n0) A57 d6_14 Bd.notSynchronized Bd.returns (by decide) (by decide) (by rw [e50]; exact ⟨rfl, N51, K52, F54, F55⟩)
theorem d8_0 : decode prog_52_method_7_code 0 = .ok (.aload_n 0, 1) := by decide +kernel
theorem d8_1 : decode prog_52_method_7_code 1 = .ok (.getfield 13, 3) := by decide +kernel
theorem d8_4 : decode prog_52_method_7_code 4 = .ok (.ireturn, 1) := by decide +kernel
theorem ef58 (m : MethodId) (a1 : Addr) (x2 : Int32) : entryFrame m #[(.ref a1)] 1 = mkF m 0 #[.val (.ref a1)] [] := by first | (simp [entryFrame, mkF, argsToLocals, Value.category]; done) | rfl
def Q8 (Z : State) (a1 : Addr) (x2 : Int32) (h0 : Heap) (n0 : Nat) (v : Option Value) (h : Heap) (L : List Loc) : Prop := v = some (.int x2) ∧ Fr n0 L ∧ h = h0
set_option maxRecDepth 65536 in
set_option maxHeartbeats 40000000 in
theorem rm8 (l : Launch) (Z : State) (a0 : Array Value) (hw : ∀ d ∈ tables_1, d.before a0 Z = true) (ws : List Jvm.Cond) (a1 : Addr) (x2 : Int32) (h0 : Heap) (n0 : Nat) (Z0 : n0 ≤ h0.size) (F59 : Fld Z h0 a1 "com/example/flat_pager/flatpager/ScoreWindow$Bound" "excluded" "Z" (.int x2)) (hb2 : narrow .boolean (.int x2) = .int x2) :
    MetFree l (⟨"com/example/flat_pager/flatpager/ScoreWindow$Bound", "excluded", "()Z"⟩ : MethodName) (head1 (Jvm.Cond.code (⟨"com/example/flat_pager/flatpager/ScoreWindow$Bound", "excluded", "()Z"⟩ : MethodName) prog_52_method_7_code 1 (some .boolean) :: ws) ({ frames := 0, cells := 0, slots := 0, locals := 0 } : Room)) (fun a U => a = #[(.ref a1)] ∧ Z.Warmed39 U.vm ∧ U.heap = h0) (fun _ _ _ _ _ => True) (fun _ U o U' => ∃ v L, o = .returned v ∧ Q8 Z a1 x2 h0 n0 v U'.heap L ∧ FrameEnd U o U' L 0 0) := by
  refine MetFree.of_bodySF (plainFor_of_name pn_1) hisR ?_
  intro p e s m args below meth c s₁ Bd hml0 hP hK
  obtain ⟨rfl, hZ, hh⟩ := hP
  have hx := Bd.exec
  have hby := Bd.bytes
  have hml : c.maxLocals = 1 := hml0
  have hown : s.vm.findClass "com/example/flat_pager/flatpager/ScoreWindow$Bound" = some m.cls := findClass_of_methodNamed Bd.named
  have hnm := (name_of_methodNamed Bd.named Bd.method).1
  have X0 : Stand p l e ({ frames := 0, cells := 0, slots := 0, locals := 0 } : Room) s m #[(.ref a1)] below meth c s₁ [] 0 0 := Stand.of_body Bd
  have e0 : s₁.heap = h0 := by rw [← hh, Bd.state]; rfl
  have N0 := Fr.nil n0
  have A0 := (⟨X0, hx, hby⟩ : Ax _ _ _ _ _ _ _ _ _ _ _ _ _ _ _)
  show Go p e below (fun U o => ∃ v L, o = .returned v ∧ Q8 Z a1 x2 h0 n0 v U.heap L ∧ FrameEnd s o U L 0 0) s₁ (entryFrame m #[(.ref a1)] 1)
  refine Go.cast (ef58 m a1 x2) ?_
  refine g_aloadN A0 d8_0 rfl rfl (pc' := 1) rfl ?_
  obtain ⟨T60, X60, e60, st60⟩ := getF X0 hx hZ hown (host := "") (Or.inl (hw _ (List.mem_of_getElem? (i := 26) rfl))) Via.refl e0 F59 (g := (mkF m 1 #[.val (.ref a1)] [(.ref a1)])) rfl rfl (hb hby d8_1)
  refine Go.of (g' := (mkF m 4 #[.val (.ref a1)] [(.int x2)])) st60 ?_
  have A61 := (⟨X60, hx, hby⟩ : Ax _ _ _ _ _ _ _ _ _ _ _ _ _ _ _)
  exact g_ret (Q := Q8 Z a1 x2 h0 n0) A61 d8_4 Bd.notSynchronized Bd.returns hb2 (Or.inl ⟨rfl, by simp, _, rfl⟩) (by decide) (by decide) (by rw [e60]; exact ⟨rfl, N0, rfl⟩)
theorem d9_0 : decode prog_52_method_6_code 0 = .ok (.aload_n 0, 1) := by decide +kernel
theorem d9_1 : decode prog_52_method_6_code 1 = .ok (.getfield 7, 3) := by decide +kernel
theorem d9_4 : decode prog_52_method_6_code 4 = .ok (.dreturn, 1) := by decide +kernel
theorem ef62 (m : MethodId) (a1 : Addr) (x2 : UInt64) : entryFrame m #[(.ref a1)] 1 = mkF m 0 #[.val (.ref a1)] [] := by first | (simp [entryFrame, mkF, argsToLocals, Value.category]; done) | rfl
def Q9 (Z : State) (a1 : Addr) (x2 : UInt64) (h0 : Heap) (n0 : Nat) (v : Option Value) (h : Heap) (L : List Loc) : Prop := v = some (.double x2) ∧ Fr n0 L ∧ h = h0
set_option maxRecDepth 65536 in
set_option maxHeartbeats 40000000 in
theorem rm9 (l : Launch) (Z : State) (a0 : Array Value) (hw : ∀ d ∈ tables_1, d.before a0 Z = true) (ws : List Jvm.Cond) (a1 : Addr) (x2 : UInt64) (h0 : Heap) (n0 : Nat) (Z0 : n0 ≤ h0.size) (F63 : Fld Z h0 a1 "com/example/flat_pager/flatpager/ScoreWindow$Bound" "score" "D" (.double x2)) :
    MetFree l (⟨"com/example/flat_pager/flatpager/ScoreWindow$Bound", "score", "()D"⟩ : MethodName) (head1 (Jvm.Cond.code (⟨"com/example/flat_pager/flatpager/ScoreWindow$Bound", "score", "()D"⟩ : MethodName) prog_52_method_6_code 1 (some .double) :: ws) ({ frames := 0, cells := 0, slots := 0, locals := 0 } : Room)) (fun a U => a = #[(.ref a1)] ∧ Z.Warmed39 U.vm ∧ U.heap = h0) (fun _ _ _ _ _ => True) (fun _ U o U' => ∃ v L, o = .returned v ∧ Q9 Z a1 x2 h0 n0 v U'.heap L ∧ FrameEnd U o U' L 0 0) := by
  refine MetFree.of_bodySF (plainFor_of_name pn_1) hisR ?_
  intro p e s m args below meth c s₁ Bd hml0 hP hK
  obtain ⟨rfl, hZ, hh⟩ := hP
  have hx := Bd.exec
  have hby := Bd.bytes
  have hml : c.maxLocals = 1 := hml0
  have hown : s.vm.findClass "com/example/flat_pager/flatpager/ScoreWindow$Bound" = some m.cls := findClass_of_methodNamed Bd.named
  have hnm := (name_of_methodNamed Bd.named Bd.method).1
  have X0 : Stand p l e ({ frames := 0, cells := 0, slots := 0, locals := 0 } : Room) s m #[(.ref a1)] below meth c s₁ [] 0 0 := Stand.of_body Bd
  have e0 : s₁.heap = h0 := by rw [← hh, Bd.state]; rfl
  have N0 := Fr.nil n0
  have A0 := (⟨X0, hx, hby⟩ : Ax _ _ _ _ _ _ _ _ _ _ _ _ _ _ _)
  show Go p e below (fun U o => ∃ v L, o = .returned v ∧ Q9 Z a1 x2 h0 n0 v U.heap L ∧ FrameEnd s o U L 0 0) s₁ (entryFrame m #[(.ref a1)] 1)
  refine Go.cast (ef62 m a1 x2) ?_
  refine g_aloadN A0 d9_0 rfl rfl (pc' := 1) rfl ?_
  obtain ⟨T64, X64, e64, st64⟩ := getF X0 hx hZ hown (host := "") (Or.inl (hw _ (List.mem_of_getElem? (i := 24) rfl))) Via.refl e0 F63 (g := (mkF m 1 #[.val (.ref a1)] [(.ref a1)])) rfl rfl (hb hby d9_1)
  refine Go.of (g' := (mkF m 4 #[.val (.ref a1)] [(.double x2)])) st64 ?_
  have A65 := (⟨X64, hx, hby⟩ : Ax _ _ _ _ _ _ _ _ _ _ _ _ _ _ _)
  exact g_ret (Q := Q9 Z a1 x2 h0 n0) A65 d9_4 Bd.notSynchronized Bd.returns rfl (Or.inr (Or.inr (Or.inl ⟨rfl, rfl, _, rfl⟩))) (by decide) (by decide) (by rw [e64]; exact ⟨rfl, N0, rfl⟩)
def own_r_rm7 (x2 : UInt64) (y4 : UInt64) (b5 : Int32) : Int32 := (if b5 = 0 then (if FP.dcmp x2 y4 = some .lt then (1 : Int32) else 0) else (if oLe (FP.dcmp x2 y4) then (1 : Int32) else 0))
theorem d7_0 : decode prog_51_method_3_code 0 = .ok (.aload_n 0, 1) := by decide +kernel
theorem d7_1 : decode prog_51_method_3_code 1 = .ok (.getfield 7, 3) := by decide +kernel
theorem d7_4 : decode prog_51_method_3_code 4 = .ok (.invokevirtual 25, 3) := by decide +kernel
theorem d7_7 : decode prog_51_method_3_code 7 = .ok (.ifCond .eq 23, 3) := by decide +kernel
theorem d7_10 : decode prog_51_method_3_code 10 = .ok (.dload_n 1, 1) := by decide +kernel
theorem d7_11 : decode prog_51_method_3_code 11 = .ok (.aload_n 0, 1) := by decide +kernel
theorem d7_12 : decode prog_51_method_3_code 12 = .ok (.getfield 7, 3) := by decide +kernel
theorem d7_15 : decode prog_51_method_3_code 15 = .ok (.invokevirtual 29, 3) := by decide +kernel
theorem d7_18 : decode prog_51_method_3_code 18 = .ok (.dcmp .g, 1) := by decide +kernel
theorem d7_19 : decode prog_51_method_3_code 19 = .ok (.ifCond .gt 7, 3) := by decide +kernel
theorem d7_22 : decode prog_51_method_3_code 22 = .ok (.iconst 1, 1) := by decide +kernel
theorem d7_23 : decode prog_51_method_3_code 23 = .ok (.goto 24, 3) := by decide +kernel
theorem d7_26 : decode prog_51_method_3_code 26 = .ok (.iconst 0, 1) := by decide +kernel
theorem d7_27 : decode prog_51_method_3_code 27 = .ok (.goto 20, 3) := by decide +kernel
theorem d7_30 : decode prog_51_method_3_code 30 = .ok (.dload_n 1, 1) := by decide +kernel
theorem d7_31 : decode prog_51_method_3_code 31 = .ok (.aload_n 0, 1) := by decide +kernel
theorem d7_32 : decode prog_51_method_3_code 32 = .ok (.getfield 7, 3) := by decide +kernel
theorem d7_35 : decode prog_51_method_3_code 35 = .ok (.invokevirtual 29, 3) := by decide +kernel
theorem d7_38 : decode prog_51_method_3_code 38 = .ok (.dcmp .g, 1) := by decide +kernel
theorem d7_39 : decode prog_51_method_3_code 39 = .ok (.ifCond .ge 7, 3) := by decide +kernel
theorem d7_42 : decode prog_51_method_3_code 42 = .ok (.iconst 1, 1) := by decide +kernel
theorem d7_43 : decode prog_51_method_3_code 43 = .ok (.goto 4, 3) := by decide +kernel
theorem d7_46 : decode prog_51_method_3_code 46 = .ok (.iconst 0, 1) := by decide +kernel
theorem d7_47 : decode prog_51_method_3_code 47 = .ok (.ireturn, 1) := by decide +kernel
theorem ef66 (m : MethodId) (a1 : Addr) (x2 : UInt64) (a3 : Addr) (y4 : UInt64) (b5 : Int32) : entryFrame m #[(.ref a1), (.double x2)] 3 = mkF m 0 #[.val (.ref a1), .val (.double x2), .second] [] := by first | (simp [entryFrame, mkF, argsToLocals, Value.category]; done) | rfl
def Q7 (Z : State) (a1 : Addr) (x2 : UInt64) (a3 : Addr) (y4 : UInt64) (b5 : Int32) (h0 : Heap) (n0 : Nat) (v : Option Value) (h : Heap) (L : List Loc) : Prop := v = some (.int (own_r_rm7 x2 y4 b5)) ∧ Fr n0 L ∧ h = h0
theorem pd_1 : parseMethodDescriptor "()Z" = some ⟨[], some .boolean⟩ := by decide +kernel
theorem pd_2 : parseMethodDescriptor "()D" = some ⟨[], some .double⟩ := by decide +kernel
set_option maxRecDepth 65536 in
set_option maxHeartbeats 40000000 in
theorem rm7 (l : Launch) (Z : State) (a0 : Array Value) (hw : ∀ d ∈ tables_1, d.before a0 Z = true) (ws : List Jvm.Cond) (a1 : Addr) (x2 : UInt64) (a3 : Addr) (y4 : UInt64) (b5 : Int32) (h0 : Heap) (n0 : Nat) (Z0 : n0 ≤ h0.size) (F67 : Fld Z h0 a1 "com/example/flat_pager/flatpager/ScoreWindow" "min" "Lcom/example/flat_pager/flatpager/ScoreWindow$Bound;" (.ref a3)) (E68 : Exa Z h0 a3 "com/example/flat_pager/flatpager/ScoreWindow$Bound") (F69 : Fld Z h0 a3 "com/example/flat_pager/flatpager/ScoreWindow$Bound" "score" "D" (.double y4)) (F70 : Fld Z h0 a3 "com/example/flat_pager/flatpager/ScoreWindow$Bound" "excluded" "Z" (.int b5)) (hb5 : narrow .boolean (.int b5) = .int b5) :
    MetFree l (⟨"com/example/flat_pager/flatpager/ScoreWindow", "isBefore", "(D)Z"⟩ : MethodName) (head1 (Jvm.Cond.code (⟨"com/example/flat_pager/flatpager/ScoreWindow", "isBefore", "(D)Z"⟩ : MethodName) prog_51_method_3_code 3 (some .boolean) :: ws) ({ frames := 1, cells := 0, slots := 0, locals := 14 } : Room)) (fun a U => a = #[(.ref a1), (.double x2)] ∧ Z.Warmed39 U.vm ∧ U.heap = h0) (fun _ _ _ _ _ => True) (fun _ U o U' => ∃ v L, o = .returned v ∧ Q7 Z a1 x2 a3 y4 b5 h0 n0 v U'.heap L ∧ FrameEnd U o U' L 0 0) := by
  refine MetFree.of_bodySF (plainFor_of_name pn_2) hisR ?_
  intro p e s m args below meth c s₁ Bd hml0 hP hK
  obtain ⟨rfl, hZ, hh⟩ := hP
  have hx := Bd.exec
  have hby := Bd.bytes
  have hml : c.maxLocals = 3 := hml0
  have hown : s.vm.findClass "com/example/flat_pager/flatpager/ScoreWindow" = some m.cls := findClass_of_methodNamed Bd.named
  have hnm := (name_of_methodNamed Bd.named Bd.method).1
  have X0 : Stand p l e ({ frames := 1, cells := 0, slots := 0, locals := 14 } : Room) s m #[(.ref a1), (.double x2)] below meth c s₁ [] 0 0 := Stand.of_body Bd
  have e0 : s₁.heap = h0 := by rw [← hh, Bd.state]; rfl
  have N0 := Fr.nil n0
  have A0 := (⟨X0, hx, hby⟩ : Ax _ _ _ _ _ _ _ _ _ _ _ _ _ _ _)
  show Go p e below (fun U o => ∃ v L, o = .returned v ∧ Q7 Z a1 x2 a3 y4 b5 h0 n0 v U.heap L ∧ FrameEnd s o U L 0 0) s₁ (entryFrame m #[(.ref a1), (.double x2)] 3)
  refine Go.cast (ef66 m a1 x2 a3 y4 b5) ?_
  refine g_aloadN A0 d7_0 rfl rfl (pc' := 1) rfl ?_
  obtain ⟨T71, X71, e71, st71⟩ := getF X0 hx hZ hown (host := "") (Or.inl (hw _ (List.mem_of_getElem? (i := 32) rfl))) Via.refl e0 F67 (g := (mkF m 1 #[.val (.ref a1), .val (.double x2), .second] [(.ref a1)])) rfl rfl (hb hby d7_1)
  refine Go.of (g' := (mkF m 4 #[.val (.ref a1), .val (.double x2), .second] [(.ref a3)])) st71 ?_
  have A72 := (⟨X71, hx, hby⟩ : Ax _ _ _ _ _ _ _ _ _ _ _ _ _ _ _)
  obtain ⟨cq74, kq74, q74a, q74b, q74c⟩ := isOf hZ e71 E68
  obtain ⟨_, _, ⟨T73, L73, k73, n73⟩, -, X73, ⟨L73c, hQ73, l73, y73, z73⟩, st73⟩ := X71.virtualBack hx (y := (⟨"com/example/flat_pager/flatpager/ScoreWindow$Bound", "excluded", "()Z"⟩ : MethodName)) (z := (⟨"com/example/flat_pager/flatpager/ScoreWindow$Bound", "excluded", "()Z"⟩ : MethodName)) hown (mvT hZ (hw _ (List.mem_of_getElem? (i := 42) rfl))) (mvT hZ (hw _ (List.mem_of_getElem? (i := 43) rfl))) (notFace_of_selects (args := #[]) (mvT hZ (hw _ (List.mem_of_getElem? (i := 45) rfl)))) (mvT hZ (hw _ (List.mem_of_getElem? (i := 45) rfl))) (mvT hZ (hw _ (List.mem_of_getElem? (i := 44) rfl))) (by decide) (backOf (W := 0) (rm8 l Z a0 hw [] a3 b5 h0 n0 Z0 F70 hb5) hZ (hw _ (List.mem_of_getElem? (i := 46) rfl)) (hw _ (List.mem_of_getElem? (i := 9) rfl)) (by decide) (by decide)) q74a q74c (g := (mkF m 4 #[.val (.ref a1), .val (.double x2), .second] [(.ref a3)])) rfl (by rw [hml]; rfl) (Steps.refl _) (argsL := []) (rest := []) (lenOf pd_1 rfl) rfl (by show 2 * 0 + _ ≤ _; exact Nat.le_of_eq rfl) (hb hby d7_4) (fun _ _ => ⟨rfl, e71, (by decide : 0 + 0 ≤ _), (by decide : 0 + 0 ≤ _)⟩)
  dsimp only [Pt.U, Pt.locs, Pt.cells, Pt.slots] at X73 l73 y73 z73 st73 hQ73
  subst l73 y73 z73
  obtain ⟨rfl, Nq75, Kq76⟩ := hQ73
  have N77 := Fr.app N0 Nq75
  refine Go.tr (g' := (mkF m 7 #[.val (.ref a1), .val (.double x2), .second] [(.int b5)])) st73 ?_
  have e78 : T73.heap = h0 := Kq76
  have A79 := (⟨X73, hx, hby⟩ : Ax _ _ _ _ _ _ _ _ _ _ _ _ _ _ _)
  by_cases hc80 : b5 = 0
  · skip
    refine g_ifY A79 d7_7 (c0_eq_t hc80) (pc' := 30) rfl ?_
    refine g_dloadN A79 d7_30 rfl (pc' := 31) rfl ?_
    refine g_aloadN A79 d7_31 rfl rfl (pc' := 32) rfl ?_
    obtain ⟨T81, X81, e81, st81⟩ := getF X73 hx hZ hown (host := "") (Or.inl (hw _ (List.mem_of_getElem? (i := 32) rfl))) Via.refl e78 F67 (g := (mkF m 32 #[.val (.ref a1), .val (.double x2), .second] [(.ref a1), (.double x2)])) rfl rfl (hb hby d7_32)
    refine Go.of (g' := (mkF m 35 #[.val (.ref a1), .val (.double x2), .second] [(.ref a3), (.double x2)])) st81 ?_
    have A82 := (⟨X81, hx, hby⟩ : Ax _ _ _ _ _ _ _ _ _ _ _ _ _ _ _)
    obtain ⟨cq84, kq84, q84a, q84b, q84c⟩ := isOf hZ e81 E68
    obtain ⟨_, _, ⟨T83, L83, k83, n83⟩, -, X83, ⟨L83c, hQ83, l83, y83, z83⟩, st83⟩ := X81.virtualBack hx (y := (⟨"com/example/flat_pager/flatpager/ScoreWindow$Bound", "score", "()D"⟩ : MethodName)) (z := (⟨"com/example/flat_pager/flatpager/ScoreWindow$Bound", "score", "()D"⟩ : MethodName)) hown (mvT hZ (hw _ (List.mem_of_getElem? (i := 47) rfl))) (mvT hZ (hw _ (List.mem_of_getElem? (i := 48) rfl))) (notFace_of_selects (args := #[]) (mvT hZ (hw _ (List.mem_of_getElem? (i := 50) rfl)))) (mvT hZ (hw _ (List.mem_of_getElem? (i := 50) rfl))) (mvT hZ (hw _ (List.mem_of_getElem? (i := 49) rfl))) (by decide) (backOf (W := 2) (rm9 l Z a0 hw [] a3 y4 h0 n0 Z0 F69) hZ (hw _ (List.mem_of_getElem? (i := 51) rfl)) (hw _ (List.mem_of_getElem? (i := 9) rfl)) (by decide) (by decide)) q84a q84c (g := (mkF m 35 #[.val (.ref a1), .val (.double x2), .second] [(.ref a3), (.double x2)])) rfl (by rw [hml]; rfl) (Steps.refl _) (argsL := []) (rest := [(.double x2)]) (lenOf pd_2 rfl) rfl (by show 2 * 0 + _ ≤ _; exact Nat.le_of_eq rfl) (hb hby d7_35) (fun _ _ => ⟨rfl, e81, (by decide : 0 + 0 ≤ _), (by decide : 0 + 0 ≤ _)⟩)
    dsimp only [Pt.U, Pt.locs, Pt.cells, Pt.slots] at X83 l83 y83 z83 st83 hQ83
    subst l83 y83 z83
    obtain ⟨rfl, Nq85, Kq86⟩ := hQ83
    have N87 := Fr.app N77 Nq85
    refine Go.tr (g' := (mkF m 38 #[.val (.ref a1), .val (.double x2), .second] [(.double y4), (.double x2)])) st83 ?_
    have e88 : T83.heap = h0 := Kq86
    have A89 := (⟨X83, hx, hby⟩ : Ax _ _ _ _ _ _ _ _ _ _ _ _ _ _ _)
    refine g_dcmp A89 d7_38 (pc' := 39) rfl ?_
    obtain ⟨v90, hv90⟩ : ∃ z : Int32, z = if FP.dcmp x2 y4 = some .lt then (1 : Int32) else 0 := ⟨_, rfl⟩
    have sg91 : ∀ {P : State → Outcome → Prop}, Go p e below P T83 (mkF m 47 #[.val (.ref a1), .val (.double x2), .second] [(.int v90)]) → Go p e below P T83 (mkF m 39 #[.val (.ref a1), .val (.double x2), .second] [(.int (cmpValue (FP.dcmp x2 y4) .g))]) := by
      intro P hr
      by_cases c92 : FP.dcmp x2 y4 = some .lt
      · skip
        refine g_ifN A89 d7_39 (d_g_ge_f c92) (pc' := 42) rfl ?_
        refine g_iconst A89 d7_42 (v := (1 : Int32)) rfl (pc' := 43) rfl ?_
        refine g_goto A89 d7_43 (pc' := 47) rfl ?_
        obtain rfl : v90 = (1 : Int32) := hv90.trans (if_pos c92)
        exact hr
      · skip
        refine g_ifY A89 d7_39 (d_g_ge_t c92) (pc' := 46) rfl ?_
        refine g_iconst A89 d7_46 (v := (0 : Int32)) rfl (pc' := 47) rfl ?_
        obtain rfl : v90 = (0 : Int32) := hv90.trans (if_neg c92)
        exact hr
    refine sg91 ?_
    exact g_ret (Q := Q7 Z a1 x2 a3 y4 b5 h0 n0) A89 d7_47 Bd.notSynchronized Bd.returns (own_b01 hv90) (Or.inl ⟨rfl, by simp, _, rfl⟩) (by decide) (by decide) (by rw [e88]; exact ⟨(congrArg (fun z => some (Value.int z)) (by rw [hv90, own_r_rm7, if_pos hc80])), N87, rfl⟩)
  · skip
    refine g_ifN A79 d7_7 (c0_eq_f hc80) (pc' := 10) rfl ?_
    refine g_dloadN A79 d7_10 rfl (pc' := 11) rfl ?_
    refine g_aloadN A79 d7_11 rfl rfl (pc' := 12) rfl ?_
    obtain ⟨T93, X93, e93, st93⟩ := getF X73 hx hZ hown (host := "") (Or.inl (hw _ (List.mem_of_getElem? (i := 32) rfl))) Via.refl e78 F67 (g := (mkF m 12 #[.val (.ref a1), .val (.double x2), .second] [(.ref a1), (.double x2)])) rfl rfl (hb hby d7_12)
    refine Go.of (g' := (mkF m 15 #[.val (.ref a1), .val (.double x2), .second] [(.ref a3), (.double x2)])) st93 ?_
    have A94 := (⟨X93, hx, hby⟩ : Ax _ _ _ _ _ _ _ _ _ _ _ _ _ _ _)
    obtain ⟨cq96, kq96, q96a, q96b, q96c⟩ := isOf hZ e93 E68
    obtain ⟨_, _, ⟨T95, L95, k95, n95⟩, -, X95, ⟨L95c, hQ95, l95, y95, z95⟩, st95⟩ := X93.virtualBack hx (y := (⟨"com/example/flat_pager/flatpager/ScoreWindow$Bound", "score", "()D"⟩ : MethodName)) (z := (⟨"com/example/flat_pager/flatpager/ScoreWindow$Bound", "score", "()D"⟩ : MethodName)) hown (mvT hZ (hw _ (List.mem_of_getElem? (i := 47) rfl))) (mvT hZ (hw _ (List.mem_of_getElem? (i := 48) rfl))) (notFace_of_selects (args := #[]) (mvT hZ (hw _ (List.mem_of_getElem? (i := 50) rfl)))) (mvT hZ (hw _ (List.mem_of_getElem? (i := 50) rfl))) (mvT hZ (hw _ (List.mem_of_getElem? (i := 49) rfl))) (by decide) (backOf (W := 2) (rm9 l Z a0 hw [] a3 y4 h0 n0 Z0 F69) hZ (hw _ (List.mem_of_getElem? (i := 51) rfl)) (hw _ (List.mem_of_getElem? (i := 9) rfl)) (by decide) (by decide)) q96a q96c (g := (mkF m 15 #[.val (.ref a1), .val (.double x2), .second] [(.ref a3), (.double x2)])) rfl (by rw [hml]; rfl) (Steps.refl _) (argsL := []) (rest := [(.double x2)]) (lenOf pd_2 rfl) rfl (by show 2 * 0 + _ ≤ _; exact Nat.le_of_eq rfl) (hb hby d7_15) (fun _ _ => ⟨rfl, e93, (by decide : 0 + 0 ≤ _), (by decide : 0 + 0 ≤ _)⟩)
    dsimp only [Pt.U, Pt.locs, Pt.cells, Pt.slots] at X95 l95 y95 z95 st95 hQ95
    subst l95 y95 z95
    obtain ⟨rfl, Nq97, Kq98⟩ := hQ95
    have N99 := Fr.app N77 Nq97
    refine Go.tr (g' := (mkF m 18 #[.val (.ref a1), .val (.double x2), .second] [(.double y4), (.double x2)])) st95 ?_
    have e100 : T95.heap = h0 := Kq98
    have A101 := (⟨X95, hx, hby⟩ : Ax _ _ _ _ _ _ _ _ _ _ _ _ _ _ _)
    refine g_dcmp A101 d7_18 (pc' := 19) rfl ?_
    obtain ⟨v102, hv102⟩ : ∃ z : Int32, z = if oLe (FP.dcmp x2 y4) then (1 : Int32) else 0 := ⟨_, rfl⟩
    have sg103 : ∀ {P : State → Outcome → Prop}, Go p e below P T95 (mkF m 47 #[.val (.ref a1), .val (.double x2), .second] [(.int v102)]) → Go p e below P T95 (mkF m 19 #[.val (.ref a1), .val (.double x2), .second] [(.int (cmpValue (FP.dcmp x2 y4) .g))]) := by
      intro P hr
      by_cases c104 : oLe (FP.dcmp x2 y4)
      · skip
        refine g_ifN A101 d7_19 (d_g_gt_f c104) (pc' := 22) rfl ?_
        refine g_iconst A101 d7_22 (v := (1 : Int32)) rfl (pc' := 23) rfl ?_
        refine g_goto A101 d7_23 (pc' := 47) rfl ?_
        obtain rfl : v102 = (1 : Int32) := hv102.trans (if_pos c104)
        exact hr
      · skip
        refine g_ifY A101 d7_19 (d_g_gt_t c104) (pc' := 26) rfl ?_
        refine g_iconst A101 d7_26 (v := (0 : Int32)) rfl (pc' := 27) rfl ?_
        refine g_goto A101 d7_27 (pc' := 47) rfl ?_
        obtain rfl : v102 = (0 : Int32) := hv102.trans (if_neg c104)
        exact hr
    refine sg103 ?_
    exact g_ret (Q := Q7 Z a1 x2 a3 y4 b5 h0 n0) A101 d7_47 Bd.notSynchronized Bd.returns (own_b01 hv102) (Or.inl ⟨rfl, by simp, _, rfl⟩) (by decide) (by decide) (by rw [e100]; exact ⟨(congrArg (fun z => some (Value.int z)) (by rw [hv102, own_r_rm7, if_neg hc80])), N99, rfl⟩)
theorem own_cmp (s m : Int32) : FP.dcmp (FP.i2d s) (FP.i2d m) = some (compare s.toInt m.toInt) := FP.Core.dcmp_int (FP.Core.i2d_int s) (FP.Core.i2d_int m)
theorem own_ii {P Q : Prop} [Decidable P] [Decidable Q] (h : P ↔ Q) : (if P then (1 : Int32) else 0) = if Q then 1 else 0 := by
  by_cases p : P
  · rw [if_pos p, if_pos (h.mp p)]
  · rw [if_neg p, if_neg (fun q => p (h.mpr q))]
def own_r_rm1 (q0 : Int32) (q1 : Int32) : Int32 := (if q0 = (1 : Int32) then (-100 : Int32) else (if q0 = (2 : Int32) then (100 : Int32) else (q1 % (16 : Int32))))
theorem d1_0 : decode method_2_code 0 = .ok (.iload_n 0, 1) := by decide +kernel
theorem d1_1 : decode method_2_code 1 = .ok (.iconst 1, 1) := by decide +kernel
theorem d1_2 : decode method_2_code 2 = .ok (.if_icmp .ne 6, 3) := by decide +kernel
theorem d1_5 : decode method_2_code 5 = .ok (.bipush (-100), 2) := by decide +kernel
theorem d1_7 : decode method_2_code 7 = .ok (.ireturn, 1) := by decide +kernel
theorem d1_8 : decode method_2_code 8 = .ok (.iload_n 0, 1) := by decide +kernel
theorem d1_9 : decode method_2_code 9 = .ok (.iconst 2, 1) := by decide +kernel
theorem d1_10 : decode method_2_code 10 = .ok (.if_icmp .ne 6, 3) := by decide +kernel
theorem d1_13 : decode method_2_code 13 = .ok (.bipush 100, 2) := by decide +kernel
theorem d1_15 : decode method_2_code 15 = .ok (.ireturn, 1) := by decide +kernel
theorem d1_16 : decode method_2_code 16 = .ok (.iload_n 1, 1) := by decide +kernel
theorem d1_17 : decode method_2_code 17 = .ok (.bipush 16, 2) := by decide +kernel
theorem d1_19 : decode method_2_code 19 = .ok (.irem, 1) := by decide +kernel
theorem d1_20 : decode method_2_code 20 = .ok (.ireturn, 1) := by decide +kernel
theorem pn_3 : plainName "com/example/flat_pager/flatpager/ScoreWindowIsBeforePinLaw" = true := by first | (simp [plainName, overriddenIn]; done) | decide +kernel
theorem ef105 (m : MethodId) (q0 : Int32) (q1 : Int32) : entryFrame m #[(.int q0), (.int q1)] 2 = mkF m 0 #[.val (.int q0), .val (.int q1)] [] := by first | (simp [entryFrame, mkF, argsToLocals, Value.category]; done) | rfl
def Q1 (Z : State) (q0 : Int32) (q1 : Int32) (h0 : Heap) (n0 : Nat) (v : Option Value) (h : Heap) (L : List Loc) : Prop := v = some (.int (own_r_rm1 q0 q1)) ∧ Fr n0 L ∧ h = h0
set_option maxRecDepth 65536 in
set_option maxHeartbeats 40000000 in
theorem rm1 (l : Launch) (Z : State) (a0 : Array Value) (hw : ∀ d ∈ tables_1, d.before a0 Z = true) (ws : List Jvm.Cond) (q0 : Int32) (q1 : Int32) (h0 : Heap) (n0 : Nat) (Z0 : n0 ≤ h0.size)  :
    MetFree l (⟨"com/example/flat_pager/flatpager/ScoreWindowIsBeforePinLaw", "rank", "(II)I"⟩ : MethodName) (head1 (Jvm.Cond.code (⟨"com/example/flat_pager/flatpager/ScoreWindowIsBeforePinLaw", "rank", "(II)I"⟩ : MethodName) method_2_code 2 (some .int) :: ws) ({ frames := 0, cells := 0, slots := 0, locals := 0 } : Room)) (fun a U => a = #[(.int q0), (.int q1)] ∧ Z.Warmed39 U.vm ∧ U.heap = h0) (fun _ _ _ _ _ => True) (fun _ U o U' => ∃ v L, o = .returned v ∧ Q1 Z q0 q1 h0 n0 v U'.heap L ∧ FrameEnd U o U' L 0 0) := by
  refine MetFree.of_bodySF (plainFor_of_name pn_3) hisR ?_
  intro p e s m args below meth c s₁ Bd hml0 hP hK
  obtain ⟨rfl, hZ, hh⟩ := hP
  have hx := Bd.exec
  have hby := Bd.bytes
  have hml : c.maxLocals = 2 := hml0
  have hown : s.vm.findClass "com/example/flat_pager/flatpager/ScoreWindowIsBeforePinLaw" = some m.cls := findClass_of_methodNamed Bd.named
  have hnm := (name_of_methodNamed Bd.named Bd.method).1
  have X0 : Stand p l e ({ frames := 0, cells := 0, slots := 0, locals := 0 } : Room) s m #[(.int q0), (.int q1)] below meth c s₁ [] 0 0 := Stand.of_body Bd
  have e0 : s₁.heap = h0 := by rw [← hh, Bd.state]; rfl
  have N0 := Fr.nil n0
  have A0 := (⟨X0, hx, hby⟩ : Ax _ _ _ _ _ _ _ _ _ _ _ _ _ _ _)
  show Go p e below (fun U o => ∃ v L, o = .returned v ∧ Q1 Z q0 q1 h0 n0 v U.heap L ∧ FrameEnd s o U L 0 0) s₁ (entryFrame m #[(.int q0), (.int q1)] 2)
  refine Go.cast (ef105 m q0 q1) ?_
  refine g_iloadN A0 d1_0 rfl (pc' := 1) rfl ?_
  refine g_iconst A0 d1_1 (v := (1 : Int32)) rfl (pc' := 2) rfl ?_
  by_cases hc106 : q0 = (1 : Int32)
  · skip
    refine g_icN A0 d1_2 (c2_ne_f hc106) (pc' := 5) rfl ?_
    refine g_bipush A0 d1_5 (v := (-100 : Int32)) rfl (pc' := 7) rfl ?_
    exact g_ret (Q := Q1 Z q0 q1 h0 n0) A0 d1_7 Bd.notSynchronized Bd.returns rfl (Or.inl ⟨rfl, by simp, _, rfl⟩) (by decide) (by decide) (by rw [e0]; exact ⟨(congrArg (fun z => some (Value.int z)) (by rw [own_r_rm1, if_pos hc106])), N0, rfl⟩)
  · skip
    refine g_icY A0 d1_2 (c2_ne_t hc106) (pc' := 8) rfl ?_
    refine g_iloadN A0 d1_8 rfl (pc' := 9) rfl ?_
    refine g_iconst A0 d1_9 (v := (2 : Int32)) rfl (pc' := 10) rfl ?_
    by_cases hc107 : q0 = (2 : Int32)
    · skip
      refine g_icN A0 d1_10 (c2_ne_f hc107) (pc' := 13) rfl ?_
      refine g_bipush A0 d1_13 (v := (100 : Int32)) rfl (pc' := 15) rfl ?_
      exact g_ret (Q := Q1 Z q0 q1 h0 n0) A0 d1_15 Bd.notSynchronized Bd.returns rfl (Or.inl ⟨rfl, by simp, _, rfl⟩) (by decide) (by decide) (by rw [e0]; exact ⟨(congrArg (fun z => some (Value.int z)) (by rw [own_r_rm1, if_neg hc106, if_pos hc107])), N0, rfl⟩)
    · skip
      refine g_icY A0 d1_10 (c2_ne_t hc107) (pc' := 16) rfl ?_
      refine g_iloadN A0 d1_16 rfl (pc' := 17) rfl ?_
      refine g_bipush A0 d1_17 (v := (16 : Int32)) rfl (pc' := 19) rfl ?_
      refine g_irem A0 d1_19 (by decide) (pc' := 20) rfl ?_
      exact g_ret (Q := Q1 Z q0 q1 h0 n0) A0 d1_20 Bd.notSynchronized Bd.returns rfl (Or.inl ⟨rfl, by simp, _, rfl⟩) (by decide) (by decide) (by rw [e0]; exact ⟨(congrArg (fun z => some (Value.int z)) (by rw [own_r_rm1, if_neg hc106, if_neg hc107])), N0, rfl⟩)
def own_r_rm2 (q0 : Int32) : UInt64 := (if q0 = (-100 : Int32) then (18442240474082181120 : UInt64) else (if q0 = (100 : Int32) then (9218868437227405312 : UInt64) else (FP.i2d q0)))
theorem d2_0 : decode method_3_code 0 = .ok (.iload_n 0, 1) := by decide +kernel
theorem d2_1 : decode method_3_code 1 = .ok (.bipush (-100), 2) := by decide +kernel
theorem d2_3 : decode method_3_code 3 = .ok (.if_icmp .ne 7, 3) := by decide +kernel
theorem d2_6 : decode method_3_code 6 = .ok (.ldc2_w 7, 3) := by decide +kernel
theorem d2_9 : decode method_3_code 9 = .ok (.dreturn, 1) := by decide +kernel
theorem d2_10 : decode method_3_code 10 = .ok (.iload_n 0, 1) := by decide +kernel
theorem d2_11 : decode method_3_code 11 = .ok (.bipush 100, 2) := by decide +kernel
theorem d2_13 : decode method_3_code 13 = .ok (.if_icmp .ne 7, 3) := by decide +kernel
theorem d2_16 : decode method_3_code 16 = .ok (.ldc2_w 9, 3) := by decide +kernel
theorem d2_19 : decode method_3_code 19 = .ok (.dreturn, 1) := by decide +kernel
theorem d2_20 : decode method_3_code 20 = .ok (.iload_n 0, 1) := by decide +kernel
theorem d2_21 : decode method_3_code 21 = .ok (.i2d, 1) := by decide +kernel
theorem d2_22 : decode method_3_code 22 = .ok (.dreturn, 1) := by decide +kernel
theorem ef108 (m : MethodId) (q0 : Int32) : entryFrame m #[(.int q0)] 1 = mkF m 0 #[.val (.int q0)] [] := by first | (simp [entryFrame, mkF, argsToLocals, Value.category]; done) | rfl
def Q2 (Z : State) (q0 : Int32) (h0 : Heap) (n0 : Nat) (v : Option Value) (h : Heap) (L : List Loc) : Prop := v = some (.double (own_r_rm2 q0)) ∧ Fr n0 L ∧ h = h0
set_option maxRecDepth 65536 in
set_option maxHeartbeats 40000000 in
theorem rm2 (l : Launch) (Z : State) (a0 : Array Value) (hw : ∀ d ∈ tables_1, d.before a0 Z = true) (ws : List Jvm.Cond) (q0 : Int32) (h0 : Heap) (n0 : Nat) (Z0 : n0 ≤ h0.size)  :
    MetFree l (⟨"com/example/flat_pager/flatpager/ScoreWindowIsBeforePinLaw", "toDouble", "(I)D"⟩ : MethodName) (head1 (Jvm.Cond.code (⟨"com/example/flat_pager/flatpager/ScoreWindowIsBeforePinLaw", "toDouble", "(I)D"⟩ : MethodName) method_3_code 1 (some .double) :: ws) ({ frames := 0, cells := 0, slots := 0, locals := 0 } : Room)) (fun a U => a = #[(.int q0)] ∧ Z.Warmed39 U.vm ∧ U.heap = h0) (fun _ _ _ _ _ => True) (fun _ U o U' => ∃ v L, o = .returned v ∧ Q2 Z q0 h0 n0 v U'.heap L ∧ FrameEnd U o U' L 0 0) := by
  refine MetFree.of_bodySF (plainFor_of_name pn_3) hisR ?_
  intro p e s m args below meth c s₁ Bd hml0 hP hK
  obtain ⟨rfl, hZ, hh⟩ := hP
  have hx := Bd.exec
  have hby := Bd.bytes
  have hml : c.maxLocals = 1 := hml0
  have hown : s.vm.findClass "com/example/flat_pager/flatpager/ScoreWindowIsBeforePinLaw" = some m.cls := findClass_of_methodNamed Bd.named
  have hnm := (name_of_methodNamed Bd.named Bd.method).1
  have X0 : Stand p l e ({ frames := 0, cells := 0, slots := 0, locals := 0 } : Room) s m #[(.int q0)] below meth c s₁ [] 0 0 := Stand.of_body Bd
  have e0 : s₁.heap = h0 := by rw [← hh, Bd.state]; rfl
  have N0 := Fr.nil n0
  have A0 := (⟨X0, hx, hby⟩ : Ax _ _ _ _ _ _ _ _ _ _ _ _ _ _ _)
  show Go p e below (fun U o => ∃ v L, o = .returned v ∧ Q2 Z q0 h0 n0 v U.heap L ∧ FrameEnd s o U L 0 0) s₁ (entryFrame m #[(.int q0)] 1)
  refine Go.cast (ef108 m q0) ?_
  refine g_iloadN A0 d2_0 rfl (pc' := 1) rfl ?_
  refine g_bipush A0 d2_1 (v := (-100 : Int32)) rfl (pc' := 3) rfl ?_
  by_cases hc109 : q0 = (-100 : Int32)
  · skip
    refine g_icN A0 d2_3 (c2_ne_f hc109) (pc' := 6) rfl ?_
    refine g_ldcD A0 hZ hown (hw _ (List.mem_of_getElem? (i := 36) rfl)) d2_6 (pc' := 9) rfl ?_
    exact g_ret (Q := Q2 Z q0 h0 n0) A0 d2_9 Bd.notSynchronized Bd.returns rfl (Or.inr (Or.inr (Or.inl ⟨rfl, rfl, _, rfl⟩))) (by decide) (by decide) (by rw [e0]; exact ⟨(congrArg (fun z => some (Value.double z)) (by rw [own_r_rm2, if_pos hc109])), N0, rfl⟩)
  · skip
    refine g_icY A0 d2_3 (c2_ne_t hc109) (pc' := 10) rfl ?_
    refine g_iloadN A0 d2_10 rfl (pc' := 11) rfl ?_
    refine g_bipush A0 d2_11 (v := (100 : Int32)) rfl (pc' := 13) rfl ?_
    by_cases hc110 : q0 = (100 : Int32)
    · skip
      refine g_icN A0 d2_13 (c2_ne_f hc110) (pc' := 16) rfl ?_
      refine g_ldcD A0 hZ hown (hw _ (List.mem_of_getElem? (i := 52) rfl)) d2_16 (pc' := 19) rfl ?_
      exact g_ret (Q := Q2 Z q0 h0 n0) A0 d2_19 Bd.notSynchronized Bd.returns rfl (Or.inr (Or.inr (Or.inl ⟨rfl, rfl, _, rfl⟩))) (by decide) (by decide) (by rw [e0]; exact ⟨(congrArg (fun z => some (Value.double z)) (by rw [own_r_rm2, if_neg hc109, if_pos hc110])), N0, rfl⟩)
    · skip
      refine g_icY A0 d2_13 (c2_ne_t hc110) (pc' := 20) rfl ?_
      refine g_iloadN A0 d2_20 rfl (pc' := 21) rfl ?_
      refine g_i2d A0 d2_21 (pc' := 22) rfl ?_
      exact g_ret (Q := Q2 Z q0 h0 n0) A0 d2_22 Bd.notSynchronized Bd.returns rfl (Or.inr (Or.inr (Or.inl ⟨rfl, rfl, _, rfl⟩))) (by decide) (by decide) (by rw [e0]; exact ⟨(congrArg (fun z => some (Value.double z)) (by rw [own_r_rm2, if_neg hc109, if_neg hc110])), N0, rfl⟩)
def own_ok (r : Int32) : Prop := r = -100 ∨ r = 100 ∨ (-100 < r.toInt ∧ r.toInt < 100)
theorem own_rank (q v : Int32) : own_ok (own_r_rm1 q v) := by
  rw [own_r_rm1]
  by_cases h1 : q = (1 : Int32)
  · rw [if_pos h1]; exact Or.inl rfl
  · rw [if_neg h1]
    by_cases h2 : q = (2 : Int32)
    · rw [if_pos h2]; exact Or.inr (Or.inl rfl)
    · rw [if_neg h2]
      have e : ((16 : Int32)).toInt = 16 := rfl
      have h := c_irem v 16 16 e
      refine Or.inr (Or.inr ?_)
      by_cases z : 0 ≤ v.toInt
      · rw [h.1 z]; omega
      · rw [h.2 (by omega)]; omega
theorem own_tdc {r m : Int32} (hr : own_ok r) (hm : own_ok m) : FP.dcmp (own_r_rm2 r) (own_r_rm2 m) = some (compare r.toInt m.toInt) := by
  have e1 : (-100 : Int32).toInt = -100 := rfl
  have e2 : (100 : Int32).toInt = 100 := rfl
  have f (x : Int32) := FP.Core.fin_lt_inf (FP.Core.i2d_fin x)
  have t1 : own_r_rm2 (-100) = 18442240474082181120 := rfl
  have t2 : own_r_rm2 100 = 9218868437227405312 := rfl
  have t3 {x : Int32} (h : -100 < x.toInt ∧ x.toInt < 100) : own_r_rm2 x = FP.i2d x := by
    rw [own_r_rm2, if_neg, if_neg]
    · intro q; rw [q] at h; revert h; decide
    · intro q; rw [q] at h; revert h; decide
  rcases hr with rfl | rfl | hr <;> rcases hm with rfl | rfl | hm
  · rw [t1, e1]; decide +kernel
  · rw [t1, t2, e1, e2]; decide +kernel
  · rw [t1, t3 hm, e1, (FP.Core.compare_lt_iff _ _).mpr (by omega)]; exact (f m).2.2.2
  · rw [t1, t2, e1, e2]; decide +kernel
  · rw [t2, e2]; decide +kernel
  · rw [t2, t3 hm, e2, (FP.Core.compare_gt_iff _ _).mpr (by omega)]; exact (f m).2.2.1
  · rw [t1, t3 hr, e1, (FP.Core.compare_gt_iff _ _).mpr (by omega)]; exact (f r).2.1
  · rw [t2, t3 hr, e2, (FP.Core.compare_lt_iff _ _).mpr (by omega)]; exact (f r).1
  · rw [t3 hr, t3 hm]; exact own_cmp _ _
theorem own_end (b w s m : Int32) {C F : Prop} [Decidable C] [Decidable F] (hs : own_ok s) (hm : own_ok m) (hb : b = if C then 1 else 0) (hF : F ↔ (s < m ∨ (C ∧ s = m))) (hw : w = if F then 1 else 0) : own_r_rm7 (own_r_rm2 s) (own_r_rm2 m) b = w := by
  have g1 := FP.Core.compare_lt_iff s.toInt m.toInt
  have g2 := FP.Core.compare_eq_iff s.toInt m.toInt
  rw [hw, own_r_rm7, own_tdc hs hm, hb]
  rw [Int32.lt_iff_toInt_lt, ← Int32.toInt_inj] at hF
  by_cases c : C
  · rw [if_pos c, if_neg (by decide)]
    refine own_ii (Iff.trans ?_ hF.symm)
    simp only [oLe, Option.some.injEq, g1, g2, c, true_and]
  · rw [if_neg c, if_pos rfl]
    refine own_ii (Iff.trans ?_ hF.symm)
    simp only [Option.some.injEq, g1, c, false_and, or_false]
theorem ef111 (m : MethodId) (p0 : Int32) (p1 : Int32) (p2 : Int32) (p3 : Int32) : entryFrame m #[(.int p0), (.int p1), (.int p2), (.int p3)] maxLocals = mkF m 0 #[.val (.int p0), .val (.int p1), .val (.int p2), .val (.int p3), .unset, .unset, .unset, .unset, .unset, .unset, .unset] [] := by first | (simp [entryFrame, mkF, argsToLocals, Value.category, maxLocals]; done) | rfl
def Q0 (Z : State) (p0 : Int32) (p1 : Int32) (p2 : Int32) (p3 : Int32) (h0 : Heap) (n0 : Nat) (v : Option Value) (h : Heap) (L : List Loc) : Prop := v = some (.int 1) ∧ Fr n0 L
theorem pd_3 : parseMethodDescriptor "(II)I" = some ⟨[.int, .int], some .int⟩ := by decide +kernel
theorem pd_4 : parseMethodDescriptor "(I)D" = some ⟨[.int], some .double⟩ := by decide +kernel
theorem pd_5 : parseMethodDescriptor "(DZ)V" = some ⟨[.double, .boolean], none⟩ := by decide +kernel
theorem pd_6 : parseMethodDescriptor "(Lcom/example/flat_pager/flatpager/ScoreWindow$Bound;Lcom/example/flat_pager/flatpager/ScoreWindow$Bound;)V" = some ⟨[(.object "com/example/flat_pager/flatpager/ScoreWindow$Bound"), (.object "com/example/flat_pager/flatpager/ScoreWindow$Bound")], none⟩ := by decide +kernel
theorem pd_7 : parseMethodDescriptor "(D)Z" = some ⟨[.double], some .boolean⟩ := by decide +kernel
set_option maxRecDepth 65536 in
set_option maxHeartbeats 40000000 in
theorem rm0 (l : Launch) (Z : State) (a0 : Array Value) (hw : ∀ d ∈ tables_1, d.before a0 Z = true) (ws : List Jvm.Cond) (p0 : Int32) (p1 : Int32) (p2 : Int32) (p3 : Int32) (h0 : Heap) (n0 : Nat) (Z0 : n0 ≤ h0.size)  :
    MetFree l x (head1 (Jvm.Cond.code x code maxLocals ret :: ws) room_1) (fun a U => a = #[(.int p0), (.int p1), (.int p2), (.int p3)] ∧ Z.Warmed39 U.vm ∧ U.heap = h0) (fun _ _ _ _ _ => True) (fun _ U o U' => ∃ v L, o = .returned v ∧ Q0 Z p0 p1 p2 p3 h0 n0 v U'.heap L ∧ FrameEnd U o U' L 3 6) := by
  refine MetFree.of_bodySF (plainFor_of_name pn_3) hisR ?_
  intro p e s m args below meth c s₁ Bd hml0 hP hK
  obtain ⟨rfl, hZ, hh⟩ := hP
  have hx := Bd.exec
  have hby := Bd.bytes
  have hml : c.maxLocals = 11 := hml0
  have hown : s.vm.findClass "com/example/flat_pager/flatpager/ScoreWindowIsBeforePinLaw" = some m.cls := findClass_of_methodNamed Bd.named
  have hnm := (name_of_methodNamed Bd.named Bd.method).1
  have X0 : Stand p l e room_1 s m #[(.int p0), (.int p1), (.int p2), (.int p3)] below meth c s₁ [] 0 0 := Stand.of_body Bd
  have e0 : s₁.heap = h0 := by rw [← hh, Bd.state]; rfl
  have N0 := Fr.nil n0
  have A0 := (⟨X0, hx, hby⟩ : Ax _ _ _ _ _ _ _ _ _ _ _ _ _ _ _)
  show Go p e below (fun U o => ∃ v L, o = .returned v ∧ Q0 Z p0 p1 p2 p3 h0 n0 v U.heap L ∧ FrameEnd s o U L 3 6) s₁ (entryFrame m #[(.int p0), (.int p1), (.int p2), (.int p3)] maxLocals)
  refine Go.cast (ef111 m p0 p1 p2 p3) ?_
  refine g_iloadN A0 at_0 rfl (pc' := 1) rfl ?_
  refine g_iconst A0 at_1 (v := (3 : Int32)) rfl (pc' := 2) rfl ?_
  refine g_iand A0 at_2 (pc' := 3) rfl ?_
  refine g_iloadN A0 at_3 rfl (pc' := 4) rfl ?_
  obtain ⟨_, _, ⟨T112, L112, k112, n112⟩, -, X112, ⟨L112c, hQ112, l112, y112, z112⟩, st112⟩ := Jvm.LawKit.callS X0 hx (y := (⟨"com/example/flat_pager/flatpager/ScoreWindowIsBeforePinLaw", "rank", "(II)I"⟩ : MethodName)) hown (mvT hZ (hw _ (List.mem_of_getElem? (i := 0) rfl))) (mvT hZ (hw _ (List.mem_of_getElem? (i := 1) rfl))) (mvT hZ (hw _ (List.mem_of_getElem? (i := 2) rfl))) (mvT hZ (hw _ (List.mem_of_getElem? (i := 3) rfl))) (by decide) (backOf (W := 0) (rm1 l Z a0 hw [] (p3 &&& (3 : Int32)) p0 h0 n0 Z0 ) hZ (hw _ (List.mem_of_getElem? (i := 3) rfl)) (hw _ (List.mem_of_getElem? (i := 2) rfl)) (by decide) (by decide)) (g := (mkF m 4 #[.val (.int p0), .val (.int p1), .val (.int p2), .val (.int p3), .unset, .unset, .unset, .unset, .unset, .unset, .unset] [(.int p0), (.int (p3 &&& (3 : Int32)))])) rfl (by rw [hml]; rfl) (argsL := [(.int (p3 &&& (3 : Int32))), (.int p0)]) (rest := []) (lenOf pd_3 rfl) rfl (by show 2 * 0 + _ ≤ _; exact Nat.le_of_eq rfl) (hb hby at_4) (fun _ _ => ⟨rfl, e0, (by decide : 0 + 0 ≤ _), (by decide : 0 + 0 ≤ _)⟩)
  dsimp only [Pt.U, Pt.locs, Pt.cells, Pt.slots] at X112 l112 y112 z112 st112 hQ112
  subst l112 y112 z112
  obtain ⟨rfl, Nq113, Kq114⟩ := hQ112
  have N115 := Fr.app N0 Nq113
  refine Go.of (g' := (mkF m 7 #[.val (.int p0), .val (.int p1), .val (.int p2), .val (.int p3), .unset, .unset, .unset, .unset, .unset, .unset, .unset] [(.int (own_r_rm1 (p3 &&& (3 : Int32)) p0))])) st112 ?_
  have e116 : T112.heap = h0 := Kq114
  have A117 := (⟨X112, hx, hby⟩ : Ax _ _ _ _ _ _ _ _ _ _ _ _ _ _ _)
  obtain ⟨r118, hr118⟩ : ∃ z : Int32, z = (own_r_rm1 (p3 &&& (3 : Int32)) p0) := ⟨_, rfl⟩
  rw [← hr118]
  have ok119 : own_ok r118 := by rw [hr118]; exact own_rank _ _
  refine g_istore A117 at_7 (ls' := #[.val (.int p0), .val (.int p1), .val (.int p2), .val (.int p3), .val (.int r118), .unset, .unset, .unset, .unset, .unset, .unset]) rfl (pc' := 9) rfl ?_
  refine g_iloadN A117 at_9 rfl (pc' := 10) rfl ?_
  refine g_iconst A117 at_10 (v := (2 : Int32)) rfl (pc' := 11) rfl ?_
  refine g_ishr A117 at_11 (pc' := 12) rfl ?_
  refine g_iconst A117 at_12 (v := (3 : Int32)) rfl (pc' := 13) rfl ?_
  refine g_iand A117 at_13 (pc' := 14) rfl ?_
  refine g_iloadN A117 at_14 rfl (pc' := 15) rfl ?_
  obtain ⟨_, _, ⟨T120, L120, k120, n120⟩, -, X120, ⟨L120c, hQ120, l120, y120, z120⟩, st120⟩ := Jvm.LawKit.callS X112 hx (y := (⟨"com/example/flat_pager/flatpager/ScoreWindowIsBeforePinLaw", "rank", "(II)I"⟩ : MethodName)) hown (mvT hZ (hw _ (List.mem_of_getElem? (i := 0) rfl))) (mvT hZ (hw _ (List.mem_of_getElem? (i := 1) rfl))) (mvT hZ (hw _ (List.mem_of_getElem? (i := 2) rfl))) (mvT hZ (hw _ (List.mem_of_getElem? (i := 3) rfl))) (by decide) (backOf (W := 0) (rm1 l Z a0 hw [] ((p3 >>> ((2 : Int32) &&& 31)) &&& (3 : Int32)) p1 h0 n0 Z0 ) hZ (hw _ (List.mem_of_getElem? (i := 3) rfl)) (hw _ (List.mem_of_getElem? (i := 2) rfl)) (by decide) (by decide)) (g := (mkF m 15 #[.val (.int p0), .val (.int p1), .val (.int p2), .val (.int p3), .val (.int r118), .unset, .unset, .unset, .unset, .unset, .unset] [(.int p1), (.int ((p3 >>> ((2 : Int32) &&& 31)) &&& (3 : Int32)))])) rfl (by rw [hml]; rfl) (argsL := [(.int ((p3 >>> ((2 : Int32) &&& 31)) &&& (3 : Int32))), (.int p1)]) (rest := []) (lenOf pd_3 rfl) rfl (by show 2 * 0 + _ ≤ _; exact Nat.le_of_eq rfl) (hb hby at_15) (fun _ _ => ⟨rfl, e116, (by decide : 0 + 0 ≤ _), (by decide : 0 + 0 ≤ _)⟩)
  dsimp only [Pt.U, Pt.locs, Pt.cells, Pt.slots] at X120 l120 y120 z120 st120 hQ120
  subst l120 y120 z120
  obtain ⟨rfl, Nq121, Kq122⟩ := hQ120
  have N123 := Fr.app N115 Nq121
  refine Go.of (g' := (mkF m 18 #[.val (.int p0), .val (.int p1), .val (.int p2), .val (.int p3), .val (.int r118), .unset, .unset, .unset, .unset, .unset, .unset] [(.int (own_r_rm1 ((p3 >>> ((2 : Int32) &&& 31)) &&& (3 : Int32)) p1))])) st120 ?_
  have e124 : T120.heap = h0 := Kq122
  have A125 := (⟨X120, hx, hby⟩ : Ax _ _ _ _ _ _ _ _ _ _ _ _ _ _ _)
  obtain ⟨r126, hr126⟩ : ∃ z : Int32, z = (own_r_rm1 ((p3 >>> ((2 : Int32) &&& 31)) &&& (3 : Int32)) p1) := ⟨_, rfl⟩
  rw [← hr126]
  have ok127 : own_ok r126 := by rw [hr126]; exact own_rank _ _
  refine g_istore A125 at_18 (ls' := #[.val (.int p0), .val (.int p1), .val (.int p2), .val (.int p3), .val (.int r118), .val (.int r126), .unset, .unset, .unset, .unset, .unset]) rfl (pc' := 20) rfl ?_
  refine g_iloadN A125 at_20 rfl (pc' := 21) rfl ?_
  refine g_iconst A125 at_21 (v := (4 : Int32)) rfl (pc' := 22) rfl ?_
  refine g_ishr A125 at_22 (pc' := 23) rfl ?_
  refine g_iconst A125 at_23 (v := (3 : Int32)) rfl (pc' := 24) rfl ?_
  refine g_iand A125 at_24 (pc' := 25) rfl ?_
  refine g_iloadN A125 at_25 rfl (pc' := 26) rfl ?_
  obtain ⟨_, _, ⟨T128, L128, k128, n128⟩, -, X128, ⟨L128c, hQ128, l128, y128, z128⟩, st128⟩ := Jvm.LawKit.callS X120 hx (y := (⟨"com/example/flat_pager/flatpager/ScoreWindowIsBeforePinLaw", "rank", "(II)I"⟩ : MethodName)) hown (mvT hZ (hw _ (List.mem_of_getElem? (i := 0) rfl))) (mvT hZ (hw _ (List.mem_of_getElem? (i := 1) rfl))) (mvT hZ (hw _ (List.mem_of_getElem? (i := 2) rfl))) (mvT hZ (hw _ (List.mem_of_getElem? (i := 3) rfl))) (by decide) (backOf (W := 0) (rm1 l Z a0 hw [] ((p3 >>> ((4 : Int32) &&& 31)) &&& (3 : Int32)) p2 h0 n0 Z0 ) hZ (hw _ (List.mem_of_getElem? (i := 3) rfl)) (hw _ (List.mem_of_getElem? (i := 2) rfl)) (by decide) (by decide)) (g := (mkF m 26 #[.val (.int p0), .val (.int p1), .val (.int p2), .val (.int p3), .val (.int r118), .val (.int r126), .unset, .unset, .unset, .unset, .unset] [(.int p2), (.int ((p3 >>> ((4 : Int32) &&& 31)) &&& (3 : Int32)))])) rfl (by rw [hml]; rfl) (argsL := [(.int ((p3 >>> ((4 : Int32) &&& 31)) &&& (3 : Int32))), (.int p2)]) (rest := []) (lenOf pd_3 rfl) rfl (by show 2 * 0 + _ ≤ _; exact Nat.le_of_eq rfl) (hb hby at_26) (fun _ _ => ⟨rfl, e124, (by decide : 0 + 0 ≤ _), (by decide : 0 + 0 ≤ _)⟩)
  dsimp only [Pt.U, Pt.locs, Pt.cells, Pt.slots] at X128 l128 y128 z128 st128 hQ128
  subst l128 y128 z128
  obtain ⟨rfl, Nq129, Kq130⟩ := hQ128
  have N131 := Fr.app N123 Nq129
  refine Go.of (g' := (mkF m 29 #[.val (.int p0), .val (.int p1), .val (.int p2), .val (.int p3), .val (.int r118), .val (.int r126), .unset, .unset, .unset, .unset, .unset] [(.int (own_r_rm1 ((p3 >>> ((4 : Int32) &&& 31)) &&& (3 : Int32)) p2))])) st128 ?_
  have e132 : T128.heap = h0 := Kq130
  have A133 := (⟨X128, hx, hby⟩ : Ax _ _ _ _ _ _ _ _ _ _ _ _ _ _ _)
  obtain ⟨r134, hr134⟩ : ∃ z : Int32, z = (own_r_rm1 ((p3 >>> ((4 : Int32) &&& 31)) &&& (3 : Int32)) p2) := ⟨_, rfl⟩
  rw [← hr134]
  have ok135 : own_ok r134 := by rw [hr134]; exact own_rank _ _
  refine g_istore A133 at_29 (ls' := #[.val (.int p0), .val (.int p1), .val (.int p2), .val (.int p3), .val (.int r118), .val (.int r126), .val (.int r134), .unset, .unset, .unset, .unset]) rfl (pc' := 31) rfl ?_
  refine g_iloadN A133 at_31 rfl (pc' := 32) rfl ?_
  refine g_bipush A133 at_32 (v := (6 : Int32)) rfl (pc' := 34) rfl ?_
  refine g_ishr A133 at_34 (pc' := 35) rfl ?_
  refine g_iconst A133 at_35 (v := (1 : Int32)) rfl (pc' := 36) rfl ?_
  refine g_iand A133 at_36 (pc' := 37) rfl ?_
  obtain ⟨v136, hv136⟩ : ∃ z : Int32, z = if ¬ (((p3 >>> ((6 : Int32) &&& 31)) &&& (1 : Int32)) = 0) then (1 : Int32) else 0 := ⟨_, rfl⟩
  have sg137 : ∀ {P : State → Outcome → Prop}, Go p e below P T128 (mkF m 45 #[.val (.int p0), .val (.int p1), .val (.int p2), .val (.int p3), .val (.int r118), .val (.int r126), .val (.int r134), .unset, .unset, .unset, .unset] [(.int v136)]) → Go p e below P T128 (mkF m 37 #[.val (.int p0), .val (.int p1), .val (.int p2), .val (.int p3), .val (.int r118), .val (.int r126), .val (.int r134), .unset, .unset, .unset, .unset] [(.int ((p3 >>> ((6 : Int32) &&& 31)) &&& (1 : Int32)))]) := by
    intro P hr
    by_cases c138 : ((p3 >>> ((6 : Int32) &&& 31)) &&& (1 : Int32)) = 0
    · skip
      refine g_ifY A133 at_37 (c0_eq_t c138) (pc' := 44) rfl ?_
      refine g_iconst A133 at_44 (v := (0 : Int32)) rfl (pc' := 45) rfl ?_
      obtain rfl : v136 = (0 : Int32) := hv136.trans (if_neg (fun q => q c138))
      exact hr
    · skip
      refine g_ifN A133 at_37 (c0_eq_f c138) (pc' := 40) rfl ?_
      refine g_iconst A133 at_40 (v := (1 : Int32)) rfl (pc' := 41) rfl ?_
      refine g_goto A133 at_41 (pc' := 45) rfl ?_
      obtain rfl : v136 = (1 : Int32) := hv136.trans (if_pos c138)
      exact hr
  refine sg137 ?_
  refine g_istore A133 at_45 (ls' := #[.val (.int p0), .val (.int p1), .val (.int p2), .val (.int p3), .val (.int r118), .val (.int r126), .val (.int r134), .val (.int v136), .unset, .unset, .unset]) rfl (pc' := 47) rfl ?_
  refine g_iloadN A133 at_47 rfl (pc' := 48) rfl ?_
  refine g_bipush A133 at_48 (v := (7 : Int32)) rfl (pc' := 50) rfl ?_
  refine g_ishr A133 at_50 (pc' := 51) rfl ?_
  refine g_iconst A133 at_51 (v := (1 : Int32)) rfl (pc' := 52) rfl ?_
  refine g_iand A133 at_52 (pc' := 53) rfl ?_
  obtain ⟨v139, hv139⟩ : ∃ z : Int32, z = if ¬ (((p3 >>> ((7 : Int32) &&& 31)) &&& (1 : Int32)) = 0) then (1 : Int32) else 0 := ⟨_, rfl⟩
  have sg140 : ∀ {P : State → Outcome → Prop}, Go p e below P T128 (mkF m 61 #[.val (.int p0), .val (.int p1), .val (.int p2), .val (.int p3), .val (.int r118), .val (.int r126), .val (.int r134), .val (.int v136), .unset, .unset, .unset] [(.int v139)]) → Go p e below P T128 (mkF m 53 #[.val (.int p0), .val (.int p1), .val (.int p2), .val (.int p3), .val (.int r118), .val (.int r126), .val (.int r134), .val (.int v136), .unset, .unset, .unset] [(.int ((p3 >>> ((7 : Int32) &&& 31)) &&& (1 : Int32)))]) := by
    intro P hr
    by_cases c141 : ((p3 >>> ((7 : Int32) &&& 31)) &&& (1 : Int32)) = 0
    · skip
      refine g_ifY A133 at_53 (c0_eq_t c141) (pc' := 60) rfl ?_
      refine g_iconst A133 at_60 (v := (0 : Int32)) rfl (pc' := 61) rfl ?_
      obtain rfl : v139 = (0 : Int32) := hv139.trans (if_neg (fun q => q c141))
      exact hr
    · skip
      refine g_ifN A133 at_53 (c0_eq_f c141) (pc' := 56) rfl ?_
      refine g_iconst A133 at_56 (v := (1 : Int32)) rfl (pc' := 57) rfl ?_
      refine g_goto A133 at_57 (pc' := 61) rfl ?_
      obtain rfl : v139 = (1 : Int32) := hv139.trans (if_pos c141)
      exact hr
  refine sg140 ?_
  refine g_istore A133 at_61 (ls' := #[.val (.int p0), .val (.int p1), .val (.int p2), .val (.int p3), .val (.int r118), .val (.int r126), .val (.int r134), .val (.int v136), .val (.int v139), .unset, .unset]) rfl (pc' := 63) rfl ?_
  obtain ⟨T142, h142, X142, e142, E142, EA142, D142, -, st142⟩ := newO X128 hx hZ hown (hw _ (List.mem_of_getElem? (i := 4) rfl)) (hw _ (List.mem_of_getElem? (i := 5) rfl)) (hw _ (List.mem_of_getElem? (i := 6) rfl)) e132 (g := (mkF m 63 #[.val (.int p0), .val (.int p1), .val (.int p2), .val (.int p3), .val (.int r118), .val (.int r126), .val (.int r134), .val (.int v136), .val (.int v139), .unset, .unset] [])) rfl (hb hby at_63) (by decide) (by decide)
  obtain ⟨a143, ea143⟩ : ∃ z, z = h0.size := ⟨_, rfl⟩
  rw [← ea143] at EA142 D142 st142
  have g144 : n0 ≤ a143 := by rw [ea143]; exact Z0
  have gh145 : h0.size ≤ a143 := by rw [ea143]; exact (Keep.refl h0 []).1
  have K146 : Keep h0 h142 [] := (Keep.refl h0 []).ext E142
  have Z147 : n0 ≤ h142.size := Nat.le_trans Z0 E142.1
  have F148 : Fld Z h142 a143 "com/example/flat_pager/flatpager/ScoreWindow" "min" "Lcom/example/flat_pager/flatpager/ScoreWindow$Bound;" .null := D142 (Or.inr (hw _ (List.mem_of_getElem? (i := 33) rfl))) (ty := (.object "com/example/flat_pager/flatpager/ScoreWindow$Bound")) (by decide)
  have F149 : Fld Z h142 a143 "com/example/flat_pager/flatpager/ScoreWindow" "max" "Lcom/example/flat_pager/flatpager/ScoreWindow$Bound;" .null := D142 (Or.inr (hw _ (List.mem_of_getElem? (i := 35) rfl))) (ty := (.object "com/example/flat_pager/flatpager/ScoreWindow$Bound")) (by decide)
  refine Go.of (g' := (mkF m 66 #[.val (.int p0), .val (.int p1), .val (.int p2), .val (.int p3), .val (.int r118), .val (.int r126), .val (.int r134), .val (.int v136), .val (.int v139), .unset, .unset] [(.ref a143)])) st142 ?_
  have A150 := (⟨X142, hx, hby⟩ : Ax _ _ _ _ _ _ _ _ _ _ _ _ _ _ _)
  refine g_dup A150 at_66 rfl (pc' := 67) rfl ?_
  obtain ⟨T151, h151, X151, e151, E151, EA151, D151, -, st151⟩ := newO X142 hx hZ hown (hw _ (List.mem_of_getElem? (i := 7) rfl)) (hw _ (List.mem_of_getElem? (i := 8) rfl)) (hw _ (List.mem_of_getElem? (i := 9) rfl)) e142 (g := (mkF m 67 #[.val (.int p0), .val (.int p1), .val (.int p2), .val (.int p3), .val (.int r118), .val (.int r126), .val (.int r134), .val (.int v136), .val (.int v139), .unset, .unset] [(.ref a143), (.ref a143)])) rfl (hb hby at_67) (by decide) (by decide)
  obtain ⟨a152, ea152⟩ : ∃ z, z = h142.size := ⟨_, rfl⟩
  rw [← ea152] at EA151 D151 st151
  have ne153 : a143 ≠ a152 := own_ne ea152 EA142.lt
  have g154 : n0 ≤ a152 := by rw [ea152]; exact Z147
  have gh155 : h0.size ≤ a152 := by rw [ea152]; exact K146.1
  have K156 : Keep h0 h151 [] := K146.ext E151
  have E157 : Exa Z h151 a143 "com/example/flat_pager/flatpager/ScoreWindow" := Exa.ext E151 EA142
  have F158 : Fld Z h151 a143 "com/example/flat_pager/flatpager/ScoreWindow" "min" "Lcom/example/flat_pager/flatpager/ScoreWindow$Bound;" .null := Fld.ext E151 F148
  have F159 : Fld Z h151 a143 "com/example/flat_pager/flatpager/ScoreWindow" "max" "Lcom/example/flat_pager/flatpager/ScoreWindow$Bound;" .null := Fld.ext E151 F149
  have Z160 : n0 ≤ h151.size := Nat.le_trans Z147 E151.1
  have F161 : Fld Z h151 a152 "com/example/flat_pager/flatpager/ScoreWindow$Bound" "score" "D" (.double (0 : UInt64)) := D151 (Or.inr (hw _ (List.mem_of_getElem? (i := 25) rfl))) (ty := .double) (by decide)
  have F162 : Fld Z h151 a152 "com/example/flat_pager/flatpager/ScoreWindow$Bound" "excluded" "Z" (.int (0 : Int32)) := D151 (Or.inr (hw _ (List.mem_of_getElem? (i := 27) rfl))) (ty := .boolean) (by decide)
  refine Go.of (g' := (mkF m 70 #[.val (.int p0), .val (.int p1), .val (.int p2), .val (.int p3), .val (.int r118), .val (.int r126), .val (.int r134), .val (.int v136), .val (.int v139), .unset, .unset] [(.ref a152), (.ref a143), (.ref a143)])) st151 ?_
  have A163 := (⟨X151, hx, hby⟩ : Ax _ _ _ _ _ _ _ _ _ _ _ _ _ _ _)
  refine g_dup A163 at_70 rfl (pc' := 71) rfl ?_
  refine g_iload A163 at_71 rfl (pc' := 73) rfl ?_
  obtain ⟨_, _, ⟨T164, L164, k164, n164⟩, -, X164, ⟨L164c, hQ164, l164, y164, z164⟩, st164⟩ := Jvm.LawKit.callS X151 hx (y := (⟨"com/example/flat_pager/flatpager/ScoreWindowIsBeforePinLaw", "toDouble", "(I)D"⟩ : MethodName)) hown (mvT hZ (hw _ (List.mem_of_getElem? (i := 10) rfl))) (mvT hZ (hw _ (List.mem_of_getElem? (i := 11) rfl))) (mvT hZ (hw _ (List.mem_of_getElem? (i := 2) rfl))) (mvT hZ (hw _ (List.mem_of_getElem? (i := 12) rfl))) (by decide) (backOf (W := 4) (rm2 l Z a0 hw [] r126 h151 n0 Z160 ) hZ (hw _ (List.mem_of_getElem? (i := 12) rfl)) (hw _ (List.mem_of_getElem? (i := 2) rfl)) (by decide) (by decide)) (g := (mkF m 73 #[.val (.int p0), .val (.int p1), .val (.int p2), .val (.int p3), .val (.int r118), .val (.int r126), .val (.int r134), .val (.int v136), .val (.int v139), .unset, .unset] [(.int r126), (.ref a152), (.ref a152), (.ref a143), (.ref a143)])) rfl (by rw [hml]; rfl) (argsL := [(.int r126)]) (rest := [(.ref a152), (.ref a152), (.ref a143), (.ref a143)]) (lenOf pd_4 rfl) rfl (by show 2 * 0 + _ ≤ _; exact Nat.le_of_eq rfl) (hb hby at_73) (fun _ _ => ⟨rfl, e151, (by decide : 2 + 0 ≤ _), (by decide : 4 + 0 ≤ _)⟩)
  dsimp only [Pt.U, Pt.locs, Pt.cells, Pt.slots] at X164 l164 y164 z164 st164 hQ164
  subst l164 y164 z164
  obtain ⟨rfl, Nq165, Kq166⟩ := hQ164
  have N167 := Fr.app N131 Nq165
  refine Go.of (g' := (mkF m 76 #[.val (.int p0), .val (.int p1), .val (.int p2), .val (.int p3), .val (.int r118), .val (.int r126), .val (.int r134), .val (.int v136), .val (.int v139), .unset, .unset] [(.double (own_r_rm2 r126)), (.ref a152), (.ref a152), (.ref a143), (.ref a143)])) st164 ?_
  have e168 : T164.heap = h151 := Kq166
  have A169 := (⟨X164, hx, hby⟩ : Ax _ _ _ _ _ _ _ _ _ _ _ _ _ _ _)
  refine g_iload A169 at_76 rfl (pc' := 78) rfl ?_
  obtain ⟨_, _, ⟨T170, L170, k170, n170⟩, -, X170, ⟨L170c, hQ170, l170, y170, z170⟩, st170⟩ := X164.specialBack hx (y := (⟨"com/example/flat_pager/flatpager/ScoreWindow$Bound", "<init>", "(DZ)V"⟩ : MethodName)) rfl hown (mvT hZ (hw _ (List.mem_of_getElem? (i := 13) rfl))) (mvT hZ (hw _ (List.mem_of_getElem? (i := 14) rfl))) (mvT hZ (hw _ (List.mem_of_getElem? (i := 15) rfl))) (by decide) (backOf (W := 3) (rm3 l Z a0 hw [] a152 (own_r_rm2 r126) v136 (.double (0 : UInt64)) (.int (0 : Int32)) h151 n0 Z160 EA151 F161 F162 g154 (own_b01 hv136)) hZ (hw _ (List.mem_of_getElem? (i := 15) rfl)) (hw _ (List.mem_of_getElem? (i := 9) rfl)) (by decide) (by decide)) (g := (mkF m 78 #[.val (.int p0), .val (.int p1), .val (.int p2), .val (.int p3), .val (.int r118), .val (.int r126), .val (.int r134), .val (.int v136), .val (.int v139), .unset, .unset] [(.int v136), (.double (own_r_rm2 r126)), (.ref a152), (.ref a152), (.ref a143), (.ref a143)])) rfl (by rw [hml]; rfl) (Steps.refl _) (a := a152) (argsL := [(.double (own_r_rm2 r126)), (.int v136)]) (rest := [(.ref a152), (.ref a143), (.ref a143)]) (lenOf pd_5 rfl) rfl (by show 2 * 0 + _ ≤ _; exact Nat.le_of_eq rfl) (hb hby at_78) (fun _ _ => ⟨rfl, e168, (by decide : 2 + 0 ≤ _), (by decide : 4 + 0 ≤ _)⟩)
  dsimp only [Pt.U, Pt.locs, Pt.cells, Pt.slots] at X170 l170 y170 z170 st170 hQ170
  subst l170 y170 z170
  obtain ⟨rfl, Nq171, Kq172, F173, F174⟩ := hQ170
  have N175 := Fr.app N167 Nq171
  refine Go.tr (g' := (mkF m 81 #[.val (.int p0), .val (.int p1), .val (.int p2), .val (.int p3), .val (.int r118), .val (.int r126), .val (.int r134), .val (.int v136), .val (.int v139), .unset, .unset] [(.ref a152), (.ref a143), (.ref a143)])) st170 ?_
  have E176 : Exa Z T170.heap a143 "com/example/flat_pager/flatpager/ScoreWindow" := Exa.keep E157 Kq172
  have F177 : Fld Z T170.heap a143 "com/example/flat_pager/flatpager/ScoreWindow" "min" "Lcom/example/flat_pager/flatpager/ScoreWindow$Bound;" .null := Fld.keep F158 Kq172 (ninS ne153 nin0)
  have F178 : Fld Z T170.heap a143 "com/example/flat_pager/flatpager/ScoreWindow" "max" "Lcom/example/flat_pager/flatpager/ScoreWindow$Bound;" .null := Fld.keep F159 Kq172 (ninS ne153 nin0)
  have E179 : Exa Z T170.heap a152 "com/example/flat_pager/flatpager/ScoreWindow$Bound" := Exa.keep EA151 Kq172
  have Z180 : n0 ≤ T170.heap.size := Nat.le_trans Z160 Kq172.1
  have K181 : Keep h0 T170.heap [] := K156.trans Kq172 (allS (Or.inr gh155) all0)
  have A182 := (⟨X170, hx, hby⟩ : Ax _ _ _ _ _ _ _ _ _ _ _ _ _ _ _)
  obtain ⟨T183, h183, X183, e183, E183, EA183, D183, -, st183⟩ := newO X170 hx hZ hown (hw _ (List.mem_of_getElem? (i := 7) rfl)) (hw _ (List.mem_of_getElem? (i := 8) rfl)) (hw _ (List.mem_of_getElem? (i := 9) rfl)) rfl (g := (mkF m 81 #[.val (.int p0), .val (.int p1), .val (.int p2), .val (.int p3), .val (.int r118), .val (.int r126), .val (.int r134), .val (.int v136), .val (.int v139), .unset, .unset] [(.ref a152), (.ref a143), (.ref a143)])) rfl (hb hby at_81) (by decide) (by decide)
  obtain ⟨a184, ea184⟩ : ∃ z, z = T170.heap.size := ⟨_, rfl⟩
  rw [← ea184] at EA183 D183 st183
  have ne185 : a143 ≠ a184 := own_ne ea184 E176.lt
  have ne186 : a152 ≠ a184 := own_ne ea184 E179.lt
  have g187 : n0 ≤ a184 := by rw [ea184]; exact Z180
  have gh188 : h0.size ≤ a184 := by rw [ea184]; exact K181.1
  have K189 : Keep h0 h183 [] := K181.ext E183
  have E190 : Exa Z h183 a143 "com/example/flat_pager/flatpager/ScoreWindow" := Exa.ext E183 E176
  have F191 : Fld Z h183 a143 "com/example/flat_pager/flatpager/ScoreWindow" "min" "Lcom/example/flat_pager/flatpager/ScoreWindow$Bound;" .null := Fld.ext E183 F177
  have F192 : Fld Z h183 a143 "com/example/flat_pager/flatpager/ScoreWindow" "max" "Lcom/example/flat_pager/flatpager/ScoreWindow$Bound;" .null := Fld.ext E183 F178
  have E193 : Exa Z h183 a152 "com/example/flat_pager/flatpager/ScoreWindow$Bound" := Exa.ext E183 E179
  have F194 : Fld Z h183 a152 "com/example/flat_pager/flatpager/ScoreWindow$Bound" "score" "D" (.double (own_r_rm2 r126)) := Fld.ext E183 F173
  have F195 : Fld Z h183 a152 "com/example/flat_pager/flatpager/ScoreWindow$Bound" "excluded" "Z" (.int v136) := Fld.ext E183 F174
  have Z196 : n0 ≤ h183.size := Nat.le_trans Z180 E183.1
  have F197 : Fld Z h183 a184 "com/example/flat_pager/flatpager/ScoreWindow$Bound" "score" "D" (.double (0 : UInt64)) := D183 (Or.inr (hw _ (List.mem_of_getElem? (i := 25) rfl))) (ty := .double) (by decide)
  have F198 : Fld Z h183 a184 "com/example/flat_pager/flatpager/ScoreWindow$Bound" "excluded" "Z" (.int (0 : Int32)) := D183 (Or.inr (hw _ (List.mem_of_getElem? (i := 27) rfl))) (ty := .boolean) (by decide)
  refine Go.of (g' := (mkF m 84 #[.val (.int p0), .val (.int p1), .val (.int p2), .val (.int p3), .val (.int r118), .val (.int r126), .val (.int r134), .val (.int v136), .val (.int v139), .unset, .unset] [(.ref a184), (.ref a152), (.ref a143), (.ref a143)])) st183 ?_
  have A199 := (⟨X183, hx, hby⟩ : Ax _ _ _ _ _ _ _ _ _ _ _ _ _ _ _)
  refine g_dup A199 at_84 rfl (pc' := 85) rfl ?_
  refine g_iload A199 at_85 rfl (pc' := 87) rfl ?_
  obtain ⟨_, _, ⟨T200, L200, k200, n200⟩, -, X200, ⟨L200c, hQ200, l200, y200, z200⟩, st200⟩ := Jvm.LawKit.callS X183 hx (y := (⟨"com/example/flat_pager/flatpager/ScoreWindowIsBeforePinLaw", "toDouble", "(I)D"⟩ : MethodName)) hown (mvT hZ (hw _ (List.mem_of_getElem? (i := 10) rfl))) (mvT hZ (hw _ (List.mem_of_getElem? (i := 11) rfl))) (mvT hZ (hw _ (List.mem_of_getElem? (i := 2) rfl))) (mvT hZ (hw _ (List.mem_of_getElem? (i := 12) rfl))) (by decide) (backOf (W := 5) (rm2 l Z a0 hw [] r134 h183 n0 Z196 ) hZ (hw _ (List.mem_of_getElem? (i := 12) rfl)) (hw _ (List.mem_of_getElem? (i := 2) rfl)) (by decide) (by decide)) (g := (mkF m 87 #[.val (.int p0), .val (.int p1), .val (.int p2), .val (.int p3), .val (.int r118), .val (.int r126), .val (.int r134), .val (.int v136), .val (.int v139), .unset, .unset] [(.int r134), (.ref a184), (.ref a184), (.ref a152), (.ref a143), (.ref a143)])) rfl (by rw [hml]; rfl) (argsL := [(.int r134)]) (rest := [(.ref a184), (.ref a184), (.ref a152), (.ref a143), (.ref a143)]) (lenOf pd_4 rfl) rfl (by show 2 * 0 + _ ≤ _; exact Nat.le_of_eq rfl) (hb hby at_87) (fun _ _ => ⟨rfl, e183, (by decide : 3 + 0 ≤ _), (by decide : 6 + 0 ≤ _)⟩)
  dsimp only [Pt.U, Pt.locs, Pt.cells, Pt.slots] at X200 l200 y200 z200 st200 hQ200
  subst l200 y200 z200
  obtain ⟨rfl, Nq201, Kq202⟩ := hQ200
  have N203 := Fr.app N175 Nq201
  refine Go.of (g' := (mkF m 90 #[.val (.int p0), .val (.int p1), .val (.int p2), .val (.int p3), .val (.int r118), .val (.int r126), .val (.int r134), .val (.int v136), .val (.int v139), .unset, .unset] [(.double (own_r_rm2 r134)), (.ref a184), (.ref a184), (.ref a152), (.ref a143), (.ref a143)])) st200 ?_
  have e204 : T200.heap = h183 := Kq202
  have A205 := (⟨X200, hx, hby⟩ : Ax _ _ _ _ _ _ _ _ _ _ _ _ _ _ _)
  refine g_iload A205 at_90 rfl (pc' := 92) rfl ?_
  obtain ⟨_, _, ⟨T206, L206, k206, n206⟩, -, X206, ⟨L206c, hQ206, l206, y206, z206⟩, st206⟩ := X200.specialBack hx (y := (⟨"com/example/flat_pager/flatpager/ScoreWindow$Bound", "<init>", "(DZ)V"⟩ : MethodName)) rfl hown (mvT hZ (hw _ (List.mem_of_getElem? (i := 13) rfl))) (mvT hZ (hw _ (List.mem_of_getElem? (i := 14) rfl))) (mvT hZ (hw _ (List.mem_of_getElem? (i := 15) rfl))) (by decide) (backOf (W := 4) (rm3 l Z a0 hw [] a184 (own_r_rm2 r134) v139 (.double (0 : UInt64)) (.int (0 : Int32)) h183 n0 Z196 EA183 F197 F198 g187 (own_b01 hv139)) hZ (hw _ (List.mem_of_getElem? (i := 15) rfl)) (hw _ (List.mem_of_getElem? (i := 9) rfl)) (by decide) (by decide)) (g := (mkF m 92 #[.val (.int p0), .val (.int p1), .val (.int p2), .val (.int p3), .val (.int r118), .val (.int r126), .val (.int r134), .val (.int v136), .val (.int v139), .unset, .unset] [(.int v139), (.double (own_r_rm2 r134)), (.ref a184), (.ref a184), (.ref a152), (.ref a143), (.ref a143)])) rfl (by rw [hml]; rfl) (Steps.refl _) (a := a184) (argsL := [(.double (own_r_rm2 r134)), (.int v139)]) (rest := [(.ref a184), (.ref a152), (.ref a143), (.ref a143)]) (lenOf pd_5 rfl) rfl (by show 2 * 0 + _ ≤ _; exact Nat.le_of_eq rfl) (hb hby at_92) (fun _ _ => ⟨rfl, e204, (by decide : 3 + 0 ≤ _), (by decide : 6 + 0 ≤ _)⟩)
  dsimp only [Pt.U, Pt.locs, Pt.cells, Pt.slots] at X206 l206 y206 z206 st206 hQ206
  subst l206 y206 z206
  obtain ⟨rfl, Nq207, Kq208, F209, F210⟩ := hQ206
  have N211 := Fr.app N203 Nq207
  refine Go.tr (g' := (mkF m 95 #[.val (.int p0), .val (.int p1), .val (.int p2), .val (.int p3), .val (.int r118), .val (.int r126), .val (.int r134), .val (.int v136), .val (.int v139), .unset, .unset] [(.ref a184), (.ref a152), (.ref a143), (.ref a143)])) st206 ?_
  have E212 : Exa Z T206.heap a143 "com/example/flat_pager/flatpager/ScoreWindow" := Exa.keep E190 Kq208
  have F213 : Fld Z T206.heap a143 "com/example/flat_pager/flatpager/ScoreWindow" "min" "Lcom/example/flat_pager/flatpager/ScoreWindow$Bound;" .null := Fld.keep F191 Kq208 (ninS ne185 nin0)
  have F214 : Fld Z T206.heap a143 "com/example/flat_pager/flatpager/ScoreWindow" "max" "Lcom/example/flat_pager/flatpager/ScoreWindow$Bound;" .null := Fld.keep F192 Kq208 (ninS ne185 nin0)
  have E215 : Exa Z T206.heap a152 "com/example/flat_pager/flatpager/ScoreWindow$Bound" := Exa.keep E193 Kq208
  have F216 : Fld Z T206.heap a152 "com/example/flat_pager/flatpager/ScoreWindow$Bound" "score" "D" (.double (own_r_rm2 r126)) := Fld.keep F194 Kq208 (ninS ne186 nin0)
  have F217 : Fld Z T206.heap a152 "com/example/flat_pager/flatpager/ScoreWindow$Bound" "excluded" "Z" (.int v136) := Fld.keep F195 Kq208 (ninS ne186 nin0)
  have E218 : Exa Z T206.heap a184 "com/example/flat_pager/flatpager/ScoreWindow$Bound" := Exa.keep EA183 Kq208
  have Z219 : n0 ≤ T206.heap.size := Nat.le_trans Z196 Kq208.1
  have K220 : Keep h0 T206.heap [] := K189.trans Kq208 (allS (Or.inr gh188) all0)
  have A221 := (⟨X206, hx, hby⟩ : Ax _ _ _ _ _ _ _ _ _ _ _ _ _ _ _)
  obtain ⟨_, _, ⟨T222, L222, k222, n222⟩, -, X222, ⟨L222c, hQ222, l222, y222, z222⟩, st222⟩ := X206.specialBack hx (y := (⟨"com/example/flat_pager/flatpager/ScoreWindow", "<init>", "(Lcom/example/flat_pager/flatpager/ScoreWindow$Bound;Lcom/example/flat_pager/flatpager/ScoreWindow$Bound;)V"⟩ : MethodName)) rfl hown (mvT hZ (hw _ (List.mem_of_getElem? (i := 28) rfl))) (mvT hZ (hw _ (List.mem_of_getElem? (i := 29) rfl))) (mvT hZ (hw _ (List.mem_of_getElem? (i := 30) rfl))) (by decide) (backOf (W := 1) (rm6 l Z a0 hw [] a143 a152 a184 .null .null T206.heap n0 Z219 E212 F213 F214 g144) hZ (hw _ (List.mem_of_getElem? (i := 30) rfl)) (hw _ (List.mem_of_getElem? (i := 6) rfl)) (by decide) (by decide)) (g := (mkF m 95 #[.val (.int p0), .val (.int p1), .val (.int p2), .val (.int p3), .val (.int r118), .val (.int r126), .val (.int r134), .val (.int v136), .val (.int v139), .unset, .unset] [(.ref a184), (.ref a152), (.ref a143), (.ref a143)])) rfl (by rw [hml]; rfl) (Steps.refl _) (a := a143) (argsL := [(.ref a152), (.ref a184)]) (rest := [(.ref a143)]) (lenOf pd_6 rfl) rfl (by show 2 * 0 + _ ≤ _; exact Nat.le_of_eq rfl) (hb hby at_95) (fun _ _ => ⟨rfl, rfl, (by decide : 3 + 0 ≤ _), (by decide : 6 + 0 ≤ _)⟩)
  dsimp only [Pt.U, Pt.locs, Pt.cells, Pt.slots] at X222 l222 y222 z222 st222 hQ222
  subst l222 y222 z222
  obtain ⟨rfl, Nq223, Kq224, F225, F226⟩ := hQ222
  have N227 := Fr.app N211 Nq223
  refine Go.tr (g' := (mkF m 98 #[.val (.int p0), .val (.int p1), .val (.int p2), .val (.int p3), .val (.int r118), .val (.int r126), .val (.int r134), .val (.int v136), .val (.int v139), .unset, .unset] [(.ref a143)])) st222 ?_
  have E228 : Exa Z T222.heap a143 "com/example/flat_pager/flatpager/ScoreWindow" := Exa.keep E212 Kq224
  have E229 : Exa Z T222.heap a152 "com/example/flat_pager/flatpager/ScoreWindow$Bound" := Exa.keep E215 Kq224
  have F230 : Fld Z T222.heap a152 "com/example/flat_pager/flatpager/ScoreWindow$Bound" "score" "D" (.double (own_r_rm2 r126)) := Fld.keep F216 Kq224 (ninS (Ne.symm ne153) nin0)
  have F231 : Fld Z T222.heap a152 "com/example/flat_pager/flatpager/ScoreWindow$Bound" "excluded" "Z" (.int v136) := Fld.keep F217 Kq224 (ninS (Ne.symm ne153) nin0)
  have E232 : Exa Z T222.heap a184 "com/example/flat_pager/flatpager/ScoreWindow$Bound" := Exa.keep E218 Kq224
  have F233 : Fld Z T222.heap a184 "com/example/flat_pager/flatpager/ScoreWindow$Bound" "score" "D" (.double (own_r_rm2 r134)) := Fld.keep F209 Kq224 (ninS (Ne.symm ne185) nin0)
  have F234 : Fld Z T222.heap a184 "com/example/flat_pager/flatpager/ScoreWindow$Bound" "excluded" "Z" (.int v139) := Fld.keep F210 Kq224 (ninS (Ne.symm ne185) nin0)
  have Z235 : n0 ≤ T222.heap.size := Nat.le_trans Z219 Kq224.1
  have K236 : Keep h0 T222.heap [] := K220.trans Kq224 (allS (Or.inr gh145) all0)
  have A237 := (⟨X222, hx, hby⟩ : Ax _ _ _ _ _ _ _ _ _ _ _ _ _ _ _)
  refine g_astore A237 at_98 rfl (ls' := #[.val (.int p0), .val (.int p1), .val (.int p2), .val (.int p3), .val (.int r118), .val (.int r126), .val (.int r134), .val (.int v136), .val (.int v139), .val (.ref a143), .unset]) rfl (pc' := 100) rfl ?_
  refine g_iload A237 at_100 rfl (pc' := 102) rfl ?_
  refine g_iload A237 at_102 rfl (pc' := 104) rfl ?_
  obtain ⟨v238, hv238⟩ : ∃ z : Int32, z = if ((r118 < r126) ∨ (((¬ (((p3 >>> ((6 : Int32) &&& 31)) &&& (1 : Int32)) = 0)) ∧ (r118 = r126)))) then (1 : Int32) else 0 := ⟨_, rfl⟩
  have sg239 : ∀ {P : State → Outcome → Prop}, Go p e below P T222 (mkF m 124 #[.val (.int p0), .val (.int p1), .val (.int p2), .val (.int p3), .val (.int r118), .val (.int r126), .val (.int r134), .val (.int v136), .val (.int v139), .val (.ref a143), .unset] [(.int v238)]) → Go p e below P T222 (mkF m 104 #[.val (.int p0), .val (.int p1), .val (.int p2), .val (.int p3), .val (.int r118), .val (.int r126), .val (.int r134), .val (.int v136), .val (.int v139), .val (.ref a143), .unset] [(.int r126), (.int r118)]) := by
    intro P hr
    by_cases c240 : r118 < r126
    · skip
      refine g_icY A237 at_104 (c2_lt_t c240) (pc' := 119) rfl ?_
      refine g_iconst A237 at_119 (v := (1 : Int32)) rfl (pc' := 120) rfl ?_
      refine g_goto A237 at_120 (pc' := 124) rfl ?_
      obtain rfl : v238 = (1 : Int32) := hv238.trans (if_pos (Or.inl c240))
      exact hr
    · skip
      refine g_icN A237 at_104 (c2_lt_f c240) (pc' := 107) rfl ?_
      refine g_iload A237 at_107 rfl (pc' := 109) rfl ?_
      by_cases c241 : ((p3 >>> ((6 : Int32) &&& 31)) &&& (1 : Int32)) = 0
      · skip
        refine g_ifY A237 at_109 (b0_eq_t hv136 (fun q => q c241)) (pc' := 123) rfl ?_
        refine g_iconst A237 at_123 (v := (0 : Int32)) rfl (pc' := 124) rfl ?_
        obtain rfl : v238 = (0 : Int32) := hv238.trans (if_neg (fun q => q.elim c240 (fun q => (fun q => q c241) q.1)))
        exact hr
      · skip
        refine g_ifN A237 at_109 (b0_eq_f hv136 c241) (pc' := 112) rfl ?_
        refine g_iload A237 at_112 rfl (pc' := 114) rfl ?_
        refine g_iload A237 at_114 rfl (pc' := 116) rfl ?_
        by_cases c242 : r118 = r126
        · skip
          refine g_icN A237 at_116 (c2_ne_f c242) (pc' := 119) rfl ?_
          refine g_iconst A237 at_119 (v := (1 : Int32)) rfl (pc' := 120) rfl ?_
          refine g_goto A237 at_120 (pc' := 124) rfl ?_
          obtain rfl : v238 = (1 : Int32) := hv238.trans (if_pos (Or.inr ⟨c241, c242⟩))
          exact hr
        · skip
          refine g_icY A237 at_116 (c2_ne_t c242) (pc' := 123) rfl ?_
          refine g_iconst A237 at_123 (v := (0 : Int32)) rfl (pc' := 124) rfl ?_
          obtain rfl : v238 = (0 : Int32) := hv238.trans (if_neg (fun q => q.elim c240 (fun q => c242 q.2)))
          exact hr
  refine sg239 ?_
  refine g_istore A237 at_124 (ls' := #[.val (.int p0), .val (.int p1), .val (.int p2), .val (.int p3), .val (.int r118), .val (.int r126), .val (.int r134), .val (.int v136), .val (.int v139), .val (.ref a143), .val (.int v238)]) rfl (pc' := 126) rfl ?_
  refine g_aload A237 at_126 rfl rfl (pc' := 128) rfl ?_
  refine g_iload A237 at_128 rfl (pc' := 130) rfl ?_
  obtain ⟨_, _, ⟨T243, L243, k243, n243⟩, -, X243, ⟨L243c, hQ243, l243, y243, z243⟩, st243⟩ := Jvm.LawKit.callS X222 hx (y := (⟨"com/example/flat_pager/flatpager/ScoreWindowIsBeforePinLaw", "toDouble", "(I)D"⟩ : MethodName)) hown (mvT hZ (hw _ (List.mem_of_getElem? (i := 10) rfl))) (mvT hZ (hw _ (List.mem_of_getElem? (i := 11) rfl))) (mvT hZ (hw _ (List.mem_of_getElem? (i := 2) rfl))) (mvT hZ (hw _ (List.mem_of_getElem? (i := 12) rfl))) (by decide) (backOf (W := 1) (rm2 l Z a0 hw [] r118 T222.heap n0 Z235 ) hZ (hw _ (List.mem_of_getElem? (i := 12) rfl)) (hw _ (List.mem_of_getElem? (i := 2) rfl)) (by decide) (by decide)) (g := (mkF m 130 #[.val (.int p0), .val (.int p1), .val (.int p2), .val (.int p3), .val (.int r118), .val (.int r126), .val (.int r134), .val (.int v136), .val (.int v139), .val (.ref a143), .val (.int v238)] [(.int r118), (.ref a143)])) rfl (by rw [hml]; rfl) (argsL := [(.int r118)]) (rest := [(.ref a143)]) (lenOf pd_4 rfl) rfl (by show 2 * 0 + _ ≤ _; exact Nat.le_of_eq rfl) (hb hby at_130) (fun _ _ => ⟨rfl, rfl, (by decide : 3 + 0 ≤ _), (by decide : 6 + 0 ≤ _)⟩)
  dsimp only [Pt.U, Pt.locs, Pt.cells, Pt.slots] at X243 l243 y243 z243 st243 hQ243
  subst l243 y243 z243
  obtain ⟨rfl, Nq244, Kq245⟩ := hQ243
  have N246 := Fr.app N227 Nq244
  refine Go.of (g' := (mkF m 133 #[.val (.int p0), .val (.int p1), .val (.int p2), .val (.int p3), .val (.int r118), .val (.int r126), .val (.int r134), .val (.int v136), .val (.int v139), .val (.ref a143), .val (.int v238)] [(.double (own_r_rm2 r118)), (.ref a143)])) st243 ?_
  have e247 : T243.heap = T222.heap := Kq245
  have A248 := (⟨X243, hx, hby⟩ : Ax _ _ _ _ _ _ _ _ _ _ _ _ _ _ _)
  obtain ⟨cq250, kq250, q250a, q250b, q250c⟩ := isOf hZ e247 E228
  obtain ⟨_, _, ⟨T249, L249, k249, n249⟩, -, X249, ⟨L249c, hQ249, l249, y249, z249⟩, st249⟩ := X243.virtualBack hx (y := (⟨"com/example/flat_pager/flatpager/ScoreWindow", "isBefore", "(D)Z"⟩ : MethodName)) (z := (⟨"com/example/flat_pager/flatpager/ScoreWindow", "isBefore", "(D)Z"⟩ : MethodName)) hown (mvT hZ (hw _ (List.mem_of_getElem? (i := 37) rfl))) (mvT hZ (hw _ (List.mem_of_getElem? (i := 38) rfl))) (notFace_of_selects (args := #[]) (mvT hZ (hw _ (List.mem_of_getElem? (i := 40) rfl)))) (mvT hZ (hw _ (List.mem_of_getElem? (i := 40) rfl))) (mvT hZ (hw _ (List.mem_of_getElem? (i := 39) rfl))) (by decide) (backOf (W := 0) (rm7 l Z a0 hw [] a143 (own_r_rm2 r118) a152 (own_r_rm2 r126) v136 T222.heap n0 Z235 F225 E229 F230 F231 (own_b01 hv136)) hZ (hw _ (List.mem_of_getElem? (i := 41) rfl)) (hw _ (List.mem_of_getElem? (i := 6) rfl)) (by decide) (by decide)) q250a q250c (g := (mkF m 133 #[.val (.int p0), .val (.int p1), .val (.int p2), .val (.int p3), .val (.int r118), .val (.int r126), .val (.int r134), .val (.int v136), .val (.int v139), .val (.ref a143), .val (.int v238)] [(.double (own_r_rm2 r118)), (.ref a143)])) rfl (by rw [hml]; rfl) (Steps.refl _) (argsL := [(.double (own_r_rm2 r118))]) (rest := []) (lenOf pd_7 rfl) rfl (by show 2 * 0 + _ ≤ _; exact Nat.le_of_eq rfl) (hb hby at_133) (fun _ _ => ⟨rfl, e247, (by decide : 3 + 0 ≤ _), (by decide : 6 + 0 ≤ _)⟩)
  dsimp only [Pt.U, Pt.locs, Pt.cells, Pt.slots] at X249 l249 y249 z249 st249 hQ249
  subst l249 y249 z249
  obtain ⟨rfl, Nq251, Kq252⟩ := hQ249
  have N253 := Fr.app N246 Nq251
  refine Go.tr (g' := (mkF m 136 #[.val (.int p0), .val (.int p1), .val (.int p2), .val (.int p3), .val (.int r118), .val (.int r126), .val (.int r134), .val (.int v136), .val (.int v139), .val (.ref a143), .val (.int v238)] [(.int (own_r_rm7 (own_r_rm2 r118) (own_r_rm2 r126) v136))])) st249 ?_
  have e254 : T249.heap = T222.heap := Kq252
  have A255 := (⟨X249, hx, hby⟩ : Ax _ _ _ _ _ _ _ _ _ _ _ _ _ _ _)
  refine g_iload A255 at_136 rfl (pc' := 138) rfl ?_
  have h256 : (own_r_rm7 (own_r_rm2 r118) (own_r_rm2 r126) v136) = v238 := own_end _ _ r118 r126 ok119 ok127 hv136 Iff.rfl hv238
  refine g_icN A255 at_138 (c2_ne_f h256) (pc' := 141) rfl ?_
  refine g_iconst A255 at_141 (v := (1 : Int32)) rfl (pc' := 142) rfl ?_
  refine g_goto A255 at_142 (pc' := 146) rfl ?_
  exact g_ret (Q := Q0 Z p0 p1 p2 p3 h0 n0) A255 at_146 Bd.notSynchronized Bd.returns rfl (Or.inl ⟨rfl, by simp, _, rfl⟩) (by decide) (by decide) (by rw [e254]; exact ⟨rfl, N253⟩)
set_option maxRecDepth 65536 in
set_option maxHeartbeats 40000000 in
theorem comes_1 {Post : Tables → Env → Array Value → State → Outcome → State → Prop} (hpost : ∀ tb e args s v u, (limb_1_1.after args s (.returned v) u = true ∧ limb_1_2.after args s (.returned v) u = true ∧ True) → FrameEnd s (.returned v) u (Jvm.fieldLocs frame_1_writes args s ++ Jvm.arrayLocs frame_1_arrays args s ++ Jvm.staticLocs frame_1_statics s) 16 128 → Post tb e args s (.returned v) u) :
    ArmFor flags0 classFile x code maxLocals ret World_1 tables_1 room_1 Calls_1 rest_1 Pre_1 Post := by
  intro l hfl _ _ p e ha hc hk s m args below hf hA hF happ hP
  obtain ⟨hcalls, hrest, hpre⟩ := hP
  obtain ⟨-, -, -, hnamed, -, -, -, hat⟩ := (Spec.applies_iff hf).mp happ
  obtain ⟨hg, hn⟩ := and_e (Cond.before_iff.mp (show (Jvm.Cond.and given_1 narrow_1).before args s = true from hpre))
  obtain ⟨g0, hg1⟩ := and_e hg
  obtain ⟨w0, w1, w2, w3, rfl⟩ : ∃ w0 w1 w2 w3 : Value, args = #[w0, w1, w2, w3] := by
    have hs : args.size = 4 := by simpa [Cond.value, given_1] using g0
    obtain ⟨L⟩ := args
    match L, hs with
    | [w0, w1, w2, w3], _ => exact ⟨w0, w1, w2, w3, rfl⟩
  have hw := fun d (hd : d ∈ tables_1) => atoms_spec (ws := Jvm.Cond.code x code maxLocals ret :: tables_1) hat d (List.mem_cons_of_mem _ hd)
  have hfit : Fit s := fun {y c} hc i hi => by
    obtain ⟨ha, rfl⟩ := Array.getElem?_eq_some_iff.mp hc
    have q := List.all_eq_true.mp ((Array.all_eq_true_iff_forall_mem.mp hF) _ (Array.getElem_mem ha)) i (List.mem_range.mpr hi)
    simpa [Array.getElem?_eq_getElem hi] using q
  obtain ⟨k0, hg2⟩ := and_e hg1
  obtain ⟨i0, j0⟩ := is_v k0
  obtain rfl : w0 = (.int i0) := Option.some.inj j0
  obtain ⟨k1, hg3⟩ := and_e hg2
  obtain ⟨i1, j1⟩ := is_v k1
  obtain rfl : w1 = (.int i1) := Option.some.inj j1
  obtain ⟨k2, hg4⟩ := and_e hg3
  obtain ⟨i2, j2⟩ := is_v k2
  obtain rfl : w2 = (.int i2) := Option.some.inj j2
  obtain ⟨i3, j3⟩ := is_v hg4
  obtain rfl : w3 = (.int i3) := Option.some.inj j3
  obtain ⟨n, o, h1, h2, h3, _, L, rfl, ⟨rfl, N⟩, hq⟩ := rm0 l s _ hw tables_1 i0 i1 i2 i3 s.heap s.heap.size (Nat.le_refl _)  p e ha hc hk s m _ below hf ((Spec.applies_iff_loose hf).mp happ).1 ⟨rfl, State.Warmed39.refl s, rfl⟩ trivial
  refine ⟨n, _, h1, h2, h3, hpost _ _ _ _ _ _ ⟨Cond.after_iff.mpr rfl, Cond.after_iff.mpr (eq_i res_at (Term.int_eval (1)) rfl), trivial⟩ ⟨hq.1, hq.2.1, (hq.2.2.sift fun y hy => Or.inr (N y hy)).mono (by decide) (by decide)⟩⟩
theorem main_1_1 : Claimed_1_1 := comes_1 fun _ _ _ _ _ _ h hF => ⟨h.1, hF⟩
theorem main_1_2 : Claimed_1_2 := comes_1 fun _ _ _ _ _ _ h hF => ⟨h.2.1, hF⟩
end Jvm.Pilot.@@N@@
namespace Jvm.Pilot.@@N@@
open Jvm Jvm.ClassFile Sem Op Lib Jvm.Free Jvm.Stand Jvm.Pilot.@@N@@.Jvm.D
/-! MADE BY PROGRAM (witnessworld.py) out of the Statement's table words and the real class files: 11 classes; the members and pool entries that the words name. The judged class is class 1, her method 3. -/
namespace start1
open Jvm.ClassFile
def u (s : String) : CpInfo := .utf8 (stringToUtf16 s)
/-- a pool by its gaps: so many unusable entries, then the entry; so many at the end -/
def gap : Nat → List CpInfo → List CpInfo
  | 0, r => r
  | n + 1, r => .unusable :: gap n r
def poolList (es : List (Nat × CpInfo)) (last : Nat) : List CpInfo := es.foldr (fun e r => gap e.1 (e.2 :: r)) (gap last [])
def pool (es : List (Nat × CpInfo)) (last : Nat) : Array CpInfo := ⟨poolList es last⟩
def fileOf (pool : Array CpInfo) (this : Nat) (attrs : Array Attribute := #[]) (ms : Array MethodInfo := #[]) (fl : Nat := 33) (sup : Nat := 0) (ifs : Array Nat := #[]) (fds : Array FieldInfo := #[]) : ClassFile where
  minorVersion := 0
  majorVersion := 65
  constantPool := pool
  accessFlags := fl
  thisClass := this
  superClass := sup
  interfaces := ifs
  fields := fds
  methods := ms
  attributes := attrs
def plain (name : String) (sup : Option ClassId) : Class where
  name := name
  kind := .ordinary
  loader := none
  accessFlags := 33
  super := sup
  interfaces := #[]
  cf := none
  fields := #[]
  methods := #[]
  instanceTypes := #[]
  staticTypes := #[]
  resolved := #[]
  callSites := []
  init := .initialized
  statics := none
  mirror := none

def pool0 : Array CpInfo := pool [(5, u "<init>"), (0, u "()V"), (1, .class_ 10), (1, u "java/lang/Object")] 113

def k0c0 : Code := { maxStack := 0, maxLocals := 1, code := object_method_1_code, exceptionTable := #[], attributes := #[] }
def k0m0 : Method := { name := "<init>", desc := "()V", sig := { parameters := [], returnType := none }, accessFlags := 1, code := some k0c0 }
/-- java/lang/Object -/
def k0 : Class := { plain "java/lang/Object" none with
  accessFlags := 33
  interfaces := #[]
  cf := some (fileOf pool0 8 #[] #[{ accessFlags := 1, nameIndex := 5, descriptorIndex := 6, attributes := #[] }] 33 0 #[] #[])
  fields := #[]
  methods := #[k0m0]
  instanceTypes := #[]
  staticTypes := #[]
  resolved := Array.replicate 124 none
  statics := none }

def pool1 : Array CpInfo := pool [(2, .class_ 4), (1, u "java/lang/Object"), (0, u "<init>"), (0, u "()V"), (0, .double 18442240474082181120), (1, .double 9218868437227405312), (1, .methodref 12 13), (0, .class_ 14), (0, .nameAndType 15 16), (0, u "com/example/flat_pager/flatpager/ScoreWindowIsBeforePinLaw"), (0, u "rank"), (0, u "(II)I"), (0, .class_ 18), (0, u "com/example/flat_pager/flatpager/ScoreWindow"), (0, .class_ 20), (0, u "com/example/flat_pager/flatpager/ScoreWindow$Bound"), (0, .methodref 12 22), (0, .nameAndType 23 24), (0, u "toDouble"), (0, u "(I)D"), (0, .methodref 19 26), (0, .nameAndType 5 27), (0, u "(DZ)V"), (0, .methodref 17 29), (0, .nameAndType 5 30), (0, u "(Lcom/example/flat_pager/flatpager/ScoreWindow$Bound;Lcom/example/flat_pager/flatpager/ScoreWindow$Bound;)V"), (0, .methodref 17 32), (0, .nameAndType 33 34), (0, u "isBefore"), (0, u "(D)Z"), (3, u "law"), (0, u "(IIII)Z")] 4

def k1m0 : Method := { name := "<init>", desc := "()V", sig := { parameters := [], returnType := none }, accessFlags := 1, code := none }
def k1c1 : Code := { maxStack := 2, maxLocals := 2, code := method_2_code, exceptionTable := #[], attributes := #[] }
def k1m1 : Method := { name := "rank", desc := "(II)I", sig := { parameters := [.int, .int], returnType := some .int }, accessFlags := 10, code := some k1c1 }
def k1c2 : Code := { maxStack := 2, maxLocals := 1, code := method_3_code, exceptionTable := #[], attributes := #[] }
def k1m2 : Method := { name := "toDouble", desc := "(I)D", sig := { parameters := [.int], returnType := some .double }, accessFlags := 10, code := some k1c2 }
def k1c3 : Code := { maxStack := 8, maxLocals := 11, code := code, exceptionTable := #[], attributes := #[] }
def k1m3 : Method := { name := "law", desc := "(IIII)Z", sig := { parameters := [.int, .int, .int, .int], returnType := some .boolean }, accessFlags := 9, code := some k1c3 }
/-- com/example/flat_pager/flatpager/ScoreWindowIsBeforePinLaw -/
def k1 : Class := { plain "com/example/flat_pager/flatpager/ScoreWindowIsBeforePinLaw" (some 0) with
  accessFlags := 49
  interfaces := #[]
  cf := some (fileOf pool1 12 #[] #[{ accessFlags := 1, nameIndex := 5, descriptorIndex := 6, attributes := #[] }, { accessFlags := 10, nameIndex := 15, descriptorIndex := 16, attributes := #[] }, { accessFlags := 10, nameIndex := 23, descriptorIndex := 24, attributes := #[] }, { accessFlags := 9, nameIndex := 38, descriptorIndex := 39, attributes := #[] }] 49 2 #[] #[])
  fields := #[]
  methods := #[k1m0, k1m1, k1m2, k1m3]
  instanceTypes := #[]
  staticTypes := #[]
  resolved := Array.replicate 44 none
  statics := none }

def pool2 : Array CpInfo := pool [(1, .methodref 2 3), (0, .class_ 4), (0, .nameAndType 5 6), (0, u "java/lang/Object"), (0, u "<init>"), (0, u "()V"), (0, .class_ 8), (0, u "java/lang/Record")] 13

def k2c0 : Code := { maxStack := 1, maxLocals := 1, code := jdk_30_method_1_code, exceptionTable := #[], attributes := #[] }
def k2m0 : Method := { name := "<init>", desc := "()V", sig := { parameters := [], returnType := none }, accessFlags := 4, code := some k2c0 }
/-- java/lang/Record -/
def k2 : Class := { plain "java/lang/Record" (some 0) with
  accessFlags := 1057
  interfaces := #[]
  cf := some (fileOf pool2 7 #[] #[{ accessFlags := 4, nameIndex := 5, descriptorIndex := 6, attributes := #[] }] 1057 2 #[] #[])
  fields := #[]
  methods := #[k2m0]
  instanceTypes := #[]
  staticTypes := #[]
  resolved := Array.replicate 22 none
  statics := none }

def pool3 : Array CpInfo := pool [(1, .methodref 2 3), (0, .class_ 4), (0, .nameAndType 5 6), (0, u "java/lang/Record"), (0, u "<init>"), (0, u "()V"), (0, .fieldref 8 9), (0, .class_ 10), (0, .nameAndType 11 12), (0, u "com/example/flat_pager/flatpager/ScoreWindow"), (0, u "min"), (0, u "Lcom/example/flat_pager/flatpager/ScoreWindow$Bound;"), (0, .fieldref 8 14), (0, .nameAndType 15 12), (0, u "max"), (1, .class_ 19), (1, u "com/example/flat_pager/flatpager/ScoreWindow$Bound"), (4, u "(Lcom/example/flat_pager/flatpager/ScoreWindow$Bound;Lcom/example/flat_pager/flatpager/ScoreWindow$Bound;)V"), (0, .methodref 17 26), (0, .nameAndType 27 28), (0, u "excluded"), (0, u "()Z"), (0, .methodref 17 30), (0, .nameAndType 31 32), (0, u "score"), (0, u "()D"), (16, u "isBefore"), (0, u "(D)Z")] 29

def k3c0 : Code := { maxStack := 2, maxLocals := 3, code := prog_51_method_1_code, exceptionTable := #[], attributes := #[] }
def k3m0 : Method := { name := "<init>", desc := "(Lcom/example/flat_pager/flatpager/ScoreWindow$Bound;Lcom/example/flat_pager/flatpager/ScoreWindow$Bound;)V", sig := { parameters := [(.object "com/example/flat_pager/flatpager/ScoreWindow$Bound"), (.object "com/example/flat_pager/flatpager/ScoreWindow$Bound")], returnType := none }, accessFlags := 0, code := some k3c0 }
def k3c1 : Code := { maxStack := 4, maxLocals := 3, code := prog_51_method_3_code, exceptionTable := #[], attributes := #[] }
def k3m1 : Method := { name := "isBefore", desc := "(D)Z", sig := { parameters := [.double], returnType := some .boolean }, accessFlags := 0, code := some k3c1 }
/-- com/example/flat_pager/flatpager/ScoreWindow -/
def k3 : Class := { plain "com/example/flat_pager/flatpager/ScoreWindow" (some 2) with
  accessFlags := 48
  interfaces := #[]
  cf := some (fileOf pool3 8 #[.nestMembers #[17]] #[{ accessFlags := 0, nameIndex := 5, descriptorIndex := 24, attributes := #[] }, { accessFlags := 0, nameIndex := 49, descriptorIndex := 50, attributes := #[] }] 48 2 #[] #[{ accessFlags := 18, nameIndex := 11, descriptorIndex := 12, attributes := #[] }, { accessFlags := 18, nameIndex := 15, descriptorIndex := 12, attributes := #[] }])
  fields := #[{ name := "min", type := (.object "com/example/flat_pager/flatpager/ScoreWindow$Bound"), accessFlags := 18, slot := 0, constantValue := 0 }, { name := "max", type := (.object "com/example/flat_pager/flatpager/ScoreWindow$Bound"), accessFlags := 18, slot := 1, constantValue := 0 }]
  methods := #[k3m0, k3m1]
  instanceTypes := #[(.object "com/example/flat_pager/flatpager/ScoreWindow$Bound"), (.object "com/example/flat_pager/flatpager/ScoreWindow$Bound")]
  staticTypes := #[]
  resolved := Array.replicate 80 none
  statics := none }

def pool4 : Array CpInfo := pool [(1, .methodref 2 3), (0, .class_ 4), (0, .nameAndType 5 6), (0, u "java/lang/Record"), (0, u "<init>"), (0, u "()V"), (0, .fieldref 8 9), (0, .class_ 10), (0, .nameAndType 11 12), (0, u "com/example/flat_pager/flatpager/ScoreWindow$Bound"), (0, u "score"), (0, u "D"), (0, .fieldref 8 14), (0, .nameAndType 15 16), (0, u "excluded"), (0, u "Z"), (14, u "(DZ)V"), (29, u "()D"), (0, u "()Z"), (3, .class_ 67), (0, u "com/example/flat_pager/flatpager/ScoreWindow")] 20

def k4c0 : Code := { maxStack := 3, maxLocals := 4, code := prog_52_method_1_code, exceptionTable := #[], attributes := #[] }
def k4m0 : Method := { name := "<init>", desc := "(DZ)V", sig := { parameters := [.double, .boolean], returnType := none }, accessFlags := 0, code := some k4c0 }
def k4c1 : Code := { maxStack := 2, maxLocals := 1, code := prog_52_method_6_code, exceptionTable := #[], attributes := #[] }
def k4m1 : Method := { name := "score", desc := "()D", sig := { parameters := [], returnType := some .double }, accessFlags := 1, code := some k4c1 }
def k4c2 : Code := { maxStack := 1, maxLocals := 1, code := prog_52_method_7_code, exceptionTable := #[], attributes := #[] }
def k4m2 : Method := { name := "excluded", desc := "()Z", sig := { parameters := [], returnType := some .boolean }, accessFlags := 1, code := some k4c2 }
/-- com/example/flat_pager/flatpager/ScoreWindow$Bound -/
def k4 : Class := { plain "com/example/flat_pager/flatpager/ScoreWindow$Bound" (some 2) with
  accessFlags := 48
  interfaces := #[]
  cf := some (fileOf pool4 8 #[.nestHost 66] #[{ accessFlags := 0, nameIndex := 5, descriptorIndex := 31, attributes := #[] }, { accessFlags := 1, nameIndex := 11, descriptorIndex := 61, attributes := #[] }, { accessFlags := 1, nameIndex := 15, descriptorIndex := 62, attributes := #[] }] 48 2 #[] #[{ accessFlags := 18, nameIndex := 11, descriptorIndex := 12, attributes := #[] }, { accessFlags := 18, nameIndex := 15, descriptorIndex := 16, attributes := #[] }])
  fields := #[{ name := "score", type := .double, accessFlags := 18, slot := 0, constantValue := 0 }, { name := "excluded", type := .boolean, accessFlags := 18, slot := 1, constantValue := 0 }]
  methods := #[k4m0, k4m1, k4m2]
  instanceTypes := #[.double, .boolean]
  staticTypes := #[]
  resolved := Array.replicate 88 none
  statics := none }

def pool5 : Array CpInfo := pool [(1, u "java/lang/Cloneable"), (0, .class_ 1), (0, u "java/lang/Object"), (0, .class_ 3)] 3

/-- java/lang/Cloneable -/
def k5 : Class := { plain "java/lang/Cloneable" (some 0) with
  accessFlags := 1537
  interfaces := #[]
  cf := some (fileOf pool5 2 #[] #[] 1537 4 #[] #[])
  fields := #[]
  methods := #[]
  instanceTypes := #[]
  staticTypes := #[]
  resolved := Array.replicate 8 none
  statics := none }

def pool6 : Array CpInfo := pool [(1, u "java/io/Serializable"), (0, .class_ 1), (0, u "java/lang/Object"), (0, .class_ 3)] 3

/-- java/io/Serializable -/
def k6 : Class := { plain "java/io/Serializable" (some 0) with
  accessFlags := 1537
  interfaces := #[]
  cf := some (fileOf pool6 2 #[] #[] 1537 4 #[] #[])
  fields := #[]
  methods := #[]
  instanceTypes := #[]
  staticTypes := #[]
  resolved := Array.replicate 8 none
  statics := none }

/-- the primitive byte -/
def k7 : Class := { plain "byte" none with kind := .primitive 'B', accessFlags := 0x411 }
/-- [B -/
def k8 : Class := { plain "[B" (some 0) with kind := .array 7 .byte, interfaces := #[5, 6], accessFlags := 1041 }

/-- the primitive int -/
def k9 : Class := { plain "int" none with kind := .primitive 'I', accessFlags := 0x411 }
/-- [I -/
def k10 : Class := { plain "[I" (some 0) with kind := .array 9 .int, interfaces := #[5, 6], accessFlags := 1041 }

def heap : Heap := #[]
def classes : Array Class := #[k0, k1, k2, k3, k4, k5, k6, k7, k8, k9, k10]
def interned : List (Array UInt16 × Addr) := []
def slotsUsed : Nat := 0
def theMethod : MethodId := ⟨1, 3⟩
def args0 : Array Value := #[.int 5, .int 3, .int 1, .int 9]
def aboutOver (below : List Frame) : State where
  vm := { classes := classes, interned := interned.toArray }
  heap := heap
  slotsUsed := slotsUsed
  threads := #[{ frames := .invoking theMethod args0 :: below }]
def below0 : List Frame := [.native { method := ⟨0, 0⟩, args := #[] }]
def about1 : State := aboutOver below0
def p0 : Program := .bare "" "" ""
def e0 : Env := launch0.env 0 0 0
theorem w_frames : about1.frames = Frame.invoking theMethod args0 :: below0 := rfl
set_option maxRecDepth 65536 in
theorem w_args : argsFit about1.vm theMethod args0 = true := by decide +kernel
set_option maxRecDepth 65536 in
theorem w_heap : heapFits about1 = true := by decide +kernel
set_option maxRecDepth 65536 in
theorem w_runnable : about1.curStatus? = some .runnable := by decide +kernel
set_option maxRecDepth 65536 in
theorem w_alone : about1.alone = true := by decide +kernel
set_option maxRecDepth 65536 in
theorem w_named : about1.methodNamed? x = some theMethod := by decide +kernel
set_option maxRecDepth 65536 in
theorem w_hears : about1.hears theMethod below0 = true := by decide +kernel
set_option maxRecDepth 65536 in
theorem w_ripe : about1.ripe theMethod args0 below0 = true := by decide +kernel
theorem w_running : about1.status = .running := rfl
set_option maxRecDepth 65536 in
theorem w_room : about1.hasRoom e0.platform room_1 = true :=
  launch0.hasRoom_least _ room_1 (by decide +kernel) (by decide +kernel) (by decide +kernel) (by decide +kernel) (by decide +kernel) (by decide +kernel)
theorem allAtoms_all (ts : List Jvm.Cond) (a : Array Jvm.Value) (st : Jvm.State) : (allAtoms ts).before a st = ts.all (fun c => c.before a st) := by
  induction ts with
  | nil => rfl
  | cons c t ih =>
    show (Jvm.Cond.and c (allAtoms t)).before a st = _
    rw [Jvm.Cond.before_and, ih, List.all_cons]
def words1 : List Jvm.Cond := Jvm.Cond.code x code maxLocals ret :: tables_1
/-- a 'code' word, met by the world's own term for the bytes: nothing is compared byte by byte -/
theorem code_word {y : MethodName} {bytes : ByteArray} {mx : Nat} {rt : Option FieldType} {a : Array Value} {s : State} {m : MethodId} {meth : Method} {c : Code} (h1 : s.methodNamed? y = some m) (h2 : s.vm.method? m = some meth) (h3 : meth.code = some c) (h4 : c.code = bytes)
    (h5 : (c.maxLocals == mx && c.exceptionTable.isEmpty && decide (c.maxStack ≤ mostOperands) && decide (meth.sig.returnType = rt) && !meth.locks && decide (parseMethodDescriptor y.desc = some meth.sig)) = true) : (Jvm.Cond.code y bytes mx rt).before a s = true := by
  simp only [Bool.and_eq_true, beq_iff_eq, Bool.not_eq_true', decide_eq_true_eq] at h5
  obtain ⟨⟨⟨⟨⟨g1, g2⟩, g3⟩, g4⟩, g5⟩, g6⟩ := h5
  simp [Cond.before, Cond.holds, Cond.value, h1, h2, h3, h4, g1, g2, g3, g4, g5, g6]
def isCode : Jvm.Cond → Bool
  | .code _ _ _ _ => true
  | _ => false
theorem all_split {L : List Jvm.Cond} {P : Jvm.Cond → Bool} (h1 : L.all (fun c => isCode c || P c) = true) (h2 : ∀ c ∈ L.filter isCode, P c = true) : L.all P = true := by
  refine List.all_eq_true.mpr fun c hc => ?_
  have h := List.all_eq_true.mp h1 c hc
  rcases Bool.eq_false_or_eq_true (isCode c) with hi | hi
  · exact h2 c (List.mem_filter.mpr ⟨hc, hi⟩)
  · simpa [hi] using h
set_option maxRecDepth 65536 in
theorem w_c0 : (Jvm.Cond.code x code maxLocals ret).before args0 about1 = true := code_word (m := ⟨1, 3⟩) (meth := k1m3) (c := k1c3) (by decide +kernel) rfl rfl rfl (by decide +kernel)
set_option maxRecDepth 65536 in
theorem w_c1 : (Jvm.Cond.code ({ cls := "com/example/flat_pager/flatpager/ScoreWindowIsBeforePinLaw", name := "rank", desc := "(II)I" } : Jvm.MethodName) method_2_code (2 : Nat) (Option.some Jvm.ClassFile.FieldType.int)).before args0 about1 = true := code_word (m := ⟨1, 1⟩) (meth := k1m1) (c := k1c1) (by decide +kernel) rfl rfl rfl (by decide +kernel)
set_option maxRecDepth 65536 in
theorem w_c2 : (Jvm.Cond.code ({ cls := "com/example/flat_pager/flatpager/ScoreWindowIsBeforePinLaw", name := "toDouble", desc := "(I)D" } : Jvm.MethodName) method_3_code (1 : Nat) (Option.some Jvm.ClassFile.FieldType.double)).before args0 about1 = true := code_word (m := ⟨1, 2⟩) (meth := k1m2) (c := k1c2) (by decide +kernel) rfl rfl rfl (by decide +kernel)
set_option maxRecDepth 65536 in
theorem w_c3 : (Jvm.Cond.code ({ cls := "com/example/flat_pager/flatpager/ScoreWindow$Bound", name := "<init>", desc := "(DZ)V" } : Jvm.MethodName) prog_52_method_1_code (4 : Nat) (Option.none : Option Jvm.ClassFile.FieldType)).before args0 about1 = true := code_word (m := ⟨4, 0⟩) (meth := k4m0) (c := k4c0) (by decide +kernel) rfl rfl rfl (by decide +kernel)
set_option maxRecDepth 65536 in
theorem w_c4 : (Jvm.Cond.code ({ cls := "java/lang/Record", name := "<init>", desc := "()V" } : Jvm.MethodName) jdk_30_method_1_code (1 : Nat) (Option.none : Option Jvm.ClassFile.FieldType)).before args0 about1 = true := code_word (m := ⟨2, 0⟩) (meth := k2m0) (c := k2c0) (by decide +kernel) rfl rfl rfl (by decide +kernel)
set_option maxRecDepth 65536 in
theorem w_c5 : (Jvm.Cond.code ({ cls := "java/lang/Object", name := "<init>", desc := "()V" } : Jvm.MethodName) object_method_1_code (1 : Nat) (Option.none : Option Jvm.ClassFile.FieldType)).before args0 about1 = true := code_word (m := ⟨0, 0⟩) (meth := k0m0) (c := k0c0) (by decide +kernel) rfl rfl rfl (by decide +kernel)
set_option maxRecDepth 65536 in
theorem w_c6 : (Jvm.Cond.code ({ cls := "com/example/flat_pager/flatpager/ScoreWindow", name := "<init>", desc := "(Lcom/example/flat_pager/flatpager/ScoreWindow$Bound;Lcom/example/flat_pager/flatpager/ScoreWindow$Bound;)V" } : Jvm.MethodName) prog_51_method_1_code (3 : Nat) (Option.none : Option Jvm.ClassFile.FieldType)).before args0 about1 = true := code_word (m := ⟨3, 0⟩) (meth := k3m0) (c := k3c0) (by decide +kernel) rfl rfl rfl (by decide +kernel)
set_option maxRecDepth 65536 in
theorem w_c7 : (Jvm.Cond.code ({ cls := "com/example/flat_pager/flatpager/ScoreWindow", name := "isBefore", desc := "(D)Z" } : Jvm.MethodName) prog_51_method_3_code (3 : Nat) (Option.some Jvm.ClassFile.FieldType.boolean)).before args0 about1 = true := code_word (m := ⟨3, 1⟩) (meth := k3m1) (c := k3c1) (by decide +kernel) rfl rfl rfl (by decide +kernel)
set_option maxRecDepth 65536 in
theorem w_c8 : (Jvm.Cond.code ({ cls := "com/example/flat_pager/flatpager/ScoreWindow$Bound", name := "excluded", desc := "()Z" } : Jvm.MethodName) prog_52_method_7_code (1 : Nat) (Option.some Jvm.ClassFile.FieldType.boolean)).before args0 about1 = true := code_word (m := ⟨4, 2⟩) (meth := k4m2) (c := k4c2) (by decide +kernel) rfl rfl rfl (by decide +kernel)
set_option maxRecDepth 65536 in
theorem w_c9 : (Jvm.Cond.code ({ cls := "com/example/flat_pager/flatpager/ScoreWindow$Bound", name := "score", desc := "()D" } : Jvm.MethodName) prog_52_method_6_code (1 : Nat) (Option.some Jvm.ClassFile.FieldType.double)).before args0 about1 = true := code_word (m := ⟨4, 1⟩) (meth := k4m1) (c := k4c1) (by decide +kernel) rfl rfl rfl (by decide +kernel)
def codes1 : List Jvm.Cond := [Jvm.Cond.code x code maxLocals ret, Jvm.Cond.code ({ cls := "com/example/flat_pager/flatpager/ScoreWindowIsBeforePinLaw", name := "rank", desc := "(II)I" } : Jvm.MethodName) method_2_code (2 : Nat) (Option.some Jvm.ClassFile.FieldType.int), Jvm.Cond.code ({ cls := "com/example/flat_pager/flatpager/ScoreWindowIsBeforePinLaw", name := "toDouble", desc := "(I)D" } : Jvm.MethodName) method_3_code (1 : Nat) (Option.some Jvm.ClassFile.FieldType.double), Jvm.Cond.code ({ cls := "com/example/flat_pager/flatpager/ScoreWindow$Bound", name := "<init>", desc := "(DZ)V" } : Jvm.MethodName) prog_52_method_1_code (4 : Nat) (Option.none : Option Jvm.ClassFile.FieldType), Jvm.Cond.code ({ cls := "java/lang/Record", name := "<init>", desc := "()V" } : Jvm.MethodName) jdk_30_method_1_code (1 : Nat) (Option.none : Option Jvm.ClassFile.FieldType), Jvm.Cond.code ({ cls := "java/lang/Object", name := "<init>", desc := "()V" } : Jvm.MethodName) object_method_1_code (1 : Nat) (Option.none : Option Jvm.ClassFile.FieldType), Jvm.Cond.code ({ cls := "com/example/flat_pager/flatpager/ScoreWindow", name := "<init>", desc := "(Lcom/example/flat_pager/flatpager/ScoreWindow$Bound;Lcom/example/flat_pager/flatpager/ScoreWindow$Bound;)V" } : Jvm.MethodName) prog_51_method_1_code (3 : Nat) (Option.none : Option Jvm.ClassFile.FieldType), Jvm.Cond.code ({ cls := "com/example/flat_pager/flatpager/ScoreWindow", name := "isBefore", desc := "(D)Z" } : Jvm.MethodName) prog_51_method_3_code (3 : Nat) (Option.some Jvm.ClassFile.FieldType.boolean), Jvm.Cond.code ({ cls := "com/example/flat_pager/flatpager/ScoreWindow$Bound", name := "excluded", desc := "()Z" } : Jvm.MethodName) prog_52_method_7_code (1 : Nat) (Option.some Jvm.ClassFile.FieldType.boolean), Jvm.Cond.code ({ cls := "com/example/flat_pager/flatpager/ScoreWindow$Bound", name := "score", desc := "()D" } : Jvm.MethodName) prog_52_method_6_code (1 : Nat) (Option.some Jvm.ClassFile.FieldType.double)]
set_option maxRecDepth 65536 in
theorem codes_eq : words1.filter isCode = codes1 := rfl
theorem w_codes : ∀ c ∈ words1.filter isCode, c.before args0 about1 = true := by
  rw [codes_eq]
  intro c hc
  simp only [codes1, List.mem_cons, List.not_mem_nil, or_false] at hc
  rcases hc with rfl | rfl | rfl | rfl | rfl | rfl | rfl | rfl | rfl | rfl
  · exact w_c0
  · exact w_c1
  · exact w_c2
  · exact w_c3
  · exact w_c4
  · exact w_c5
  · exact w_c6
  · exact w_c7
  · exact w_c8
  · exact w_c9
set_option maxRecDepth 65536 in
theorem w_t1 : (words1.take 24).all (fun c => isCode c || c.before args0 about1) = true := by decide +kernel
set_option maxRecDepth 65536 in
theorem w_t2 : ((words1.drop 24).take 24).all (fun c => isCode c || c.before args0 about1) = true := by decide +kernel
set_option maxRecDepth 65536 in
theorem w_t3 : ((words1.drop 24).drop 24).all (fun c => isCode c || c.before args0 about1) = true := by decide +kernel
theorem w_tables : (allAtoms (Jvm.Cond.code x code maxLocals ret :: tables_1)).before args0 about1 = true := by
  rw [allAtoms_all]
  show words1.all (fun c => c.before args0 about1) = true
  refine all_split ?_ w_codes
  rw [← List.take_append_drop 24 words1, List.all_append, w_t1, ← List.take_append_drop 24 (words1.drop 24), List.all_append, w_t2, w_t3]
  rfl
set_option maxRecDepth 65536 in
theorem w_case : (Jvm.Cond.and given_1 narrow_1).before args0 about1 = true := by decide +kernel
theorem w_applies : (headSpec (Jvm.Cond.code x code maxLocals ret :: tables_1) room_1).applies x e0.platform about1 = true :=
  (Spec.applies_iff w_frames).mpr ⟨w_running, w_runnable, w_alone, w_named, w_hears, w_ripe, w_room, w_tables⟩
theorem atStart : AtStart classFile x code maxLocals ret World_1 tables_1 room_1 Calls_1 rest_1 Pre_1 launch0 p0 e0 about1 theMethod args0 below0 :=
  ⟨lists_1, trivial, launch0.admits_env _ _ _, launch0.least_env, fairChoices_fair.cas, fairChoices_fair.clock, w_frames, w_args, w_heap, w_applies, trivial, trivial, w_case⟩
end start1
theorem witness_1 : WitnessClaimed_1 := ⟨start1.p0, start1.e0, start1.about1, start1.theMethod, start1.args0, start1.below0, start1.atStart⟩
end Jvm.Pilot.@@N@@
