import JvmDerived
import JvmDerived.Pilot.@@N@@Statement
import JvmDerived.Pilot.@@N@@Code
set_option linter.unusedVariables false
set_option linter.unusedSimpArgs false
namespace Jvm.Pilot.@@N@@
open Jvm Jvm.ClassFile Sem Op Lib Jvm.Free Jvm.Free.Fl Jvm.Stand Jvm.LawKit Jvm.RoadKit Bundle Jvm.Pilot.@@N@@.Jvm.D
section own_go
/-- where the walk stands, with the two facts that every step asks -/
def Ax (p : Program) (l : Launch) (e : Env) (R : Room) (s : State) (m : MethodId) (args : Array Value) (below : List Frame) (meth : Method) (c : Code) (T : State) (locs : List Loc) (cells slots : Nat) (B : ByteArray) : Prop := Stand p l e R s m args below meth c T locs cells slots ∧ p.tables.exec = Jvm.exec ∧ c.code = B
/-- from this frame the run ends, and P holds of its end -/
def Go (p : Program) (e : Env) (below : List Frame) (P : State → Outcome → Prop) (T : State) (g : JFrame) : Prop := ∃ U o, Steps p.tables e below (T.setTop g) U ∧ U.status = .running ∧ Ended U below o ∧ P U o
variable {p : Program} {l : Launch} {e : Env} {R : Room} {s : State} {m : MethodId} {args : Array Value} {below : List Frame} {meth : Method} {c : Code} {T : State} {locs : List Loc} {cells slots : Nat} {P : State → Outcome → Prop} {B : ByteArray} {pc pc' : Nat} {ls ls' : Array Slot} {st : List Value}
theorem Go.of {T' : State} {g g' : JFrame} (k : ∀ t, Steps p.tables e below (T'.setTop g') t → Steps p.tables e below (T.setTop g) t) (h : Go p e below P T' g') : Go p e below P T g := by
  obtain ⟨U, o, h1, h2⟩ := h
  exact ⟨U, o, k _ h1, h2⟩
theorem Go.tr {T' : State} {g g' : JFrame} (k : Steps p.tables e below (T.setTop g) (T'.setTop g')) (h : Go p e below P T' g') : Go p e below P T g := Go.of (fun _ h => k.trans h) h
theorem Go.cast {g g' : JFrame} (q : g = g') (h : Go p e below P T g') : Go p e below P T g := q ▸ h

theorem g_iadd (A : Ax p l e R s m args below meth c T locs cells slots B) {x : Int32} {y : Int32} (hd : decode B pc = .ok (.iadd, 1)) (hp : pc + 1 = pc') (k : Go p e below P T (mkF m pc' ls (.int (x + y) :: st))) : Go p e below P T (mkF m pc ls (.int y :: .int x :: st)) := by
  subst hp; exact Go.of (fun _ k' => XS.iadd A.1.here A.2.1 rfl (hb A.2.2 hd) rfl k') k
theorem g_isub (A : Ax p l e R s m args below meth c T locs cells slots B) {x : Int32} {y : Int32} (hd : decode B pc = .ok (.isub, 1)) (hp : pc + 1 = pc') (k : Go p e below P T (mkF m pc' ls (.int (x - y) :: st))) : Go p e below P T (mkF m pc ls (.int y :: .int x :: st)) := by
  subst hp; exact Go.of (fun _ k' => XS.isub A.1.here A.2.1 rfl (hb A.2.2 hd) rfl k') k
theorem g_iand (A : Ax p l e R s m args below meth c T locs cells slots B) {x : Int32} {y : Int32} (hd : decode B pc = .ok (.iand, 1)) (hp : pc + 1 = pc') (k : Go p e below P T (mkF m pc' ls (.int (x &&& y) :: st))) : Go p e below P T (mkF m pc ls (.int y :: .int x :: st)) := by
  subst hp; exact Go.of (fun _ k' => XS.iand A.1.here A.2.1 rfl (hb A.2.2 hd) rfl k') k
theorem g_imul (A : Ax p l e R s m args below meth c T locs cells slots B) {x : Int32} {y : Int32} (hd : decode B pc = .ok (.imul, 1)) (hp : pc + 1 = pc') (k : Go p e below P T (mkF m pc' ls (.int (x * y) :: st))) : Go p e below P T (mkF m pc ls (.int y :: .int x :: st)) := by
  subst hp; exact Go.of (fun _ k' => XS.imul A.1.here A.2.1 rfl (hb A.2.2 hd) rfl k') k
theorem g_ixor (A : Ax p l e R s m args below meth c T locs cells slots B) {x : Int32} {y : Int32} (hd : decode B pc = .ok (.ixor, 1)) (hp : pc + 1 = pc') (k : Go p e below P T (mkF m pc' ls (.int (x ^^^ y) :: st))) : Go p e below P T (mkF m pc ls (.int y :: .int x :: st)) := by
  subst hp; exact Go.of (fun _ k' => XT.ixor A.1.here A.2.1 rfl (hb A.2.2 hd) rfl k') k
theorem g_ior (A : Ax p l e R s m args below meth c T locs cells slots B) {x : Int32} {y : Int32} (hd : decode B pc = .ok (.ior, 1)) (hp : pc + 1 = pc') (k : Go p e below P T (mkF m pc' ls (.int (x ||| y) :: st))) : Go p e below P T (mkF m pc ls (.int y :: .int x :: st)) := by
  subst hp; exact Go.of (fun _ k' => XT.ior A.1.here A.2.1 rfl (hb A.2.2 hd) rfl k') k
theorem g_ishl (A : Ax p l e R s m args below meth c T locs cells slots B) {x : Int32} {y : Int32} (hd : decode B pc = .ok (.ishl, 1)) (hp : pc + 1 = pc') (k : Go p e below P T (mkF m pc' ls (.int (x <<< (y &&& 31)) :: st))) : Go p e below P T (mkF m pc ls (.int y :: .int x :: st)) := by
  subst hp; exact Go.of (fun _ k' => XT.ishl A.1.here A.2.1 rfl (hb A.2.2 hd) rfl k') k
theorem g_ishr (A : Ax p l e R s m args below meth c T locs cells slots B) {x : Int32} {y : Int32} (hd : decode B pc = .ok (.ishr, 1)) (hp : pc + 1 = pc') (k : Go p e below P T (mkF m pc' ls (.int (x >>> (y &&& 31)) :: st))) : Go p e below P T (mkF m pc ls (.int y :: .int x :: st)) := by
  subst hp; exact Go.of (fun _ k' => XT.ishr A.1.here A.2.1 rfl (hb A.2.2 hd) rfl k') k
theorem g_iushr (A : Ax p l e R s m args below meth c T locs cells slots B) {x : Int32} {y : Int32} (hd : decode B pc = .ok (.iushr, 1)) (hp : pc + 1 = pc') (k : Go p e below P T (mkF m pc' ls (.int (XT.ushr x y) :: st))) : Go p e below P T (mkF m pc ls (.int y :: .int x :: st)) := by
  subst hp; exact Go.of (fun _ k' => XT.iushr A.1.here A.2.1 rfl (hb A.2.2 hd) rfl k') k
theorem g_idiv (A : Ax p l e R s m args below meth c T locs cells slots B) {x : Int32} {y : Int32} (hd : decode B pc = .ok (.idiv, 1)) (hy : y ≠ 0) (hp : pc + 1 = pc') (k : Go p e below P T (mkF m pc' ls (.int (x / y) :: st))) : Go p e below P T (mkF m pc ls (.int y :: .int x :: st)) := by
  subst hp; exact Go.of (fun _ k' => XS.idiv A.1.here A.2.1 rfl (hb A.2.2 hd) rfl hy k') k
theorem g_ladd (A : Ax p l e R s m args below meth c T locs cells slots B) {x : Int64} {y : Int64} (hd : decode B pc = .ok (.ladd, 1)) (hp : pc + 1 = pc') (k : Go p e below P T (mkF m pc' ls (.long (x + y) :: st))) : Go p e below P T (mkF m pc ls (.long y :: .long x :: st)) := by
  subst hp; exact Go.of (fun _ k' => XT.ladd A.1.here A.2.1 rfl (hb A.2.2 hd) rfl k') k
theorem g_lsub (A : Ax p l e R s m args below meth c T locs cells slots B) {x : Int64} {y : Int64} (hd : decode B pc = .ok (.lsub, 1)) (hp : pc + 1 = pc') (k : Go p e below P T (mkF m pc' ls (.long (x - y) :: st))) : Go p e below P T (mkF m pc ls (.long y :: .long x :: st)) := by
  subst hp; exact Go.of (fun _ k' => XT.lsub A.1.here A.2.1 rfl (hb A.2.2 hd) rfl k') k
theorem g_lmul (A : Ax p l e R s m args below meth c T locs cells slots B) {x : Int64} {y : Int64} (hd : decode B pc = .ok (.lmul, 1)) (hp : pc + 1 = pc') (k : Go p e below P T (mkF m pc' ls (.long (x * y) :: st))) : Go p e below P T (mkF m pc ls (.long y :: .long x :: st)) := by
  subst hp; exact Go.of (fun _ k' => XT.lmul A.1.here A.2.1 rfl (hb A.2.2 hd) rfl k') k
theorem g_land (A : Ax p l e R s m args below meth c T locs cells slots B) {x : Int64} {y : Int64} (hd : decode B pc = .ok (.land, 1)) (hp : pc + 1 = pc') (k : Go p e below P T (mkF m pc' ls (.long (x &&& y) :: st))) : Go p e below P T (mkF m pc ls (.long y :: .long x :: st)) := by
  subst hp; exact Go.of (fun _ k' => XT.land A.1.here A.2.1 rfl (hb A.2.2 hd) rfl k') k
theorem g_lor (A : Ax p l e R s m args below meth c T locs cells slots B) {x : Int64} {y : Int64} (hd : decode B pc = .ok (.lor, 1)) (hp : pc + 1 = pc') (k : Go p e below P T (mkF m pc' ls (.long (x ||| y) :: st))) : Go p e below P T (mkF m pc ls (.long y :: .long x :: st)) := by
  subst hp; exact Go.of (fun _ k' => XT.lor A.1.here A.2.1 rfl (hb A.2.2 hd) rfl k') k
theorem g_lxor (A : Ax p l e R s m args below meth c T locs cells slots B) {x : Int64} {y : Int64} (hd : decode B pc = .ok (.lxor, 1)) (hp : pc + 1 = pc') (k : Go p e below P T (mkF m pc' ls (.long (x ^^^ y) :: st))) : Go p e below P T (mkF m pc ls (.long y :: .long x :: st)) := by
  subst hp; exact Go.of (fun _ k' => XT.lxor A.1.here A.2.1 rfl (hb A.2.2 hd) rfl k') k
theorem g_lshl (A : Ax p l e R s m args below meth c T locs cells slots B) {x : Int64} {y : Int32} (hd : decode B pc = .ok (.lshl, 1)) (hp : pc + 1 = pc') (k : Go p e below P T (mkF m pc' ls (.long (x <<< (y.toInt64 &&& 63)) :: st))) : Go p e below P T (mkF m pc ls (.int y :: .long x :: st)) := by
  subst hp; exact Go.of (fun _ k' => XT.lshl A.1.here A.2.1 rfl (hb A.2.2 hd) rfl k') k
theorem g_lshr (A : Ax p l e R s m args below meth c T locs cells slots B) {x : Int64} {y : Int32} (hd : decode B pc = .ok (.lshr, 1)) (hp : pc + 1 = pc') (k : Go p e below P T (mkF m pc' ls (.long (x >>> (y.toInt64 &&& 63)) :: st))) : Go p e below P T (mkF m pc ls (.int y :: .long x :: st)) := by
  subst hp; exact Go.of (fun _ k' => XT.lshr A.1.here A.2.1 rfl (hb A.2.2 hd) rfl k') k
theorem g_lushr (A : Ax p l e R s m args below meth c T locs cells slots B) {x : Int64} {y : Int32} (hd : decode B pc = .ok (.lushr, 1)) (hp : pc + 1 = pc') (k : Go p e below P T (mkF m pc' ls (.long (XT.ushrL x y) :: st))) : Go p e below P T (mkF m pc ls (.int y :: .long x :: st)) := by
  subst hp; exact Go.of (fun _ k' => XT.lushr A.1.here A.2.1 rfl (hb A.2.2 hd) rfl k') k
theorem g_ldiv (A : Ax p l e R s m args below meth c T locs cells slots B) {x : Int64} {y : Int64} (hd : decode B pc = .ok (.ldiv, 1)) (hy : y ≠ 0) (hp : pc + 1 = pc') (k : Go p e below P T (mkF m pc' ls (.long (x / y) :: st))) : Go p e below P T (mkF m pc ls (.long y :: .long x :: st)) := by
  subst hp; exact Go.of (fun _ k' => XT.ldiv A.1.here A.2.1 rfl (hb A.2.2 hd) rfl hy k') k
theorem g_lrem (A : Ax p l e R s m args below meth c T locs cells slots B) {x y : Int64} (hd : decode B pc = .ok (.lrem, 1)) (hy : y ≠ 0) (hp : pc + 1 = pc') (k : Go p e below P T (mkF m pc' ls (.long (x % y) :: st))) : Go p e below P T (mkF m pc ls (.long y :: .long x :: st)) := by
  subst hp; rw [← lrem_mod] at k; exact Go.of (fun _ k' => XT.lrem A.1.here A.2.1 rfl (hb A.2.2 hd) rfl hy k') k
theorem g_i2s (A : Ax p l e R s m args below meth c T locs cells slots B) {x : Int32} (hd : decode B pc = .ok (.i2s, 1)) (hp : pc + 1 = pc') (k : Go p e below P T (mkF m pc' ls (.int (x.toInt16.toInt32) :: st))) : Go p e below P T (mkF m pc ls (.int x :: st)) := by
  subst hp; exact Go.of (fun _ k' => XT.i2s A.1.here A.2.1 rfl (hb A.2.2 hd) rfl k') k
theorem g_i2b (A : Ax p l e R s m args below meth c T locs cells slots B) {x : Int32} (hd : decode B pc = .ok (.i2b, 1)) (hp : pc + 1 = pc') (k : Go p e below P T (mkF m pc' ls (.int (x.toInt8.toInt32) :: st))) : Go p e below P T (mkF m pc ls (.int x :: st)) := by
  subst hp; exact Go.of (fun _ k' => XT.i2b A.1.here A.2.1 rfl (hb A.2.2 hd) rfl k') k
theorem g_i2c (A : Ax p l e R s m args below meth c T locs cells slots B) {x : Int32} (hd : decode B pc = .ok (.i2c, 1)) (hp : pc + 1 = pc') (k : Go p e below P T (mkF m pc' ls (.int (x.toUInt32.toUInt16.toUInt32.toInt32) :: st))) : Go p e below P T (mkF m pc ls (.int x :: st)) := by
  subst hp; exact Go.of (fun _ k' => XT.i2c A.1.here A.2.1 rfl (hb A.2.2 hd) rfl k') k
theorem g_ineg (A : Ax p l e R s m args below meth c T locs cells slots B) {x : Int32} (hd : decode B pc = .ok (.ineg, 1)) (hp : pc + 1 = pc') (k : Go p e below P T (mkF m pc' ls (.int (-x) :: st))) : Go p e below P T (mkF m pc ls (.int x :: st)) := by
  subst hp; exact Go.of (fun _ k' => XS.ineg A.1.here A.2.1 rfl (hb A.2.2 hd) rfl k') k
theorem g_lneg (A : Ax p l e R s m args below meth c T locs cells slots B) {x : Int64} (hd : decode B pc = .ok (.lneg, 1)) (hp : pc + 1 = pc') (k : Go p e below P T (mkF m pc' ls (.long (-x) :: st))) : Go p e below P T (mkF m pc ls (.long x :: st)) := by
  subst hp; exact Go.of (fun _ k' => XT.lneg A.1.here A.2.1 rfl (hb A.2.2 hd) rfl k') k
theorem g_i2l (A : Ax p l e R s m args below meth c T locs cells slots B) {x : Int32} (hd : decode B pc = .ok (.i2l, 1)) (hp : pc + 1 = pc') (k : Go p e below P T (mkF m pc' ls (.long (x.toInt64) :: st))) : Go p e below P T (mkF m pc ls (.int x :: st)) := by
  subst hp; exact Go.of (fun _ k' => XT.i2l A.1.here A.2.1 rfl (hb A.2.2 hd) rfl k') k
theorem g_l2i (A : Ax p l e R s m args below meth c T locs cells slots B) {x : Int64} (hd : decode B pc = .ok (.l2i, 1)) (hp : pc + 1 = pc') (k : Go p e below P T (mkF m pc' ls (.int (x.toInt32) :: st))) : Go p e below P T (mkF m pc ls (.long x :: st)) := by
  subst hp; exact Go.of (fun _ k' => XT.l2i A.1.here A.2.1 rfl (hb A.2.2 hd) rfl k') k
theorem g_irem (A : Ax p l e R s m args below meth c T locs cells slots B) {x y : Int32} (hd : decode B pc = .ok (.irem, 1)) (hy : y ≠ 0) (hp : pc + 1 = pc') (k : Go p e below P T (mkF m pc' ls (.int (x % y) :: st))) : Go p e below P T (mkF m pc ls (.int y :: .int x :: st)) := by
  subst hp; exact Go.of (fun _ k' => iremM A.1 A.2.1 rfl (hb A.2.2 hd) rfl hy k') k
theorem g_iloadN (A : Ax p l e R s m args below meth c T locs cells slots B) {k : Fin 4} {v : Int32} (hd : decode B pc = .ok (.iload_n k, 1)) (hl : ls[k.val]? = some (.val (.int v))) (hp : pc + 1 = pc') (k : Go p e below P T (mkF m pc' ls (.int v :: st))) : Go p e below P T (mkF m pc ls st) := by
  subst hp; exact Go.of (fun _ k' => XS.iloadN A.1.here A.2.1 rfl (hb A.2.2 hd) hl k') k
theorem g_iload (A : Ax p l e R s m args below meth c T locs cells slots B) {k : Nat} {v : Int32} (hd : decode B pc = .ok (.iload k, 2)) (hl : ls[k]? = some (.val (.int v))) (hp : pc + 2 = pc') (k : Go p e below P T (mkF m pc' ls (.int v :: st))) : Go p e below P T (mkF m pc ls st) := by
  subst hp; exact Go.of (fun _ k' => XS.iload A.1.here A.2.1 rfl (hb A.2.2 hd) hl k') k
theorem g_lloadN (A : Ax p l e R s m args below meth c T locs cells slots B) {k : Fin 4} {v : Int64} (hd : decode B pc = .ok (.lload_n k, 1)) (hl : ls[k.val]? = some (.val (.long v))) (hp : pc + 1 = pc') (k : Go p e below P T (mkF m pc' ls (.long v :: st))) : Go p e below P T (mkF m pc ls st) := by
  subst hp; exact Go.of (fun _ k' => XT.lloadN A.1.here A.2.1 rfl (hb A.2.2 hd) hl k') k
theorem g_lload (A : Ax p l e R s m args below meth c T locs cells slots B) {k : Nat} {v : Int64} (hd : decode B pc = .ok (.lload k, 2)) (hl : ls[k]? = some (.val (.long v))) (hp : pc + 2 = pc') (k : Go p e below P T (mkF m pc' ls (.long v :: st))) : Go p e below P T (mkF m pc ls st) := by
  subst hp; exact Go.of (fun _ k' => XT.lload A.1.here A.2.1 rfl (hb A.2.2 hd) hl k') k
theorem g_aloadN (A : Ax p l e R s m args below meth c T locs cells slots B) {k : Fin 4} {v : Value} (hd : decode B pc = .ok (.aload_n k, 1)) (hl : ls[k.val]? = some (.val v)) (hv : v.isRef = true) (hp : pc + 1 = pc') (k : Go p e below P T (mkF m pc' ls (v :: st))) : Go p e below P T (mkF m pc ls st) := by
  subst hp; exact Go.of (fun _ k' => XS.aloadN A.1.here A.2.1 rfl (hb A.2.2 hd) hl hv k') k
theorem g_aload (A : Ax p l e R s m args below meth c T locs cells slots B) {k : Nat} {v : Value} (hd : decode B pc = .ok (.aload k, 2)) (hl : ls[k]? = some (.val v)) (hv : v.isRef = true) (hp : pc + 2 = pc') (k : Go p e below P T (mkF m pc' ls (v :: st))) : Go p e below P T (mkF m pc ls st) := by
  subst hp; exact Go.of (fun _ k' => XS.aload A.1.here A.2.1 rfl (hb A.2.2 hd) hl hv k') k
theorem g_dloadN (A : Ax p l e R s m args below meth c T locs cells slots B) {k : Fin 4} {v : UInt64} (hd : decode B pc = .ok (.dload_n k, 1)) (hl : ls[k.val]? = some (.val (.double v))) (hp : pc + 1 = pc') (k : Go p e below P T (mkF m pc' ls (.double v :: st))) : Go p e below P T (mkF m pc ls st) := by
  subst hp
  refine Go.of (fun t k' => ?_) k
  have h := A.1.here
  have hx := A.2.1
  have hd' := hb A.2.2 hd
  show Steps p.tables e below (T.setTop { method := m, pc := pc, locals := ls, stack := st, locked := none }) _
  jvm_step h [h.top, hx, hd', hl]
  exact k'
theorem g_dload (A : Ax p l e R s m args below meth c T locs cells slots B) {k : Nat} {v : UInt64} (hd : decode B pc = .ok (.dload k, 2)) (hl : ls[k]? = some (.val (.double v))) (hp : pc + 2 = pc') (k : Go p e below P T (mkF m pc' ls (.double v :: st))) : Go p e below P T (mkF m pc ls st) := by
  subst hp
  refine Go.of (fun t k' => ?_) k
  have h := A.1.here
  have hx := A.2.1
  have hd' := hb A.2.2 hd
  show Steps p.tables e below (T.setTop { method := m, pc := pc, locals := ls, stack := st, locked := none }) _
  jvm_step h [h.top, hx, hd', hl]
  exact k'
theorem g_istoreN (A : Ax p l e R s m args below meth c T locs cells slots B) {k : Fin 4} {x : Int32} (hd : decode B pc = .ok (.istore_n k, 1)) (hl : storeLocals ls k.val (.int x) = some ls') (hp : pc + 1 = pc') (k : Go p e below P T (mkF m pc' ls' st)) : Go p e below P T (mkF m pc ls (.int x :: st)) := by
  subst hp; exact Go.of (fun _ k' => XS.istoreN A.1.here A.2.1 rfl (hb A.2.2 hd) rfl hl k') k
theorem g_istore (A : Ax p l e R s m args below meth c T locs cells slots B) {k : Nat} {x : Int32} (hd : decode B pc = .ok (.istore k, 2)) (hl : storeLocals ls k (.int x) = some ls') (hp : pc + 2 = pc') (k : Go p e below P T (mkF m pc' ls' st)) : Go p e below P T (mkF m pc ls (.int x :: st)) := by
  subst hp; exact Go.of (fun _ k' => XS.istore A.1.here A.2.1 rfl (hb A.2.2 hd) rfl hl k') k
theorem g_lstoreN (A : Ax p l e R s m args below meth c T locs cells slots B) {k : Fin 4} {x : Int64} (hd : decode B pc = .ok (.lstore_n k, 1)) (hl : storeLocals ls k.val (.long x) = some ls') (hp : pc + 1 = pc') (k : Go p e below P T (mkF m pc' ls' st)) : Go p e below P T (mkF m pc ls (.long x :: st)) := by
  subst hp; exact Go.of (fun _ k' => XT.lstoreN A.1.here A.2.1 rfl (hb A.2.2 hd) rfl hl k') k
theorem g_lstore (A : Ax p l e R s m args below meth c T locs cells slots B) {k : Nat} {x : Int64} (hd : decode B pc = .ok (.lstore k, 2)) (hl : storeLocals ls k (.long x) = some ls') (hp : pc + 2 = pc') (k : Go p e below P T (mkF m pc' ls' st)) : Go p e below P T (mkF m pc ls (.long x :: st)) := by
  subst hp; exact Go.of (fun _ k' => XT.lstore A.1.here A.2.1 rfl (hb A.2.2 hd) rfl hl k') k
theorem g_astoreN (A : Ax p l e R s m args below meth c T locs cells slots B) {k : Fin 4} {x : Value} (hd : decode B pc = .ok (.astore_n k, 1)) (hv : x.isRef = true) (hl : storeLocals ls k.val x = some ls') (hp : pc + 1 = pc') (k : Go p e below P T (mkF m pc' ls' st)) : Go p e below P T (mkF m pc ls (x :: st)) := by
  subst hp; exact Go.of (fun _ k' => XS.astoreN A.1.here A.2.1 rfl (hb A.2.2 hd) rfl hv hl k') k
theorem g_astore (A : Ax p l e R s m args below meth c T locs cells slots B) {k : Nat} {x : Value} (hd : decode B pc = .ok (.astore k, 2)) (hv : x.isRef = true) (hl : storeLocals ls k x = some ls') (hp : pc + 2 = pc') (k : Go p e below P T (mkF m pc' ls' st)) : Go p e below P T (mkF m pc ls (x :: st)) := by
  subst hp; exact Go.of (fun _ k' => XS.astore A.1.here A.2.1 rfl (hb A.2.2 hd) rfl hv hl k') k
theorem g_dstoreN (A : Ax p l e R s m args below meth c T locs cells slots B) {k : Fin 4} {x : UInt64} (hd : decode B pc = .ok (.dstore_n k, 1)) (hl : storeLocals ls k.val (.double x) = some ls') (hp : pc + 1 = pc') (k : Go p e below P T (mkF m pc' ls' st)) : Go p e below P T (mkF m pc ls (.double x :: st)) := by
  subst hp
  refine Go.of (fun t k' => ?_) k
  have h := A.1.here
  have hx := A.2.1
  have hd' := hb A.2.2 hd
  show Steps p.tables e below (T.setTop { method := m, pc := pc, locals := ls, stack := .double x :: st, locked := none }) _
  jvm_step h [h.top, hx, hd']
  exact ⟨ls', hl, k'⟩
theorem g_dstore (A : Ax p l e R s m args below meth c T locs cells slots B) {k : Nat} {x : UInt64} (hd : decode B pc = .ok (.dstore k, 2)) (hl : storeLocals ls k (.double x) = some ls') (hp : pc + 2 = pc') (k : Go p e below P T (mkF m pc' ls' st)) : Go p e below P T (mkF m pc ls (.double x :: st)) := by
  subst hp
  refine Go.of (fun t k' => ?_) k
  have h := A.1.here
  have hx := A.2.1
  have hd' := hb A.2.2 hd
  show Steps p.tables e below (T.setTop { method := m, pc := pc, locals := ls, stack := .double x :: st, locked := none }) _
  jvm_step h [h.top, hx, hd']
  exact ⟨ls', hl, k'⟩
theorem g_iconst (A : Ax p l e R s m args below meth c T locs cells slots B) {i : Int} {v : Int32} (hd : decode B pc = .ok (.iconst i, 1)) (hv : Int32.ofInt i = v) (hp : pc + 1 = pc') (k : Go p e below P T (mkF m pc' ls (.int v :: st))) : Go p e below P T (mkF m pc ls st) := by
  subst hp hv; exact Go.of (fun _ k' => XS.iconst A.1.here A.2.1 rfl (hb A.2.2 hd) k') k
theorem g_bipush (A : Ax p l e R s m args below meth c T locs cells slots B) {i : Int} {v : Int32} (hd : decode B pc = .ok (.bipush i, 2)) (hv : (Int8.ofInt i).toInt32 = v) (hp : pc + 2 = pc') (k : Go p e below P T (mkF m pc' ls (.int v :: st))) : Go p e below P T (mkF m pc ls st) := by
  subst hp hv; exact Go.of (fun _ k' => XS.bipush A.1.here A.2.1 rfl (hb A.2.2 hd) k') k
theorem g_sipush (A : Ax p l e R s m args below meth c T locs cells slots B) {i : Int} {v : Int32} (hd : decode B pc = .ok (.sipush i, 3)) (hv : (Int16.ofInt i).toInt32 = v) (hp : pc + 3 = pc') (k : Go p e below P T (mkF m pc' ls (.int v :: st))) : Go p e below P T (mkF m pc ls st) := by
  subst hp hv; exact Go.of (fun _ k' => XS.sipush A.1.here A.2.1 rfl (hb A.2.2 hd) k') k
theorem g_aconst (A : Ax p l e R s m args below meth c T locs cells slots B) (hd : decode B pc = .ok (.aconst_null, 1)) (hp : pc + 1 = pc') (k : Go p e below P T (mkF m pc' ls (.null :: st))) : Go p e below P T (mkF m pc ls st) := by
  subst hp; exact Go.of (fun _ k' => XS.aconstNull A.1.here A.2.1 rfl (hb A.2.2 hd) k') k
theorem g_lconst (A : Ax p l e R s m args below meth c T locs cells slots B) {i : Fin 2} {v : Int64} (hd : decode B pc = .ok (.lconst i, 1)) (hv : Int64.ofNat i = v) (hp : pc + 1 = pc') (k : Go p e below P T (mkF m pc' ls (.long v :: st))) : Go p e below P T (mkF m pc ls st) := by
  subst hp hv; exact Go.of (fun _ k' => XT.lconst A.1.here A.2.1 rfl (hb A.2.2 hd) k') k
theorem g_dconst0 (A : Ax p l e R s m args below meth c T locs cells slots B) (hd : decode B pc = .ok (.dconst 0, 1)) (hp : pc + 1 = pc') (k : Go p e below P T (mkF m pc' ls (.double (0 : UInt64) :: st))) : Go p e below P T (mkF m pc ls st) := by
  subst hp
  refine Go.of (fun t k' => ?_) k
  have h := A.1.here
  have hx := A.2.1
  have hd' := hb A.2.2 hd
  show Steps p.tables e below (T.setTop { method := m, pc := pc, locals := ls, stack := st, locked := none }) _
  jvm_step h [h.top, hx, hd']
  exact k'
theorem g_dconst1 (A : Ax p l e R s m args below meth c T locs cells slots B) (hd : decode B pc = .ok (.dconst 1, 1)) (hp : pc + 1 = pc') (k : Go p e below P T (mkF m pc' ls (.double (4607182418800017408 : UInt64) :: st))) : Go p e below P T (mkF m pc ls st) := by
  subst hp
  refine Go.of (fun t k' => ?_) k
  have h := A.1.here
  have hx := A.2.1
  have hd' := hb A.2.2 hd
  show Steps p.tables e below (T.setTop { method := m, pc := pc, locals := ls, stack := st, locked := none }) _
  jvm_step h [h.top, hx, hd']
  exact k'
theorem g_dadd (A : Ax p l e R s m args below meth c T locs cells slots B) {x y : UInt64} (hd : decode B pc = .ok (.dadd, 1)) (hn : NoNaN64 (FP.dadd x y)) (hp : pc + 1 = pc') (k : Go p e below P T (mkF m pc' ls (.double (FP.dadd x y) :: st))) : Go p e below P T (mkF m pc ls (.double y :: .double x :: st)) := by
  subst hp
  refine Go.of (fun t k' => ?_) k
  have h := A.1.here
  have hx := A.2.1
  have hd' := hb A.2.2 hd
  show Steps p.tables e below (T.setTop { method := m, pc := pc, locals := ls, stack := .double y :: .double x :: st, locked := none }) _
  jvm_step h [h.top, hx, hd', Op.dadd.at_number h.top hn]
  exact k'
theorem g_dsub (A : Ax p l e R s m args below meth c T locs cells slots B) {x y : UInt64} (hd : decode B pc = .ok (.dsub, 1)) (hn : NoNaN64 (FP.dsub x y)) (hp : pc + 1 = pc') (k : Go p e below P T (mkF m pc' ls (.double (FP.dsub x y) :: st))) : Go p e below P T (mkF m pc ls (.double y :: .double x :: st)) := by
  subst hp
  refine Go.of (fun t k' => ?_) k
  have h := A.1.here
  have hx := A.2.1
  have hd' := hb A.2.2 hd
  show Steps p.tables e below (T.setTop { method := m, pc := pc, locals := ls, stack := .double y :: .double x :: st, locked := none }) _
  jvm_step h [h.top, hx, hd', Op.dsub.at_number h.top hn]
  exact k'
theorem g_dmul (A : Ax p l e R s m args below meth c T locs cells slots B) {x y : UInt64} (hd : decode B pc = .ok (.dmul, 1)) (hn : NoNaN64 (FP.dmul x y)) (hp : pc + 1 = pc') (k : Go p e below P T (mkF m pc' ls (.double (FP.dmul x y) :: st))) : Go p e below P T (mkF m pc ls (.double y :: .double x :: st)) := by
  subst hp
  refine Go.of (fun t k' => ?_) k
  have h := A.1.here
  have hx := A.2.1
  have hd' := hb A.2.2 hd
  show Steps p.tables e below (T.setTop { method := m, pc := pc, locals := ls, stack := .double y :: .double x :: st, locked := none }) _
  jvm_step h [h.top, hx, hd', Op.dmul.at_number h.top hn]
  exact k'
theorem g_ddiv (A : Ax p l e R s m args below meth c T locs cells slots B) {x y : UInt64} (hd : decode B pc = .ok (.ddiv, 1)) (hn : NoNaN64 (FP.ddiv x y)) (hp : pc + 1 = pc') (k : Go p e below P T (mkF m pc' ls (.double (FP.ddiv x y) :: st))) : Go p e below P T (mkF m pc ls (.double y :: .double x :: st)) := by
  subst hp
  refine Go.of (fun t k' => ?_) k
  have h := A.1.here
  have hx := A.2.1
  have hd' := hb A.2.2 hd
  show Steps p.tables e below (T.setTop { method := m, pc := pc, locals := ls, stack := .double y :: .double x :: st, locked := none }) _
  jvm_step h [h.top, hx, hd', Op.ddiv.at_number h.top hn]
  exact k'
theorem g_dneg (A : Ax p l e R s m args below meth c T locs cells slots B) {x : UInt64} (hd : decode B pc = .ok (.dneg, 1)) (hp : pc + 1 = pc') (k : Go p e below P T (mkF m pc' ls (.double (FP.dneg x) :: st))) : Go p e below P T (mkF m pc ls (.double x :: st)) := by
  subst hp
  refine Go.of (fun t k' => ?_) k
  have h := A.1.here
  have hx := A.2.1
  have hd' := hb A.2.2 hd
  show Steps p.tables e below (T.setTop { method := m, pc := pc, locals := ls, stack := .double x :: st, locked := none }) _
  jvm_step h [h.top, hx, hd']
  exact k'
theorem g_i2d (A : Ax p l e R s m args below meth c T locs cells slots B) {x : Int32} (hd : decode B pc = .ok (.i2d, 1)) (hp : pc + 1 = pc') (k : Go p e below P T (mkF m pc' ls (.double (FP.i2d x) :: st))) : Go p e below P T (mkF m pc ls (.int x :: st)) := by
  subst hp
  refine Go.of (fun t k' => ?_) k
  have h := A.1.here
  have hx := A.2.1
  have hd' := hb A.2.2 hd
  show Steps p.tables e below (T.setTop { method := m, pc := pc, locals := ls, stack := .int x :: st, locked := none }) _
  jvm_step h [h.top, hx, hd']
  exact k'
theorem g_l2d (A : Ax p l e R s m args below meth c T locs cells slots B) {x : Int64} (hd : decode B pc = .ok (.l2d, 1)) (hp : pc + 1 = pc') (k : Go p e below P T (mkF m pc' ls (.double (FP.l2d x) :: st))) : Go p e below P T (mkF m pc ls (.long x :: st)) := by
  subst hp
  refine Go.of (fun t k' => ?_) k
  have h := A.1.here
  have hx := A.2.1
  have hd' := hb A.2.2 hd
  show Steps p.tables e below (T.setTop { method := m, pc := pc, locals := ls, stack := .long x :: st, locked := none }) _
  jvm_step h [h.top, hx, hd']
  exact k'
theorem g_dcmp (A : Ax p l e R s m args below meth c T locs cells slots B) {x y : UInt64} {op : CmpOp} (hd : decode B pc = .ok (.dcmp op, 1)) (hp : pc + 1 = pc') (k : Go p e below P T (mkF m pc' ls (.int (cmpValue (FP.dcmp x y) op) :: st))) : Go p e below P T (mkF m pc ls (.double y :: .double x :: st)) := by
  subst hp
  refine Go.of (fun t k' => ?_) k
  have h := A.1.here
  have hx := A.2.1
  have hd' := hb A.2.2 hd
  show Steps p.tables e below (T.setTop { method := m, pc := pc, locals := ls, stack := .double y :: .double x :: st, locked := none }) _
  jvm_step h [h.top, hx, hd']
  exact k'
theorem g_lcmp (A : Ax p l e R s m args below meth c T locs cells slots B) {x y : Int64} (hd : decode B pc = .ok (.lcmp, 1)) (hp : pc + 1 = pc') (k : Go p e below P T (mkF m pc' ls (.int (XT.cmpL x y) :: st))) : Go p e below P T (mkF m pc ls (.long y :: .long x :: st)) := by
  subst hp; exact Go.of (fun _ k' => XT.lcmp A.1.here A.2.1 rfl (hb A.2.2 hd) rfl k') k
theorem g_dup (A : Ax p l e R s m args below meth c T locs cells slots B) {x : Value} (hd : decode B pc = .ok (.dup, 1)) (hc : x.category = 1) (hp : pc + 1 = pc') (k : Go p e below P T (mkF m pc' ls (x :: x :: st))) : Go p e below P T (mkF m pc ls (x :: st)) := by
  subst hp; exact Go.of (fun _ k' => XS.dup A.1.here A.2.1 rfl (hb A.2.2 hd) rfl hc k') k
theorem g_pop (A : Ax p l e R s m args below meth c T locs cells slots B) {x : Value} (hd : decode B pc = .ok (.pop, 1)) (hc : x.category = 1) (hp : pc + 1 = pc') (k : Go p e below P T (mkF m pc' ls st)) : Go p e below P T (mkF m pc ls (x :: st)) := by
  subst hp; exact Go.of (fun _ k' => XT.pop A.1.here A.2.1 rfl (hb A.2.2 hd) rfl hc k') k
theorem g_iinc (A : Ax p l e R s m args below meth c T locs cells slots B) {k : Nat} {i : Int} {x y : Int32} (hd : decode B pc = .ok (.iinc k i, 3)) (hl : ls[k]? = some (.val (.int x))) (hy : x + Int32.ofInt i = y) (hl' : storeLocals ls k (.int y) = some ls') (hp : pc + 3 = pc') (k : Go p e below P T (mkF m pc' ls' st)) : Go p e below P T (mkF m pc ls st) := by
  subst hp hy; exact Go.of (fun _ k' => XS.iinc A.1.here A.2.1 rfl (hb A.2.2 hd) hl hl' k') k
theorem own_off {pc pc' : Nat} {o : Int} (h : (pc : Int) + o = (pc' : Int)) : 0 ≤ (pc : Int) + o ∧ ((pc : Int) + o).toNat = pc' := by omega
theorem g_goto (A : Ax p l e R s m args below meth c T locs cells slots B) {o : Int} (hd : decode B pc = .ok (.goto o, 3)) (hp : (pc : Int) + o = (pc' : Int)) (k : Go p e below P T (mkF m pc' ls st)) : Go p e below P T (mkF m pc ls st) := Go.of (fun _ k' => XS.goto A.1.here A.2.1 rfl rfl (hb A.2.2 hd) (own_off hp).1 (own_off hp).2 k') k
theorem g_ifY (A : Ax p l e R s m args below meth c T locs cells slots B) {o : Int} {cd : ClassFile.Cond} {x : Int32} (hd : decode B pc = .ok (.ifCond cd o, 3)) (hc : ifCond.holds cd x = true) (hp : (pc : Int) + o = (pc' : Int)) (k : Go p e below P T (mkF m pc' ls st)) : Go p e below P T (mkF m pc ls (.int x :: st)) := Go.of (fun _ k' => XS.ifYes A.1.here A.2.1 rfl rfl (hb A.2.2 hd) rfl hc (own_off hp).1 (own_off hp).2 k') k
theorem g_ifN (A : Ax p l e R s m args below meth c T locs cells slots B) {o : Int} {cd : ClassFile.Cond} {x : Int32} (hd : decode B pc = .ok (.ifCond cd o, 3)) (hc : ifCond.holds cd x = false) (hp : pc + 3 = pc') (k : Go p e below P T (mkF m pc' ls st)) : Go p e below P T (mkF m pc ls (.int x :: st)) := by
  subst hp; exact Go.of (fun _ k' => XS.ifNo A.1.here A.2.1 rfl (hb A.2.2 hd) rfl hc k') k
theorem g_icY (A : Ax p l e R s m args below meth c T locs cells slots B) {o : Int} {cd : ClassFile.Cond} {x y : Int32} (hd : decode B pc = .ok (.if_icmp cd o, 3)) (hc : if_icmp.holds cd x y = true) (hp : (pc : Int) + o = (pc' : Int)) (k : Go p e below P T (mkF m pc' ls st)) : Go p e below P T (mkF m pc ls (.int y :: .int x :: st)) := Go.of (fun _ k' => XS.icmpYes A.1.here A.2.1 rfl rfl (hb A.2.2 hd) rfl hc (own_off hp).1 (own_off hp).2 k') k
theorem g_icN (A : Ax p l e R s m args below meth c T locs cells slots B) {o : Int} {cd : ClassFile.Cond} {x y : Int32} (hd : decode B pc = .ok (.if_icmp cd o, 3)) (hc : if_icmp.holds cd x y = false) (hp : pc + 3 = pc') (k : Go p e below P T (mkF m pc' ls st)) : Go p e below P T (mkF m pc ls (.int y :: .int x :: st)) := by
  subst hp; exact Go.of (fun _ k' => XS.icmpNo A.1.here A.2.1 rfl (hb A.2.2 hd) rfl hc k') k
theorem c0_eq_t {x : Int32} (h : x = 0) : ifCond.holds .eq x = true := (if0 _ _).trans (teq h).1
theorem c0_eq_f {x : Int32} (h : ¬ x = 0) : ifCond.holds .eq x = false := (if0 _ _).trans (feq h).1
theorem c0_ne_t {x : Int32} (h : ¬ x = 0) : ifCond.holds .ne x = true := (if0 _ _).trans (feq h).2
theorem c0_ne_f {x : Int32} (h : x = 0) : ifCond.holds .ne x = false := (if0 _ _).trans (teq h).2
theorem c0_lt_t {x : Int32} (h : x < 0) : ifCond.holds .lt x = true := (if0 _ _).trans (tlt h).1
theorem c0_lt_f {x : Int32} (h : ¬ x < 0) : ifCond.holds .lt x = false := (if0 _ _).trans (flt h).1
theorem c0_ge_t {x : Int32} (h : ¬ x < 0) : ifCond.holds .ge x = true := (if0 _ _).trans (flt h).2.1
theorem c0_ge_f {x : Int32} (h : x < 0) : ifCond.holds .ge x = false := (if0 _ _).trans (tlt h).2.1
theorem c0_gt_t {x : Int32} (h : 0 < x) : ifCond.holds .gt x = true := (if0 _ _).trans (tlt h).2.2.1
theorem c0_gt_f {x : Int32} (h : ¬ 0 < x) : ifCond.holds .gt x = false := (if0 _ _).trans (flt h).2.2.1
theorem c0_le_t {x : Int32} (h : ¬ 0 < x) : ifCond.holds .le x = true := (if0 _ _).trans (flt h).2.2.2
theorem c0_le_f {x : Int32} (h : 0 < x) : ifCond.holds .le x = false := (if0 _ _).trans (tlt h).2.2.2
theorem c2_eq_t {x y : Int32} (h : x = y) : if_icmp.holds .eq x y = true := (teq h).1
theorem c2_eq_f {x y : Int32} (h : ¬ x = y) : if_icmp.holds .eq x y = false := (feq h).1
theorem c2_ne_t {x y : Int32} (h : ¬ x = y) : if_icmp.holds .ne x y = true := (feq h).2
theorem c2_ne_f {x y : Int32} (h : x = y) : if_icmp.holds .ne x y = false := (teq h).2
theorem c2_lt_t {x y : Int32} (h : x < y) : if_icmp.holds .lt x y = true := (tlt h).1
theorem c2_lt_f {x y : Int32} (h : ¬ x < y) : if_icmp.holds .lt x y = false := (flt h).1
theorem c2_ge_t {x y : Int32} (h : ¬ x < y) : if_icmp.holds .ge x y = true := (flt h).2.1
theorem c2_ge_f {x y : Int32} (h : x < y) : if_icmp.holds .ge x y = false := (tlt h).2.1
theorem c2_gt_t {x y : Int32} (h : y < x) : if_icmp.holds .gt x y = true := (tlt h).2.2.1
theorem c2_gt_f {x y : Int32} (h : ¬ y < x) : if_icmp.holds .gt x y = false := (flt h).2.2.1
theorem c2_le_t {x y : Int32} (h : ¬ y < x) : if_icmp.holds .le x y = true := (flt h).2.2.2
theorem c2_le_f {x y : Int32} (h : y < x) : if_icmp.holds .le x y = false := (tlt h).2.2.2
theorem b0_eq_t {C : Prop} [Decidable C] {v : Int32} (e : v = if C then 1 else 0) (h : ¬ C) : ifCond.holds .eq v = true := c0_eq_t (by rw [e, if_neg h])
theorem b0_eq_f {C : Prop} [Decidable C] {v : Int32} (e : v = if C then 1 else 0) (h : C) : ifCond.holds .eq v = false := c0_eq_f (by rw [e, if_pos h]; decide)
theorem b0_ne_t {C : Prop} [Decidable C] {v : Int32} (e : v = if C then 1 else 0) (h : C) : ifCond.holds .ne v = true := c0_ne_t (by rw [e, if_pos h]; decide)
theorem b0_ne_f {C : Prop} [Decidable C] {v : Int32} (e : v = if C then 1 else 0) (h : ¬ C) : ifCond.holds .ne v = false := c0_ne_f (by rw [e, if_neg h])
theorem own_b01 {C : Prop} [Decidable C] {v : Int32} (e : v = if C then 1 else 0) : narrow .boolean (.int v) = .int v := by
  subst e; by_cases h : C
  · rw [if_pos h]; rfl
  · rw [if_neg h]; rfl
theorem own_fb {C : Prop} [Decidable C] {v : Int32} (e : v = if C then 1 else 0) : fits .boolean (.int v) = true := by
  subst e; by_cases h : C
  · rw [if_pos h]; rfl
  · rw [if_neg h]; rfl
theorem own_ndadd {x y : UInt64} (h1 : Fin64 x) (h2 : Fin64 y) : NoNaN64 (FP.dadd x y) := dadd_out h1.noNaN h2
theorem own_ndsub {x y : UInt64} (h1 : Fin64 x) (h2 : Fin64 y) : NoNaN64 (FP.dsub x y) := dsub_out h1.noNaN h2
theorem own_ndmul {x y : UInt64} (h1 : Fin64 x) (h2 : Fin64 y) : NoNaN64 (FP.dmul x y) := dmul_out h1 h2
theorem own_fin {x : UInt64} : Fin64 x ↔ FP.Core.DFin x := fin64_core
theorem own_fneg {x : UInt64} (h : Fin64 x) : Fin64 (FP.dneg x) := by
  obtain ⟨s, c, q, e⟩ := fin64_core.mp h
  exact fin64_core.mpr ⟨!s, c, q, (FP.val64_dneg x).trans (by rw [e]; rfl)⟩
theorem own_self {x : UInt64} (h : Fin64 x) : FP.dcmp x x = some .eq := FP.Core.dcmp_self (fin64_core.mp h).ne_nan
theorem own_sgt {x : UInt64} (h : Fin64 x) : ¬ FP.dcmp x x = some .gt := by rw [own_self h]; decide
theorem own_slt {x : UInt64} (h : Fin64 x) : ¬ FP.dcmp x x = some .lt := by rw [own_self h]; decide
theorem own_and {c d : Jvm.Cond} {a : Array Value} {s : State} (h1 : c.before a s = true) (h2 : d.before a s = true) : (Jvm.Cond.and c d).before a s = true := by rw [Cond.before_and, h1, h2]; rfl
theorem own_isfin {x : UInt64} (h : Fin64 x) : some (Value.int (if Jvm.Free.Fl.relLe (FP.dcmp (x &&& 0x7fffffffffffffff) Jvm.Free.Fl.maxD) = true then (1 : Int32) else 0)) = some (.int (1 : Int32)) := by rw [if_pos ((le_max_iff h.noNaN).mpr h)]
theorem own_isinf {x : UInt64} (h : Fin64 x) : some (Value.int (if Jvm.Free.Fl.relGt (FP.dcmp (x &&& 0x7fffffffffffffff) Jvm.Free.Fl.maxD) = true then (1 : Int32) else 0)) = some (.int (0 : Int32)) := by rw [if_neg (fun h4 => (gt_max_iff h.noNaN).mp h4 h)]
theorem own_dfin {i : Int} {x : UInt64} (h : FP.Core.DInt i x) : Fin64 x := by
  refine fin64_core.mpr ?_
  have q : FP.Core.Whole i (FP.Core.val64 x) := h
  cases e : FP.Core.val64 x with
  | nan => rw [e] at q; exact q.elim
  | inf s => rw [e] at q; exact q.elim
  | fin s c q => exact ⟨s, c, q, e⟩
theorem own_fn {v : Int32} (h : narrow .boolean (.int v) = .int v) : fits .boolean (.int v) = true := by
  have q : v &&& 1 = v := Value.int.inj h
  rcases and_one v with z | z <;> rw [z] at q <;> subst q <;> rfl
/-- a double less than, equal to .. another, as the code asks it -/
abbrev oGe (o : Option Ordering) : Prop := o = some .gt ∨ o = some .eq
abbrev oLe (o : Option Ordering) : Prop := o = some .lt ∨ o = some .eq
theorem d_l_eq_t {o : Option Ordering} (h : o = some .eq) : ifCond.holds .eq (cmpValue o .l) = true := by
  rcases o with _ | _ | _ | _ <;> first | rfl | decide | (exfalso; revert h; decide)
theorem d_l_eq_f {o : Option Ordering} (h : ¬ o = some .eq) : ifCond.holds .eq (cmpValue o .l) = false := by
  rcases o with _ | _ | _ | _ <;> first | rfl | decide | (exfalso; revert h; decide)
theorem d_l_ne_t {o : Option Ordering} (h : ¬ o = some .eq) : ifCond.holds .ne (cmpValue o .l) = true := by
  rcases o with _ | _ | _ | _ <;> first | rfl | decide | (exfalso; revert h; decide)
theorem d_l_ne_f {o : Option Ordering} (h : o = some .eq) : ifCond.holds .ne (cmpValue o .l) = false := by
  rcases o with _ | _ | _ | _ <;> first | rfl | decide | (exfalso; revert h; decide)
theorem d_g_eq_t {o : Option Ordering} (h : o = some .eq) : ifCond.holds .eq (cmpValue o .g) = true := by
  rcases o with _ | _ | _ | _ <;> first | rfl | decide | (exfalso; revert h; decide)
theorem d_g_eq_f {o : Option Ordering} (h : ¬ o = some .eq) : ifCond.holds .eq (cmpValue o .g) = false := by
  rcases o with _ | _ | _ | _ <;> first | rfl | decide | (exfalso; revert h; decide)
theorem d_g_ne_t {o : Option Ordering} (h : ¬ o = some .eq) : ifCond.holds .ne (cmpValue o .g) = true := by
  rcases o with _ | _ | _ | _ <;> first | rfl | decide | (exfalso; revert h; decide)
theorem d_g_ne_f {o : Option Ordering} (h : o = some .eq) : ifCond.holds .ne (cmpValue o .g) = false := by
  rcases o with _ | _ | _ | _ <;> first | rfl | decide | (exfalso; revert h; decide)
theorem d_l_lt_t {o : Option Ordering} (h : ¬ oGe o) : ifCond.holds .lt (cmpValue o .l) = true := by
  rcases o with _ | _ | _ | _ <;> first | rfl | decide | (exfalso; revert h; decide)
theorem d_l_lt_f {o : Option Ordering} (h : oGe o) : ifCond.holds .lt (cmpValue o .l) = false := by
  rcases o with _ | _ | _ | _ <;> first | rfl | decide | (exfalso; revert h; decide)
theorem d_l_ge_t {o : Option Ordering} (h : oGe o) : ifCond.holds .ge (cmpValue o .l) = true := by
  rcases o with _ | _ | _ | _ <;> first | rfl | decide | (exfalso; revert h; decide)
theorem d_l_ge_f {o : Option Ordering} (h : ¬ oGe o) : ifCond.holds .ge (cmpValue o .l) = false := by
  rcases o with _ | _ | _ | _ <;> first | rfl | decide | (exfalso; revert h; decide)
theorem d_l_gt_t {o : Option Ordering} (h : o = some .gt) : ifCond.holds .gt (cmpValue o .l) = true := by
  rcases o with _ | _ | _ | _ <;> first | rfl | decide | (exfalso; revert h; decide)
theorem d_l_gt_f {o : Option Ordering} (h : ¬ o = some .gt) : ifCond.holds .gt (cmpValue o .l) = false := by
  rcases o with _ | _ | _ | _ <;> first | rfl | decide | (exfalso; revert h; decide)
theorem d_l_le_t {o : Option Ordering} (h : ¬ o = some .gt) : ifCond.holds .le (cmpValue o .l) = true := by
  rcases o with _ | _ | _ | _ <;> first | rfl | decide | (exfalso; revert h; decide)
theorem d_l_le_f {o : Option Ordering} (h : o = some .gt) : ifCond.holds .le (cmpValue o .l) = false := by
  rcases o with _ | _ | _ | _ <;> first | rfl | decide | (exfalso; revert h; decide)
theorem d_g_lt_t {o : Option Ordering} (h : o = some .lt) : ifCond.holds .lt (cmpValue o .g) = true := by
  rcases o with _ | _ | _ | _ <;> first | rfl | decide | (exfalso; revert h; decide)
theorem d_g_lt_f {o : Option Ordering} (h : ¬ o = some .lt) : ifCond.holds .lt (cmpValue o .g) = false := by
  rcases o with _ | _ | _ | _ <;> first | rfl | decide | (exfalso; revert h; decide)
theorem d_g_ge_t {o : Option Ordering} (h : ¬ o = some .lt) : ifCond.holds .ge (cmpValue o .g) = true := by
  rcases o with _ | _ | _ | _ <;> first | rfl | decide | (exfalso; revert h; decide)
theorem d_g_ge_f {o : Option Ordering} (h : o = some .lt) : ifCond.holds .ge (cmpValue o .g) = false := by
  rcases o with _ | _ | _ | _ <;> first | rfl | decide | (exfalso; revert h; decide)
theorem d_g_gt_t {o : Option Ordering} (h : ¬ oLe o) : ifCond.holds .gt (cmpValue o .g) = true := by
  rcases o with _ | _ | _ | _ <;> first | rfl | decide | (exfalso; revert h; decide)
theorem d_g_gt_f {o : Option Ordering} (h : oLe o) : ifCond.holds .gt (cmpValue o .g) = false := by
  rcases o with _ | _ | _ | _ <;> first | rfl | decide | (exfalso; revert h; decide)
theorem d_g_le_t {o : Option Ordering} (h : oLe o) : ifCond.holds .le (cmpValue o .g) = true := by
  rcases o with _ | _ | _ | _ <;> first | rfl | decide | (exfalso; revert h; decide)
theorem d_g_le_f {o : Option Ordering} (h : ¬ oLe o) : ifCond.holds .le (cmpValue o .g) = false := by
  rcases o with _ | _ | _ | _ <;> first | rfl | decide | (exfalso; revert h; decide)
theorem l_eq (x y : Int64) : XT.cmpL x y = 0 ↔ x = y := lw_eq x y
theorem l_lt (x y : Int64) : XT.cmpL x y < 0 ↔ x < y := lw_lt x y
theorem l_gt (x y : Int64) : 0 < XT.cmpL x y ↔ y < x := lw_gt x y
theorem g_ret (A : Ax p l e R s m args below meth c T locs cells slots B) {w : Value} {t : FieldType} {i : Instr} {Q : Option Value → Heap → List Loc → Prop} {K S : Nat} (hd : decode B pc = .ok (i, 1)) (hlk : meth.locks = false) (hret : meth.sig.returnType = some t) (hn : narrow t w = w)
    (hi : (i = .ireturn ∧ (t = .int ∨ t = .boolean ∨ t = .byte ∨ t = .char ∨ t = .short) ∧ ∃ z, w = .int z) ∨ (i = .lreturn ∧ t = .long ∧ ∃ z, w = .long z) ∨ (i = .dreturn ∧ t = .double ∧ ∃ z, w = .double z) ∨ (i = .freturn ∧ t = .float ∧ ∃ z, w = .float z) ∨ (i = .areturn ∧ t.isReference = true ∧ w.isRef = true))
    (hK : cells ≤ K) (hS : slots ≤ S) (hQ : Q (some w) T.heap locs) : Go p e below (fun U o => ∃ v L, o = .returned v ∧ Q v U.heap L ∧ FrameEnd s o U L K S) T (mkF m pc ls (w :: st)) := by
  obtain ⟨fs, hr, hrun, hended, hW, hsame⟩ := A.1.leave (v := some w) (fun h => by rw [hret] at h; cases h) hlk
  exact ⟨_, _, retOut A.1 A.2.1 hret hn hi (hb A.2.2 hd) hr, hrun, hended, _, _, rfl, hQ, ⟨_, rfl⟩, hW, hsame.mono hK hS⟩
theorem g_retV (A : Ax p l e R s m args below meth c T locs cells slots B) {Q : Option Value → Heap → List Loc → Prop} {K S : Nat} (hd : decode B pc = .ok (.return_, 1)) (hlk : meth.locks = false) (hret : meth.sig.returnType = none)
    (hK : cells ≤ K) (hS : slots ≤ S) (hQ : Q none T.heap locs) : Go p e below (fun U o => ∃ v L, o = .returned v ∧ Q v U.heap L ∧ FrameEnd s o U L K S) T (mkF m pc ls []) := by
  obtain ⟨fs, hr, hrun, hended, hW, hsame⟩ := A.1.leave (v := none) (fun _ => rfl) hlk
  exact ⟨_, _, A.1.returnOut A.2.1 hret (hb A.2.2 hd) hr, hrun, hended, _, _, rfl, hQ, ⟨_, rfl⟩, hW, hsame.mono hK hS⟩
theorem g_ldcI (A : Ax p l e R s m args below meth c T locs cells slots B) {Z : State} {a0 : Array Value} {own : String} {i : Nat} {v : Int32} (hZ : Z.Warmed39 s.vm) (hown : s.vm.findClass own = some m.cls) (w : (Jvm.Cond.constant own i v).before a0 Z = true) (hd : decode B pc = .ok (.ldc i, 2)) (hp : pc + 2 = pc') (k : Go p e below P T (mkF m pc' ls (.int v :: st))) : Go p e below P T (mkF m pc ls st) := by
  subst hp; exact Go.of (A.1.ldcInt A.2.1 hown (mvT hZ w) (g := mkF m pc ls st) rfl (hb A.2.2 hd)) k
theorem g_ldcD (A : Ax p l e R s m args below meth c T locs cells slots B) {Z : State} {a0 : Array Value} {own : String} {i : Nat} {v : UInt64} (hZ : Z.Warmed39 s.vm) (hown : s.vm.findClass own = some m.cls) (w : (Jvm.Cond.constantDouble own i v).before a0 Z = true) (hd : decode B pc = .ok (.ldc2_w i, 3)) (hp : pc + 3 = pc') (k : Go p e below P T (mkF m pc' ls (.double v :: st))) : Go p e below P T (mkF m pc ls st) := by
  subst hp; exact Go.of (A.1.ldc2DoubleC A.2.1 hown (mvT hZ w) (g := mkF m pc ls st) rfl (hb A.2.2 hd)) k
theorem g_ldcL (A : Ax p l e R s m args below meth c T locs cells slots B) {Z : State} {a0 : Array Value} {own : String} {i : Nat} {v : Int64} (hZ : Z.Warmed39 s.vm) (hown : s.vm.findClass own = some m.cls) (w : (Jvm.Cond.constantLong own i v).before a0 Z = true) (hd : decode B pc = .ok (.ldc2_w i, 3)) (hp : pc + 3 = pc') (k : Go p e below P T (mkF m pc' ls (.long v :: st))) : Go p e below P T (mkF m pc ls st) := by
  subst hp; exact Go.of (A.1.ldc2Long A.2.1 hown (mvT hZ w) (g := mkF m pc ls st) rfl (hb A.2.2 hd)) k
theorem g_nnY (A : Ax p l e R s m args below meth c T locs cells slots B) {o : Int} {b : Addr} (hd : decode B pc = .ok (.ifnonnull o, 3)) (hp : (pc : Int) + o = (pc' : Int)) (k : Go p e below P T (mkF m pc' ls st)) : Go p e below P T (mkF m pc ls (.ref b :: st)) := Go.of (fun _ k' => XT.ifnonnullYes A.1.here A.2.1 rfl rfl (hb A.2.2 hd) rfl (own_off hp).1 (own_off hp).2 k') k
theorem g_nnN (A : Ax p l e R s m args below meth c T locs cells slots B) {o : Int} (hd : decode B pc = .ok (.ifnonnull o, 3)) (hp : pc + 3 = pc') (k : Go p e below P T (mkF m pc' ls st)) : Go p e below P T (mkF m pc ls (.null :: st)) := by
  subst hp; exact Go.of (fun _ k' => XT.ifnonnullNo A.1.here A.2.1 rfl (hb A.2.2 hd) rfl k') k
theorem g_nuY (A : Ax p l e R s m args below meth c T locs cells slots B) {o : Int} (hd : decode B pc = .ok (.ifnull o, 3)) (hp : (pc : Int) + o = (pc' : Int)) (k : Go p e below P T (mkF m pc' ls st)) : Go p e below P T (mkF m pc ls (.null :: st)) := Go.of (fun _ k' => XS.ifnullYes A.1.here A.2.1 rfl rfl (hb A.2.2 hd) rfl (own_off hp).1 (own_off hp).2 k') k
theorem g_nuN (A : Ax p l e R s m args below meth c T locs cells slots B) {o : Int} {b : Addr} (hd : decode B pc = .ok (.ifnull o, 3)) (hp : pc + 3 = pc') (k : Go p e below P T (mkF m pc' ls st)) : Go p e below P T (mkF m pc ls (.ref b :: st)) := by
  subst hp; exact Go.of (fun _ k' => XS.ifnullNo A.1.here A.2.1 rfl (hb A.2.2 hd) rfl k') k
theorem g_acY (A : Ax p l e R s m args below meth c T locs cells slots B) {o : Int} {cd : ClassFile.ACond} {x y : Value} (hd : decode B pc = .ok (.if_acmp cd o, 3)) (h1 : x.isRef = true) (h2 : y.isRef = true) (hc : XT.acmp cd x y = true) (hp : (pc : Int) + o = (pc' : Int)) (k : Go p e below P T (mkF m pc' ls st)) : Go p e below P T (mkF m pc ls (y :: x :: st)) := Go.of (fun _ k' => XT.acmpYes A.1.here A.2.1 rfl rfl (hb A.2.2 hd) rfl h1 h2 hc (own_off hp).1 (own_off hp).2 k') k
theorem g_acN (A : Ax p l e R s m args below meth c T locs cells slots B) {o : Int} {cd : ClassFile.ACond} {x y : Value} (hd : decode B pc = .ok (.if_acmp cd o, 3)) (h1 : x.isRef = true) (h2 : y.isRef = true) (hc : XT.acmp cd x y = false) (hp : pc + 3 = pc') (k : Go p e below P T (mkF m pc' ls st)) : Go p e below P T (mkF m pc ls (y :: x :: st)) := by
  subst hp; exact Go.of (fun _ k' => XT.acmpNo A.1.here A.2.1 rfl (hb A.2.2 hd) rfl h1 h2 hc k') k
/-- an array of n places: its i-th holds f i -/
def Dar (Z : State) (h : Heap) (a : Addr) (ty : FieldType) (n : Nat) (f : Nat → Value) : Prop := ∃ cl : Cell, RoadKit.Arr Z h a cl ty ∧ cl.slots.size = n ∧ n < 2147483648 ∧ ∀ i, i < n → cl.slots[i]? = some (f i)
variable {Z : State} {h h' : Heap} {a b : Addr} {ty : FieldType} {n : Nat} {f g : Nat → Value} {sl : Nat} {v : Value} {ws : List Addr}
theorem Dar.lt (F : Dar Z h a ty n f) : a < h.size := by obtain ⟨cl, A, -⟩ := F; exact A.lt
theorem Dar.ext (E : Ext h h') (F : Dar Z h a ty n f) : Dar Z h' a ty n f := by obtain ⟨cl, A, r⟩ := F; exact ⟨cl, A.ext E, r⟩
theorem Dar.other (W : Wr h h' b sl v) (F : Dar Z h a ty n f) (q : a ≠ b) : Dar Z h' a ty n f := by obtain ⟨cl, A, r⟩ := F; exact ⟨cl, A.other W q, r⟩
theorem Dar.keep (F : Dar Z h a ty n f) (K : Keep h h' ws) (q : a ∉ ws) : Dar Z h' a ty n f := by obtain ⟨cl, A, r⟩ := F; exact ⟨cl, ⟨K.2.1 a cl A.1 q, A.2⟩, r⟩
theorem Dar.congr (F : Dar Z h a ty n f) (q : ∀ i, i < n → f i = g i) : Dar Z h a ty n g := by obtain ⟨cl, A, r1, r2, r3⟩ := F; exact ⟨cl, A, r1, r2, fun i hi => by rw [← q i hi]; exact r3 i hi⟩
theorem Dar.new {cA : ClassId} {z : Int32} (A : RoadKit.Arr Z h a (newA cA ty z) ty) (hz : z.toNatClampNeg = n) : Dar Z h a ty n (fun _ => defaultValue ty) := by
  refine ⟨_, A, (sz_new _ _ _).trans hz, ?_, fun i hi => by subst hz; simp [newA, hi]⟩
  have := z.toInt_lt
  rw [← hz, Int32.toNatClampNeg]; omega
theorem Dar.ne_exa {a0 : Array Value} {k : Nat} {C : String} (F : Dar Z h a ty n f) (E : Exa Z h b C) (wi : (Jvm.Cond.instantiable C k).before a0 Z = true) : a ≠ b := by obtain ⟨cl, A, -⟩ := F; exact fun q => ne_arr E wi A q.symm
theorem own_ne {a b : Nat} {h : Heap} (g : a = h.size) (q : b < h.size) : b ≠ a := by rw [g]; exact Nat.ne_of_lt q
theorem own_clamp {i : Nat} (hi : i < 2147483648) : (Int32.ofNat i).toNatClampNeg = i ∧ ¬ Int32.ofNat i < 0 := by
  have e : (Int32.ofNat i).toInt = i := Int32.toInt_ofNat_of_lt hi
  refine ⟨by rw [Int32.toNatClampNeg, e]; omega, fun q => ?_⟩
  rw [Int32.lt_iff_toInt_lt, e] at q
  have : (0 : Int32).toInt = 0 := rfl
  omega
theorem Dar.set {i : Nat} (F : Dar Z h a ty n f) (W : Wr h h' a i v) (q : ∀ j, j < n → g j = if j = i then v else f j) : Dar Z h' a ty n g := by
  obtain ⟨cl, A, r1, r2, r3⟩ := F
  refine ⟨_, A.same W, (sz_set _ _ _).trans r1, r2, fun j hj => ?_⟩
  rw [q j hj]
  by_cases e : j = i
  · subst e; rw [if_pos rfl]; simp [Cell.setSlot, r1, hj]
  · rw [if_neg e]; exact (Array.getElem?_setIfInBounds_ne (Ne.symm e)).trans (r3 j hj)
theorem own_in {cl : Cell} {i : Nat} (S : cl.slots.size = n) (hn : n < 2147483648) (hi : i < n) : ¬ (Int32.ofNat i < 0 ∨ cl.slots.size ≤ (Int32.ofNat i).toNatClampNeg) := by
  obtain ⟨q1, q2⟩ := own_clamp (i := i) (by omega)
  rw [q1, S]; exact fun z => z.elim q2 (by omega)
theorem g_daload (A : Ax p l e R s m args below meth c T locs cells slots B) (hZ : Z.Warmed39 s.vm) (eT : T.heap = h) {j : Int32} {i : Nat} {x : UInt64} (F : Dar Z h a .double n f) (hi : i < n) (hj : j = Int32.ofNat i) (hv : f i = .double x) (hd : decode B pc = .ok (.daload, 1)) (hp : pc + 1 = pc') (k : Go p e below P T (mkF m pc' ls (.double x :: st))) : Go p e below P T (mkF m pc ls (.int j :: .ref a :: st)) := by
  subst hp hj
  obtain ⟨cl, A2, r1, r2, r3⟩ := F
  have q := (own_clamp (i := i) (by omega)).1
  exact Go.of (fun t k' => A.1.daload A.2.1 (j := Int32.ofNat i) (v := .double x) (by rw [eT]; exact A2.1) (State.isArrayOf_alike hZ.alike A2.2.1) A2.2.2 (own_in r1 r2 hi) (by rw [q, ← hv]; exact r3 i hi) (g := mkF m pc ls (.int (Int32.ofNat i) :: .ref a :: st)) rfl rfl (hb A.2.2 hd) t k') k
theorem g_iaload (A : Ax p l e R s m args below meth c T locs cells slots B) (hZ : Z.Warmed39 s.vm) (eT : T.heap = h) {j : Int32} {i : Nat} {x : Int32} (F : Dar Z h a .int n f) (hi : i < n) (hj : j = Int32.ofNat i) (hv : f i = .int x) (hd : decode B pc = .ok (.iaload, 1)) (hp : pc + 1 = pc') (k : Go p e below P T (mkF m pc' ls (.int x :: st))) : Go p e below P T (mkF m pc ls (.int j :: .ref a :: st)) := by
  subst hp hj
  obtain ⟨cl, A2, r1, r2, r3⟩ := F
  have q := (own_clamp (i := i) (by omega)).1
  exact Go.of (fun t k' => A.1.iaload A.2.1 (j := Int32.ofNat i) (v := .int x) (by rw [eT]; exact A2.1) (State.isArrayOf_alike hZ.alike A2.2.1) A2.2.2 (own_in r1 r2 hi) (by rw [q, ← hv]; exact r3 i hi) (g := mkF m pc ls (.int (Int32.ofNat i) :: .ref a :: st)) rfl rfl (hb A.2.2 hd) t k') k
theorem g_baload (A : Ax p l e R s m args below meth c T locs cells slots B) (hZ : Z.Warmed39 s.vm) (eT : T.heap = h) {j : Int32} {i : Nat} {x : Int32} (F : Dar Z h a .boolean n f) (hi : i < n) (hj : j = Int32.ofNat i) (hv : f i = .int x) (hd : decode B pc = .ok (.baload, 1)) (hp : pc + 1 = pc') (k : Go p e below P T (mkF m pc' ls (.int x :: st))) : Go p e below P T (mkF m pc ls (.int j :: .ref a :: st)) := by
  subst hp hj
  obtain ⟨cl, A2, r1, r2, r3⟩ := F
  have q := (own_clamp (i := i) (by omega)).1
  exact Go.of (fun t k' => A.1.baloadBooleans A.2.1 (j := Int32.ofNat i) (v := .int x) (by rw [eT]; exact A2.1) (State.isArrayOf_alike hZ.alike A2.2.1) A2.2.2 (own_in r1 r2 hi) (by rw [q, ← hv]; exact r3 i hi) (g := mkF m pc ls (.int (Int32.ofNat i) :: .ref a :: st)) rfl rfl (hb A.2.2 hd) t k') k
theorem g_alen (A : Ax p l e R s m args below meth c T locs cells slots B) (hZ : Z.Warmed39 s.vm) (eT : T.heap = h) (F : Dar Z h a ty n f) (hd : decode B pc = .ok (.arraylength, 1)) {z : Int32} (hz : Int32.ofNat n = z) (hp : pc + 1 = pc') (k : Go p e below P T (mkF m pc' ls (.int z :: st))) : Go p e below P T (mkF m pc ls (.ref a :: st)) := by
  subst hp hz
  obtain ⟨cl, A2, r1, r2, r3⟩ := F
  exact Go.of (fun t k' => A.1.arraylength A.2.1 (cell := cl) (by rw [eT]; exact A2.1) (State.isArrayOf_alike hZ.alike A2.2.1) (g := mkF m pc ls (.ref a :: st)) rfl (rest := st) rfl (hb A.2.2 hd) t (by rw [r1]; exact k')) k
theorem s_dastore (A : Ax p l e R s m args below meth c T locs cells slots B) (hZ : Z.Warmed39 s.vm) (eT : T.heap = h) {j : Int32} {i : Nat} {x : UInt64} (F : Dar Z h a .double n f) (hi : i < n) (hj : j = Int32.ofNat i) (hd : decode B pc = .ok (.dastore, 1)) (hp : pc + 1 = pc') :
    ∃ T' h', Ax p l e R s m args below meth c T' (locs ++ [⟨a, i⟩]) cells slots B ∧ T'.heap = h' ∧ Wr h h' a i (.double x) ∧ ∀ {P : State → Outcome → Prop}, Go p e below P T' (mkF m pc' ls st) → Go p e below P T (mkF m pc ls (.double x :: .int j :: .ref a :: st)) := by
  subst hp hj
  obtain ⟨cl, A2, r1, r2, r3⟩ := F
  have q := (own_clamp (i := i) (by omega)).1
  obtain ⟨X', st'⟩ := A.1.dastore A.2.1 (by rw [eT]; exact A2.1) (State.isArrayOf_alike hZ.alike A2.2.1) A2.2.2 (own_in r1 r2 hi) (x := x) (g := mkF m pc ls (.double x :: .int (Int32.ofNat i) :: .ref a :: st)) rfl rfl (hb A.2.2 hd)
  rw [q] at X' st'
  exact ⟨_, _, ⟨X', A.2⟩, rfl, ⟨cl, A2.1, A2.plain, by rw [r1]; exact hi, by rw [← eT]; rfl⟩, fun k => Go.of st' k⟩
theorem s_iastore (A : Ax p l e R s m args below meth c T locs cells slots B) (hZ : Z.Warmed39 s.vm) (eT : T.heap = h) {j : Int32} {i : Nat} {x : Int32} (F : Dar Z h a .int n f) (hi : i < n) (hj : j = Int32.ofNat i) (hd : decode B pc = .ok (.iastore, 1)) (hp : pc + 1 = pc') :
    ∃ T' h', Ax p l e R s m args below meth c T' (locs ++ [⟨a, i⟩]) cells slots B ∧ T'.heap = h' ∧ Wr h h' a i (.int x) ∧ ∀ {P : State → Outcome → Prop}, Go p e below P T' (mkF m pc' ls st) → Go p e below P T (mkF m pc ls (.int x :: .int j :: .ref a :: st)) := by
  subst hp hj
  obtain ⟨cl, A2, r1, r2, r3⟩ := F
  have q := (own_clamp (i := i) (by omega)).1
  obtain ⟨T', h', X', e', W, st'⟩ := stI A.1 A.2.1 hZ eT A2 (own_in r1 r2 hi) (x := x) (g := mkF m pc ls (.int x :: .int (Int32.ofNat i) :: .ref a :: st)) rfl rfl (hb A.2.2 hd)
  rw [q] at X' W
  exact ⟨_, _, ⟨X', A.2⟩, e', W, fun k => Go.of st' k⟩
theorem s_zastore (A : Ax p l e R s m args below meth c T locs cells slots B) (hZ : Z.Warmed39 s.vm) (eT : T.heap = h) {j : Int32} {i : Nat} {x : Int32} (F : Dar Z h a .boolean n f) (hi : i < n) (hj : j = Int32.ofNat i) (hx1 : narrow .boolean (.int x) = .int x) (hd : decode B pc = .ok (.bastore, 1)) (hp : pc + 1 = pc') :
    ∃ T' h', Ax p l e R s m args below meth c T' (locs ++ [⟨a, i⟩]) cells slots B ∧ T'.heap = h' ∧ Wr h h' a i (.int x) ∧ ∀ {P : State → Outcome → Prop}, Go p e below P T' (mkF m pc' ls st) → Go p e below P T (mkF m pc ls (.int x :: .int j :: .ref a :: st)) := by
  subst hp hj
  obtain ⟨cl, A2, r1, r2, r3⟩ := F
  have q := (own_clamp (i := i) (by omega)).1
  obtain ⟨T', h', X', e', W, st'⟩ := stZ A.1 A.2.1 hZ eT A2 (own_in r1 r2 hi) (x := x) (g := mkF m pc ls (.int x :: .int (Int32.ofNat i) :: .ref a :: st)) rfl rfl (hb A.2.2 hd)
  have q2 : nar .boolean x = x := Value.int.inj hx1
  rw [q] at X' W; rw [q2] at W
  exact ⟨_, _, ⟨X', A.2⟩, e', W, fun k => Go.of st' k⟩
end own_go
theorem d1_0 : decode prog_21_method_9_code 0 = .ok (.dconst 0, 1) := by decide +kernel
theorem d1_1 : decode prog_21_method_9_code 1 = .ok (.dstore_n 2, 1) := by decide +kernel
theorem d1_2 : decode prog_21_method_9_code 2 = .ok (.iconst 0, 1) := by decide +kernel
theorem d1_3 : decode prog_21_method_9_code 3 = .ok (.istore 4, 2) := by decide +kernel
theorem d1_5 : decode prog_21_method_9_code 5 = .ok (.iload 4, 2) := by decide +kernel
theorem d1_7 : decode prog_21_method_9_code 7 = .ok (.aload_n 0, 1) := by decide +kernel
theorem d1_8 : decode prog_21_method_9_code 8 = .ok (.arraylength, 1) := by decide +kernel
theorem d1_9 : decode prog_21_method_9_code 9 = .ok (.if_icmp .ge 21, 3) := by decide +kernel
theorem d1_12 : decode prog_21_method_9_code 12 = .ok (.dload_n 2, 1) := by decide +kernel
theorem d1_13 : decode prog_21_method_9_code 13 = .ok (.aload_n 0, 1) := by decide +kernel
theorem d1_14 : decode prog_21_method_9_code 14 = .ok (.iload 4, 2) := by decide +kernel
theorem d1_16 : decode prog_21_method_9_code 16 = .ok (.daload, 1) := by decide +kernel
theorem d1_17 : decode prog_21_method_9_code 17 = .ok (.aload_n 1, 1) := by decide +kernel
theorem d1_18 : decode prog_21_method_9_code 18 = .ok (.iload 4, 2) := by decide +kernel
theorem d1_20 : decode prog_21_method_9_code 20 = .ok (.daload, 1) := by decide +kernel
theorem d1_21 : decode prog_21_method_9_code 21 = .ok (.dmul, 1) := by decide +kernel
theorem d1_22 : decode prog_21_method_9_code 22 = .ok (.dadd, 1) := by decide +kernel
theorem d1_23 : decode prog_21_method_9_code 23 = .ok (.dstore_n 2, 1) := by decide +kernel
theorem d1_24 : decode prog_21_method_9_code 24 = .ok (.iinc 4 1, 3) := by decide +kernel
theorem d1_27 : decode prog_21_method_9_code 27 = .ok (.goto (-22), 3) := by decide +kernel
theorem d1_30 : decode prog_21_method_9_code 30 = .ok (.dload_n 2, 1) := by decide +kernel
theorem d1_31 : decode prog_21_method_9_code 31 = .ok (.dreturn, 1) := by decide +kernel
theorem pn_0 : plainName "com/example/pursuant/pursuant/selection/OrthogonalBasis" = true := by first | (simp [plainName, overriddenIn]; done) | decide +kernel
theorem ef1 (m : MethodId) (a1 : Addr) (a2 : Addr) (f : Nat → Value) (g : Nat → Value) : entryFrame m #[(.ref a1), (.ref a2)] 5 = mkF m 0 #[.val (.ref a1), .val (.ref a2), .unset, .unset, .unset] [] := by first | (simp [entryFrame, mkF, argsToLocals, Value.category]; done) | rfl
def QD0 (Z : State) (a1 : Addr) (a2 : Addr) (f : Nat → Value) (g : Nat → Value) (h0 : Heap) (n0 : Nat) (v : Option Value) (h : Heap) (L : List Loc) : Prop := v = some (.double (0 : UInt64)) ∧ Fr n0 L ∧ h = h0
set_option maxRecDepth 65536 in
set_option maxHeartbeats 40000000 in
theorem rmD0 (l : Launch) (Z : State) (a0 : Array Value) (hw : ∀ d ∈ tables_1, d.before a0 Z = true) (ws : List Jvm.Cond) (a1 : Addr) (a2 : Addr) (f : Nat → Value) (g : Nat → Value) (h0 : Heap) (n0 : Nat) (Z0 : n0 ≤ h0.size) (V2 : Dar Z h0 a1 .double 0 f) (V3 : Dar Z h0 a2 .double 0 g) :
    MetFree l (⟨"com/example/pursuant/pursuant/selection/OrthogonalBasis", "dot", "([D[D)D"⟩ : MethodName) (head1 (Jvm.Cond.code (⟨"com/example/pursuant/pursuant/selection/OrthogonalBasis", "dot", "([D[D)D"⟩ : MethodName) prog_21_method_9_code 5 (some .double) :: ws) ({ frames := 0, cells := 0, slots := 0, locals := 0 } : Room)) (fun a U => a = #[(.ref a1), (.ref a2)] ∧ Z.Warmed39 U.vm ∧ U.heap = h0) (fun _ _ _ _ _ => True) (fun _ U o U' => ∃ v L, o = .returned v ∧ QD0 Z a1 a2 f g h0 n0 v U'.heap L ∧ FrameEnd U o U' L 0 0) := by
  refine MetFree.of_bodySF (plainFor_of_name pn_0) hisR ?_
  intro p e s m args below meth c s₁ Bd hml0 hP hK
  obtain ⟨rfl, hZ, hh⟩ := hP
  have hx := Bd.exec
  have hby := Bd.bytes
  have hml : c.maxLocals = 5 := hml0
  have hown : s.vm.findClass "com/example/pursuant/pursuant/selection/OrthogonalBasis" = some m.cls := findClass_of_methodNamed Bd.named
  have hnm := (name_of_methodNamed Bd.named Bd.method).1
  have X0 : Stand p l e ({ frames := 0, cells := 0, slots := 0, locals := 0 } : Room) s m #[(.ref a1), (.ref a2)] below meth c s₁ [] 0 0 := Stand.of_body Bd
  have e0 : s₁.heap = h0 := by rw [← hh, Bd.state]; rfl
  have N0 := Fr.nil n0
  have A0 := (⟨X0, hx, hby⟩ : Ax _ _ _ _ _ _ _ _ _ _ _ _ _ _ _)
  show Go p e below (fun U o => ∃ v L, o = .returned v ∧ QD0 Z a1 a2 f g h0 n0 v U.heap L ∧ FrameEnd s o U L 0 0) s₁ (entryFrame m #[(.ref a1), (.ref a2)] 5)
  refine Go.cast (ef1 m a1 a2 f g) ?_
  refine g_dconst0 A0 d1_0 (pc' := 1) rfl ?_
  refine g_dstoreN A0 d1_1 (ls' := #[.val (.ref a1), .val (.ref a2), .val (.double (0 : UInt64)), .second, .unset]) rfl (pc' := 2) rfl ?_
  refine g_iconst A0 d1_2 (v := (0 : Int32)) rfl (pc' := 3) rfl ?_
  refine g_istore A0 d1_3 (ls' := #[.val (.ref a1), .val (.ref a2), .val (.double (0 : UInt64)), .second, .val (.int (0 : Int32))]) rfl (pc' := 5) rfl ?_
  refine g_iload A0 d1_5 rfl (pc' := 7) rfl ?_
  refine g_aloadN A0 d1_7 rfl rfl (pc' := 8) rfl ?_
  refine g_alen A0 hZ e0 V2 d1_8 (z := (0 : Int32)) rfl (pc' := 9) rfl ?_
  refine g_icY A0 d1_9 (c2_ge_t (by decide)) (pc' := 30) rfl ?_
  refine g_dloadN A0 d1_30 rfl (pc' := 31) rfl ?_
  exact g_ret (Q := QD0 Z a1 a2 f g h0 n0) A0 d1_31 Bd.notSynchronized Bd.returns rfl (Or.inr (Or.inr (Or.inl ⟨rfl, rfl, _, rfl⟩))) (by decide) (by decide) (by rw [e0]; exact ⟨rfl, N0, rfl⟩)
theorem ef4 (m : MethodId) (a1 : Addr) (a2 : Addr) (f : Nat → Value) (g : Nat → Value) (x0 : UInt64) (y0 : UInt64) : entryFrame m #[(.ref a1), (.ref a2)] 5 = mkF m 0 #[.val (.ref a1), .val (.ref a2), .unset, .unset, .unset] [] := by first | (simp [entryFrame, mkF, argsToLocals, Value.category]; done) | rfl
def QD1 (Z : State) (a1 : Addr) (a2 : Addr) (f : Nat → Value) (g : Nat → Value) (x0 : UInt64) (y0 : UInt64) (h0 : Heap) (n0 : Nat) (v : Option Value) (h : Heap) (L : List Loc) : Prop := v = some (.double (FP.dadd (0 : UInt64) (FP.dmul x0 y0))) ∧ Fr n0 L ∧ h = h0
set_option maxRecDepth 65536 in
set_option maxHeartbeats 40000000 in
theorem rmD1 (l : Launch) (Z : State) (a0 : Array Value) (hw : ∀ d ∈ tables_1, d.before a0 Z = true) (ws : List Jvm.Cond) (a1 : Addr) (a2 : Addr) (f : Nat → Value) (g : Nat → Value) (x0 : UInt64) (y0 : UInt64) (h0 : Heap) (n0 : Nat) (Z0 : n0 ≤ h0.size) (V5 : Dar Z h0 a1 .double 1 f) (V6 : Dar Z h0 a2 .double 1 g) (hf0 : f 0 = .double x0) (hg0 : g 0 = .double y0) (hx0 : Fin64 x0) (hy0 : Fin64 y0) (hN0 : NoNaN64 (FP.dadd (0 : UInt64) (FP.dmul x0 y0))) :
    MetFree l (⟨"com/example/pursuant/pursuant/selection/OrthogonalBasis", "dot", "([D[D)D"⟩ : MethodName) (head1 (Jvm.Cond.code (⟨"com/example/pursuant/pursuant/selection/OrthogonalBasis", "dot", "([D[D)D"⟩ : MethodName) prog_21_method_9_code 5 (some .double) :: ws) ({ frames := 0, cells := 0, slots := 0, locals := 0 } : Room)) (fun a U => a = #[(.ref a1), (.ref a2)] ∧ Z.Warmed39 U.vm ∧ U.heap = h0) (fun _ _ _ _ _ => True) (fun _ U o U' => ∃ v L, o = .returned v ∧ QD1 Z a1 a2 f g x0 y0 h0 n0 v U'.heap L ∧ FrameEnd U o U' L 0 0) := by
  refine MetFree.of_bodySF (plainFor_of_name pn_0) hisR ?_
  intro p e s m args below meth c s₁ Bd hml0 hP hK
  obtain ⟨rfl, hZ, hh⟩ := hP
  have hx := Bd.exec
  have hby := Bd.bytes
  have hml : c.maxLocals = 5 := hml0
  have hown : s.vm.findClass "com/example/pursuant/pursuant/selection/OrthogonalBasis" = some m.cls := findClass_of_methodNamed Bd.named
  have hnm := (name_of_methodNamed Bd.named Bd.method).1
  have X0 : Stand p l e ({ frames := 0, cells := 0, slots := 0, locals := 0 } : Room) s m #[(.ref a1), (.ref a2)] below meth c s₁ [] 0 0 := Stand.of_body Bd
  have e0 : s₁.heap = h0 := by rw [← hh, Bd.state]; rfl
  have N0 := Fr.nil n0
  have A0 := (⟨X0, hx, hby⟩ : Ax _ _ _ _ _ _ _ _ _ _ _ _ _ _ _)
  show Go p e below (fun U o => ∃ v L, o = .returned v ∧ QD1 Z a1 a2 f g x0 y0 h0 n0 v U.heap L ∧ FrameEnd s o U L 0 0) s₁ (entryFrame m #[(.ref a1), (.ref a2)] 5)
  refine Go.cast (ef4 m a1 a2 f g x0 y0) ?_
  refine g_dconst0 A0 d1_0 (pc' := 1) rfl ?_
  refine g_dstoreN A0 d1_1 (ls' := #[.val (.ref a1), .val (.ref a2), .val (.double (0 : UInt64)), .second, .unset]) rfl (pc' := 2) rfl ?_
  refine g_iconst A0 d1_2 (v := (0 : Int32)) rfl (pc' := 3) rfl ?_
  refine g_istore A0 d1_3 (ls' := #[.val (.ref a1), .val (.ref a2), .val (.double (0 : UInt64)), .second, .val (.int (0 : Int32))]) rfl (pc' := 5) rfl ?_
  refine g_iload A0 d1_5 rfl (pc' := 7) rfl ?_
  refine g_aloadN A0 d1_7 rfl rfl (pc' := 8) rfl ?_
  refine g_alen A0 hZ e0 V5 d1_8 (z := (1 : Int32)) rfl (pc' := 9) rfl ?_
  refine g_icN A0 d1_9 (c2_ge_f (by decide)) (pc' := 12) rfl ?_
  refine g_dloadN A0 d1_12 rfl (pc' := 13) rfl ?_
  refine g_aloadN A0 d1_13 rfl rfl (pc' := 14) rfl ?_
  refine g_iload A0 d1_14 rfl (pc' := 16) rfl ?_
  refine g_daload A0 hZ e0 V5 (i := 0) (by decide) rfl (x := x0) hf0 d1_16 (pc' := 17) rfl ?_
  refine g_aloadN A0 d1_17 rfl rfl (pc' := 18) rfl ?_
  refine g_iload A0 d1_18 rfl (pc' := 20) rfl ?_
  refine g_daload A0 hZ e0 V6 (i := 0) (by decide) rfl (x := y0) hg0 d1_20 (pc' := 21) rfl ?_
  refine g_dmul A0 d1_21 (own_ndmul hx0 hy0) (pc' := 22) rfl ?_
  refine g_dadd A0 d1_22 hN0 (pc' := 23) rfl ?_
  refine g_dstoreN A0 d1_23 (ls' := #[.val (.ref a1), .val (.ref a2), .val (.double (FP.dadd (0 : UInt64) (FP.dmul x0 y0))), .second, .val (.int (0 : Int32))]) rfl (pc' := 24) rfl ?_
  refine g_iinc A0 d1_24 rfl (y := (1 : Int32)) (by decide) (ls' := #[.val (.ref a1), .val (.ref a2), .val (.double (FP.dadd (0 : UInt64) (FP.dmul x0 y0))), .second, .val (.int (1 : Int32))]) rfl (pc' := 27) rfl ?_
  refine g_goto A0 d1_27 (pc' := 5) rfl ?_
  refine g_iload A0 d1_5 rfl (pc' := 7) rfl ?_
  refine g_aloadN A0 d1_7 rfl rfl (pc' := 8) rfl ?_
  refine g_alen A0 hZ e0 V5 d1_8 (z := (1 : Int32)) rfl (pc' := 9) rfl ?_
  refine g_icY A0 d1_9 (c2_ge_t (by decide)) (pc' := 30) rfl ?_
  refine g_dloadN A0 d1_30 rfl (pc' := 31) rfl ?_
  exact g_ret (Q := QD1 Z a1 a2 f g x0 y0 h0 n0) A0 d1_31 Bd.notSynchronized Bd.returns rfl (Or.inr (Or.inr (Or.inl ⟨rfl, rfl, _, rfl⟩))) (by decide) (by decide) (by rw [e0]; exact ⟨rfl, N0, rfl⟩)
theorem ef7 (m : MethodId) (a1 : Addr) (a2 : Addr) (f : Nat → Value) (g : Nat → Value) (x0 : UInt64) (y0 : UInt64) (x1 : UInt64) (y1 : UInt64) : entryFrame m #[(.ref a1), (.ref a2)] 5 = mkF m 0 #[.val (.ref a1), .val (.ref a2), .unset, .unset, .unset] [] := by first | (simp [entryFrame, mkF, argsToLocals, Value.category]; done) | rfl
def QD2 (Z : State) (a1 : Addr) (a2 : Addr) (f : Nat → Value) (g : Nat → Value) (x0 : UInt64) (y0 : UInt64) (x1 : UInt64) (y1 : UInt64) (h0 : Heap) (n0 : Nat) (v : Option Value) (h : Heap) (L : List Loc) : Prop := v = some (.double (FP.dadd (FP.dadd (0 : UInt64) (FP.dmul x0 y0)) (FP.dmul x1 y1))) ∧ Fr n0 L ∧ h = h0
set_option maxRecDepth 65536 in
set_option maxHeartbeats 40000000 in
theorem rmD2 (l : Launch) (Z : State) (a0 : Array Value) (hw : ∀ d ∈ tables_1, d.before a0 Z = true) (ws : List Jvm.Cond) (a1 : Addr) (a2 : Addr) (f : Nat → Value) (g : Nat → Value) (x0 : UInt64) (y0 : UInt64) (x1 : UInt64) (y1 : UInt64) (h0 : Heap) (n0 : Nat) (Z0 : n0 ≤ h0.size) (V8 : Dar Z h0 a1 .double 2 f) (V9 : Dar Z h0 a2 .double 2 g) (hf0 : f 0 = .double x0) (hg0 : g 0 = .double y0) (hx0 : Fin64 x0) (hy0 : Fin64 y0) (hN0 : NoNaN64 (FP.dadd (0 : UInt64) (FP.dmul x0 y0))) (hf1 : f 1 = .double x1) (hg1 : g 1 = .double y1) (hx1 : Fin64 x1) (hy1 : Fin64 y1) (hN1 : NoNaN64 (FP.dadd (FP.dadd (0 : UInt64) (FP.dmul x0 y0)) (FP.dmul x1 y1))) :
    MetFree l (⟨"com/example/pursuant/pursuant/selection/OrthogonalBasis", "dot", "([D[D)D"⟩ : MethodName) (head1 (Jvm.Cond.code (⟨"com/example/pursuant/pursuant/selection/OrthogonalBasis", "dot", "([D[D)D"⟩ : MethodName) prog_21_method_9_code 5 (some .double) :: ws) ({ frames := 0, cells := 0, slots := 0, locals := 0 } : Room)) (fun a U => a = #[(.ref a1), (.ref a2)] ∧ Z.Warmed39 U.vm ∧ U.heap = h0) (fun _ _ _ _ _ => True) (fun _ U o U' => ∃ v L, o = .returned v ∧ QD2 Z a1 a2 f g x0 y0 x1 y1 h0 n0 v U'.heap L ∧ FrameEnd U o U' L 0 0) := by
  refine MetFree.of_bodySF (plainFor_of_name pn_0) hisR ?_
  intro p e s m args below meth c s₁ Bd hml0 hP hK
  obtain ⟨rfl, hZ, hh⟩ := hP
  have hx := Bd.exec
  have hby := Bd.bytes
  have hml : c.maxLocals = 5 := hml0
  have hown : s.vm.findClass "com/example/pursuant/pursuant/selection/OrthogonalBasis" = some m.cls := findClass_of_methodNamed Bd.named
  have hnm := (name_of_methodNamed Bd.named Bd.method).1
  have X0 : Stand p l e ({ frames := 0, cells := 0, slots := 0, locals := 0 } : Room) s m #[(.ref a1), (.ref a2)] below meth c s₁ [] 0 0 := Stand.of_body Bd
  have e0 : s₁.heap = h0 := by rw [← hh, Bd.state]; rfl
  have N0 := Fr.nil n0
  have A0 := (⟨X0, hx, hby⟩ : Ax _ _ _ _ _ _ _ _ _ _ _ _ _ _ _)
  show Go p e below (fun U o => ∃ v L, o = .returned v ∧ QD2 Z a1 a2 f g x0 y0 x1 y1 h0 n0 v U.heap L ∧ FrameEnd s o U L 0 0) s₁ (entryFrame m #[(.ref a1), (.ref a2)] 5)
  refine Go.cast (ef7 m a1 a2 f g x0 y0 x1 y1) ?_
  refine g_dconst0 A0 d1_0 (pc' := 1) rfl ?_
  refine g_dstoreN A0 d1_1 (ls' := #[.val (.ref a1), .val (.ref a2), .val (.double (0 : UInt64)), .second, .unset]) rfl (pc' := 2) rfl ?_
  refine g_iconst A0 d1_2 (v := (0 : Int32)) rfl (pc' := 3) rfl ?_
  refine g_istore A0 d1_3 (ls' := #[.val (.ref a1), .val (.ref a2), .val (.double (0 : UInt64)), .second, .val (.int (0 : Int32))]) rfl (pc' := 5) rfl ?_
  refine g_iload A0 d1_5 rfl (pc' := 7) rfl ?_
  refine g_aloadN A0 d1_7 rfl rfl (pc' := 8) rfl ?_
  refine g_alen A0 hZ e0 V8 d1_8 (z := (2 : Int32)) rfl (pc' := 9) rfl ?_
  refine g_icN A0 d1_9 (c2_ge_f (by decide)) (pc' := 12) rfl ?_
  refine g_dloadN A0 d1_12 rfl (pc' := 13) rfl ?_
  refine g_aloadN A0 d1_13 rfl rfl (pc' := 14) rfl ?_
  refine g_iload A0 d1_14 rfl (pc' := 16) rfl ?_
  refine g_daload A0 hZ e0 V8 (i := 0) (by decide) rfl (x := x0) hf0 d1_16 (pc' := 17) rfl ?_
  refine g_aloadN A0 d1_17 rfl rfl (pc' := 18) rfl ?_
  refine g_iload A0 d1_18 rfl (pc' := 20) rfl ?_
  refine g_daload A0 hZ e0 V9 (i := 0) (by decide) rfl (x := y0) hg0 d1_20 (pc' := 21) rfl ?_
  refine g_dmul A0 d1_21 (own_ndmul hx0 hy0) (pc' := 22) rfl ?_
  refine g_dadd A0 d1_22 hN0 (pc' := 23) rfl ?_
  refine g_dstoreN A0 d1_23 (ls' := #[.val (.ref a1), .val (.ref a2), .val (.double (FP.dadd (0 : UInt64) (FP.dmul x0 y0))), .second, .val (.int (0 : Int32))]) rfl (pc' := 24) rfl ?_
  refine g_iinc A0 d1_24 rfl (y := (1 : Int32)) (by decide) (ls' := #[.val (.ref a1), .val (.ref a2), .val (.double (FP.dadd (0 : UInt64) (FP.dmul x0 y0))), .second, .val (.int (1 : Int32))]) rfl (pc' := 27) rfl ?_
  refine g_goto A0 d1_27 (pc' := 5) rfl ?_
  refine g_iload A0 d1_5 rfl (pc' := 7) rfl ?_
  refine g_aloadN A0 d1_7 rfl rfl (pc' := 8) rfl ?_
  refine g_alen A0 hZ e0 V8 d1_8 (z := (2 : Int32)) rfl (pc' := 9) rfl ?_
  refine g_icN A0 d1_9 (c2_ge_f (by decide)) (pc' := 12) rfl ?_
  refine g_dloadN A0 d1_12 rfl (pc' := 13) rfl ?_
  refine g_aloadN A0 d1_13 rfl rfl (pc' := 14) rfl ?_
  refine g_iload A0 d1_14 rfl (pc' := 16) rfl ?_
  refine g_daload A0 hZ e0 V8 (i := 1) (by decide) rfl (x := x1) hf1 d1_16 (pc' := 17) rfl ?_
  refine g_aloadN A0 d1_17 rfl rfl (pc' := 18) rfl ?_
  refine g_iload A0 d1_18 rfl (pc' := 20) rfl ?_
  refine g_daload A0 hZ e0 V9 (i := 1) (by decide) rfl (x := y1) hg1 d1_20 (pc' := 21) rfl ?_
  refine g_dmul A0 d1_21 (own_ndmul hx1 hy1) (pc' := 22) rfl ?_
  refine g_dadd A0 d1_22 hN1 (pc' := 23) rfl ?_
  refine g_dstoreN A0 d1_23 (ls' := #[.val (.ref a1), .val (.ref a2), .val (.double (FP.dadd (FP.dadd (0 : UInt64) (FP.dmul x0 y0)) (FP.dmul x1 y1))), .second, .val (.int (1 : Int32))]) rfl (pc' := 24) rfl ?_
  refine g_iinc A0 d1_24 rfl (y := (2 : Int32)) (by decide) (ls' := #[.val (.ref a1), .val (.ref a2), .val (.double (FP.dadd (FP.dadd (0 : UInt64) (FP.dmul x0 y0)) (FP.dmul x1 y1))), .second, .val (.int (2 : Int32))]) rfl (pc' := 27) rfl ?_
  refine g_goto A0 d1_27 (pc' := 5) rfl ?_
  refine g_iload A0 d1_5 rfl (pc' := 7) rfl ?_
  refine g_aloadN A0 d1_7 rfl rfl (pc' := 8) rfl ?_
  refine g_alen A0 hZ e0 V8 d1_8 (z := (2 : Int32)) rfl (pc' := 9) rfl ?_
  refine g_icY A0 d1_9 (c2_ge_t (by decide)) (pc' := 30) rfl ?_
  refine g_dloadN A0 d1_30 rfl (pc' := 31) rfl ?_
  exact g_ret (Q := QD2 Z a1 a2 f g x0 y0 x1 y1 h0 n0) A0 d1_31 Bd.notSynchronized Bd.returns rfl (Or.inr (Or.inr (Or.inl ⟨rfl, rfl, _, rfl⟩))) (by decide) (by decide) (by rw [e0]; exact ⟨rfl, N0, rfl⟩)
theorem ef10 (m : MethodId) (a1 : Addr) (a2 : Addr) (f : Nat → Value) (g : Nat → Value) (x0 : UInt64) (y0 : UInt64) (x1 : UInt64) (y1 : UInt64) (x2 : UInt64) (y2 : UInt64) : entryFrame m #[(.ref a1), (.ref a2)] 5 = mkF m 0 #[.val (.ref a1), .val (.ref a2), .unset, .unset, .unset] [] := by first | (simp [entryFrame, mkF, argsToLocals, Value.category]; done) | rfl
def QD3 (Z : State) (a1 : Addr) (a2 : Addr) (f : Nat → Value) (g : Nat → Value) (x0 : UInt64) (y0 : UInt64) (x1 : UInt64) (y1 : UInt64) (x2 : UInt64) (y2 : UInt64) (h0 : Heap) (n0 : Nat) (v : Option Value) (h : Heap) (L : List Loc) : Prop := v = some (.double (FP.dadd (FP.dadd (FP.dadd (0 : UInt64) (FP.dmul x0 y0)) (FP.dmul x1 y1)) (FP.dmul x2 y2))) ∧ Fr n0 L ∧ h = h0
set_option maxRecDepth 65536 in
set_option maxHeartbeats 40000000 in
theorem rmD3 (l : Launch) (Z : State) (a0 : Array Value) (hw : ∀ d ∈ tables_1, d.before a0 Z = true) (ws : List Jvm.Cond) (a1 : Addr) (a2 : Addr) (f : Nat → Value) (g : Nat → Value) (x0 : UInt64) (y0 : UInt64) (x1 : UInt64) (y1 : UInt64) (x2 : UInt64) (y2 : UInt64) (h0 : Heap) (n0 : Nat) (Z0 : n0 ≤ h0.size) (V11 : Dar Z h0 a1 .double 3 f) (V12 : Dar Z h0 a2 .double 3 g) (hf0 : f 0 = .double x0) (hg0 : g 0 = .double y0) (hx0 : Fin64 x0) (hy0 : Fin64 y0) (hN0 : NoNaN64 (FP.dadd (0 : UInt64) (FP.dmul x0 y0))) (hf1 : f 1 = .double x1) (hg1 : g 1 = .double y1) (hx1 : Fin64 x1) (hy1 : Fin64 y1) (hN1 : NoNaN64 (FP.dadd (FP.dadd (0 : UInt64) (FP.dmul x0 y0)) (FP.dmul x1 y1))) (hf2 : f 2 = .double x2) (hg2 : g 2 = .double y2) (hx2 : Fin64 x2) (hy2 : Fin64 y2) (hN2 : NoNaN64 (FP.dadd (FP.dadd (FP.dadd (0 : UInt64) (FP.dmul x0 y0)) (FP.dmul x1 y1)) (FP.dmul x2 y2))) :
    MetFree l (⟨"com/example/pursuant/pursuant/selection/OrthogonalBasis", "dot", "([D[D)D"⟩ : MethodName) (head1 (Jvm.Cond.code (⟨"com/example/pursuant/pursuant/selection/OrthogonalBasis", "dot", "([D[D)D"⟩ : MethodName) prog_21_method_9_code 5 (some .double) :: ws) ({ frames := 0, cells := 0, slots := 0, locals := 0 } : Room)) (fun a U => a = #[(.ref a1), (.ref a2)] ∧ Z.Warmed39 U.vm ∧ U.heap = h0) (fun _ _ _ _ _ => True) (fun _ U o U' => ∃ v L, o = .returned v ∧ QD3 Z a1 a2 f g x0 y0 x1 y1 x2 y2 h0 n0 v U'.heap L ∧ FrameEnd U o U' L 0 0) := by
  refine MetFree.of_bodySF (plainFor_of_name pn_0) hisR ?_
  intro p e s m args below meth c s₁ Bd hml0 hP hK
  obtain ⟨rfl, hZ, hh⟩ := hP
  have hx := Bd.exec
  have hby := Bd.bytes
  have hml : c.maxLocals = 5 := hml0
  have hown : s.vm.findClass "com/example/pursuant/pursuant/selection/OrthogonalBasis" = some m.cls := findClass_of_methodNamed Bd.named
  have hnm := (name_of_methodNamed Bd.named Bd.method).1
  have X0 : Stand p l e ({ frames := 0, cells := 0, slots := 0, locals := 0 } : Room) s m #[(.ref a1), (.ref a2)] below meth c s₁ [] 0 0 := Stand.of_body Bd
  have e0 : s₁.heap = h0 := by rw [← hh, Bd.state]; rfl
  have N0 := Fr.nil n0
  have A0 := (⟨X0, hx, hby⟩ : Ax _ _ _ _ _ _ _ _ _ _ _ _ _ _ _)
  show Go p e below (fun U o => ∃ v L, o = .returned v ∧ QD3 Z a1 a2 f g x0 y0 x1 y1 x2 y2 h0 n0 v U.heap L ∧ FrameEnd s o U L 0 0) s₁ (entryFrame m #[(.ref a1), (.ref a2)] 5)
  refine Go.cast (ef10 m a1 a2 f g x0 y0 x1 y1 x2 y2) ?_
  refine g_dconst0 A0 d1_0 (pc' := 1) rfl ?_
  refine g_dstoreN A0 d1_1 (ls' := #[.val (.ref a1), .val (.ref a2), .val (.double (0 : UInt64)), .second, .unset]) rfl (pc' := 2) rfl ?_
  refine g_iconst A0 d1_2 (v := (0 : Int32)) rfl (pc' := 3) rfl ?_
  refine g_istore A0 d1_3 (ls' := #[.val (.ref a1), .val (.ref a2), .val (.double (0 : UInt64)), .second, .val (.int (0 : Int32))]) rfl (pc' := 5) rfl ?_
  refine g_iload A0 d1_5 rfl (pc' := 7) rfl ?_
  refine g_aloadN A0 d1_7 rfl rfl (pc' := 8) rfl ?_
  refine g_alen A0 hZ e0 V11 d1_8 (z := (3 : Int32)) rfl (pc' := 9) rfl ?_
  refine g_icN A0 d1_9 (c2_ge_f (by decide)) (pc' := 12) rfl ?_
  refine g_dloadN A0 d1_12 rfl (pc' := 13) rfl ?_
  refine g_aloadN A0 d1_13 rfl rfl (pc' := 14) rfl ?_
  refine g_iload A0 d1_14 rfl (pc' := 16) rfl ?_
  refine g_daload A0 hZ e0 V11 (i := 0) (by decide) rfl (x := x0) hf0 d1_16 (pc' := 17) rfl ?_
  refine g_aloadN A0 d1_17 rfl rfl (pc' := 18) rfl ?_
  refine g_iload A0 d1_18 rfl (pc' := 20) rfl ?_
  refine g_daload A0 hZ e0 V12 (i := 0) (by decide) rfl (x := y0) hg0 d1_20 (pc' := 21) rfl ?_
  refine g_dmul A0 d1_21 (own_ndmul hx0 hy0) (pc' := 22) rfl ?_
  refine g_dadd A0 d1_22 hN0 (pc' := 23) rfl ?_
  refine g_dstoreN A0 d1_23 (ls' := #[.val (.ref a1), .val (.ref a2), .val (.double (FP.dadd (0 : UInt64) (FP.dmul x0 y0))), .second, .val (.int (0 : Int32))]) rfl (pc' := 24) rfl ?_
  refine g_iinc A0 d1_24 rfl (y := (1 : Int32)) (by decide) (ls' := #[.val (.ref a1), .val (.ref a2), .val (.double (FP.dadd (0 : UInt64) (FP.dmul x0 y0))), .second, .val (.int (1 : Int32))]) rfl (pc' := 27) rfl ?_
  refine g_goto A0 d1_27 (pc' := 5) rfl ?_
  refine g_iload A0 d1_5 rfl (pc' := 7) rfl ?_
  refine g_aloadN A0 d1_7 rfl rfl (pc' := 8) rfl ?_
  refine g_alen A0 hZ e0 V11 d1_8 (z := (3 : Int32)) rfl (pc' := 9) rfl ?_
  refine g_icN A0 d1_9 (c2_ge_f (by decide)) (pc' := 12) rfl ?_
  refine g_dloadN A0 d1_12 rfl (pc' := 13) rfl ?_
  refine g_aloadN A0 d1_13 rfl rfl (pc' := 14) rfl ?_
  refine g_iload A0 d1_14 rfl (pc' := 16) rfl ?_
  refine g_daload A0 hZ e0 V11 (i := 1) (by decide) rfl (x := x1) hf1 d1_16 (pc' := 17) rfl ?_
  refine g_aloadN A0 d1_17 rfl rfl (pc' := 18) rfl ?_
  refine g_iload A0 d1_18 rfl (pc' := 20) rfl ?_
  refine g_daload A0 hZ e0 V12 (i := 1) (by decide) rfl (x := y1) hg1 d1_20 (pc' := 21) rfl ?_
  refine g_dmul A0 d1_21 (own_ndmul hx1 hy1) (pc' := 22) rfl ?_
  refine g_dadd A0 d1_22 hN1 (pc' := 23) rfl ?_
  refine g_dstoreN A0 d1_23 (ls' := #[.val (.ref a1), .val (.ref a2), .val (.double (FP.dadd (FP.dadd (0 : UInt64) (FP.dmul x0 y0)) (FP.dmul x1 y1))), .second, .val (.int (1 : Int32))]) rfl (pc' := 24) rfl ?_
  refine g_iinc A0 d1_24 rfl (y := (2 : Int32)) (by decide) (ls' := #[.val (.ref a1), .val (.ref a2), .val (.double (FP.dadd (FP.dadd (0 : UInt64) (FP.dmul x0 y0)) (FP.dmul x1 y1))), .second, .val (.int (2 : Int32))]) rfl (pc' := 27) rfl ?_
  refine g_goto A0 d1_27 (pc' := 5) rfl ?_
  refine g_iload A0 d1_5 rfl (pc' := 7) rfl ?_
  refine g_aloadN A0 d1_7 rfl rfl (pc' := 8) rfl ?_
  refine g_alen A0 hZ e0 V11 d1_8 (z := (3 : Int32)) rfl (pc' := 9) rfl ?_
  refine g_icN A0 d1_9 (c2_ge_f (by decide)) (pc' := 12) rfl ?_
  refine g_dloadN A0 d1_12 rfl (pc' := 13) rfl ?_
  refine g_aloadN A0 d1_13 rfl rfl (pc' := 14) rfl ?_
  refine g_iload A0 d1_14 rfl (pc' := 16) rfl ?_
  refine g_daload A0 hZ e0 V11 (i := 2) (by decide) rfl (x := x2) hf2 d1_16 (pc' := 17) rfl ?_
  refine g_aloadN A0 d1_17 rfl rfl (pc' := 18) rfl ?_
  refine g_iload A0 d1_18 rfl (pc' := 20) rfl ?_
  refine g_daload A0 hZ e0 V12 (i := 2) (by decide) rfl (x := y2) hg2 d1_20 (pc' := 21) rfl ?_
  refine g_dmul A0 d1_21 (own_ndmul hx2 hy2) (pc' := 22) rfl ?_
  refine g_dadd A0 d1_22 hN2 (pc' := 23) rfl ?_
  refine g_dstoreN A0 d1_23 (ls' := #[.val (.ref a1), .val (.ref a2), .val (.double (FP.dadd (FP.dadd (FP.dadd (0 : UInt64) (FP.dmul x0 y0)) (FP.dmul x1 y1)) (FP.dmul x2 y2))), .second, .val (.int (2 : Int32))]) rfl (pc' := 24) rfl ?_
  refine g_iinc A0 d1_24 rfl (y := (3 : Int32)) (by decide) (ls' := #[.val (.ref a1), .val (.ref a2), .val (.double (FP.dadd (FP.dadd (FP.dadd (0 : UInt64) (FP.dmul x0 y0)) (FP.dmul x1 y1)) (FP.dmul x2 y2))), .second, .val (.int (3 : Int32))]) rfl (pc' := 27) rfl ?_
  refine g_goto A0 d1_27 (pc' := 5) rfl ?_
  refine g_iload A0 d1_5 rfl (pc' := 7) rfl ?_
  refine g_aloadN A0 d1_7 rfl rfl (pc' := 8) rfl ?_
  refine g_alen A0 hZ e0 V11 d1_8 (z := (3 : Int32)) rfl (pc' := 9) rfl ?_
  refine g_icY A0 d1_9 (c2_ge_t (by decide)) (pc' := 30) rfl ?_
  refine g_dloadN A0 d1_30 rfl (pc' := 31) rfl ?_
  exact g_ret (Q := QD3 Z a1 a2 f g x0 y0 x1 y1 x2 y2 h0 n0) A0 d1_31 Bd.notSynchronized Bd.returns rfl (Or.inr (Or.inr (Or.inl ⟨rfl, rfl, _, rfl⟩))) (by decide) (by decide) (by rw [e0]; exact ⟨rfl, N0, rfl⟩)
theorem ef13 (m : MethodId) (a1 : Addr) (a2 : Addr) (f : Nat → Value) (g : Nat → Value) (x0 : UInt64) (y0 : UInt64) (x1 : UInt64) (y1 : UInt64) (x2 : UInt64) (y2 : UInt64) (x3 : UInt64) (y3 : UInt64) : entryFrame m #[(.ref a1), (.ref a2)] 5 = mkF m 0 #[.val (.ref a1), .val (.ref a2), .unset, .unset, .unset] [] := by first | (simp [entryFrame, mkF, argsToLocals, Value.category]; done) | rfl
def QD4 (Z : State) (a1 : Addr) (a2 : Addr) (f : Nat → Value) (g : Nat → Value) (x0 : UInt64) (y0 : UInt64) (x1 : UInt64) (y1 : UInt64) (x2 : UInt64) (y2 : UInt64) (x3 : UInt64) (y3 : UInt64) (h0 : Heap) (n0 : Nat) (v : Option Value) (h : Heap) (L : List Loc) : Prop := v = some (.double (FP.dadd (FP.dadd (FP.dadd (FP.dadd (0 : UInt64) (FP.dmul x0 y0)) (FP.dmul x1 y1)) (FP.dmul x2 y2)) (FP.dmul x3 y3))) ∧ Fr n0 L ∧ h = h0
set_option maxRecDepth 65536 in
set_option maxHeartbeats 40000000 in
theorem rmD4 (l : Launch) (Z : State) (a0 : Array Value) (hw : ∀ d ∈ tables_1, d.before a0 Z = true) (ws : List Jvm.Cond) (a1 : Addr) (a2 : Addr) (f : Nat → Value) (g : Nat → Value) (x0 : UInt64) (y0 : UInt64) (x1 : UInt64) (y1 : UInt64) (x2 : UInt64) (y2 : UInt64) (x3 : UInt64) (y3 : UInt64) (h0 : Heap) (n0 : Nat) (Z0 : n0 ≤ h0.size) (V14 : Dar Z h0 a1 .double 4 f) (V15 : Dar Z h0 a2 .double 4 g) (hf0 : f 0 = .double x0) (hg0 : g 0 = .double y0) (hx0 : Fin64 x0) (hy0 : Fin64 y0) (hN0 : NoNaN64 (FP.dadd (0 : UInt64) (FP.dmul x0 y0))) (hf1 : f 1 = .double x1) (hg1 : g 1 = .double y1) (hx1 : Fin64 x1) (hy1 : Fin64 y1) (hN1 : NoNaN64 (FP.dadd (FP.dadd (0 : UInt64) (FP.dmul x0 y0)) (FP.dmul x1 y1))) (hf2 : f 2 = .double x2) (hg2 : g 2 = .double y2) (hx2 : Fin64 x2) (hy2 : Fin64 y2) (hN2 : NoNaN64 (FP.dadd (FP.dadd (FP.dadd (0 : UInt64) (FP.dmul x0 y0)) (FP.dmul x1 y1)) (FP.dmul x2 y2))) (hf3 : f 3 = .double x3) (hg3 : g 3 = .double y3) (hx3 : Fin64 x3) (hy3 : Fin64 y3) (hN3 : NoNaN64 (FP.dadd (FP.dadd (FP.dadd (FP.dadd (0 : UInt64) (FP.dmul x0 y0)) (FP.dmul x1 y1)) (FP.dmul x2 y2)) (FP.dmul x3 y3))) :
    MetFree l (⟨"com/example/pursuant/pursuant/selection/OrthogonalBasis", "dot", "([D[D)D"⟩ : MethodName) (head1 (Jvm.Cond.code (⟨"com/example/pursuant/pursuant/selection/OrthogonalBasis", "dot", "([D[D)D"⟩ : MethodName) prog_21_method_9_code 5 (some .double) :: ws) ({ frames := 0, cells := 0, slots := 0, locals := 0 } : Room)) (fun a U => a = #[(.ref a1), (.ref a2)] ∧ Z.Warmed39 U.vm ∧ U.heap = h0) (fun _ _ _ _ _ => True) (fun _ U o U' => ∃ v L, o = .returned v ∧ QD4 Z a1 a2 f g x0 y0 x1 y1 x2 y2 x3 y3 h0 n0 v U'.heap L ∧ FrameEnd U o U' L 0 0) := by
  refine MetFree.of_bodySF (plainFor_of_name pn_0) hisR ?_
  intro p e s m args below meth c s₁ Bd hml0 hP hK
  obtain ⟨rfl, hZ, hh⟩ := hP
  have hx := Bd.exec
  have hby := Bd.bytes
  have hml : c.maxLocals = 5 := hml0
  have hown : s.vm.findClass "com/example/pursuant/pursuant/selection/OrthogonalBasis" = some m.cls := findClass_of_methodNamed Bd.named
  have hnm := (name_of_methodNamed Bd.named Bd.method).1
  have X0 : Stand p l e ({ frames := 0, cells := 0, slots := 0, locals := 0 } : Room) s m #[(.ref a1), (.ref a2)] below meth c s₁ [] 0 0 := Stand.of_body Bd
  have e0 : s₁.heap = h0 := by rw [← hh, Bd.state]; rfl
  have N0 := Fr.nil n0
  have A0 := (⟨X0, hx, hby⟩ : Ax _ _ _ _ _ _ _ _ _ _ _ _ _ _ _)
  show Go p e below (fun U o => ∃ v L, o = .returned v ∧ QD4 Z a1 a2 f g x0 y0 x1 y1 x2 y2 x3 y3 h0 n0 v U.heap L ∧ FrameEnd s o U L 0 0) s₁ (entryFrame m #[(.ref a1), (.ref a2)] 5)
  refine Go.cast (ef13 m a1 a2 f g x0 y0 x1 y1 x2 y2 x3 y3) ?_
  refine g_dconst0 A0 d1_0 (pc' := 1) rfl ?_
  refine g_dstoreN A0 d1_1 (ls' := #[.val (.ref a1), .val (.ref a2), .val (.double (0 : UInt64)), .second, .unset]) rfl (pc' := 2) rfl ?_
  refine g_iconst A0 d1_2 (v := (0 : Int32)) rfl (pc' := 3) rfl ?_
  refine g_istore A0 d1_3 (ls' := #[.val (.ref a1), .val (.ref a2), .val (.double (0 : UInt64)), .second, .val (.int (0 : Int32))]) rfl (pc' := 5) rfl ?_
  refine g_iload A0 d1_5 rfl (pc' := 7) rfl ?_
  refine g_aloadN A0 d1_7 rfl rfl (pc' := 8) rfl ?_
  refine g_alen A0 hZ e0 V14 d1_8 (z := (4 : Int32)) rfl (pc' := 9) rfl ?_
  refine g_icN A0 d1_9 (c2_ge_f (by decide)) (pc' := 12) rfl ?_
  refine g_dloadN A0 d1_12 rfl (pc' := 13) rfl ?_
  refine g_aloadN A0 d1_13 rfl rfl (pc' := 14) rfl ?_
  refine g_iload A0 d1_14 rfl (pc' := 16) rfl ?_
  refine g_daload A0 hZ e0 V14 (i := 0) (by decide) rfl (x := x0) hf0 d1_16 (pc' := 17) rfl ?_
  refine g_aloadN A0 d1_17 rfl rfl (pc' := 18) rfl ?_
  refine g_iload A0 d1_18 rfl (pc' := 20) rfl ?_
  refine g_daload A0 hZ e0 V15 (i := 0) (by decide) rfl (x := y0) hg0 d1_20 (pc' := 21) rfl ?_
  refine g_dmul A0 d1_21 (own_ndmul hx0 hy0) (pc' := 22) rfl ?_
  refine g_dadd A0 d1_22 hN0 (pc' := 23) rfl ?_
  refine g_dstoreN A0 d1_23 (ls' := #[.val (.ref a1), .val (.ref a2), .val (.double (FP.dadd (0 : UInt64) (FP.dmul x0 y0))), .second, .val (.int (0 : Int32))]) rfl (pc' := 24) rfl ?_
  refine g_iinc A0 d1_24 rfl (y := (1 : Int32)) (by decide) (ls' := #[.val (.ref a1), .val (.ref a2), .val (.double (FP.dadd (0 : UInt64) (FP.dmul x0 y0))), .second, .val (.int (1 : Int32))]) rfl (pc' := 27) rfl ?_
  refine g_goto A0 d1_27 (pc' := 5) rfl ?_
  refine g_iload A0 d1_5 rfl (pc' := 7) rfl ?_
  refine g_aloadN A0 d1_7 rfl rfl (pc' := 8) rfl ?_
  refine g_alen A0 hZ e0 V14 d1_8 (z := (4 : Int32)) rfl (pc' := 9) rfl ?_
  refine g_icN A0 d1_9 (c2_ge_f (by decide)) (pc' := 12) rfl ?_
  refine g_dloadN A0 d1_12 rfl (pc' := 13) rfl ?_
  refine g_aloadN A0 d1_13 rfl rfl (pc' := 14) rfl ?_
  refine g_iload A0 d1_14 rfl (pc' := 16) rfl ?_
  refine g_daload A0 hZ e0 V14 (i := 1) (by decide) rfl (x := x1) hf1 d1_16 (pc' := 17) rfl ?_
  refine g_aloadN A0 d1_17 rfl rfl (pc' := 18) rfl ?_
  refine g_iload A0 d1_18 rfl (pc' := 20) rfl ?_
  refine g_daload A0 hZ e0 V15 (i := 1) (by decide) rfl (x := y1) hg1 d1_20 (pc' := 21) rfl ?_
  refine g_dmul A0 d1_21 (own_ndmul hx1 hy1) (pc' := 22) rfl ?_
  refine g_dadd A0 d1_22 hN1 (pc' := 23) rfl ?_
  refine g_dstoreN A0 d1_23 (ls' := #[.val (.ref a1), .val (.ref a2), .val (.double (FP.dadd (FP.dadd (0 : UInt64) (FP.dmul x0 y0)) (FP.dmul x1 y1))), .second, .val (.int (1 : Int32))]) rfl (pc' := 24) rfl ?_
  refine g_iinc A0 d1_24 rfl (y := (2 : Int32)) (by decide) (ls' := #[.val (.ref a1), .val (.ref a2), .val (.double (FP.dadd (FP.dadd (0 : UInt64) (FP.dmul x0 y0)) (FP.dmul x1 y1))), .second, .val (.int (2 : Int32))]) rfl (pc' := 27) rfl ?_
  refine g_goto A0 d1_27 (pc' := 5) rfl ?_
  refine g_iload A0 d1_5 rfl (pc' := 7) rfl ?_
  refine g_aloadN A0 d1_7 rfl rfl (pc' := 8) rfl ?_
  refine g_alen A0 hZ e0 V14 d1_8 (z := (4 : Int32)) rfl (pc' := 9) rfl ?_
  refine g_icN A0 d1_9 (c2_ge_f (by decide)) (pc' := 12) rfl ?_
  refine g_dloadN A0 d1_12 rfl (pc' := 13) rfl ?_
  refine g_aloadN A0 d1_13 rfl rfl (pc' := 14) rfl ?_
  refine g_iload A0 d1_14 rfl (pc' := 16) rfl ?_
  refine g_daload A0 hZ e0 V14 (i := 2) (by decide) rfl (x := x2) hf2 d1_16 (pc' := 17) rfl ?_
  refine g_aloadN A0 d1_17 rfl rfl (pc' := 18) rfl ?_
  refine g_iload A0 d1_18 rfl (pc' := 20) rfl ?_
  refine g_daload A0 hZ e0 V15 (i := 2) (by decide) rfl (x := y2) hg2 d1_20 (pc' := 21) rfl ?_
  refine g_dmul A0 d1_21 (own_ndmul hx2 hy2) (pc' := 22) rfl ?_
  refine g_dadd A0 d1_22 hN2 (pc' := 23) rfl ?_
  refine g_dstoreN A0 d1_23 (ls' := #[.val (.ref a1), .val (.ref a2), .val (.double (FP.dadd (FP.dadd (FP.dadd (0 : UInt64) (FP.dmul x0 y0)) (FP.dmul x1 y1)) (FP.dmul x2 y2))), .second, .val (.int (2 : Int32))]) rfl (pc' := 24) rfl ?_
  refine g_iinc A0 d1_24 rfl (y := (3 : Int32)) (by decide) (ls' := #[.val (.ref a1), .val (.ref a2), .val (.double (FP.dadd (FP.dadd (FP.dadd (0 : UInt64) (FP.dmul x0 y0)) (FP.dmul x1 y1)) (FP.dmul x2 y2))), .second, .val (.int (3 : Int32))]) rfl (pc' := 27) rfl ?_
  refine g_goto A0 d1_27 (pc' := 5) rfl ?_
  refine g_iload A0 d1_5 rfl (pc' := 7) rfl ?_
  refine g_aloadN A0 d1_7 rfl rfl (pc' := 8) rfl ?_
  refine g_alen A0 hZ e0 V14 d1_8 (z := (4 : Int32)) rfl (pc' := 9) rfl ?_
  refine g_icN A0 d1_9 (c2_ge_f (by decide)) (pc' := 12) rfl ?_
  refine g_dloadN A0 d1_12 rfl (pc' := 13) rfl ?_
  refine g_aloadN A0 d1_13 rfl rfl (pc' := 14) rfl ?_
  refine g_iload A0 d1_14 rfl (pc' := 16) rfl ?_
  refine g_daload A0 hZ e0 V14 (i := 3) (by decide) rfl (x := x3) hf3 d1_16 (pc' := 17) rfl ?_
  refine g_aloadN A0 d1_17 rfl rfl (pc' := 18) rfl ?_
  refine g_iload A0 d1_18 rfl (pc' := 20) rfl ?_
  refine g_daload A0 hZ e0 V15 (i := 3) (by decide) rfl (x := y3) hg3 d1_20 (pc' := 21) rfl ?_
  refine g_dmul A0 d1_21 (own_ndmul hx3 hy3) (pc' := 22) rfl ?_
  refine g_dadd A0 d1_22 hN3 (pc' := 23) rfl ?_
  refine g_dstoreN A0 d1_23 (ls' := #[.val (.ref a1), .val (.ref a2), .val (.double (FP.dadd (FP.dadd (FP.dadd (FP.dadd (0 : UInt64) (FP.dmul x0 y0)) (FP.dmul x1 y1)) (FP.dmul x2 y2)) (FP.dmul x3 y3))), .second, .val (.int (3 : Int32))]) rfl (pc' := 24) rfl ?_
  refine g_iinc A0 d1_24 rfl (y := (4 : Int32)) (by decide) (ls' := #[.val (.ref a1), .val (.ref a2), .val (.double (FP.dadd (FP.dadd (FP.dadd (FP.dadd (0 : UInt64) (FP.dmul x0 y0)) (FP.dmul x1 y1)) (FP.dmul x2 y2)) (FP.dmul x3 y3))), .second, .val (.int (4 : Int32))]) rfl (pc' := 27) rfl ?_
  refine g_goto A0 d1_27 (pc' := 5) rfl ?_
  refine g_iload A0 d1_5 rfl (pc' := 7) rfl ?_
  refine g_aloadN A0 d1_7 rfl rfl (pc' := 8) rfl ?_
  refine g_alen A0 hZ e0 V14 d1_8 (z := (4 : Int32)) rfl (pc' := 9) rfl ?_
  refine g_icY A0 d1_9 (c2_ge_t (by decide)) (pc' := 30) rfl ?_
  refine g_dloadN A0 d1_30 rfl (pc' := 31) rfl ?_
  exact g_ret (Q := QD4 Z a1 a2 f g x0 y0 x1 y1 x2 y2 x3 y3 h0 n0) A0 d1_31 Bd.notSynchronized Bd.returns rfl (Or.inr (Or.inr (Or.inl ⟨rfl, rfl, _, rfl⟩))) (by decide) (by decide) (by rw [e0]; exact ⟨rfl, N0, rfl⟩)
def own_Acc (n : Nat) (a : UInt64) (r : Int64) (s : Int) : Prop := FP.Core.DInt s a ∧ r.toInt = s ∧ s.natAbs ≤ n * 1073741824
theorem own_acc0 : own_Acc 0 (0 : UInt64) (0 : Int64) 0 := by
  refine ⟨?_, rfl, by decide⟩
  have q := FP.Core.i2d_int 0
  have e : FP.Core.i2d 0 = (0 : UInt64) := by decide +kernel
  rw [e] at q; exact q
theorem own_acc1 {n : Nat} {a : UInt64} {r : Int64} {s : Int} {x y : Int32} (hn : n ≤ 3) (h : own_Acc n a r s) (hx : x.toInt.natAbs ≤ 32768) (hy : y.toInt.natAbs ≤ 32768) : own_Acc (n + 1) (FP.dadd a (FP.dmul (FP.i2d x) (FP.i2d y))) (r + (x.toInt64 * y.toInt64)) (s + x.toInt * y.toInt) := by
  obtain ⟨h1, h2, h3⟩ := h
  have b : (x.toInt * y.toInt).natAbs ≤ 32768 * 32768 := by rw [Int.natAbs_mul]; exact Nat.mul_le_mul hx hy
  have ex : x.toInt64.toInt = x.toInt := c_i2l x
  have ey : y.toInt64.toInt = y.toInt := c_i2l y
  have e1 : (x.toInt64 * y.toInt64).toInt = x.toInt * y.toInt := by rw [← ex, ← ey]; exact FP.Core.int64_mul (by rw [ex, ey]; omega) (by rw [ex, ey]; omega)
  have e2 : (r + x.toInt64 * y.toInt64).toInt = s + x.toInt * y.toInt := by rw [← h2, ← e1]; exact FP.Core.int64_add (by rw [h2, e1]; omega) (by rw [h2, e1]; omega)
  refine ⟨FP.Core.dadd_int h1 (FP.Core.dmul_int (FP.Core.i2d_int x) (FP.Core.i2d_int y) (by omega)) (by omega), e2, by omega⟩
theorem own_end {n : Nat} {a : UInt64} {r : Int64} {s : Int} (hn : n ≤ 4) (h : own_Acc n a r s) : FP.dcmp a (FP.l2d r) = some .eq := by
  obtain ⟨h1, h2, h3⟩ := h
  have q : FP.Core.DInt s (FP.l2d r) := by rw [← h2]; exact FP.Core.l2d_int (by omega)
  exact (FP.Core.dcmp_int h1 q).trans (congrArg some ((FP.Core.compare_eq_iff _ _).mpr rfl))
theorem own_s16 (x : Int32) : (x.toInt16.toInt32).toInt.natAbs ≤ 32768 := by have := c_i2s x; omega
theorem own_h16 (x : Int32) : (x >>> ((16 : Int32) &&& 31)).toInt.natAbs ≤ 32768 := by
  have h := c_ishr x 16 16 (by decide)
  have r := rng32 x
  rw [h]; omega
theorem own_k5 (p : Int32) : ((p &&& (2147483647 : Int32)) % (5 : Int32)) = 0 ∨ ((p &&& (2147483647 : Int32)) % (5 : Int32)) = 1 ∨ ((p &&& (2147483647 : Int32)) % (5 : Int32)) = 2 ∨ ((p &&& (2147483647 : Int32)) % (5 : Int32)) = 3 ∨ ((p &&& (2147483647 : Int32)) % (5 : Int32)) = 4 := by
  have h := c_mask p 2147483647 31 (by decide) (by decide)
  have e : ((5 : Int32)).toInt = 5 := rfl
  have h2 := (c_irem (p &&& 2147483647) 5 5 e).1 (by rw [h]; omega)
  simp only [← Int32.toInt_inj, h2]
  have e0 : (0 : Int32).toInt = 0 := rfl
  have e1 : (1 : Int32).toInt = 1 := rfl
  have e2 : (2 : Int32).toInt = 2 := rfl
  have e3 : (3 : Int32).toInt = 3 := rfl
  have e4 : (4 : Int32).toInt = 4 := rfl
  rw [e0, e1, e2, e3, e4]; omega
theorem pn_1 : plainName "com/example/pursuant/pursuant/selection/OrthogonalBasisDotPinLaw" = true := by first | (simp [plainName, overriddenIn]; done) | decide +kernel
theorem ef16 (m : MethodId) (p0 : Int32) (p1 : Int32) (p2 : Int32) (p3 : Int32) (p4 : Int32) : entryFrame m #[(.int p0), (.int p1), (.int p2), (.int p3), (.int p4)] maxLocals = mkF m 0 #[.val (.int p0), .val (.int p1), .val (.int p2), .val (.int p3), .val (.int p4), .unset, .unset, .unset, .unset, .unset, .unset, .unset, .unset, .unset, .unset, .unset, .unset, .unset, .unset, .unset] [] := by first | (simp [entryFrame, mkF, argsToLocals, Value.category, maxLocals]; done) | rfl
def Q0 (Z : State) (p0 : Int32) (p1 : Int32) (p2 : Int32) (p3 : Int32) (p4 : Int32) (h0 : Heap) (n0 : Nat) (v : Option Value) (h : Heap) (L : List Loc) : Prop := v = some (.int 1) ∧ Fr n0 L
theorem pd_0 : parseMethodDescriptor "([D[D)D" = some ⟨[(.array .double), (.array .double)], some .double⟩ := by decide +kernel
set_option maxRecDepth 65536 in
set_option maxHeartbeats 40000000 in
theorem rm0 (l : Launch) (Z : State) (a0 : Array Value) (hw : ∀ d ∈ tables_1, d.before a0 Z = true) (ws : List Jvm.Cond) (p0 : Int32) (p1 : Int32) (p2 : Int32) (p3 : Int32) (p4 : Int32) (h0 : Heap) (n0 : Nat) (Z0 : n0 ≤ h0.size)  :
    MetFree l x (head1 (Jvm.Cond.code x code maxLocals ret :: ws) room_1) (fun a U => a = #[(.int p0), (.int p1), (.int p2), (.int p3), (.int p4)] ∧ Z.Warmed39 U.vm ∧ U.heap = h0) (fun _ _ _ _ _ => True) (fun _ U o U' => ∃ v L, o = .returned v ∧ Q0 Z p0 p1 p2 p3 p4 h0 n0 v U'.heap L ∧ FrameEnd U o U' L 2 8) := by
  refine MetFree.of_bodySF (plainFor_of_name pn_1) hisR ?_
  intro p e s m args below meth c s₁ Bd hml0 hP hK
  obtain ⟨rfl, hZ, hh⟩ := hP
  have hx := Bd.exec
  have hby := Bd.bytes
  have hml : c.maxLocals = 20 := hml0
  have hown : s.vm.findClass "com/example/pursuant/pursuant/selection/OrthogonalBasisDotPinLaw" = some m.cls := findClass_of_methodNamed Bd.named
  have hnm := (name_of_methodNamed Bd.named Bd.method).1
  have X0 : Stand p l e room_1 s m #[(.int p0), (.int p1), (.int p2), (.int p3), (.int p4)] below meth c s₁ [] 0 0 := Stand.of_body Bd
  have e0 : s₁.heap = h0 := by rw [← hh, Bd.state]; rfl
  have N0 := Fr.nil n0
  have A0 := (⟨X0, hx, hby⟩ : Ax _ _ _ _ _ _ _ _ _ _ _ _ _ _ _)
  show Go p e below (fun U o => ∃ v L, o = .returned v ∧ Q0 Z p0 p1 p2 p3 p4 h0 n0 v U.heap L ∧ FrameEnd s o U L 2 8) s₁ (entryFrame m #[(.int p0), (.int p1), (.int p2), (.int p3), (.int p4)] maxLocals)
  refine Go.cast (ef16 m p0 p1 p2 p3 p4) ?_
  refine g_iload A0 at_0 rfl (pc' := 2) rfl ?_
  refine g_ldcI A0 hZ hown (hw _ (List.mem_of_getElem? (i := 0) rfl)) at_2 (pc' := 4) rfl ?_
  refine g_iand A0 at_4 (pc' := 5) rfl ?_
  refine g_iconst A0 at_5 (v := (5 : Int32)) rfl (pc' := 6) rfl ?_
  refine g_irem A0 at_6 (by decide) (pc' := 7) rfl ?_
  obtain ⟨k17, hk17⟩ : ∃ z : Int32, z = ((p4 &&& (2147483647 : Int32)) % (5 : Int32)) := ⟨_, rfl⟩
  rw [← hk17]
  refine g_istore A0 at_7 (ls' := #[.val (.int p0), .val (.int p1), .val (.int p2), .val (.int p3), .val (.int p4), .val (.int k17), .unset, .unset, .unset, .unset, .unset, .unset, .unset, .unset, .unset, .unset, .unset, .unset, .unset, .unset]) rfl (pc' := 9) rfl ?_
  refine g_iloadN A0 at_9 rfl (pc' := 10) rfl ?_
  refine g_i2s A0 at_10 (pc' := 11) rfl ?_
  obtain ⟨y18, hy18⟩ : ∃ z : Int32, z = (p0.toInt16.toInt32) := ⟨_, rfl⟩
  rw [← hy18]
  have hb19 : y18.toInt.natAbs ≤ 32768 := by rw [hy18]; exact own_s16 _
  refine g_istore A0 at_11 (ls' := #[.val (.int p0), .val (.int p1), .val (.int p2), .val (.int p3), .val (.int p4), .val (.int k17), .val (.int y18), .unset, .unset, .unset, .unset, .unset, .unset, .unset, .unset, .unset, .unset, .unset, .unset, .unset]) rfl (pc' := 13) rfl ?_
  refine g_iloadN A0 at_13 rfl (pc' := 14) rfl ?_
  refine g_bipush A0 at_14 (v := (16 : Int32)) rfl (pc' := 16) rfl ?_
  refine g_ishr A0 at_16 (pc' := 17) rfl ?_
  obtain ⟨y20, hy20⟩ : ∃ z : Int32, z = (p0 >>> ((16 : Int32) &&& 31)) := ⟨_, rfl⟩
  rw [← hy20]
  have hb21 : y20.toInt.natAbs ≤ 32768 := by rw [hy20]; exact own_h16 _
  refine g_istore A0 at_17 (ls' := #[.val (.int p0), .val (.int p1), .val (.int p2), .val (.int p3), .val (.int p4), .val (.int k17), .val (.int y18), .val (.int y20), .unset, .unset, .unset, .unset, .unset, .unset, .unset, .unset, .unset, .unset, .unset, .unset]) rfl (pc' := 19) rfl ?_
  refine g_iloadN A0 at_19 rfl (pc' := 20) rfl ?_
  refine g_i2s A0 at_20 (pc' := 21) rfl ?_
  obtain ⟨y22, hy22⟩ : ∃ z : Int32, z = (p1.toInt16.toInt32) := ⟨_, rfl⟩
  rw [← hy22]
  have hb23 : y22.toInt.natAbs ≤ 32768 := by rw [hy22]; exact own_s16 _
  refine g_istore A0 at_21 (ls' := #[.val (.int p0), .val (.int p1), .val (.int p2), .val (.int p3), .val (.int p4), .val (.int k17), .val (.int y18), .val (.int y20), .val (.int y22), .unset, .unset, .unset, .unset, .unset, .unset, .unset, .unset, .unset, .unset, .unset]) rfl (pc' := 23) rfl ?_
  refine g_iloadN A0 at_23 rfl (pc' := 24) rfl ?_
  refine g_bipush A0 at_24 (v := (16 : Int32)) rfl (pc' := 26) rfl ?_
  refine g_ishr A0 at_26 (pc' := 27) rfl ?_
  obtain ⟨y24, hy24⟩ : ∃ z : Int32, z = (p1 >>> ((16 : Int32) &&& 31)) := ⟨_, rfl⟩
  rw [← hy24]
  have hb25 : y24.toInt.natAbs ≤ 32768 := by rw [hy24]; exact own_h16 _
  refine g_istore A0 at_27 (ls' := #[.val (.int p0), .val (.int p1), .val (.int p2), .val (.int p3), .val (.int p4), .val (.int k17), .val (.int y18), .val (.int y20), .val (.int y22), .val (.int y24), .unset, .unset, .unset, .unset, .unset, .unset, .unset, .unset, .unset, .unset]) rfl (pc' := 29) rfl ?_
  refine g_iloadN A0 at_29 rfl (pc' := 30) rfl ?_
  refine g_i2s A0 at_30 (pc' := 31) rfl ?_
  obtain ⟨y26, hy26⟩ : ∃ z : Int32, z = (p2.toInt16.toInt32) := ⟨_, rfl⟩
  rw [← hy26]
  have hb27 : y26.toInt.natAbs ≤ 32768 := by rw [hy26]; exact own_s16 _
  refine g_istore A0 at_31 (ls' := #[.val (.int p0), .val (.int p1), .val (.int p2), .val (.int p3), .val (.int p4), .val (.int k17), .val (.int y18), .val (.int y20), .val (.int y22), .val (.int y24), .val (.int y26), .unset, .unset, .unset, .unset, .unset, .unset, .unset, .unset, .unset]) rfl (pc' := 33) rfl ?_
  refine g_iloadN A0 at_33 rfl (pc' := 34) rfl ?_
  refine g_bipush A0 at_34 (v := (16 : Int32)) rfl (pc' := 36) rfl ?_
  refine g_ishr A0 at_36 (pc' := 37) rfl ?_
  obtain ⟨y28, hy28⟩ : ∃ z : Int32, z = (p2 >>> ((16 : Int32) &&& 31)) := ⟨_, rfl⟩
  rw [← hy28]
  have hb29 : y28.toInt.natAbs ≤ 32768 := by rw [hy28]; exact own_h16 _
  refine g_istore A0 at_37 (ls' := #[.val (.int p0), .val (.int p1), .val (.int p2), .val (.int p3), .val (.int p4), .val (.int k17), .val (.int y18), .val (.int y20), .val (.int y22), .val (.int y24), .val (.int y26), .val (.int y28), .unset, .unset, .unset, .unset, .unset, .unset, .unset, .unset]) rfl (pc' := 39) rfl ?_
  refine g_iloadN A0 at_39 rfl (pc' := 40) rfl ?_
  refine g_i2s A0 at_40 (pc' := 41) rfl ?_
  obtain ⟨y30, hy30⟩ : ∃ z : Int32, z = (p3.toInt16.toInt32) := ⟨_, rfl⟩
  rw [← hy30]
  have hb31 : y30.toInt.natAbs ≤ 32768 := by rw [hy30]; exact own_s16 _
  refine g_istore A0 at_41 (ls' := #[.val (.int p0), .val (.int p1), .val (.int p2), .val (.int p3), .val (.int p4), .val (.int k17), .val (.int y18), .val (.int y20), .val (.int y22), .val (.int y24), .val (.int y26), .val (.int y28), .val (.int y30), .unset, .unset, .unset, .unset, .unset, .unset, .unset]) rfl (pc' := 43) rfl ?_
  refine g_iloadN A0 at_43 rfl (pc' := 44) rfl ?_
  refine g_bipush A0 at_44 (v := (16 : Int32)) rfl (pc' := 46) rfl ?_
  refine g_ishr A0 at_46 (pc' := 47) rfl ?_
  obtain ⟨y32, hy32⟩ : ∃ z : Int32, z = (p3 >>> ((16 : Int32) &&& 31)) := ⟨_, rfl⟩
  rw [← hy32]
  have hb33 : y32.toInt.natAbs ≤ 32768 := by rw [hy32]; exact own_h16 _
  refine g_istore A0 at_47 (ls' := #[.val (.int p0), .val (.int p1), .val (.int p2), .val (.int p3), .val (.int p4), .val (.int k17), .val (.int y18), .val (.int y20), .val (.int y22), .val (.int y24), .val (.int y26), .val (.int y28), .val (.int y30), .val (.int y32), .unset, .unset, .unset, .unset, .unset, .unset]) rfl (pc' := 49) rfl ?_
  have k5 := own_k5 p4
  rw [← hk17] at k5
  rcases k5 with hg34 | hg34 | hg34 | hg34 | hg34
  · skip
    rw [hg34]
    refine g_iload A0 at_49 rfl (pc' := 51) rfl ?_
    obtain ⟨T35, h35, k35, X35, e35, E35, Ar35, st35⟩ := newP X0 hx hZ (hw _ (List.mem_of_getElem? (i := 1) rfl)) e0 (g := (mkF m 51 #[.val (.int p0), .val (.int p1), .val (.int p2), .val (.int p3), .val (.int p4), .val (.int (0 : Int32)), .val (.int y18), .val (.int y20), .val (.int y22), .val (.int y24), .val (.int y26), .val (.int y28), .val (.int y30), .val (.int y32), .unset, .unset, .unset, .unset, .unset, .unset] [(.int (0 : Int32))])) rfl (hb hby at_51) rfl (by decide) (cap := 0) (by decide) (by decide) (by decide) (by decide)
    obtain ⟨b36, eb36⟩ : ∃ z, z = h0.size := ⟨_, rfl⟩
    rw [← eb36] at Ar35 st35
    have g37 : n0 ≤ b36 := by rw [eb36]; exact Z0
    have gh38 : h0.size ≤ b36 := by rw [eb36]; exact (Keep.refl h0 []).1
    have K39 : Keep h0 h35 [] := (Keep.refl h0 []).ext E35
    have Z40 : n0 ≤ h35.size := Nat.le_trans Z0 E35.1
    have V41 : Dar Z h35 b36 .double 0 (fun _ => .double (0 : UInt64)) := Dar.new Ar35 (by decide)
    refine Go.of (g' := (mkF m 53 #[.val (.int p0), .val (.int p1), .val (.int p2), .val (.int p3), .val (.int p4), .val (.int (0 : Int32)), .val (.int y18), .val (.int y20), .val (.int y22), .val (.int y24), .val (.int y26), .val (.int y28), .val (.int y30), .val (.int y32), .unset, .unset, .unset, .unset, .unset, .unset] [(.ref b36)])) st35 ?_
    have A42 := (⟨X35, hx, hby⟩ : Ax _ _ _ _ _ _ _ _ _ _ _ _ _ _ _)
    refine g_astore A42 at_53 rfl (ls' := #[.val (.int p0), .val (.int p1), .val (.int p2), .val (.int p3), .val (.int p4), .val (.int (0 : Int32)), .val (.int y18), .val (.int y20), .val (.int y22), .val (.int y24), .val (.int y26), .val (.int y28), .val (.int y30), .val (.int y32), .val (.ref b36), .unset, .unset, .unset, .unset, .unset]) rfl (pc' := 55) rfl ?_
    refine g_iload A42 at_55 rfl (pc' := 57) rfl ?_
    obtain ⟨T43, h43, k43, X43, e43, E43, Ar43, st43⟩ := newP X35 hx hZ (hw _ (List.mem_of_getElem? (i := 1) rfl)) e35 (g := (mkF m 57 #[.val (.int p0), .val (.int p1), .val (.int p2), .val (.int p3), .val (.int p4), .val (.int (0 : Int32)), .val (.int y18), .val (.int y20), .val (.int y22), .val (.int y24), .val (.int y26), .val (.int y28), .val (.int y30), .val (.int y32), .val (.ref b36), .unset, .unset, .unset, .unset, .unset] [(.int (0 : Int32))])) rfl (hb hby at_57) rfl (by decide) (cap := 0) (by decide) (by decide) (by decide) (by decide)
    obtain ⟨b44, eb44⟩ : ∃ z, z = h35.size := ⟨_, rfl⟩
    rw [← eb44] at Ar43 st43
    have ne45 : b36 ≠ b44 := own_ne eb44 V41.lt
    have g46 : n0 ≤ b44 := by rw [eb44]; exact Z40
    have gh47 : h0.size ≤ b44 := by rw [eb44]; exact K39.1
    have K48 : Keep h0 h43 [] := K39.ext E43
    have V49 : Dar Z h43 b36 .double 0 (fun _ => .double (0 : UInt64)) := Dar.ext E43 V41
    have Z50 : n0 ≤ h43.size := Nat.le_trans Z40 E43.1
    have V51 : Dar Z h43 b44 .double 0 (fun _ => .double (0 : UInt64)) := Dar.new Ar43 (by decide)
    refine Go.of (g' := (mkF m 59 #[.val (.int p0), .val (.int p1), .val (.int p2), .val (.int p3), .val (.int p4), .val (.int (0 : Int32)), .val (.int y18), .val (.int y20), .val (.int y22), .val (.int y24), .val (.int y26), .val (.int y28), .val (.int y30), .val (.int y32), .val (.ref b36), .unset, .unset, .unset, .unset, .unset] [(.ref b44)])) st43 ?_
    have A52 := (⟨X43, hx, hby⟩ : Ax _ _ _ _ _ _ _ _ _ _ _ _ _ _ _)
    refine g_astore A52 at_59 rfl (ls' := #[.val (.int p0), .val (.int p1), .val (.int p2), .val (.int p3), .val (.int p4), .val (.int (0 : Int32)), .val (.int y18), .val (.int y20), .val (.int y22), .val (.int y24), .val (.int y26), .val (.int y28), .val (.int y30), .val (.int y32), .val (.ref b36), .val (.ref b44), .unset, .unset, .unset, .unset]) rfl (pc' := 61) rfl ?_
    refine g_lconst A52 at_61 (v := (0 : Int64)) rfl (pc' := 62) rfl ?_
    refine g_lstore A52 at_62 (ls' := #[.val (.int p0), .val (.int p1), .val (.int p2), .val (.int p3), .val (.int p4), .val (.int (0 : Int32)), .val (.int y18), .val (.int y20), .val (.int y22), .val (.int y24), .val (.int y26), .val (.int y28), .val (.int y30), .val (.int y32), .val (.ref b36), .val (.ref b44), .val (.long (0 : Int64)), .second, .unset, .unset]) rfl (pc' := 64) rfl ?_
    refine g_iload A52 at_64 rfl (pc' := 66) rfl ?_
    refine g_ifY A52 at_66 (c0_le_t (by decide)) (pc' := 95) rfl ?_
    refine g_iload A52 at_95 rfl (pc' := 97) rfl ?_
    refine g_iconst A52 at_97 (v := (1 : Int32)) rfl (pc' := 98) rfl ?_
    refine g_icY A52 at_98 (c2_le_t (by decide)) (pc' := 127) rfl ?_
    refine g_iload A52 at_127 rfl (pc' := 129) rfl ?_
    refine g_iconst A52 at_129 (v := (2 : Int32)) rfl (pc' := 130) rfl ?_
    refine g_icY A52 at_130 (c2_le_t (by decide)) (pc' := 159) rfl ?_
    refine g_iload A52 at_159 rfl (pc' := 161) rfl ?_
    refine g_iconst A52 at_161 (v := (3 : Int32)) rfl (pc' := 162) rfl ?_
    refine g_icY A52 at_162 (c2_le_t (by decide)) (pc' := 191) rfl ?_
    refine g_aload A52 at_191 rfl rfl (pc' := 193) rfl ?_
    refine g_aload A52 at_193 rfl rfl (pc' := 195) rfl ?_
    obtain ⟨_, _, ⟨T53, L53, k53, n53⟩, -, X53, ⟨L53c, hQ53, l53, y53, z53⟩, st53⟩ := Jvm.LawKit.callS X43 hx (y := (⟨"com/example/pursuant/pursuant/selection/OrthogonalBasis", "dot", "([D[D)D"⟩ : MethodName)) hown (mvT hZ (hw _ (List.mem_of_getElem? (i := 2) rfl))) (mvT hZ (hw _ (List.mem_of_getElem? (i := 3) rfl))) (mvT hZ (hw _ (List.mem_of_getElem? (i := 4) rfl))) (mvT hZ (hw _ (List.mem_of_getElem? (i := 5) rfl))) (by decide) (backOf (W := 0) (rmD0 l Z a0 hw [] b36 b44 (fun _ => .double (0 : UInt64)) (fun _ => .double (0 : UInt64)) h43 n0 Z50 V49 V51) hZ (hw _ (List.mem_of_getElem? (i := 5) rfl)) (hw _ (List.mem_of_getElem? (i := 4) rfl)) (by decide) (by decide)) (g := (mkF m 195 #[.val (.int p0), .val (.int p1), .val (.int p2), .val (.int p3), .val (.int p4), .val (.int (0 : Int32)), .val (.int y18), .val (.int y20), .val (.int y22), .val (.int y24), .val (.int y26), .val (.int y28), .val (.int y30), .val (.int y32), .val (.ref b36), .val (.ref b44), .val (.long (0 : Int64)), .second, .unset, .unset] [(.ref b44), (.ref b36)])) rfl (by rw [hml]; rfl) (argsL := [(.ref b36), (.ref b44)]) (rest := []) (lenOf pd_0 rfl) rfl (by show 2 * 0 + _ ≤ _; exact Nat.le_of_eq rfl) (hb hby at_195) (fun _ _ => ⟨rfl, e43, (by decide : 2 + 0 ≤ _), (by decide : 0 + 0 ≤ _)⟩)
    dsimp only [Pt.U, Pt.locs, Pt.cells, Pt.slots] at X53 l53 y53 z53 st53 hQ53
    subst l53 y53 z53
    obtain ⟨rfl, Nq54, Kq55⟩ := hQ53
    have N56 := Fr.app N0 Nq54
    refine Go.of (g' := (mkF m 198 #[.val (.int p0), .val (.int p1), .val (.int p2), .val (.int p3), .val (.int p4), .val (.int (0 : Int32)), .val (.int y18), .val (.int y20), .val (.int y22), .val (.int y24), .val (.int y26), .val (.int y28), .val (.int y30), .val (.int y32), .val (.ref b36), .val (.ref b44), .val (.long (0 : Int64)), .second, .unset, .unset] [(.double (0 : UInt64))])) st53 ?_
    have e57 : T53.heap = h43 := Kq55
    have A58 := (⟨X53, hx, hby⟩ : Ax _ _ _ _ _ _ _ _ _ _ _ _ _ _ _)
    refine g_dstore A58 at_198 (ls' := #[.val (.int p0), .val (.int p1), .val (.int p2), .val (.int p3), .val (.int p4), .val (.int (0 : Int32)), .val (.int y18), .val (.int y20), .val (.int y22), .val (.int y24), .val (.int y26), .val (.int y28), .val (.int y30), .val (.int y32), .val (.ref b36), .val (.ref b44), .val (.long (0 : Int64)), .second, .val (.double (0 : UInt64)), .second]) rfl (pc' := 200) rfl ?_
    refine g_dload A58 at_200 rfl (pc' := 202) rfl ?_
    refine g_lload A58 at_202 rfl (pc' := 204) rfl ?_
    refine g_l2d A58 at_204 (pc' := 205) rfl ?_
    refine g_dcmp A58 at_205 (pc' := 206) rfl ?_
    refine g_ifN A58 at_206 (d_l_ne_f (own_end (by decide) own_acc0)) (pc' := 209) rfl ?_
    refine g_iconst A58 at_209 (v := (1 : Int32)) rfl (pc' := 210) rfl ?_
    refine g_goto A58 at_210 (pc' := 214) rfl ?_
    exact g_ret (Q := Q0 Z p0 p1 p2 p3 p4 h0 n0) A58 at_214 Bd.notSynchronized Bd.returns rfl (Or.inl ⟨rfl, by simp, _, rfl⟩) (by decide) (by decide) (by rw [e57]; exact ⟨rfl, N56⟩)
  · skip
    rw [hg34]
    refine g_iload A0 at_49 rfl (pc' := 51) rfl ?_
    obtain ⟨T59, h59, k59, X59, e59, E59, Ar59, st59⟩ := newP X0 hx hZ (hw _ (List.mem_of_getElem? (i := 1) rfl)) e0 (g := (mkF m 51 #[.val (.int p0), .val (.int p1), .val (.int p2), .val (.int p3), .val (.int p4), .val (.int (1 : Int32)), .val (.int y18), .val (.int y20), .val (.int y22), .val (.int y24), .val (.int y26), .val (.int y28), .val (.int y30), .val (.int y32), .unset, .unset, .unset, .unset, .unset, .unset] [(.int (1 : Int32))])) rfl (hb hby at_51) rfl (by decide) (cap := 1) (by decide) (by decide) (by decide) (by decide)
    obtain ⟨b60, eb60⟩ : ∃ z, z = h0.size := ⟨_, rfl⟩
    rw [← eb60] at Ar59 st59
    have g61 : n0 ≤ b60 := by rw [eb60]; exact Z0
    have gh62 : h0.size ≤ b60 := by rw [eb60]; exact (Keep.refl h0 []).1
    have K63 : Keep h0 h59 [] := (Keep.refl h0 []).ext E59
    have Z64 : n0 ≤ h59.size := Nat.le_trans Z0 E59.1
    have V65 : Dar Z h59 b60 .double 1 (fun _ => .double (0 : UInt64)) := Dar.new Ar59 (by decide)
    refine Go.of (g' := (mkF m 53 #[.val (.int p0), .val (.int p1), .val (.int p2), .val (.int p3), .val (.int p4), .val (.int (1 : Int32)), .val (.int y18), .val (.int y20), .val (.int y22), .val (.int y24), .val (.int y26), .val (.int y28), .val (.int y30), .val (.int y32), .unset, .unset, .unset, .unset, .unset, .unset] [(.ref b60)])) st59 ?_
    have A66 := (⟨X59, hx, hby⟩ : Ax _ _ _ _ _ _ _ _ _ _ _ _ _ _ _)
    refine g_astore A66 at_53 rfl (ls' := #[.val (.int p0), .val (.int p1), .val (.int p2), .val (.int p3), .val (.int p4), .val (.int (1 : Int32)), .val (.int y18), .val (.int y20), .val (.int y22), .val (.int y24), .val (.int y26), .val (.int y28), .val (.int y30), .val (.int y32), .val (.ref b60), .unset, .unset, .unset, .unset, .unset]) rfl (pc' := 55) rfl ?_
    refine g_iload A66 at_55 rfl (pc' := 57) rfl ?_
    obtain ⟨T67, h67, k67, X67, e67, E67, Ar67, st67⟩ := newP X59 hx hZ (hw _ (List.mem_of_getElem? (i := 1) rfl)) e59 (g := (mkF m 57 #[.val (.int p0), .val (.int p1), .val (.int p2), .val (.int p3), .val (.int p4), .val (.int (1 : Int32)), .val (.int y18), .val (.int y20), .val (.int y22), .val (.int y24), .val (.int y26), .val (.int y28), .val (.int y30), .val (.int y32), .val (.ref b60), .unset, .unset, .unset, .unset, .unset] [(.int (1 : Int32))])) rfl (hb hby at_57) rfl (by decide) (cap := 1) (by decide) (by decide) (by decide) (by decide)
    obtain ⟨b68, eb68⟩ : ∃ z, z = h59.size := ⟨_, rfl⟩
    rw [← eb68] at Ar67 st67
    have ne69 : b60 ≠ b68 := own_ne eb68 V65.lt
    have g70 : n0 ≤ b68 := by rw [eb68]; exact Z64
    have gh71 : h0.size ≤ b68 := by rw [eb68]; exact K63.1
    have K72 : Keep h0 h67 [] := K63.ext E67
    have V73 : Dar Z h67 b60 .double 1 (fun _ => .double (0 : UInt64)) := Dar.ext E67 V65
    have Z74 : n0 ≤ h67.size := Nat.le_trans Z64 E67.1
    have V75 : Dar Z h67 b68 .double 1 (fun _ => .double (0 : UInt64)) := Dar.new Ar67 (by decide)
    refine Go.of (g' := (mkF m 59 #[.val (.int p0), .val (.int p1), .val (.int p2), .val (.int p3), .val (.int p4), .val (.int (1 : Int32)), .val (.int y18), .val (.int y20), .val (.int y22), .val (.int y24), .val (.int y26), .val (.int y28), .val (.int y30), .val (.int y32), .val (.ref b60), .unset, .unset, .unset, .unset, .unset] [(.ref b68)])) st67 ?_
    have A76 := (⟨X67, hx, hby⟩ : Ax _ _ _ _ _ _ _ _ _ _ _ _ _ _ _)
    refine g_astore A76 at_59 rfl (ls' := #[.val (.int p0), .val (.int p1), .val (.int p2), .val (.int p3), .val (.int p4), .val (.int (1 : Int32)), .val (.int y18), .val (.int y20), .val (.int y22), .val (.int y24), .val (.int y26), .val (.int y28), .val (.int y30), .val (.int y32), .val (.ref b60), .val (.ref b68), .unset, .unset, .unset, .unset]) rfl (pc' := 61) rfl ?_
    refine g_lconst A76 at_61 (v := (0 : Int64)) rfl (pc' := 62) rfl ?_
    refine g_lstore A76 at_62 (ls' := #[.val (.int p0), .val (.int p1), .val (.int p2), .val (.int p3), .val (.int p4), .val (.int (1 : Int32)), .val (.int y18), .val (.int y20), .val (.int y22), .val (.int y24), .val (.int y26), .val (.int y28), .val (.int y30), .val (.int y32), .val (.ref b60), .val (.ref b68), .val (.long (0 : Int64)), .second, .unset, .unset]) rfl (pc' := 64) rfl ?_
    refine g_iload A76 at_64 rfl (pc' := 66) rfl ?_
    refine g_ifN A76 at_66 (c0_le_f (by decide)) (pc' := 69) rfl ?_
    refine g_aload A76 at_69 rfl rfl (pc' := 71) rfl ?_
    refine g_iconst A76 at_71 (v := (0 : Int32)) rfl (pc' := 72) rfl ?_
    refine g_iload A76 at_72 rfl (pc' := 74) rfl ?_
    refine g_i2d A76 at_74 (pc' := 75) rfl ?_
    obtain ⟨T77, h77, A77, e77, W77, st77⟩ := s_dastore A76 hZ e67 (ls := #[.val (.int p0), .val (.int p1), .val (.int p2), .val (.int p3), .val (.int p4), .val (.int (1 : Int32)), .val (.int y18), .val (.int y20), .val (.int y22), .val (.int y24), .val (.int y26), .val (.int y28), .val (.int y30), .val (.int y32), .val (.ref b60), .val (.ref b68), .val (.long (0 : Int64)), .second, .unset, .unset]) (st := []) (x := (FP.i2d y18)) V73 (i := 0) (by decide) (j := (0 : Int32)) rfl at_75 (pc' := 76) rfl
    have N78 := Fr.snoc A77.1 N0 g61
    have K79 : Keep h0 h77 [] := K72.wr W77 (Or.inr gh62)
    have V80 : Dar Z h77 b68 .double 1 (fun _ => .double (0 : UInt64)) := Dar.other W77 V75 (Ne.symm ne69)
    have V81 : Dar Z h77 b60 .double 1 (fun j => if j = 0 then .double (FP.i2d y18) else (fun _ => .double (0 : UInt64)) j) := Dar.set V73 W77 (fun _ _ => rfl)
    have Z82 : n0 ≤ h77.size := by rw [W77.size]; exact Z74
    refine st77 ?_
    refine g_aload A77 at_76 rfl rfl (pc' := 78) rfl ?_
    refine g_iconst A77 at_78 (v := (0 : Int32)) rfl (pc' := 79) rfl ?_
    refine g_iload A77 at_79 rfl (pc' := 81) rfl ?_
    refine g_i2d A77 at_81 (pc' := 82) rfl ?_
    obtain ⟨T83, h83, A83, e83, W83, st83⟩ := s_dastore A77 hZ e77 (ls := #[.val (.int p0), .val (.int p1), .val (.int p2), .val (.int p3), .val (.int p4), .val (.int (1 : Int32)), .val (.int y18), .val (.int y20), .val (.int y22), .val (.int y24), .val (.int y26), .val (.int y28), .val (.int y30), .val (.int y32), .val (.ref b60), .val (.ref b68), .val (.long (0 : Int64)), .second, .unset, .unset]) (st := []) (x := (FP.i2d y26)) V80 (i := 0) (by decide) (j := (0 : Int32)) rfl at_82 (pc' := 83) rfl
    have N84 := Fr.snoc A83.1 N78 g70
    have K85 : Keep h0 h83 [] := K79.wr W83 (Or.inr gh71)
    have V86 : Dar Z h83 b60 .double 1 (fun j => if j = 0 then .double (FP.i2d y18) else (fun _ => .double (0 : UInt64)) j) := Dar.other W83 V81 ne69
    have V87 : Dar Z h83 b68 .double 1 (fun j => if j = 0 then .double (FP.i2d y26) else (fun _ => .double (0 : UInt64)) j) := Dar.set V80 W83 (fun _ _ => rfl)
    have Z88 : n0 ≤ h83.size := by rw [W83.size]; exact Z82
    refine st83 ?_
    refine g_lload A83 at_83 rfl (pc' := 85) rfl ?_
    refine g_iload A83 at_85 rfl (pc' := 87) rfl ?_
    refine g_i2l A83 at_87 (pc' := 88) rfl ?_
    refine g_iload A83 at_88 rfl (pc' := 90) rfl ?_
    refine g_i2l A83 at_90 (pc' := 91) rfl ?_
    refine g_lmul A83 at_91 (pc' := 92) rfl ?_
    refine g_ladd A83 at_92 (pc' := 93) rfl ?_
    refine g_lstore A83 at_93 (ls' := #[.val (.int p0), .val (.int p1), .val (.int p2), .val (.int p3), .val (.int p4), .val (.int (1 : Int32)), .val (.int y18), .val (.int y20), .val (.int y22), .val (.int y24), .val (.int y26), .val (.int y28), .val (.int y30), .val (.int y32), .val (.ref b60), .val (.ref b68), .val (.long ((0 : Int64) + ((y18.toInt64) * (y26.toInt64)))), .second, .unset, .unset]) rfl (pc' := 95) rfl ?_
    refine g_iload A83 at_95 rfl (pc' := 97) rfl ?_
    refine g_iconst A83 at_97 (v := (1 : Int32)) rfl (pc' := 98) rfl ?_
    refine g_icY A83 at_98 (c2_le_t (by decide)) (pc' := 127) rfl ?_
    refine g_iload A83 at_127 rfl (pc' := 129) rfl ?_
    refine g_iconst A83 at_129 (v := (2 : Int32)) rfl (pc' := 130) rfl ?_
    refine g_icY A83 at_130 (c2_le_t (by decide)) (pc' := 159) rfl ?_
    refine g_iload A83 at_159 rfl (pc' := 161) rfl ?_
    refine g_iconst A83 at_161 (v := (3 : Int32)) rfl (pc' := 162) rfl ?_
    refine g_icY A83 at_162 (c2_le_t (by decide)) (pc' := 191) rfl ?_
    refine g_aload A83 at_191 rfl rfl (pc' := 193) rfl ?_
    refine g_aload A83 at_193 rfl rfl (pc' := 195) rfl ?_
    have ac89 := own_acc1 (by decide) own_acc0 hb19 hb27
    obtain ⟨_, _, ⟨T90, L90, k90, n90⟩, -, X90, ⟨L90c, hQ90, l90, y90, z90⟩, st90⟩ := Jvm.LawKit.callS A83.1 hx (y := (⟨"com/example/pursuant/pursuant/selection/OrthogonalBasis", "dot", "([D[D)D"⟩ : MethodName)) hown (mvT hZ (hw _ (List.mem_of_getElem? (i := 2) rfl))) (mvT hZ (hw _ (List.mem_of_getElem? (i := 3) rfl))) (mvT hZ (hw _ (List.mem_of_getElem? (i := 4) rfl))) (mvT hZ (hw _ (List.mem_of_getElem? (i := 5) rfl))) (by decide) (backOf (W := 0) (rmD1 l Z a0 hw [] b60 b68 (fun j => if j = 0 then .double (FP.i2d y18) else (fun _ => .double (0 : UInt64)) j) (fun j => if j = 0 then .double (FP.i2d y26) else (fun _ => .double (0 : UInt64)) j) (FP.i2d y18) (FP.i2d y26) h83 n0 Z88 V86 V87 rfl rfl (i2d_fin y18) (i2d_fin y26) (own_dfin ac89.1).noNaN) hZ (hw _ (List.mem_of_getElem? (i := 5) rfl)) (hw _ (List.mem_of_getElem? (i := 4) rfl)) (by decide) (by decide)) (g := (mkF m 195 #[.val (.int p0), .val (.int p1), .val (.int p2), .val (.int p3), .val (.int p4), .val (.int (1 : Int32)), .val (.int y18), .val (.int y20), .val (.int y22), .val (.int y24), .val (.int y26), .val (.int y28), .val (.int y30), .val (.int y32), .val (.ref b60), .val (.ref b68), .val (.long ((0 : Int64) + ((y18.toInt64) * (y26.toInt64)))), .second, .unset, .unset] [(.ref b68), (.ref b60)])) rfl (by rw [hml]; rfl) (argsL := [(.ref b60), (.ref b68)]) (rest := []) (lenOf pd_0 rfl) rfl (by show 2 * 0 + _ ≤ _; exact Nat.le_of_eq rfl) (hb hby at_195) (fun _ _ => ⟨rfl, e83, (by decide : 2 + 0 ≤ _), (by decide : 2 + 0 ≤ _)⟩)
    dsimp only [Pt.U, Pt.locs, Pt.cells, Pt.slots] at X90 l90 y90 z90 st90 hQ90
    subst l90 y90 z90
    obtain ⟨rfl, Nq91, Kq92⟩ := hQ90
    have N93 := Fr.app N84 Nq91
    refine Go.of (g' := (mkF m 198 #[.val (.int p0), .val (.int p1), .val (.int p2), .val (.int p3), .val (.int p4), .val (.int (1 : Int32)), .val (.int y18), .val (.int y20), .val (.int y22), .val (.int y24), .val (.int y26), .val (.int y28), .val (.int y30), .val (.int y32), .val (.ref b60), .val (.ref b68), .val (.long ((0 : Int64) + ((y18.toInt64) * (y26.toInt64)))), .second, .unset, .unset] [(.double (FP.dadd (0 : UInt64) (FP.dmul (FP.i2d y18) (FP.i2d y26))))])) st90 ?_
    have e94 : T90.heap = h83 := Kq92
    have A95 := (⟨X90, hx, hby⟩ : Ax _ _ _ _ _ _ _ _ _ _ _ _ _ _ _)
    refine g_dstore A95 at_198 (ls' := #[.val (.int p0), .val (.int p1), .val (.int p2), .val (.int p3), .val (.int p4), .val (.int (1 : Int32)), .val (.int y18), .val (.int y20), .val (.int y22), .val (.int y24), .val (.int y26), .val (.int y28), .val (.int y30), .val (.int y32), .val (.ref b60), .val (.ref b68), .val (.long ((0 : Int64) + ((y18.toInt64) * (y26.toInt64)))), .second, .val (.double (FP.dadd (0 : UInt64) (FP.dmul (FP.i2d y18) (FP.i2d y26)))), .second]) rfl (pc' := 200) rfl ?_
    refine g_dload A95 at_200 rfl (pc' := 202) rfl ?_
    refine g_lload A95 at_202 rfl (pc' := 204) rfl ?_
    refine g_l2d A95 at_204 (pc' := 205) rfl ?_
    refine g_dcmp A95 at_205 (pc' := 206) rfl ?_
    refine g_ifN A95 at_206 (d_l_ne_f (own_end (by decide) ac89)) (pc' := 209) rfl ?_
    refine g_iconst A95 at_209 (v := (1 : Int32)) rfl (pc' := 210) rfl ?_
    refine g_goto A95 at_210 (pc' := 214) rfl ?_
    exact g_ret (Q := Q0 Z p0 p1 p2 p3 p4 h0 n0) A95 at_214 Bd.notSynchronized Bd.returns rfl (Or.inl ⟨rfl, by simp, _, rfl⟩) (by decide) (by decide) (by rw [e94]; exact ⟨rfl, N93⟩)
  · skip
    rw [hg34]
    refine g_iload A0 at_49 rfl (pc' := 51) rfl ?_
    obtain ⟨T96, h96, k96, X96, e96, E96, Ar96, st96⟩ := newP X0 hx hZ (hw _ (List.mem_of_getElem? (i := 1) rfl)) e0 (g := (mkF m 51 #[.val (.int p0), .val (.int p1), .val (.int p2), .val (.int p3), .val (.int p4), .val (.int (2 : Int32)), .val (.int y18), .val (.int y20), .val (.int y22), .val (.int y24), .val (.int y26), .val (.int y28), .val (.int y30), .val (.int y32), .unset, .unset, .unset, .unset, .unset, .unset] [(.int (2 : Int32))])) rfl (hb hby at_51) rfl (by decide) (cap := 2) (by decide) (by decide) (by decide) (by decide)
    obtain ⟨b97, eb97⟩ : ∃ z, z = h0.size := ⟨_, rfl⟩
    rw [← eb97] at Ar96 st96
    have g98 : n0 ≤ b97 := by rw [eb97]; exact Z0
    have gh99 : h0.size ≤ b97 := by rw [eb97]; exact (Keep.refl h0 []).1
    have K100 : Keep h0 h96 [] := (Keep.refl h0 []).ext E96
    have Z101 : n0 ≤ h96.size := Nat.le_trans Z0 E96.1
    have V102 : Dar Z h96 b97 .double 2 (fun _ => .double (0 : UInt64)) := Dar.new Ar96 (by decide)
    refine Go.of (g' := (mkF m 53 #[.val (.int p0), .val (.int p1), .val (.int p2), .val (.int p3), .val (.int p4), .val (.int (2 : Int32)), .val (.int y18), .val (.int y20), .val (.int y22), .val (.int y24), .val (.int y26), .val (.int y28), .val (.int y30), .val (.int y32), .unset, .unset, .unset, .unset, .unset, .unset] [(.ref b97)])) st96 ?_
    have A103 := (⟨X96, hx, hby⟩ : Ax _ _ _ _ _ _ _ _ _ _ _ _ _ _ _)
    refine g_astore A103 at_53 rfl (ls' := #[.val (.int p0), .val (.int p1), .val (.int p2), .val (.int p3), .val (.int p4), .val (.int (2 : Int32)), .val (.int y18), .val (.int y20), .val (.int y22), .val (.int y24), .val (.int y26), .val (.int y28), .val (.int y30), .val (.int y32), .val (.ref b97), .unset, .unset, .unset, .unset, .unset]) rfl (pc' := 55) rfl ?_
    refine g_iload A103 at_55 rfl (pc' := 57) rfl ?_
    obtain ⟨T104, h104, k104, X104, e104, E104, Ar104, st104⟩ := newP X96 hx hZ (hw _ (List.mem_of_getElem? (i := 1) rfl)) e96 (g := (mkF m 57 #[.val (.int p0), .val (.int p1), .val (.int p2), .val (.int p3), .val (.int p4), .val (.int (2 : Int32)), .val (.int y18), .val (.int y20), .val (.int y22), .val (.int y24), .val (.int y26), .val (.int y28), .val (.int y30), .val (.int y32), .val (.ref b97), .unset, .unset, .unset, .unset, .unset] [(.int (2 : Int32))])) rfl (hb hby at_57) rfl (by decide) (cap := 2) (by decide) (by decide) (by decide) (by decide)
    obtain ⟨b105, eb105⟩ : ∃ z, z = h96.size := ⟨_, rfl⟩
    rw [← eb105] at Ar104 st104
    have ne106 : b97 ≠ b105 := own_ne eb105 V102.lt
    have g107 : n0 ≤ b105 := by rw [eb105]; exact Z101
    have gh108 : h0.size ≤ b105 := by rw [eb105]; exact K100.1
    have K109 : Keep h0 h104 [] := K100.ext E104
    have V110 : Dar Z h104 b97 .double 2 (fun _ => .double (0 : UInt64)) := Dar.ext E104 V102
    have Z111 : n0 ≤ h104.size := Nat.le_trans Z101 E104.1
    have V112 : Dar Z h104 b105 .double 2 (fun _ => .double (0 : UInt64)) := Dar.new Ar104 (by decide)
    refine Go.of (g' := (mkF m 59 #[.val (.int p0), .val (.int p1), .val (.int p2), .val (.int p3), .val (.int p4), .val (.int (2 : Int32)), .val (.int y18), .val (.int y20), .val (.int y22), .val (.int y24), .val (.int y26), .val (.int y28), .val (.int y30), .val (.int y32), .val (.ref b97), .unset, .unset, .unset, .unset, .unset] [(.ref b105)])) st104 ?_
    have A113 := (⟨X104, hx, hby⟩ : Ax _ _ _ _ _ _ _ _ _ _ _ _ _ _ _)
    refine g_astore A113 at_59 rfl (ls' := #[.val (.int p0), .val (.int p1), .val (.int p2), .val (.int p3), .val (.int p4), .val (.int (2 : Int32)), .val (.int y18), .val (.int y20), .val (.int y22), .val (.int y24), .val (.int y26), .val (.int y28), .val (.int y30), .val (.int y32), .val (.ref b97), .val (.ref b105), .unset, .unset, .unset, .unset]) rfl (pc' := 61) rfl ?_
    refine g_lconst A113 at_61 (v := (0 : Int64)) rfl (pc' := 62) rfl ?_
    refine g_lstore A113 at_62 (ls' := #[.val (.int p0), .val (.int p1), .val (.int p2), .val (.int p3), .val (.int p4), .val (.int (2 : Int32)), .val (.int y18), .val (.int y20), .val (.int y22), .val (.int y24), .val (.int y26), .val (.int y28), .val (.int y30), .val (.int y32), .val (.ref b97), .val (.ref b105), .val (.long (0 : Int64)), .second, .unset, .unset]) rfl (pc' := 64) rfl ?_
    refine g_iload A113 at_64 rfl (pc' := 66) rfl ?_
    refine g_ifN A113 at_66 (c0_le_f (by decide)) (pc' := 69) rfl ?_
    refine g_aload A113 at_69 rfl rfl (pc' := 71) rfl ?_
    refine g_iconst A113 at_71 (v := (0 : Int32)) rfl (pc' := 72) rfl ?_
    refine g_iload A113 at_72 rfl (pc' := 74) rfl ?_
    refine g_i2d A113 at_74 (pc' := 75) rfl ?_
    obtain ⟨T114, h114, A114, e114, W114, st114⟩ := s_dastore A113 hZ e104 (ls := #[.val (.int p0), .val (.int p1), .val (.int p2), .val (.int p3), .val (.int p4), .val (.int (2 : Int32)), .val (.int y18), .val (.int y20), .val (.int y22), .val (.int y24), .val (.int y26), .val (.int y28), .val (.int y30), .val (.int y32), .val (.ref b97), .val (.ref b105), .val (.long (0 : Int64)), .second, .unset, .unset]) (st := []) (x := (FP.i2d y18)) V110 (i := 0) (by decide) (j := (0 : Int32)) rfl at_75 (pc' := 76) rfl
    have N115 := Fr.snoc A114.1 N0 g98
    have K116 : Keep h0 h114 [] := K109.wr W114 (Or.inr gh99)
    have V117 : Dar Z h114 b105 .double 2 (fun _ => .double (0 : UInt64)) := Dar.other W114 V112 (Ne.symm ne106)
    have V118 : Dar Z h114 b97 .double 2 (fun j => if j = 0 then .double (FP.i2d y18) else (fun _ => .double (0 : UInt64)) j) := Dar.set V110 W114 (fun _ _ => rfl)
    have Z119 : n0 ≤ h114.size := by rw [W114.size]; exact Z111
    refine st114 ?_
    refine g_aload A114 at_76 rfl rfl (pc' := 78) rfl ?_
    refine g_iconst A114 at_78 (v := (0 : Int32)) rfl (pc' := 79) rfl ?_
    refine g_iload A114 at_79 rfl (pc' := 81) rfl ?_
    refine g_i2d A114 at_81 (pc' := 82) rfl ?_
    obtain ⟨T120, h120, A120, e120, W120, st120⟩ := s_dastore A114 hZ e114 (ls := #[.val (.int p0), .val (.int p1), .val (.int p2), .val (.int p3), .val (.int p4), .val (.int (2 : Int32)), .val (.int y18), .val (.int y20), .val (.int y22), .val (.int y24), .val (.int y26), .val (.int y28), .val (.int y30), .val (.int y32), .val (.ref b97), .val (.ref b105), .val (.long (0 : Int64)), .second, .unset, .unset]) (st := []) (x := (FP.i2d y26)) V117 (i := 0) (by decide) (j := (0 : Int32)) rfl at_82 (pc' := 83) rfl
    have N121 := Fr.snoc A120.1 N115 g107
    have K122 : Keep h0 h120 [] := K116.wr W120 (Or.inr gh108)
    have V123 : Dar Z h120 b97 .double 2 (fun j => if j = 0 then .double (FP.i2d y18) else (fun _ => .double (0 : UInt64)) j) := Dar.other W120 V118 ne106
    have V124 : Dar Z h120 b105 .double 2 (fun j => if j = 0 then .double (FP.i2d y26) else (fun _ => .double (0 : UInt64)) j) := Dar.set V117 W120 (fun _ _ => rfl)
    have Z125 : n0 ≤ h120.size := by rw [W120.size]; exact Z119
    refine st120 ?_
    refine g_lload A120 at_83 rfl (pc' := 85) rfl ?_
    refine g_iload A120 at_85 rfl (pc' := 87) rfl ?_
    refine g_i2l A120 at_87 (pc' := 88) rfl ?_
    refine g_iload A120 at_88 rfl (pc' := 90) rfl ?_
    refine g_i2l A120 at_90 (pc' := 91) rfl ?_
    refine g_lmul A120 at_91 (pc' := 92) rfl ?_
    refine g_ladd A120 at_92 (pc' := 93) rfl ?_
    refine g_lstore A120 at_93 (ls' := #[.val (.int p0), .val (.int p1), .val (.int p2), .val (.int p3), .val (.int p4), .val (.int (2 : Int32)), .val (.int y18), .val (.int y20), .val (.int y22), .val (.int y24), .val (.int y26), .val (.int y28), .val (.int y30), .val (.int y32), .val (.ref b97), .val (.ref b105), .val (.long ((0 : Int64) + ((y18.toInt64) * (y26.toInt64)))), .second, .unset, .unset]) rfl (pc' := 95) rfl ?_
    refine g_iload A120 at_95 rfl (pc' := 97) rfl ?_
    refine g_iconst A120 at_97 (v := (1 : Int32)) rfl (pc' := 98) rfl ?_
    refine g_icN A120 at_98 (c2_le_f (by decide)) (pc' := 101) rfl ?_
    refine g_aload A120 at_101 rfl rfl (pc' := 103) rfl ?_
    refine g_iconst A120 at_103 (v := (1 : Int32)) rfl (pc' := 104) rfl ?_
    refine g_iload A120 at_104 rfl (pc' := 106) rfl ?_
    refine g_i2d A120 at_106 (pc' := 107) rfl ?_
    obtain ⟨T126, h126, A126, e126, W126, st126⟩ := s_dastore A120 hZ e120 (ls := #[.val (.int p0), .val (.int p1), .val (.int p2), .val (.int p3), .val (.int p4), .val (.int (2 : Int32)), .val (.int y18), .val (.int y20), .val (.int y22), .val (.int y24), .val (.int y26), .val (.int y28), .val (.int y30), .val (.int y32), .val (.ref b97), .val (.ref b105), .val (.long ((0 : Int64) + ((y18.toInt64) * (y26.toInt64)))), .second, .unset, .unset]) (st := []) (x := (FP.i2d y20)) V123 (i := 1) (by decide) (j := (1 : Int32)) rfl at_107 (pc' := 108) rfl
    have N127 := Fr.snoc A126.1 N121 g98
    have K128 : Keep h0 h126 [] := K122.wr W126 (Or.inr gh99)
    have V129 : Dar Z h126 b105 .double 2 (fun j => if j = 0 then .double (FP.i2d y26) else (fun _ => .double (0 : UInt64)) j) := Dar.other W126 V124 (Ne.symm ne106)
    have V130 : Dar Z h126 b97 .double 2 (fun j => if j = 1 then .double (FP.i2d y20) else (fun j => if j = 0 then .double (FP.i2d y18) else (fun _ => .double (0 : UInt64)) j) j) := Dar.set V123 W126 (fun _ _ => rfl)
    have Z131 : n0 ≤ h126.size := by rw [W126.size]; exact Z125
    refine st126 ?_
    refine g_aload A126 at_108 rfl rfl (pc' := 110) rfl ?_
    refine g_iconst A126 at_110 (v := (1 : Int32)) rfl (pc' := 111) rfl ?_
    refine g_iload A126 at_111 rfl (pc' := 113) rfl ?_
    refine g_i2d A126 at_113 (pc' := 114) rfl ?_
    obtain ⟨T132, h132, A132, e132, W132, st132⟩ := s_dastore A126 hZ e126 (ls := #[.val (.int p0), .val (.int p1), .val (.int p2), .val (.int p3), .val (.int p4), .val (.int (2 : Int32)), .val (.int y18), .val (.int y20), .val (.int y22), .val (.int y24), .val (.int y26), .val (.int y28), .val (.int y30), .val (.int y32), .val (.ref b97), .val (.ref b105), .val (.long ((0 : Int64) + ((y18.toInt64) * (y26.toInt64)))), .second, .unset, .unset]) (st := []) (x := (FP.i2d y28)) V129 (i := 1) (by decide) (j := (1 : Int32)) rfl at_114 (pc' := 115) rfl
    have N133 := Fr.snoc A132.1 N127 g107
    have K134 : Keep h0 h132 [] := K128.wr W132 (Or.inr gh108)
    have V135 : Dar Z h132 b97 .double 2 (fun j => if j = 1 then .double (FP.i2d y20) else (fun j => if j = 0 then .double (FP.i2d y18) else (fun _ => .double (0 : UInt64)) j) j) := Dar.other W132 V130 ne106
    have V136 : Dar Z h132 b105 .double 2 (fun j => if j = 1 then .double (FP.i2d y28) else (fun j => if j = 0 then .double (FP.i2d y26) else (fun _ => .double (0 : UInt64)) j) j) := Dar.set V129 W132 (fun _ _ => rfl)
    have Z137 : n0 ≤ h132.size := by rw [W132.size]; exact Z131
    refine st132 ?_
    refine g_lload A132 at_115 rfl (pc' := 117) rfl ?_
    refine g_iload A132 at_117 rfl (pc' := 119) rfl ?_
    refine g_i2l A132 at_119 (pc' := 120) rfl ?_
    refine g_iload A132 at_120 rfl (pc' := 122) rfl ?_
    refine g_i2l A132 at_122 (pc' := 123) rfl ?_
    refine g_lmul A132 at_123 (pc' := 124) rfl ?_
    refine g_ladd A132 at_124 (pc' := 125) rfl ?_
    refine g_lstore A132 at_125 (ls' := #[.val (.int p0), .val (.int p1), .val (.int p2), .val (.int p3), .val (.int p4), .val (.int (2 : Int32)), .val (.int y18), .val (.int y20), .val (.int y22), .val (.int y24), .val (.int y26), .val (.int y28), .val (.int y30), .val (.int y32), .val (.ref b97), .val (.ref b105), .val (.long (((0 : Int64) + ((y18.toInt64) * (y26.toInt64))) + ((y20.toInt64) * (y28.toInt64)))), .second, .unset, .unset]) rfl (pc' := 127) rfl ?_
    refine g_iload A132 at_127 rfl (pc' := 129) rfl ?_
    refine g_iconst A132 at_129 (v := (2 : Int32)) rfl (pc' := 130) rfl ?_
    refine g_icY A132 at_130 (c2_le_t (by decide)) (pc' := 159) rfl ?_
    refine g_iload A132 at_159 rfl (pc' := 161) rfl ?_
    refine g_iconst A132 at_161 (v := (3 : Int32)) rfl (pc' := 162) rfl ?_
    refine g_icY A132 at_162 (c2_le_t (by decide)) (pc' := 191) rfl ?_
    refine g_aload A132 at_191 rfl rfl (pc' := 193) rfl ?_
    refine g_aload A132 at_193 rfl rfl (pc' := 195) rfl ?_
    have ac138 := own_acc1 (by decide) own_acc0 hb19 hb27
    have ac139 := own_acc1 (by decide) ac138 hb21 hb29
    obtain ⟨_, _, ⟨T140, L140, k140, n140⟩, -, X140, ⟨L140c, hQ140, l140, y140, z140⟩, st140⟩ := Jvm.LawKit.callS A132.1 hx (y := (⟨"com/example/pursuant/pursuant/selection/OrthogonalBasis", "dot", "([D[D)D"⟩ : MethodName)) hown (mvT hZ (hw _ (List.mem_of_getElem? (i := 2) rfl))) (mvT hZ (hw _ (List.mem_of_getElem? (i := 3) rfl))) (mvT hZ (hw _ (List.mem_of_getElem? (i := 4) rfl))) (mvT hZ (hw _ (List.mem_of_getElem? (i := 5) rfl))) (by decide) (backOf (W := 0) (rmD2 l Z a0 hw [] b97 b105 (fun j => if j = 1 then .double (FP.i2d y20) else (fun j => if j = 0 then .double (FP.i2d y18) else (fun _ => .double (0 : UInt64)) j) j) (fun j => if j = 1 then .double (FP.i2d y28) else (fun j => if j = 0 then .double (FP.i2d y26) else (fun _ => .double (0 : UInt64)) j) j) (FP.i2d y18) (FP.i2d y26) (FP.i2d y20) (FP.i2d y28) h132 n0 Z137 V135 V136 rfl rfl (i2d_fin y18) (i2d_fin y26) (own_dfin ac138.1).noNaN rfl rfl (i2d_fin y20) (i2d_fin y28) (own_dfin ac139.1).noNaN) hZ (hw _ (List.mem_of_getElem? (i := 5) rfl)) (hw _ (List.mem_of_getElem? (i := 4) rfl)) (by decide) (by decide)) (g := (mkF m 195 #[.val (.int p0), .val (.int p1), .val (.int p2), .val (.int p3), .val (.int p4), .val (.int (2 : Int32)), .val (.int y18), .val (.int y20), .val (.int y22), .val (.int y24), .val (.int y26), .val (.int y28), .val (.int y30), .val (.int y32), .val (.ref b97), .val (.ref b105), .val (.long (((0 : Int64) + ((y18.toInt64) * (y26.toInt64))) + ((y20.toInt64) * (y28.toInt64)))), .second, .unset, .unset] [(.ref b105), (.ref b97)])) rfl (by rw [hml]; rfl) (argsL := [(.ref b97), (.ref b105)]) (rest := []) (lenOf pd_0 rfl) rfl (by show 2 * 0 + _ ≤ _; exact Nat.le_of_eq rfl) (hb hby at_195) (fun _ _ => ⟨rfl, e132, (by decide : 2 + 0 ≤ _), (by decide : 4 + 0 ≤ _)⟩)
    dsimp only [Pt.U, Pt.locs, Pt.cells, Pt.slots] at X140 l140 y140 z140 st140 hQ140
    subst l140 y140 z140
    obtain ⟨rfl, Nq141, Kq142⟩ := hQ140
    have N143 := Fr.app N133 Nq141
    refine Go.of (g' := (mkF m 198 #[.val (.int p0), .val (.int p1), .val (.int p2), .val (.int p3), .val (.int p4), .val (.int (2 : Int32)), .val (.int y18), .val (.int y20), .val (.int y22), .val (.int y24), .val (.int y26), .val (.int y28), .val (.int y30), .val (.int y32), .val (.ref b97), .val (.ref b105), .val (.long (((0 : Int64) + ((y18.toInt64) * (y26.toInt64))) + ((y20.toInt64) * (y28.toInt64)))), .second, .unset, .unset] [(.double (FP.dadd (FP.dadd (0 : UInt64) (FP.dmul (FP.i2d y18) (FP.i2d y26))) (FP.dmul (FP.i2d y20) (FP.i2d y28))))])) st140 ?_
    have e144 : T140.heap = h132 := Kq142
    have A145 := (⟨X140, hx, hby⟩ : Ax _ _ _ _ _ _ _ _ _ _ _ _ _ _ _)
    refine g_dstore A145 at_198 (ls' := #[.val (.int p0), .val (.int p1), .val (.int p2), .val (.int p3), .val (.int p4), .val (.int (2 : Int32)), .val (.int y18), .val (.int y20), .val (.int y22), .val (.int y24), .val (.int y26), .val (.int y28), .val (.int y30), .val (.int y32), .val (.ref b97), .val (.ref b105), .val (.long (((0 : Int64) + ((y18.toInt64) * (y26.toInt64))) + ((y20.toInt64) * (y28.toInt64)))), .second, .val (.double (FP.dadd (FP.dadd (0 : UInt64) (FP.dmul (FP.i2d y18) (FP.i2d y26))) (FP.dmul (FP.i2d y20) (FP.i2d y28)))), .second]) rfl (pc' := 200) rfl ?_
    refine g_dload A145 at_200 rfl (pc' := 202) rfl ?_
    refine g_lload A145 at_202 rfl (pc' := 204) rfl ?_
    refine g_l2d A145 at_204 (pc' := 205) rfl ?_
    refine g_dcmp A145 at_205 (pc' := 206) rfl ?_
    refine g_ifN A145 at_206 (d_l_ne_f (own_end (by decide) ac139)) (pc' := 209) rfl ?_
    refine g_iconst A145 at_209 (v := (1 : Int32)) rfl (pc' := 210) rfl ?_
    refine g_goto A145 at_210 (pc' := 214) rfl ?_
    exact g_ret (Q := Q0 Z p0 p1 p2 p3 p4 h0 n0) A145 at_214 Bd.notSynchronized Bd.returns rfl (Or.inl ⟨rfl, by simp, _, rfl⟩) (by decide) (by decide) (by rw [e144]; exact ⟨rfl, N143⟩)
  · skip
    rw [hg34]
    refine g_iload A0 at_49 rfl (pc' := 51) rfl ?_
    obtain ⟨T146, h146, k146, X146, e146, E146, Ar146, st146⟩ := newP X0 hx hZ (hw _ (List.mem_of_getElem? (i := 1) rfl)) e0 (g := (mkF m 51 #[.val (.int p0), .val (.int p1), .val (.int p2), .val (.int p3), .val (.int p4), .val (.int (3 : Int32)), .val (.int y18), .val (.int y20), .val (.int y22), .val (.int y24), .val (.int y26), .val (.int y28), .val (.int y30), .val (.int y32), .unset, .unset, .unset, .unset, .unset, .unset] [(.int (3 : Int32))])) rfl (hb hby at_51) rfl (by decide) (cap := 3) (by decide) (by decide) (by decide) (by decide)
    obtain ⟨b147, eb147⟩ : ∃ z, z = h0.size := ⟨_, rfl⟩
    rw [← eb147] at Ar146 st146
    have g148 : n0 ≤ b147 := by rw [eb147]; exact Z0
    have gh149 : h0.size ≤ b147 := by rw [eb147]; exact (Keep.refl h0 []).1
    have K150 : Keep h0 h146 [] := (Keep.refl h0 []).ext E146
    have Z151 : n0 ≤ h146.size := Nat.le_trans Z0 E146.1
    have V152 : Dar Z h146 b147 .double 3 (fun _ => .double (0 : UInt64)) := Dar.new Ar146 (by decide)
    refine Go.of (g' := (mkF m 53 #[.val (.int p0), .val (.int p1), .val (.int p2), .val (.int p3), .val (.int p4), .val (.int (3 : Int32)), .val (.int y18), .val (.int y20), .val (.int y22), .val (.int y24), .val (.int y26), .val (.int y28), .val (.int y30), .val (.int y32), .unset, .unset, .unset, .unset, .unset, .unset] [(.ref b147)])) st146 ?_
    have A153 := (⟨X146, hx, hby⟩ : Ax _ _ _ _ _ _ _ _ _ _ _ _ _ _ _)
    refine g_astore A153 at_53 rfl (ls' := #[.val (.int p0), .val (.int p1), .val (.int p2), .val (.int p3), .val (.int p4), .val (.int (3 : Int32)), .val (.int y18), .val (.int y20), .val (.int y22), .val (.int y24), .val (.int y26), .val (.int y28), .val (.int y30), .val (.int y32), .val (.ref b147), .unset, .unset, .unset, .unset, .unset]) rfl (pc' := 55) rfl ?_
    refine g_iload A153 at_55 rfl (pc' := 57) rfl ?_
    obtain ⟨T154, h154, k154, X154, e154, E154, Ar154, st154⟩ := newP X146 hx hZ (hw _ (List.mem_of_getElem? (i := 1) rfl)) e146 (g := (mkF m 57 #[.val (.int p0), .val (.int p1), .val (.int p2), .val (.int p3), .val (.int p4), .val (.int (3 : Int32)), .val (.int y18), .val (.int y20), .val (.int y22), .val (.int y24), .val (.int y26), .val (.int y28), .val (.int y30), .val (.int y32), .val (.ref b147), .unset, .unset, .unset, .unset, .unset] [(.int (3 : Int32))])) rfl (hb hby at_57) rfl (by decide) (cap := 3) (by decide) (by decide) (by decide) (by decide)
    obtain ⟨b155, eb155⟩ : ∃ z, z = h146.size := ⟨_, rfl⟩
    rw [← eb155] at Ar154 st154
    have ne156 : b147 ≠ b155 := own_ne eb155 V152.lt
    have g157 : n0 ≤ b155 := by rw [eb155]; exact Z151
    have gh158 : h0.size ≤ b155 := by rw [eb155]; exact K150.1
    have K159 : Keep h0 h154 [] := K150.ext E154
    have V160 : Dar Z h154 b147 .double 3 (fun _ => .double (0 : UInt64)) := Dar.ext E154 V152
    have Z161 : n0 ≤ h154.size := Nat.le_trans Z151 E154.1
    have V162 : Dar Z h154 b155 .double 3 (fun _ => .double (0 : UInt64)) := Dar.new Ar154 (by decide)
    refine Go.of (g' := (mkF m 59 #[.val (.int p0), .val (.int p1), .val (.int p2), .val (.int p3), .val (.int p4), .val (.int (3 : Int32)), .val (.int y18), .val (.int y20), .val (.int y22), .val (.int y24), .val (.int y26), .val (.int y28), .val (.int y30), .val (.int y32), .val (.ref b147), .unset, .unset, .unset, .unset, .unset] [(.ref b155)])) st154 ?_
    have A163 := (⟨X154, hx, hby⟩ : Ax _ _ _ _ _ _ _ _ _ _ _ _ _ _ _)
    refine g_astore A163 at_59 rfl (ls' := #[.val (.int p0), .val (.int p1), .val (.int p2), .val (.int p3), .val (.int p4), .val (.int (3 : Int32)), .val (.int y18), .val (.int y20), .val (.int y22), .val (.int y24), .val (.int y26), .val (.int y28), .val (.int y30), .val (.int y32), .val (.ref b147), .val (.ref b155), .unset, .unset, .unset, .unset]) rfl (pc' := 61) rfl ?_
    refine g_lconst A163 at_61 (v := (0 : Int64)) rfl (pc' := 62) rfl ?_
    refine g_lstore A163 at_62 (ls' := #[.val (.int p0), .val (.int p1), .val (.int p2), .val (.int p3), .val (.int p4), .val (.int (3 : Int32)), .val (.int y18), .val (.int y20), .val (.int y22), .val (.int y24), .val (.int y26), .val (.int y28), .val (.int y30), .val (.int y32), .val (.ref b147), .val (.ref b155), .val (.long (0 : Int64)), .second, .unset, .unset]) rfl (pc' := 64) rfl ?_
    refine g_iload A163 at_64 rfl (pc' := 66) rfl ?_
    refine g_ifN A163 at_66 (c0_le_f (by decide)) (pc' := 69) rfl ?_
    refine g_aload A163 at_69 rfl rfl (pc' := 71) rfl ?_
    refine g_iconst A163 at_71 (v := (0 : Int32)) rfl (pc' := 72) rfl ?_
    refine g_iload A163 at_72 rfl (pc' := 74) rfl ?_
    refine g_i2d A163 at_74 (pc' := 75) rfl ?_
    obtain ⟨T164, h164, A164, e164, W164, st164⟩ := s_dastore A163 hZ e154 (ls := #[.val (.int p0), .val (.int p1), .val (.int p2), .val (.int p3), .val (.int p4), .val (.int (3 : Int32)), .val (.int y18), .val (.int y20), .val (.int y22), .val (.int y24), .val (.int y26), .val (.int y28), .val (.int y30), .val (.int y32), .val (.ref b147), .val (.ref b155), .val (.long (0 : Int64)), .second, .unset, .unset]) (st := []) (x := (FP.i2d y18)) V160 (i := 0) (by decide) (j := (0 : Int32)) rfl at_75 (pc' := 76) rfl
    have N165 := Fr.snoc A164.1 N0 g148
    have K166 : Keep h0 h164 [] := K159.wr W164 (Or.inr gh149)
    have V167 : Dar Z h164 b155 .double 3 (fun _ => .double (0 : UInt64)) := Dar.other W164 V162 (Ne.symm ne156)
    have V168 : Dar Z h164 b147 .double 3 (fun j => if j = 0 then .double (FP.i2d y18) else (fun _ => .double (0 : UInt64)) j) := Dar.set V160 W164 (fun _ _ => rfl)
    have Z169 : n0 ≤ h164.size := by rw [W164.size]; exact Z161
    refine st164 ?_
    refine g_aload A164 at_76 rfl rfl (pc' := 78) rfl ?_
    refine g_iconst A164 at_78 (v := (0 : Int32)) rfl (pc' := 79) rfl ?_
    refine g_iload A164 at_79 rfl (pc' := 81) rfl ?_
    refine g_i2d A164 at_81 (pc' := 82) rfl ?_
    obtain ⟨T170, h170, A170, e170, W170, st170⟩ := s_dastore A164 hZ e164 (ls := #[.val (.int p0), .val (.int p1), .val (.int p2), .val (.int p3), .val (.int p4), .val (.int (3 : Int32)), .val (.int y18), .val (.int y20), .val (.int y22), .val (.int y24), .val (.int y26), .val (.int y28), .val (.int y30), .val (.int y32), .val (.ref b147), .val (.ref b155), .val (.long (0 : Int64)), .second, .unset, .unset]) (st := []) (x := (FP.i2d y26)) V167 (i := 0) (by decide) (j := (0 : Int32)) rfl at_82 (pc' := 83) rfl
    have N171 := Fr.snoc A170.1 N165 g157
    have K172 : Keep h0 h170 [] := K166.wr W170 (Or.inr gh158)
    have V173 : Dar Z h170 b147 .double 3 (fun j => if j = 0 then .double (FP.i2d y18) else (fun _ => .double (0 : UInt64)) j) := Dar.other W170 V168 ne156
    have V174 : Dar Z h170 b155 .double 3 (fun j => if j = 0 then .double (FP.i2d y26) else (fun _ => .double (0 : UInt64)) j) := Dar.set V167 W170 (fun _ _ => rfl)
    have Z175 : n0 ≤ h170.size := by rw [W170.size]; exact Z169
    refine st170 ?_
    refine g_lload A170 at_83 rfl (pc' := 85) rfl ?_
    refine g_iload A170 at_85 rfl (pc' := 87) rfl ?_
    refine g_i2l A170 at_87 (pc' := 88) rfl ?_
    refine g_iload A170 at_88 rfl (pc' := 90) rfl ?_
    refine g_i2l A170 at_90 (pc' := 91) rfl ?_
    refine g_lmul A170 at_91 (pc' := 92) rfl ?_
    refine g_ladd A170 at_92 (pc' := 93) rfl ?_
    refine g_lstore A170 at_93 (ls' := #[.val (.int p0), .val (.int p1), .val (.int p2), .val (.int p3), .val (.int p4), .val (.int (3 : Int32)), .val (.int y18), .val (.int y20), .val (.int y22), .val (.int y24), .val (.int y26), .val (.int y28), .val (.int y30), .val (.int y32), .val (.ref b147), .val (.ref b155), .val (.long ((0 : Int64) + ((y18.toInt64) * (y26.toInt64)))), .second, .unset, .unset]) rfl (pc' := 95) rfl ?_
    refine g_iload A170 at_95 rfl (pc' := 97) rfl ?_
    refine g_iconst A170 at_97 (v := (1 : Int32)) rfl (pc' := 98) rfl ?_
    refine g_icN A170 at_98 (c2_le_f (by decide)) (pc' := 101) rfl ?_
    refine g_aload A170 at_101 rfl rfl (pc' := 103) rfl ?_
    refine g_iconst A170 at_103 (v := (1 : Int32)) rfl (pc' := 104) rfl ?_
    refine g_iload A170 at_104 rfl (pc' := 106) rfl ?_
    refine g_i2d A170 at_106 (pc' := 107) rfl ?_
    obtain ⟨T176, h176, A176, e176, W176, st176⟩ := s_dastore A170 hZ e170 (ls := #[.val (.int p0), .val (.int p1), .val (.int p2), .val (.int p3), .val (.int p4), .val (.int (3 : Int32)), .val (.int y18), .val (.int y20), .val (.int y22), .val (.int y24), .val (.int y26), .val (.int y28), .val (.int y30), .val (.int y32), .val (.ref b147), .val (.ref b155), .val (.long ((0 : Int64) + ((y18.toInt64) * (y26.toInt64)))), .second, .unset, .unset]) (st := []) (x := (FP.i2d y20)) V173 (i := 1) (by decide) (j := (1 : Int32)) rfl at_107 (pc' := 108) rfl
    have N177 := Fr.snoc A176.1 N171 g148
    have K178 : Keep h0 h176 [] := K172.wr W176 (Or.inr gh149)
    have V179 : Dar Z h176 b155 .double 3 (fun j => if j = 0 then .double (FP.i2d y26) else (fun _ => .double (0 : UInt64)) j) := Dar.other W176 V174 (Ne.symm ne156)
    have V180 : Dar Z h176 b147 .double 3 (fun j => if j = 1 then .double (FP.i2d y20) else (fun j => if j = 0 then .double (FP.i2d y18) else (fun _ => .double (0 : UInt64)) j) j) := Dar.set V173 W176 (fun _ _ => rfl)
    have Z181 : n0 ≤ h176.size := by rw [W176.size]; exact Z175
    refine st176 ?_
    refine g_aload A176 at_108 rfl rfl (pc' := 110) rfl ?_
    refine g_iconst A176 at_110 (v := (1 : Int32)) rfl (pc' := 111) rfl ?_
    refine g_iload A176 at_111 rfl (pc' := 113) rfl ?_
    refine g_i2d A176 at_113 (pc' := 114) rfl ?_
    obtain ⟨T182, h182, A182, e182, W182, st182⟩ := s_dastore A176 hZ e176 (ls := #[.val (.int p0), .val (.int p1), .val (.int p2), .val (.int p3), .val (.int p4), .val (.int (3 : Int32)), .val (.int y18), .val (.int y20), .val (.int y22), .val (.int y24), .val (.int y26), .val (.int y28), .val (.int y30), .val (.int y32), .val (.ref b147), .val (.ref b155), .val (.long ((0 : Int64) + ((y18.toInt64) * (y26.toInt64)))), .second, .unset, .unset]) (st := []) (x := (FP.i2d y28)) V179 (i := 1) (by decide) (j := (1 : Int32)) rfl at_114 (pc' := 115) rfl
    have N183 := Fr.snoc A182.1 N177 g157
    have K184 : Keep h0 h182 [] := K178.wr W182 (Or.inr gh158)
    have V185 : Dar Z h182 b147 .double 3 (fun j => if j = 1 then .double (FP.i2d y20) else (fun j => if j = 0 then .double (FP.i2d y18) else (fun _ => .double (0 : UInt64)) j) j) := Dar.other W182 V180 ne156
    have V186 : Dar Z h182 b155 .double 3 (fun j => if j = 1 then .double (FP.i2d y28) else (fun j => if j = 0 then .double (FP.i2d y26) else (fun _ => .double (0 : UInt64)) j) j) := Dar.set V179 W182 (fun _ _ => rfl)
    have Z187 : n0 ≤ h182.size := by rw [W182.size]; exact Z181
    refine st182 ?_
    refine g_lload A182 at_115 rfl (pc' := 117) rfl ?_
    refine g_iload A182 at_117 rfl (pc' := 119) rfl ?_
    refine g_i2l A182 at_119 (pc' := 120) rfl ?_
    refine g_iload A182 at_120 rfl (pc' := 122) rfl ?_
    refine g_i2l A182 at_122 (pc' := 123) rfl ?_
    refine g_lmul A182 at_123 (pc' := 124) rfl ?_
    refine g_ladd A182 at_124 (pc' := 125) rfl ?_
    refine g_lstore A182 at_125 (ls' := #[.val (.int p0), .val (.int p1), .val (.int p2), .val (.int p3), .val (.int p4), .val (.int (3 : Int32)), .val (.int y18), .val (.int y20), .val (.int y22), .val (.int y24), .val (.int y26), .val (.int y28), .val (.int y30), .val (.int y32), .val (.ref b147), .val (.ref b155), .val (.long (((0 : Int64) + ((y18.toInt64) * (y26.toInt64))) + ((y20.toInt64) * (y28.toInt64)))), .second, .unset, .unset]) rfl (pc' := 127) rfl ?_
    refine g_iload A182 at_127 rfl (pc' := 129) rfl ?_
    refine g_iconst A182 at_129 (v := (2 : Int32)) rfl (pc' := 130) rfl ?_
    refine g_icN A182 at_130 (c2_le_f (by decide)) (pc' := 133) rfl ?_
    refine g_aload A182 at_133 rfl rfl (pc' := 135) rfl ?_
    refine g_iconst A182 at_135 (v := (2 : Int32)) rfl (pc' := 136) rfl ?_
    refine g_iload A182 at_136 rfl (pc' := 138) rfl ?_
    refine g_i2d A182 at_138 (pc' := 139) rfl ?_
    obtain ⟨T188, h188, A188, e188, W188, st188⟩ := s_dastore A182 hZ e182 (ls := #[.val (.int p0), .val (.int p1), .val (.int p2), .val (.int p3), .val (.int p4), .val (.int (3 : Int32)), .val (.int y18), .val (.int y20), .val (.int y22), .val (.int y24), .val (.int y26), .val (.int y28), .val (.int y30), .val (.int y32), .val (.ref b147), .val (.ref b155), .val (.long (((0 : Int64) + ((y18.toInt64) * (y26.toInt64))) + ((y20.toInt64) * (y28.toInt64)))), .second, .unset, .unset]) (st := []) (x := (FP.i2d y22)) V185 (i := 2) (by decide) (j := (2 : Int32)) rfl at_139 (pc' := 140) rfl
    have N189 := Fr.snoc A188.1 N183 g148
    have K190 : Keep h0 h188 [] := K184.wr W188 (Or.inr gh149)
    have V191 : Dar Z h188 b155 .double 3 (fun j => if j = 1 then .double (FP.i2d y28) else (fun j => if j = 0 then .double (FP.i2d y26) else (fun _ => .double (0 : UInt64)) j) j) := Dar.other W188 V186 (Ne.symm ne156)
    have V192 : Dar Z h188 b147 .double 3 (fun j => if j = 2 then .double (FP.i2d y22) else (fun j => if j = 1 then .double (FP.i2d y20) else (fun j => if j = 0 then .double (FP.i2d y18) else (fun _ => .double (0 : UInt64)) j) j) j) := Dar.set V185 W188 (fun _ _ => rfl)
    have Z193 : n0 ≤ h188.size := by rw [W188.size]; exact Z187
    refine st188 ?_
    refine g_aload A188 at_140 rfl rfl (pc' := 142) rfl ?_
    refine g_iconst A188 at_142 (v := (2 : Int32)) rfl (pc' := 143) rfl ?_
    refine g_iload A188 at_143 rfl (pc' := 145) rfl ?_
    refine g_i2d A188 at_145 (pc' := 146) rfl ?_
    obtain ⟨T194, h194, A194, e194, W194, st194⟩ := s_dastore A188 hZ e188 (ls := #[.val (.int p0), .val (.int p1), .val (.int p2), .val (.int p3), .val (.int p4), .val (.int (3 : Int32)), .val (.int y18), .val (.int y20), .val (.int y22), .val (.int y24), .val (.int y26), .val (.int y28), .val (.int y30), .val (.int y32), .val (.ref b147), .val (.ref b155), .val (.long (((0 : Int64) + ((y18.toInt64) * (y26.toInt64))) + ((y20.toInt64) * (y28.toInt64)))), .second, .unset, .unset]) (st := []) (x := (FP.i2d y30)) V191 (i := 2) (by decide) (j := (2 : Int32)) rfl at_146 (pc' := 147) rfl
    have N195 := Fr.snoc A194.1 N189 g157
    have K196 : Keep h0 h194 [] := K190.wr W194 (Or.inr gh158)
    have V197 : Dar Z h194 b147 .double 3 (fun j => if j = 2 then .double (FP.i2d y22) else (fun j => if j = 1 then .double (FP.i2d y20) else (fun j => if j = 0 then .double (FP.i2d y18) else (fun _ => .double (0 : UInt64)) j) j) j) := Dar.other W194 V192 ne156
    have V198 : Dar Z h194 b155 .double 3 (fun j => if j = 2 then .double (FP.i2d y30) else (fun j => if j = 1 then .double (FP.i2d y28) else (fun j => if j = 0 then .double (FP.i2d y26) else (fun _ => .double (0 : UInt64)) j) j) j) := Dar.set V191 W194 (fun _ _ => rfl)
    have Z199 : n0 ≤ h194.size := by rw [W194.size]; exact Z193
    refine st194 ?_
    refine g_lload A194 at_147 rfl (pc' := 149) rfl ?_
    refine g_iload A194 at_149 rfl (pc' := 151) rfl ?_
    refine g_i2l A194 at_151 (pc' := 152) rfl ?_
    refine g_iload A194 at_152 rfl (pc' := 154) rfl ?_
    refine g_i2l A194 at_154 (pc' := 155) rfl ?_
    refine g_lmul A194 at_155 (pc' := 156) rfl ?_
    refine g_ladd A194 at_156 (pc' := 157) rfl ?_
    refine g_lstore A194 at_157 (ls' := #[.val (.int p0), .val (.int p1), .val (.int p2), .val (.int p3), .val (.int p4), .val (.int (3 : Int32)), .val (.int y18), .val (.int y20), .val (.int y22), .val (.int y24), .val (.int y26), .val (.int y28), .val (.int y30), .val (.int y32), .val (.ref b147), .val (.ref b155), .val (.long ((((0 : Int64) + ((y18.toInt64) * (y26.toInt64))) + ((y20.toInt64) * (y28.toInt64))) + ((y22.toInt64) * (y30.toInt64)))), .second, .unset, .unset]) rfl (pc' := 159) rfl ?_
    refine g_iload A194 at_159 rfl (pc' := 161) rfl ?_
    refine g_iconst A194 at_161 (v := (3 : Int32)) rfl (pc' := 162) rfl ?_
    refine g_icY A194 at_162 (c2_le_t (by decide)) (pc' := 191) rfl ?_
    refine g_aload A194 at_191 rfl rfl (pc' := 193) rfl ?_
    refine g_aload A194 at_193 rfl rfl (pc' := 195) rfl ?_
    have ac200 := own_acc1 (by decide) own_acc0 hb19 hb27
    have ac201 := own_acc1 (by decide) ac200 hb21 hb29
    have ac202 := own_acc1 (by decide) ac201 hb23 hb31
    obtain ⟨_, _, ⟨T203, L203, k203, n203⟩, -, X203, ⟨L203c, hQ203, l203, y203, z203⟩, st203⟩ := Jvm.LawKit.callS A194.1 hx (y := (⟨"com/example/pursuant/pursuant/selection/OrthogonalBasis", "dot", "([D[D)D"⟩ : MethodName)) hown (mvT hZ (hw _ (List.mem_of_getElem? (i := 2) rfl))) (mvT hZ (hw _ (List.mem_of_getElem? (i := 3) rfl))) (mvT hZ (hw _ (List.mem_of_getElem? (i := 4) rfl))) (mvT hZ (hw _ (List.mem_of_getElem? (i := 5) rfl))) (by decide) (backOf (W := 0) (rmD3 l Z a0 hw [] b147 b155 (fun j => if j = 2 then .double (FP.i2d y22) else (fun j => if j = 1 then .double (FP.i2d y20) else (fun j => if j = 0 then .double (FP.i2d y18) else (fun _ => .double (0 : UInt64)) j) j) j) (fun j => if j = 2 then .double (FP.i2d y30) else (fun j => if j = 1 then .double (FP.i2d y28) else (fun j => if j = 0 then .double (FP.i2d y26) else (fun _ => .double (0 : UInt64)) j) j) j) (FP.i2d y18) (FP.i2d y26) (FP.i2d y20) (FP.i2d y28) (FP.i2d y22) (FP.i2d y30) h194 n0 Z199 V197 V198 rfl rfl (i2d_fin y18) (i2d_fin y26) (own_dfin ac200.1).noNaN rfl rfl (i2d_fin y20) (i2d_fin y28) (own_dfin ac201.1).noNaN rfl rfl (i2d_fin y22) (i2d_fin y30) (own_dfin ac202.1).noNaN) hZ (hw _ (List.mem_of_getElem? (i := 5) rfl)) (hw _ (List.mem_of_getElem? (i := 4) rfl)) (by decide) (by decide)) (g := (mkF m 195 #[.val (.int p0), .val (.int p1), .val (.int p2), .val (.int p3), .val (.int p4), .val (.int (3 : Int32)), .val (.int y18), .val (.int y20), .val (.int y22), .val (.int y24), .val (.int y26), .val (.int y28), .val (.int y30), .val (.int y32), .val (.ref b147), .val (.ref b155), .val (.long ((((0 : Int64) + ((y18.toInt64) * (y26.toInt64))) + ((y20.toInt64) * (y28.toInt64))) + ((y22.toInt64) * (y30.toInt64)))), .second, .unset, .unset] [(.ref b155), (.ref b147)])) rfl (by rw [hml]; rfl) (argsL := [(.ref b147), (.ref b155)]) (rest := []) (lenOf pd_0 rfl) rfl (by show 2 * 0 + _ ≤ _; exact Nat.le_of_eq rfl) (hb hby at_195) (fun _ _ => ⟨rfl, e194, (by decide : 2 + 0 ≤ _), (by decide : 6 + 0 ≤ _)⟩)
    dsimp only [Pt.U, Pt.locs, Pt.cells, Pt.slots] at X203 l203 y203 z203 st203 hQ203
    subst l203 y203 z203
    obtain ⟨rfl, Nq204, Kq205⟩ := hQ203
    have N206 := Fr.app N195 Nq204
    refine Go.of (g' := (mkF m 198 #[.val (.int p0), .val (.int p1), .val (.int p2), .val (.int p3), .val (.int p4), .val (.int (3 : Int32)), .val (.int y18), .val (.int y20), .val (.int y22), .val (.int y24), .val (.int y26), .val (.int y28), .val (.int y30), .val (.int y32), .val (.ref b147), .val (.ref b155), .val (.long ((((0 : Int64) + ((y18.toInt64) * (y26.toInt64))) + ((y20.toInt64) * (y28.toInt64))) + ((y22.toInt64) * (y30.toInt64)))), .second, .unset, .unset] [(.double (FP.dadd (FP.dadd (FP.dadd (0 : UInt64) (FP.dmul (FP.i2d y18) (FP.i2d y26))) (FP.dmul (FP.i2d y20) (FP.i2d y28))) (FP.dmul (FP.i2d y22) (FP.i2d y30))))])) st203 ?_
    have e207 : T203.heap = h194 := Kq205
    have A208 := (⟨X203, hx, hby⟩ : Ax _ _ _ _ _ _ _ _ _ _ _ _ _ _ _)
    refine g_dstore A208 at_198 (ls' := #[.val (.int p0), .val (.int p1), .val (.int p2), .val (.int p3), .val (.int p4), .val (.int (3 : Int32)), .val (.int y18), .val (.int y20), .val (.int y22), .val (.int y24), .val (.int y26), .val (.int y28), .val (.int y30), .val (.int y32), .val (.ref b147), .val (.ref b155), .val (.long ((((0 : Int64) + ((y18.toInt64) * (y26.toInt64))) + ((y20.toInt64) * (y28.toInt64))) + ((y22.toInt64) * (y30.toInt64)))), .second, .val (.double (FP.dadd (FP.dadd (FP.dadd (0 : UInt64) (FP.dmul (FP.i2d y18) (FP.i2d y26))) (FP.dmul (FP.i2d y20) (FP.i2d y28))) (FP.dmul (FP.i2d y22) (FP.i2d y30)))), .second]) rfl (pc' := 200) rfl ?_
    refine g_dload A208 at_200 rfl (pc' := 202) rfl ?_
    refine g_lload A208 at_202 rfl (pc' := 204) rfl ?_
    refine g_l2d A208 at_204 (pc' := 205) rfl ?_
    refine g_dcmp A208 at_205 (pc' := 206) rfl ?_
    refine g_ifN A208 at_206 (d_l_ne_f (own_end (by decide) ac202)) (pc' := 209) rfl ?_
    refine g_iconst A208 at_209 (v := (1 : Int32)) rfl (pc' := 210) rfl ?_
    refine g_goto A208 at_210 (pc' := 214) rfl ?_
    exact g_ret (Q := Q0 Z p0 p1 p2 p3 p4 h0 n0) A208 at_214 Bd.notSynchronized Bd.returns rfl (Or.inl ⟨rfl, by simp, _, rfl⟩) (by decide) (by decide) (by rw [e207]; exact ⟨rfl, N206⟩)
  · skip
    rw [hg34]
    refine g_iload A0 at_49 rfl (pc' := 51) rfl ?_
    obtain ⟨T209, h209, k209, X209, e209, E209, Ar209, st209⟩ := newP X0 hx hZ (hw _ (List.mem_of_getElem? (i := 1) rfl)) e0 (g := (mkF m 51 #[.val (.int p0), .val (.int p1), .val (.int p2), .val (.int p3), .val (.int p4), .val (.int (4 : Int32)), .val (.int y18), .val (.int y20), .val (.int y22), .val (.int y24), .val (.int y26), .val (.int y28), .val (.int y30), .val (.int y32), .unset, .unset, .unset, .unset, .unset, .unset] [(.int (4 : Int32))])) rfl (hb hby at_51) rfl (by decide) (cap := 4) (by decide) (by decide) (by decide) (by decide)
    obtain ⟨b210, eb210⟩ : ∃ z, z = h0.size := ⟨_, rfl⟩
    rw [← eb210] at Ar209 st209
    have g211 : n0 ≤ b210 := by rw [eb210]; exact Z0
    have gh212 : h0.size ≤ b210 := by rw [eb210]; exact (Keep.refl h0 []).1
    have K213 : Keep h0 h209 [] := (Keep.refl h0 []).ext E209
    have Z214 : n0 ≤ h209.size := Nat.le_trans Z0 E209.1
    have V215 : Dar Z h209 b210 .double 4 (fun _ => .double (0 : UInt64)) := Dar.new Ar209 (by decide)
    refine Go.of (g' := (mkF m 53 #[.val (.int p0), .val (.int p1), .val (.int p2), .val (.int p3), .val (.int p4), .val (.int (4 : Int32)), .val (.int y18), .val (.int y20), .val (.int y22), .val (.int y24), .val (.int y26), .val (.int y28), .val (.int y30), .val (.int y32), .unset, .unset, .unset, .unset, .unset, .unset] [(.ref b210)])) st209 ?_
    have A216 := (⟨X209, hx, hby⟩ : Ax _ _ _ _ _ _ _ _ _ _ _ _ _ _ _)
    refine g_astore A216 at_53 rfl (ls' := #[.val (.int p0), .val (.int p1), .val (.int p2), .val (.int p3), .val (.int p4), .val (.int (4 : Int32)), .val (.int y18), .val (.int y20), .val (.int y22), .val (.int y24), .val (.int y26), .val (.int y28), .val (.int y30), .val (.int y32), .val (.ref b210), .unset, .unset, .unset, .unset, .unset]) rfl (pc' := 55) rfl ?_
    refine g_iload A216 at_55 rfl (pc' := 57) rfl ?_
    obtain ⟨T217, h217, k217, X217, e217, E217, Ar217, st217⟩ := newP X209 hx hZ (hw _ (List.mem_of_getElem? (i := 1) rfl)) e209 (g := (mkF m 57 #[.val (.int p0), .val (.int p1), .val (.int p2), .val (.int p3), .val (.int p4), .val (.int (4 : Int32)), .val (.int y18), .val (.int y20), .val (.int y22), .val (.int y24), .val (.int y26), .val (.int y28), .val (.int y30), .val (.int y32), .val (.ref b210), .unset, .unset, .unset, .unset, .unset] [(.int (4 : Int32))])) rfl (hb hby at_57) rfl (by decide) (cap := 4) (by decide) (by decide) (by decide) (by decide)
    obtain ⟨b218, eb218⟩ : ∃ z, z = h209.size := ⟨_, rfl⟩
    rw [← eb218] at Ar217 st217
    have ne219 : b210 ≠ b218 := own_ne eb218 V215.lt
    have g220 : n0 ≤ b218 := by rw [eb218]; exact Z214
    have gh221 : h0.size ≤ b218 := by rw [eb218]; exact K213.1
    have K222 : Keep h0 h217 [] := K213.ext E217
    have V223 : Dar Z h217 b210 .double 4 (fun _ => .double (0 : UInt64)) := Dar.ext E217 V215
    have Z224 : n0 ≤ h217.size := Nat.le_trans Z214 E217.1
    have V225 : Dar Z h217 b218 .double 4 (fun _ => .double (0 : UInt64)) := Dar.new Ar217 (by decide)
    refine Go.of (g' := (mkF m 59 #[.val (.int p0), .val (.int p1), .val (.int p2), .val (.int p3), .val (.int p4), .val (.int (4 : Int32)), .val (.int y18), .val (.int y20), .val (.int y22), .val (.int y24), .val (.int y26), .val (.int y28), .val (.int y30), .val (.int y32), .val (.ref b210), .unset, .unset, .unset, .unset, .unset] [(.ref b218)])) st217 ?_
    have A226 := (⟨X217, hx, hby⟩ : Ax _ _ _ _ _ _ _ _ _ _ _ _ _ _ _)
    refine g_astore A226 at_59 rfl (ls' := #[.val (.int p0), .val (.int p1), .val (.int p2), .val (.int p3), .val (.int p4), .val (.int (4 : Int32)), .val (.int y18), .val (.int y20), .val (.int y22), .val (.int y24), .val (.int y26), .val (.int y28), .val (.int y30), .val (.int y32), .val (.ref b210), .val (.ref b218), .unset, .unset, .unset, .unset]) rfl (pc' := 61) rfl ?_
    refine g_lconst A226 at_61 (v := (0 : Int64)) rfl (pc' := 62) rfl ?_
    refine g_lstore A226 at_62 (ls' := #[.val (.int p0), .val (.int p1), .val (.int p2), .val (.int p3), .val (.int p4), .val (.int (4 : Int32)), .val (.int y18), .val (.int y20), .val (.int y22), .val (.int y24), .val (.int y26), .val (.int y28), .val (.int y30), .val (.int y32), .val (.ref b210), .val (.ref b218), .val (.long (0 : Int64)), .second, .unset, .unset]) rfl (pc' := 64) rfl ?_
    refine g_iload A226 at_64 rfl (pc' := 66) rfl ?_
    refine g_ifN A226 at_66 (c0_le_f (by decide)) (pc' := 69) rfl ?_
    refine g_aload A226 at_69 rfl rfl (pc' := 71) rfl ?_
    refine g_iconst A226 at_71 (v := (0 : Int32)) rfl (pc' := 72) rfl ?_
    refine g_iload A226 at_72 rfl (pc' := 74) rfl ?_
    refine g_i2d A226 at_74 (pc' := 75) rfl ?_
    obtain ⟨T227, h227, A227, e227, W227, st227⟩ := s_dastore A226 hZ e217 (ls := #[.val (.int p0), .val (.int p1), .val (.int p2), .val (.int p3), .val (.int p4), .val (.int (4 : Int32)), .val (.int y18), .val (.int y20), .val (.int y22), .val (.int y24), .val (.int y26), .val (.int y28), .val (.int y30), .val (.int y32), .val (.ref b210), .val (.ref b218), .val (.long (0 : Int64)), .second, .unset, .unset]) (st := []) (x := (FP.i2d y18)) V223 (i := 0) (by decide) (j := (0 : Int32)) rfl at_75 (pc' := 76) rfl
    have N228 := Fr.snoc A227.1 N0 g211
    have K229 : Keep h0 h227 [] := K222.wr W227 (Or.inr gh212)
    have V230 : Dar Z h227 b218 .double 4 (fun _ => .double (0 : UInt64)) := Dar.other W227 V225 (Ne.symm ne219)
    have V231 : Dar Z h227 b210 .double 4 (fun j => if j = 0 then .double (FP.i2d y18) else (fun _ => .double (0 : UInt64)) j) := Dar.set V223 W227 (fun _ _ => rfl)
    have Z232 : n0 ≤ h227.size := by rw [W227.size]; exact Z224
    refine st227 ?_
    refine g_aload A227 at_76 rfl rfl (pc' := 78) rfl ?_
    refine g_iconst A227 at_78 (v := (0 : Int32)) rfl (pc' := 79) rfl ?_
    refine g_iload A227 at_79 rfl (pc' := 81) rfl ?_
    refine g_i2d A227 at_81 (pc' := 82) rfl ?_
    obtain ⟨T233, h233, A233, e233, W233, st233⟩ := s_dastore A227 hZ e227 (ls := #[.val (.int p0), .val (.int p1), .val (.int p2), .val (.int p3), .val (.int p4), .val (.int (4 : Int32)), .val (.int y18), .val (.int y20), .val (.int y22), .val (.int y24), .val (.int y26), .val (.int y28), .val (.int y30), .val (.int y32), .val (.ref b210), .val (.ref b218), .val (.long (0 : Int64)), .second, .unset, .unset]) (st := []) (x := (FP.i2d y26)) V230 (i := 0) (by decide) (j := (0 : Int32)) rfl at_82 (pc' := 83) rfl
    have N234 := Fr.snoc A233.1 N228 g220
    have K235 : Keep h0 h233 [] := K229.wr W233 (Or.inr gh221)
    have V236 : Dar Z h233 b210 .double 4 (fun j => if j = 0 then .double (FP.i2d y18) else (fun _ => .double (0 : UInt64)) j) := Dar.other W233 V231 ne219
    have V237 : Dar Z h233 b218 .double 4 (fun j => if j = 0 then .double (FP.i2d y26) else (fun _ => .double (0 : UInt64)) j) := Dar.set V230 W233 (fun _ _ => rfl)
    have Z238 : n0 ≤ h233.size := by rw [W233.size]; exact Z232
    refine st233 ?_
    refine g_lload A233 at_83 rfl (pc' := 85) rfl ?_
    refine g_iload A233 at_85 rfl (pc' := 87) rfl ?_
    refine g_i2l A233 at_87 (pc' := 88) rfl ?_
    refine g_iload A233 at_88 rfl (pc' := 90) rfl ?_
    refine g_i2l A233 at_90 (pc' := 91) rfl ?_
    refine g_lmul A233 at_91 (pc' := 92) rfl ?_
    refine g_ladd A233 at_92 (pc' := 93) rfl ?_
    refine g_lstore A233 at_93 (ls' := #[.val (.int p0), .val (.int p1), .val (.int p2), .val (.int p3), .val (.int p4), .val (.int (4 : Int32)), .val (.int y18), .val (.int y20), .val (.int y22), .val (.int y24), .val (.int y26), .val (.int y28), .val (.int y30), .val (.int y32), .val (.ref b210), .val (.ref b218), .val (.long ((0 : Int64) + ((y18.toInt64) * (y26.toInt64)))), .second, .unset, .unset]) rfl (pc' := 95) rfl ?_
    refine g_iload A233 at_95 rfl (pc' := 97) rfl ?_
    refine g_iconst A233 at_97 (v := (1 : Int32)) rfl (pc' := 98) rfl ?_
    refine g_icN A233 at_98 (c2_le_f (by decide)) (pc' := 101) rfl ?_
    refine g_aload A233 at_101 rfl rfl (pc' := 103) rfl ?_
    refine g_iconst A233 at_103 (v := (1 : Int32)) rfl (pc' := 104) rfl ?_
    refine g_iload A233 at_104 rfl (pc' := 106) rfl ?_
    refine g_i2d A233 at_106 (pc' := 107) rfl ?_
    obtain ⟨T239, h239, A239, e239, W239, st239⟩ := s_dastore A233 hZ e233 (ls := #[.val (.int p0), .val (.int p1), .val (.int p2), .val (.int p3), .val (.int p4), .val (.int (4 : Int32)), .val (.int y18), .val (.int y20), .val (.int y22), .val (.int y24), .val (.int y26), .val (.int y28), .val (.int y30), .val (.int y32), .val (.ref b210), .val (.ref b218), .val (.long ((0 : Int64) + ((y18.toInt64) * (y26.toInt64)))), .second, .unset, .unset]) (st := []) (x := (FP.i2d y20)) V236 (i := 1) (by decide) (j := (1 : Int32)) rfl at_107 (pc' := 108) rfl
    have N240 := Fr.snoc A239.1 N234 g211
    have K241 : Keep h0 h239 [] := K235.wr W239 (Or.inr gh212)
    have V242 : Dar Z h239 b218 .double 4 (fun j => if j = 0 then .double (FP.i2d y26) else (fun _ => .double (0 : UInt64)) j) := Dar.other W239 V237 (Ne.symm ne219)
    have V243 : Dar Z h239 b210 .double 4 (fun j => if j = 1 then .double (FP.i2d y20) else (fun j => if j = 0 then .double (FP.i2d y18) else (fun _ => .double (0 : UInt64)) j) j) := Dar.set V236 W239 (fun _ _ => rfl)
    have Z244 : n0 ≤ h239.size := by rw [W239.size]; exact Z238
    refine st239 ?_
    refine g_aload A239 at_108 rfl rfl (pc' := 110) rfl ?_
    refine g_iconst A239 at_110 (v := (1 : Int32)) rfl (pc' := 111) rfl ?_
    refine g_iload A239 at_111 rfl (pc' := 113) rfl ?_
    refine g_i2d A239 at_113 (pc' := 114) rfl ?_
    obtain ⟨T245, h245, A245, e245, W245, st245⟩ := s_dastore A239 hZ e239 (ls := #[.val (.int p0), .val (.int p1), .val (.int p2), .val (.int p3), .val (.int p4), .val (.int (4 : Int32)), .val (.int y18), .val (.int y20), .val (.int y22), .val (.int y24), .val (.int y26), .val (.int y28), .val (.int y30), .val (.int y32), .val (.ref b210), .val (.ref b218), .val (.long ((0 : Int64) + ((y18.toInt64) * (y26.toInt64)))), .second, .unset, .unset]) (st := []) (x := (FP.i2d y28)) V242 (i := 1) (by decide) (j := (1 : Int32)) rfl at_114 (pc' := 115) rfl
    have N246 := Fr.snoc A245.1 N240 g220
    have K247 : Keep h0 h245 [] := K241.wr W245 (Or.inr gh221)
    have V248 : Dar Z h245 b210 .double 4 (fun j => if j = 1 then .double (FP.i2d y20) else (fun j => if j = 0 then .double (FP.i2d y18) else (fun _ => .double (0 : UInt64)) j) j) := Dar.other W245 V243 ne219
    have V249 : Dar Z h245 b218 .double 4 (fun j => if j = 1 then .double (FP.i2d y28) else (fun j => if j = 0 then .double (FP.i2d y26) else (fun _ => .double (0 : UInt64)) j) j) := Dar.set V242 W245 (fun _ _ => rfl)
    have Z250 : n0 ≤ h245.size := by rw [W245.size]; exact Z244
    refine st245 ?_
    refine g_lload A245 at_115 rfl (pc' := 117) rfl ?_
    refine g_iload A245 at_117 rfl (pc' := 119) rfl ?_
    refine g_i2l A245 at_119 (pc' := 120) rfl ?_
    refine g_iload A245 at_120 rfl (pc' := 122) rfl ?_
    refine g_i2l A245 at_122 (pc' := 123) rfl ?_
    refine g_lmul A245 at_123 (pc' := 124) rfl ?_
    refine g_ladd A245 at_124 (pc' := 125) rfl ?_
    refine g_lstore A245 at_125 (ls' := #[.val (.int p0), .val (.int p1), .val (.int p2), .val (.int p3), .val (.int p4), .val (.int (4 : Int32)), .val (.int y18), .val (.int y20), .val (.int y22), .val (.int y24), .val (.int y26), .val (.int y28), .val (.int y30), .val (.int y32), .val (.ref b210), .val (.ref b218), .val (.long (((0 : Int64) + ((y18.toInt64) * (y26.toInt64))) + ((y20.toInt64) * (y28.toInt64)))), .second, .unset, .unset]) rfl (pc' := 127) rfl ?_
    refine g_iload A245 at_127 rfl (pc' := 129) rfl ?_
    refine g_iconst A245 at_129 (v := (2 : Int32)) rfl (pc' := 130) rfl ?_
    refine g_icN A245 at_130 (c2_le_f (by decide)) (pc' := 133) rfl ?_
    refine g_aload A245 at_133 rfl rfl (pc' := 135) rfl ?_
    refine g_iconst A245 at_135 (v := (2 : Int32)) rfl (pc' := 136) rfl ?_
    refine g_iload A245 at_136 rfl (pc' := 138) rfl ?_
    refine g_i2d A245 at_138 (pc' := 139) rfl ?_
    obtain ⟨T251, h251, A251, e251, W251, st251⟩ := s_dastore A245 hZ e245 (ls := #[.val (.int p0), .val (.int p1), .val (.int p2), .val (.int p3), .val (.int p4), .val (.int (4 : Int32)), .val (.int y18), .val (.int y20), .val (.int y22), .val (.int y24), .val (.int y26), .val (.int y28), .val (.int y30), .val (.int y32), .val (.ref b210), .val (.ref b218), .val (.long (((0 : Int64) + ((y18.toInt64) * (y26.toInt64))) + ((y20.toInt64) * (y28.toInt64)))), .second, .unset, .unset]) (st := []) (x := (FP.i2d y22)) V248 (i := 2) (by decide) (j := (2 : Int32)) rfl at_139 (pc' := 140) rfl
    have N252 := Fr.snoc A251.1 N246 g211
    have K253 : Keep h0 h251 [] := K247.wr W251 (Or.inr gh212)
    have V254 : Dar Z h251 b218 .double 4 (fun j => if j = 1 then .double (FP.i2d y28) else (fun j => if j = 0 then .double (FP.i2d y26) else (fun _ => .double (0 : UInt64)) j) j) := Dar.other W251 V249 (Ne.symm ne219)
    have V255 : Dar Z h251 b210 .double 4 (fun j => if j = 2 then .double (FP.i2d y22) else (fun j => if j = 1 then .double (FP.i2d y20) else (fun j => if j = 0 then .double (FP.i2d y18) else (fun _ => .double (0 : UInt64)) j) j) j) := Dar.set V248 W251 (fun _ _ => rfl)
    have Z256 : n0 ≤ h251.size := by rw [W251.size]; exact Z250
    refine st251 ?_
    refine g_aload A251 at_140 rfl rfl (pc' := 142) rfl ?_
    refine g_iconst A251 at_142 (v := (2 : Int32)) rfl (pc' := 143) rfl ?_
    refine g_iload A251 at_143 rfl (pc' := 145) rfl ?_
    refine g_i2d A251 at_145 (pc' := 146) rfl ?_
    obtain ⟨T257, h257, A257, e257, W257, st257⟩ := s_dastore A251 hZ e251 (ls := #[.val (.int p0), .val (.int p1), .val (.int p2), .val (.int p3), .val (.int p4), .val (.int (4 : Int32)), .val (.int y18), .val (.int y20), .val (.int y22), .val (.int y24), .val (.int y26), .val (.int y28), .val (.int y30), .val (.int y32), .val (.ref b210), .val (.ref b218), .val (.long (((0 : Int64) + ((y18.toInt64) * (y26.toInt64))) + ((y20.toInt64) * (y28.toInt64)))), .second, .unset, .unset]) (st := []) (x := (FP.i2d y30)) V254 (i := 2) (by decide) (j := (2 : Int32)) rfl at_146 (pc' := 147) rfl
    have N258 := Fr.snoc A257.1 N252 g220
    have K259 : Keep h0 h257 [] := K253.wr W257 (Or.inr gh221)
    have V260 : Dar Z h257 b210 .double 4 (fun j => if j = 2 then .double (FP.i2d y22) else (fun j => if j = 1 then .double (FP.i2d y20) else (fun j => if j = 0 then .double (FP.i2d y18) else (fun _ => .double (0 : UInt64)) j) j) j) := Dar.other W257 V255 ne219
    have V261 : Dar Z h257 b218 .double 4 (fun j => if j = 2 then .double (FP.i2d y30) else (fun j => if j = 1 then .double (FP.i2d y28) else (fun j => if j = 0 then .double (FP.i2d y26) else (fun _ => .double (0 : UInt64)) j) j) j) := Dar.set V254 W257 (fun _ _ => rfl)
    have Z262 : n0 ≤ h257.size := by rw [W257.size]; exact Z256
    refine st257 ?_
    refine g_lload A257 at_147 rfl (pc' := 149) rfl ?_
    refine g_iload A257 at_149 rfl (pc' := 151) rfl ?_
    refine g_i2l A257 at_151 (pc' := 152) rfl ?_
    refine g_iload A257 at_152 rfl (pc' := 154) rfl ?_
    refine g_i2l A257 at_154 (pc' := 155) rfl ?_
    refine g_lmul A257 at_155 (pc' := 156) rfl ?_
    refine g_ladd A257 at_156 (pc' := 157) rfl ?_
    refine g_lstore A257 at_157 (ls' := #[.val (.int p0), .val (.int p1), .val (.int p2), .val (.int p3), .val (.int p4), .val (.int (4 : Int32)), .val (.int y18), .val (.int y20), .val (.int y22), .val (.int y24), .val (.int y26), .val (.int y28), .val (.int y30), .val (.int y32), .val (.ref b210), .val (.ref b218), .val (.long ((((0 : Int64) + ((y18.toInt64) * (y26.toInt64))) + ((y20.toInt64) * (y28.toInt64))) + ((y22.toInt64) * (y30.toInt64)))), .second, .unset, .unset]) rfl (pc' := 159) rfl ?_
    refine g_iload A257 at_159 rfl (pc' := 161) rfl ?_
    refine g_iconst A257 at_161 (v := (3 : Int32)) rfl (pc' := 162) rfl ?_
    refine g_icN A257 at_162 (c2_le_f (by decide)) (pc' := 165) rfl ?_
    refine g_aload A257 at_165 rfl rfl (pc' := 167) rfl ?_
    refine g_iconst A257 at_167 (v := (3 : Int32)) rfl (pc' := 168) rfl ?_
    refine g_iload A257 at_168 rfl (pc' := 170) rfl ?_
    refine g_i2d A257 at_170 (pc' := 171) rfl ?_
    obtain ⟨T263, h263, A263, e263, W263, st263⟩ := s_dastore A257 hZ e257 (ls := #[.val (.int p0), .val (.int p1), .val (.int p2), .val (.int p3), .val (.int p4), .val (.int (4 : Int32)), .val (.int y18), .val (.int y20), .val (.int y22), .val (.int y24), .val (.int y26), .val (.int y28), .val (.int y30), .val (.int y32), .val (.ref b210), .val (.ref b218), .val (.long ((((0 : Int64) + ((y18.toInt64) * (y26.toInt64))) + ((y20.toInt64) * (y28.toInt64))) + ((y22.toInt64) * (y30.toInt64)))), .second, .unset, .unset]) (st := []) (x := (FP.i2d y24)) V260 (i := 3) (by decide) (j := (3 : Int32)) rfl at_171 (pc' := 172) rfl
    have N264 := Fr.snoc A263.1 N258 g211
    have K265 : Keep h0 h263 [] := K259.wr W263 (Or.inr gh212)
    have V266 : Dar Z h263 b218 .double 4 (fun j => if j = 2 then .double (FP.i2d y30) else (fun j => if j = 1 then .double (FP.i2d y28) else (fun j => if j = 0 then .double (FP.i2d y26) else (fun _ => .double (0 : UInt64)) j) j) j) := Dar.other W263 V261 (Ne.symm ne219)
    have V267 : Dar Z h263 b210 .double 4 (fun j => if j = 3 then .double (FP.i2d y24) else (fun j => if j = 2 then .double (FP.i2d y22) else (fun j => if j = 1 then .double (FP.i2d y20) else (fun j => if j = 0 then .double (FP.i2d y18) else (fun _ => .double (0 : UInt64)) j) j) j) j) := Dar.set V260 W263 (fun _ _ => rfl)
    have Z268 : n0 ≤ h263.size := by rw [W263.size]; exact Z262
    refine st263 ?_
    refine g_aload A263 at_172 rfl rfl (pc' := 174) rfl ?_
    refine g_iconst A263 at_174 (v := (3 : Int32)) rfl (pc' := 175) rfl ?_
    refine g_iload A263 at_175 rfl (pc' := 177) rfl ?_
    refine g_i2d A263 at_177 (pc' := 178) rfl ?_
    obtain ⟨T269, h269, A269, e269, W269, st269⟩ := s_dastore A263 hZ e263 (ls := #[.val (.int p0), .val (.int p1), .val (.int p2), .val (.int p3), .val (.int p4), .val (.int (4 : Int32)), .val (.int y18), .val (.int y20), .val (.int y22), .val (.int y24), .val (.int y26), .val (.int y28), .val (.int y30), .val (.int y32), .val (.ref b210), .val (.ref b218), .val (.long ((((0 : Int64) + ((y18.toInt64) * (y26.toInt64))) + ((y20.toInt64) * (y28.toInt64))) + ((y22.toInt64) * (y30.toInt64)))), .second, .unset, .unset]) (st := []) (x := (FP.i2d y32)) V266 (i := 3) (by decide) (j := (3 : Int32)) rfl at_178 (pc' := 179) rfl
    have N270 := Fr.snoc A269.1 N264 g220
    have K271 : Keep h0 h269 [] := K265.wr W269 (Or.inr gh221)
    have V272 : Dar Z h269 b210 .double 4 (fun j => if j = 3 then .double (FP.i2d y24) else (fun j => if j = 2 then .double (FP.i2d y22) else (fun j => if j = 1 then .double (FP.i2d y20) else (fun j => if j = 0 then .double (FP.i2d y18) else (fun _ => .double (0 : UInt64)) j) j) j) j) := Dar.other W269 V267 ne219
    have V273 : Dar Z h269 b218 .double 4 (fun j => if j = 3 then .double (FP.i2d y32) else (fun j => if j = 2 then .double (FP.i2d y30) else (fun j => if j = 1 then .double (FP.i2d y28) else (fun j => if j = 0 then .double (FP.i2d y26) else (fun _ => .double (0 : UInt64)) j) j) j) j) := Dar.set V266 W269 (fun _ _ => rfl)
    have Z274 : n0 ≤ h269.size := by rw [W269.size]; exact Z268
    refine st269 ?_
    refine g_lload A269 at_179 rfl (pc' := 181) rfl ?_
    refine g_iload A269 at_181 rfl (pc' := 183) rfl ?_
    refine g_i2l A269 at_183 (pc' := 184) rfl ?_
    refine g_iload A269 at_184 rfl (pc' := 186) rfl ?_
    refine g_i2l A269 at_186 (pc' := 187) rfl ?_
    refine g_lmul A269 at_187 (pc' := 188) rfl ?_
    refine g_ladd A269 at_188 (pc' := 189) rfl ?_
    refine g_lstore A269 at_189 (ls' := #[.val (.int p0), .val (.int p1), .val (.int p2), .val (.int p3), .val (.int p4), .val (.int (4 : Int32)), .val (.int y18), .val (.int y20), .val (.int y22), .val (.int y24), .val (.int y26), .val (.int y28), .val (.int y30), .val (.int y32), .val (.ref b210), .val (.ref b218), .val (.long (((((0 : Int64) + ((y18.toInt64) * (y26.toInt64))) + ((y20.toInt64) * (y28.toInt64))) + ((y22.toInt64) * (y30.toInt64))) + ((y24.toInt64) * (y32.toInt64)))), .second, .unset, .unset]) rfl (pc' := 191) rfl ?_
    refine g_aload A269 at_191 rfl rfl (pc' := 193) rfl ?_
    refine g_aload A269 at_193 rfl rfl (pc' := 195) rfl ?_
    have ac275 := own_acc1 (by decide) own_acc0 hb19 hb27
    have ac276 := own_acc1 (by decide) ac275 hb21 hb29
    have ac277 := own_acc1 (by decide) ac276 hb23 hb31
    have ac278 := own_acc1 (by decide) ac277 hb25 hb33
    obtain ⟨_, _, ⟨T279, L279, k279, n279⟩, -, X279, ⟨L279c, hQ279, l279, y279, z279⟩, st279⟩ := Jvm.LawKit.callS A269.1 hx (y := (⟨"com/example/pursuant/pursuant/selection/OrthogonalBasis", "dot", "([D[D)D"⟩ : MethodName)) hown (mvT hZ (hw _ (List.mem_of_getElem? (i := 2) rfl))) (mvT hZ (hw _ (List.mem_of_getElem? (i := 3) rfl))) (mvT hZ (hw _ (List.mem_of_getElem? (i := 4) rfl))) (mvT hZ (hw _ (List.mem_of_getElem? (i := 5) rfl))) (by decide) (backOf (W := 0) (rmD4 l Z a0 hw [] b210 b218 (fun j => if j = 3 then .double (FP.i2d y24) else (fun j => if j = 2 then .double (FP.i2d y22) else (fun j => if j = 1 then .double (FP.i2d y20) else (fun j => if j = 0 then .double (FP.i2d y18) else (fun _ => .double (0 : UInt64)) j) j) j) j) (fun j => if j = 3 then .double (FP.i2d y32) else (fun j => if j = 2 then .double (FP.i2d y30) else (fun j => if j = 1 then .double (FP.i2d y28) else (fun j => if j = 0 then .double (FP.i2d y26) else (fun _ => .double (0 : UInt64)) j) j) j) j) (FP.i2d y18) (FP.i2d y26) (FP.i2d y20) (FP.i2d y28) (FP.i2d y22) (FP.i2d y30) (FP.i2d y24) (FP.i2d y32) h269 n0 Z274 V272 V273 rfl rfl (i2d_fin y18) (i2d_fin y26) (own_dfin ac275.1).noNaN rfl rfl (i2d_fin y20) (i2d_fin y28) (own_dfin ac276.1).noNaN rfl rfl (i2d_fin y22) (i2d_fin y30) (own_dfin ac277.1).noNaN rfl rfl (i2d_fin y24) (i2d_fin y32) (own_dfin ac278.1).noNaN) hZ (hw _ (List.mem_of_getElem? (i := 5) rfl)) (hw _ (List.mem_of_getElem? (i := 4) rfl)) (by decide) (by decide)) (g := (mkF m 195 #[.val (.int p0), .val (.int p1), .val (.int p2), .val (.int p3), .val (.int p4), .val (.int (4 : Int32)), .val (.int y18), .val (.int y20), .val (.int y22), .val (.int y24), .val (.int y26), .val (.int y28), .val (.int y30), .val (.int y32), .val (.ref b210), .val (.ref b218), .val (.long (((((0 : Int64) + ((y18.toInt64) * (y26.toInt64))) + ((y20.toInt64) * (y28.toInt64))) + ((y22.toInt64) * (y30.toInt64))) + ((y24.toInt64) * (y32.toInt64)))), .second, .unset, .unset] [(.ref b218), (.ref b210)])) rfl (by rw [hml]; rfl) (argsL := [(.ref b210), (.ref b218)]) (rest := []) (lenOf pd_0 rfl) rfl (by show 2 * 0 + _ ≤ _; exact Nat.le_of_eq rfl) (hb hby at_195) (fun _ _ => ⟨rfl, e269, (by decide : 2 + 0 ≤ _), (by decide : 8 + 0 ≤ _)⟩)
    dsimp only [Pt.U, Pt.locs, Pt.cells, Pt.slots] at X279 l279 y279 z279 st279 hQ279
    subst l279 y279 z279
    obtain ⟨rfl, Nq280, Kq281⟩ := hQ279
    have N282 := Fr.app N270 Nq280
    refine Go.of (g' := (mkF m 198 #[.val (.int p0), .val (.int p1), .val (.int p2), .val (.int p3), .val (.int p4), .val (.int (4 : Int32)), .val (.int y18), .val (.int y20), .val (.int y22), .val (.int y24), .val (.int y26), .val (.int y28), .val (.int y30), .val (.int y32), .val (.ref b210), .val (.ref b218), .val (.long (((((0 : Int64) + ((y18.toInt64) * (y26.toInt64))) + ((y20.toInt64) * (y28.toInt64))) + ((y22.toInt64) * (y30.toInt64))) + ((y24.toInt64) * (y32.toInt64)))), .second, .unset, .unset] [(.double (FP.dadd (FP.dadd (FP.dadd (FP.dadd (0 : UInt64) (FP.dmul (FP.i2d y18) (FP.i2d y26))) (FP.dmul (FP.i2d y20) (FP.i2d y28))) (FP.dmul (FP.i2d y22) (FP.i2d y30))) (FP.dmul (FP.i2d y24) (FP.i2d y32))))])) st279 ?_
    have e283 : T279.heap = h269 := Kq281
    have A284 := (⟨X279, hx, hby⟩ : Ax _ _ _ _ _ _ _ _ _ _ _ _ _ _ _)
    refine g_dstore A284 at_198 (ls' := #[.val (.int p0), .val (.int p1), .val (.int p2), .val (.int p3), .val (.int p4), .val (.int (4 : Int32)), .val (.int y18), .val (.int y20), .val (.int y22), .val (.int y24), .val (.int y26), .val (.int y28), .val (.int y30), .val (.int y32), .val (.ref b210), .val (.ref b218), .val (.long (((((0 : Int64) + ((y18.toInt64) * (y26.toInt64))) + ((y20.toInt64) * (y28.toInt64))) + ((y22.toInt64) * (y30.toInt64))) + ((y24.toInt64) * (y32.toInt64)))), .second, .val (.double (FP.dadd (FP.dadd (FP.dadd (FP.dadd (0 : UInt64) (FP.dmul (FP.i2d y18) (FP.i2d y26))) (FP.dmul (FP.i2d y20) (FP.i2d y28))) (FP.dmul (FP.i2d y22) (FP.i2d y30))) (FP.dmul (FP.i2d y24) (FP.i2d y32)))), .second]) rfl (pc' := 200) rfl ?_
    refine g_dload A284 at_200 rfl (pc' := 202) rfl ?_
    refine g_lload A284 at_202 rfl (pc' := 204) rfl ?_
    refine g_l2d A284 at_204 (pc' := 205) rfl ?_
    refine g_dcmp A284 at_205 (pc' := 206) rfl ?_
    refine g_ifN A284 at_206 (d_l_ne_f (own_end (by decide) ac278)) (pc' := 209) rfl ?_
    refine g_iconst A284 at_209 (v := (1 : Int32)) rfl (pc' := 210) rfl ?_
    refine g_goto A284 at_210 (pc' := 214) rfl ?_
    exact g_ret (Q := Q0 Z p0 p1 p2 p3 p4 h0 n0) A284 at_214 Bd.notSynchronized Bd.returns rfl (Or.inl ⟨rfl, by simp, _, rfl⟩) (by decide) (by decide) (by rw [e283]; exact ⟨rfl, N282⟩)
set_option maxRecDepth 65536 in
set_option maxHeartbeats 40000000 in
theorem comes_1 {Post : Tables → Env → Array Value → State → Outcome → State → Prop} (hpost : ∀ tb e args s v u, (limb_1_1.after args s (.returned v) u = true ∧ limb_1_2.after args s (.returned v) u = true ∧ True) → FrameEnd s (.returned v) u (Jvm.fieldLocs frame_1_writes args s ++ Jvm.arrayLocs frame_1_arrays args s ++ Jvm.staticLocs frame_1_statics s) 16 128 → Post tb e args s (.returned v) u) :
    ArmFor flags0 classFile x code maxLocals ret World_1 tables_1 room_1 Calls_1 rest_1 Pre_1 Post := by
  intro l hfl _ _ p e ha hc hk s m args below hf hA hF happ hP
  obtain ⟨hcalls, hrest, hpre⟩ := hP
  obtain ⟨-, -, -, hnamed, -, -, -, hat⟩ := (Spec.applies_iff hf).mp happ
  obtain ⟨hg, hn⟩ := and_e (Cond.before_iff.mp (show (Jvm.Cond.and given_1 narrow_1).before args s = true from hpre))
  obtain ⟨g0, hg1⟩ := and_e hg
  obtain ⟨w0, w1, w2, w3, w4, rfl⟩ : ∃ w0 w1 w2 w3 w4 : Value, args = #[w0, w1, w2, w3, w4] := by
    have hs : args.size = 5 := by simpa [Cond.value, given_1] using g0
    obtain ⟨L⟩ := args
    match L, hs with
    | [w0, w1, w2, w3, w4], _ => exact ⟨w0, w1, w2, w3, w4, rfl⟩
  have hw := fun d (hd : d ∈ tables_1) => atoms_spec (ws := Jvm.Cond.code x code maxLocals ret :: tables_1) hat d (List.mem_cons_of_mem _ hd)
  have hfit : Fit s := fun {y c} hc i hi => by
    obtain ⟨ha, rfl⟩ := Array.getElem?_eq_some_iff.mp hc
    have q := List.all_eq_true.mp ((Array.all_eq_true_iff_forall_mem.mp hF) _ (Array.getElem_mem ha)) i (List.mem_range.mpr hi)
    simpa [Array.getElem?_eq_getElem hi] using q
  obtain ⟨k0, hg2⟩ := and_e hg1
  obtain ⟨i0, j0⟩ := is_v k0
  obtain rfl : w0 = (.int i0) := Option.some.inj j0
  obtain ⟨k1, hg3⟩ := and_e hg2
  obtain ⟨i1, j1⟩ := is_v k1
  obtain rfl : w1 = (.int i1) := Option.some.inj j1
  obtain ⟨k2, hg4⟩ := and_e hg3
  obtain ⟨i2, j2⟩ := is_v k2
  obtain rfl : w2 = (.int i2) := Option.some.inj j2
  obtain ⟨k3, hg5⟩ := and_e hg4
  obtain ⟨i3, j3⟩ := is_v k3
  obtain rfl : w3 = (.int i3) := Option.some.inj j3
  obtain ⟨i4, j4⟩ := is_v hg5
  obtain rfl : w4 = (.int i4) := Option.some.inj j4
  obtain ⟨n, o, h1, h2, h3, _, L, rfl, ⟨rfl, N⟩, hq⟩ := rm0 l s _ hw tables_1 i0 i1 i2 i3 i4 s.heap s.heap.size (Nat.le_refl _)  p e ha hc hk s m _ below hf ((Spec.applies_iff_loose hf).mp happ).1 ⟨rfl, State.Warmed39.refl s, rfl⟩ trivial
  refine ⟨n, _, h1, h2, h3, hpost _ _ _ _ _ _ ⟨Cond.after_iff.mpr rfl, Cond.after_iff.mpr (eq_i res_at (Term.int_eval (1)) rfl), trivial⟩ ⟨hq.1, hq.2.1, (hq.2.2.sift fun y hy => Or.inr (N y hy)).mono (by decide) (by decide)⟩⟩
theorem main_1_1 : Claimed_1_1 := comes_1 fun _ _ _ _ _ _ h hF => ⟨h.1, hF⟩
theorem main_1_2 : Claimed_1_2 := comes_1 fun _ _ _ _ _ _ h hF => ⟨h.2.1, hF⟩
end Jvm.Pilot.@@N@@
namespace Jvm.Pilot.@@N@@
open Jvm Jvm.ClassFile Sem Op Lib Jvm.Free Jvm.Stand Jvm.Pilot.@@N@@.Jvm.D
/-! MADE BY PROGRAM (witnessworld.py) out of the Statement's table words and the real class files: 11 classes; the members and pool entries that the words name. The judged class is class 1, her method 1. -/
namespace start1
open Jvm.ClassFile
def u (s : String) : CpInfo := .utf8 (stringToUtf16 s)
/-- a pool by its gaps: so many unusable entries, then the entry; so many at the end -/
def gap : Nat → List CpInfo → List CpInfo
  | 0, r => r
  | n + 1, r => .unusable :: gap n r
def poolList (es : List (Nat × CpInfo)) (last : Nat) : List CpInfo := es.foldr (fun e r => gap e.1 (e.2 :: r)) (gap last [])
def pool (es : List (Nat × CpInfo)) (last : Nat) : Array CpInfo := ⟨poolList es last⟩
def fileOf (pool : Array CpInfo) (this : Nat) (attrs : Array Attribute := #[]) (ms : Array MethodInfo := #[]) (fl : Nat := 33) (sup : Nat := 0) (ifs : Array Nat := #[]) (fds : Array FieldInfo := #[]) : ClassFile where
  minorVersion := 0
  majorVersion := 65
  constantPool := pool
  accessFlags := fl
  thisClass := this
  superClass := sup
  interfaces := ifs
  fields := fds
  methods := ms
  attributes := attrs
def plain (name : String) (sup : Option ClassId) : Class where
  name := name
  kind := .ordinary
  loader := none
  accessFlags := 33
  super := sup
  interfaces := #[]
  cf := none
  fields := #[]
  methods := #[]
  instanceTypes := #[]
  staticTypes := #[]
  resolved := #[]
  callSites := []
  init := .initialized
  statics := none
  mirror := none

def pool0 : Array CpInfo := pool [(5, u "<init>"), (0, u "()V"), (1, .class_ 10), (1, u "java/lang/Object")] 113

def k0m0 : Method := { name := "<init>", desc := "()V", sig := { parameters := [], returnType := none }, accessFlags := 1, code := none }
/-- java/lang/Object -/
def k0 : Class := { plain "java/lang/Object" none with
  accessFlags := 33
  interfaces := #[]
  cf := some (fileOf pool0 8 #[] #[{ accessFlags := 1, nameIndex := 5, descriptorIndex := 6, attributes := #[] }] 33 0 #[] #[])
  fields := #[]
  methods := #[k0m0]
  instanceTypes := #[]
  staticTypes := #[]
  resolved := Array.replicate 124 none
  statics := none }

def pool1 : Array CpInfo := pool [(2, .class_ 4), (1, u "java/lang/Object"), (0, u "<init>"), (0, u "()V"), (0, .integer 2147483647), (0, .methodref 9 10), (0, .class_ 11), (0, .nameAndType 12 13), (0, u "com/example/pursuant/pursuant/selection/OrthogonalBasis"), (0, u "dot"), (0, u "([D[D)D"), (0, .class_ 15), (0, u "com/example/pursuant/pursuant/selection/OrthogonalBasisDotPinLaw"), (2, u "law"), (0, u "(IIIII)Z")] 5

def k1m0 : Method := { name := "<init>", desc := "()V", sig := { parameters := [], returnType := none }, accessFlags := 1, code := none }
def k1c1 : Code := { maxStack := 6, maxLocals := 20, code := code, exceptionTable := #[], attributes := #[] }
def k1m1 : Method := { name := "law", desc := "(IIIII)Z", sig := { parameters := [.int, .int, .int, .int, .int], returnType := some .boolean }, accessFlags := 9, code := some k1c1 }
/-- com/example/pursuant/pursuant/selection/OrthogonalBasisDotPinLaw -/
def k1 : Class := { plain "com/example/pursuant/pursuant/selection/OrthogonalBasisDotPinLaw" (some 0) with
  accessFlags := 49
  interfaces := #[]
  cf := some (fileOf pool1 14 #[] #[{ accessFlags := 1, nameIndex := 5, descriptorIndex := 6, attributes := #[] }, { accessFlags := 9, nameIndex := 18, descriptorIndex := 19, attributes := #[] }] 49 2 #[] #[])
  fields := #[]
  methods := #[k1m0, k1m1]
  instanceTypes := #[]
  staticTypes := #[]
  resolved := Array.replicate 25 none
  statics := none }

def pool2 : Array CpInfo := pool [(2, .class_ 4), (1, u "java/lang/Object"), (3, .class_ 10), (1, u "com/example/pursuant/pursuant/selection/OrthogonalBasis"), (0, u "n"), (0, u "I"), (4, u "vectors"), (0, u "[[D"), (2, u "triangle"), (2, u "size"), (6, u "dot"), (0, u "([D[D)D"), (16, u "PASSES"), (2, u "NEW_DIRECTION"), (0, u "D")] 14

def k2c0 : Code := { maxStack := 6, maxLocals := 5, code := prog_21_method_9_code, exceptionTable := #[], attributes := #[] }
def k2m0 : Method := { name := "dot", desc := "([D[D)D", sig := { parameters := [(.array .double), (.array .double)], returnType := some .double }, accessFlags := 8, code := some k2c0 }
/-- com/example/pursuant/pursuant/selection/OrthogonalBasis -/
def k2 : Class := { plain "com/example/pursuant/pursuant/selection/OrthogonalBasis" (some 0) with
  accessFlags := 32
  interfaces := #[]
  cf := some (fileOf pool2 8 #[] #[{ accessFlags := 8, nameIndex := 31, descriptorIndex := 32, attributes := #[] }] 32 2 #[] #[{ accessFlags := 26, nameIndex := 49, descriptorIndex := 12, attributes := #[] }, { accessFlags := 26, nameIndex := 52, descriptorIndex := 53, attributes := #[] }, { accessFlags := 18, nameIndex := 11, descriptorIndex := 12, attributes := #[] }, { accessFlags := 18, nameIndex := 17, descriptorIndex := 18, attributes := #[] }, { accessFlags := 18, nameIndex := 21, descriptorIndex := 18, attributes := #[] }, { accessFlags := 2, nameIndex := 24, descriptorIndex := 12, attributes := #[] }])
  fields := #[{ name := "PASSES", type := .int, accessFlags := 26, slot := 0, constantValue := 0 }, { name := "NEW_DIRECTION", type := .double, accessFlags := 26, slot := 1, constantValue := 0 }, { name := "n", type := .int, accessFlags := 18, slot := 0, constantValue := 0 }, { name := "vectors", type := (.array (.array .double)), accessFlags := 18, slot := 1, constantValue := 0 }, { name := "triangle", type := (.array (.array .double)), accessFlags := 18, slot := 2, constantValue := 0 }, { name := "size", type := .int, accessFlags := 2, slot := 3, constantValue := 0 }]
  methods := #[k2m0]
  instanceTypes := #[.int, (.array (.array .double)), (.array (.array .double)), .int]
  staticTypes := #[.int, .double]
  resolved := Array.replicate 68 none
  statics := none }

def pool3 : Array CpInfo := pool [(1, u "java/lang/Cloneable"), (0, .class_ 1), (0, u "java/lang/Object"), (0, .class_ 3)] 3

/-- java/lang/Cloneable -/
def k3 : Class := { plain "java/lang/Cloneable" (some 0) with
  accessFlags := 1537
  interfaces := #[]
  cf := some (fileOf pool3 2 #[] #[] 1537 4 #[] #[])
  fields := #[]
  methods := #[]
  instanceTypes := #[]
  staticTypes := #[]
  resolved := Array.replicate 8 none
  statics := none }

def pool4 : Array CpInfo := pool [(1, u "java/io/Serializable"), (0, .class_ 1), (0, u "java/lang/Object"), (0, .class_ 3)] 3

/-- java/io/Serializable -/
def k4 : Class := { plain "java/io/Serializable" (some 0) with
  accessFlags := 1537
  interfaces := #[]
  cf := some (fileOf pool4 2 #[] #[] 1537 4 #[] #[])
  fields := #[]
  methods := #[]
  instanceTypes := #[]
  staticTypes := #[]
  resolved := Array.replicate 8 none
  statics := none }

/-- the primitive byte -/
def k5 : Class := { plain "byte" none with kind := .primitive 'B', accessFlags := 0x411 }
/-- [B -/
def k6 : Class := { plain "[B" (some 0) with kind := .array 5 .byte, interfaces := #[3, 4], accessFlags := 1041 }

/-- the primitive double -/
def k7 : Class := { plain "double" none with kind := .primitive 'D', accessFlags := 0x411 }
/-- [D -/
def k8 : Class := { plain "[D" (some 0) with kind := .array 7 .double, interfaces := #[3, 4], accessFlags := 1041 }

/-- the primitive int -/
def k9 : Class := { plain "int" none with kind := .primitive 'I', accessFlags := 0x411 }
/-- [I -/
def k10 : Class := { plain "[I" (some 0) with kind := .array 9 .int, interfaces := #[3, 4], accessFlags := 1041 }

def heap : Heap := #[]
def classes : Array Class := #[k0, k1, k2, k3, k4, k5, k6, k7, k8, k9, k10]
def interned : List (Array UInt16 × Addr) := []
def slotsUsed : Nat := 0
def theMethod : MethodId := ⟨1, 1⟩
def args0 : Array Value := #[.int 5, .int 3, .int 1, .int 9, .int 4]
def aboutOver (below : List Frame) : State where
  vm := { classes := classes, interned := interned.toArray }
  heap := heap
  slotsUsed := slotsUsed
  threads := #[{ frames := .invoking theMethod args0 :: below }]
def below0 : List Frame := [.native { method := ⟨0, 0⟩, args := #[] }]
def about1 : State := aboutOver below0
def p0 : Program := .bare "" "" ""
def e0 : Env := launch0.env 0 0 0
theorem w_frames : about1.frames = Frame.invoking theMethod args0 :: below0 := rfl
set_option maxRecDepth 65536 in
theorem w_args : argsFit about1.vm theMethod args0 = true := by decide +kernel
set_option maxRecDepth 65536 in
theorem w_heap : heapFits about1 = true := by decide +kernel
set_option maxRecDepth 65536 in
theorem w_runnable : about1.curStatus? = some .runnable := by decide +kernel
set_option maxRecDepth 65536 in
theorem w_alone : about1.alone = true := by decide +kernel
set_option maxRecDepth 65536 in
theorem w_named : about1.methodNamed? x = some theMethod := by decide +kernel
set_option maxRecDepth 65536 in
theorem w_hears : about1.hears theMethod below0 = true := by decide +kernel
set_option maxRecDepth 65536 in
theorem w_ripe : about1.ripe theMethod args0 below0 = true := by decide +kernel
theorem w_running : about1.status = .running := rfl
set_option maxRecDepth 65536 in
theorem w_room : about1.hasRoom e0.platform room_1 = true :=
  launch0.hasRoom_least _ room_1 (by decide +kernel) (by decide +kernel) (by decide +kernel) (by decide +kernel) (by decide +kernel) (by decide +kernel)
theorem allAtoms_all (ts : List Jvm.Cond) (a : Array Jvm.Value) (st : Jvm.State) : (allAtoms ts).before a st = ts.all (fun c => c.before a st) := by
  induction ts with
  | nil => rfl
  | cons c t ih =>
    show (Jvm.Cond.and c (allAtoms t)).before a st = _
    rw [Jvm.Cond.before_and, ih, List.all_cons]
def words1 : List Jvm.Cond := Jvm.Cond.code x code maxLocals ret :: tables_1
/-- a 'code' word, met by the world's own term for the bytes: nothing is compared byte by byte -/
theorem code_word {y : MethodName} {bytes : ByteArray} {mx : Nat} {rt : Option FieldType} {a : Array Value} {s : State} {m : MethodId} {meth : Method} {c : Code} (h1 : s.methodNamed? y = some m) (h2 : s.vm.method? m = some meth) (h3 : meth.code = some c) (h4 : c.code = bytes)
    (h5 : (c.maxLocals == mx && c.exceptionTable.isEmpty && decide (c.maxStack ≤ mostOperands) && decide (meth.sig.returnType = rt) && !meth.locks && decide (parseMethodDescriptor y.desc = some meth.sig)) = true) : (Jvm.Cond.code y bytes mx rt).before a s = true := by
  simp only [Bool.and_eq_true, beq_iff_eq, Bool.not_eq_true', decide_eq_true_eq] at h5
  obtain ⟨⟨⟨⟨⟨g1, g2⟩, g3⟩, g4⟩, g5⟩, g6⟩ := h5
  simp [Cond.before, Cond.holds, Cond.value, h1, h2, h3, h4, g1, g2, g3, g4, g5, g6]
def isCode : Jvm.Cond → Bool
  | .code _ _ _ _ => true
  | _ => false
theorem all_split {L : List Jvm.Cond} {P : Jvm.Cond → Bool} (h1 : L.all (fun c => isCode c || P c) = true) (h2 : ∀ c ∈ L.filter isCode, P c = true) : L.all P = true := by
  refine List.all_eq_true.mpr fun c hc => ?_
  have h := List.all_eq_true.mp h1 c hc
  rcases Bool.eq_false_or_eq_true (isCode c) with hi | hi
  · exact h2 c (List.mem_filter.mpr ⟨hc, hi⟩)
  · simpa [hi] using h
set_option maxRecDepth 65536 in
theorem w_c0 : (Jvm.Cond.code x code maxLocals ret).before args0 about1 = true := code_word (m := ⟨1, 1⟩) (meth := k1m1) (c := k1c1) (by decide +kernel) rfl rfl rfl (by decide +kernel)
set_option maxRecDepth 65536 in
theorem w_c1 : (Jvm.Cond.code ({ cls := "com/example/pursuant/pursuant/selection/OrthogonalBasis", name := "dot", desc := "([D[D)D" } : Jvm.MethodName) prog_21_method_9_code (5 : Nat) (Option.some Jvm.ClassFile.FieldType.double)).before args0 about1 = true := code_word (m := ⟨2, 0⟩) (meth := k2m0) (c := k2c0) (by decide +kernel) rfl rfl rfl (by decide +kernel)
def codes1 : List Jvm.Cond := [Jvm.Cond.code x code maxLocals ret, Jvm.Cond.code ({ cls := "com/example/pursuant/pursuant/selection/OrthogonalBasis", name := "dot", desc := "([D[D)D" } : Jvm.MethodName) prog_21_method_9_code (5 : Nat) (Option.some Jvm.ClassFile.FieldType.double)]
set_option maxRecDepth 65536 in
theorem codes_eq : words1.filter isCode = codes1 := rfl
theorem w_codes : ∀ c ∈ words1.filter isCode, c.before args0 about1 = true := by
  rw [codes_eq]
  intro c hc
  simp only [codes1, List.mem_cons, List.not_mem_nil, or_false] at hc
  rcases hc with rfl | rfl
  · exact w_c0
  · exact w_c1
set_option maxRecDepth 65536 in
theorem w_t1 : words1.all (fun c => isCode c || c.before args0 about1) = true := by decide +kernel
theorem w_tables : (allAtoms (Jvm.Cond.code x code maxLocals ret :: tables_1)).before args0 about1 = true := by
  rw [allAtoms_all]
  show words1.all (fun c => c.before args0 about1) = true
  refine all_split ?_ w_codes
  rw [w_t1]
set_option maxRecDepth 65536 in
theorem w_case : (Jvm.Cond.and given_1 narrow_1).before args0 about1 = true := by decide +kernel
theorem w_applies : (headSpec (Jvm.Cond.code x code maxLocals ret :: tables_1) room_1).applies x e0.platform about1 = true :=
  (Spec.applies_iff w_frames).mpr ⟨w_running, w_runnable, w_alone, w_named, w_hears, w_ripe, w_room, w_tables⟩
theorem atStart : AtStart classFile x code maxLocals ret World_1 tables_1 room_1 Calls_1 rest_1 Pre_1 launch0 p0 e0 about1 theMethod args0 below0 :=
  ⟨lists_1, trivial, launch0.admits_env _ _ _, launch0.least_env, fairChoices_fair.cas, fairChoices_fair.clock, w_frames, w_args, w_heap, w_applies, trivial, trivial, w_case⟩
end start1
theorem witness_1 : WitnessClaimed_1 := ⟨start1.p0, start1.e0, start1.about1, start1.theMethod, start1.args0, start1.below0, start1.atStart⟩
end Jvm.Pilot.@@N@@
