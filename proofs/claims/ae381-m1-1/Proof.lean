import JvmDerived
import JvmDerived.Pilot.@@N@@Statement
import JvmDerived.Pilot.@@N@@Code
set_option linter.unusedVariables false
set_option linter.unusedSimpArgs false
namespace Jvm.Pilot.@@N@@
open Jvm Jvm.ClassFile Sem Op Lib Jvm.Free Jvm.Free.Fl Jvm.Stand Jvm.LawKit Jvm.RoadKit Bundle Jvm.Pilot.@@N@@.Jvm.D
section own_go
/-- where the walk stands, with the two facts that every step asks -/
def Ax (p : Program) (l : Launch) (e : Env) (R : Room) (s : State) (m : MethodId) (args : Array Value) (below : List Frame) (meth : Method) (c : Code) (T : State) (locs : List Loc) (cells slots : Nat) (B : ByteArray) : Prop := Stand p l e R s m args below meth c T locs cells slots ∧ p.tables.exec = Jvm.exec ∧ c.code = B
/-- from this frame the run ends, and P holds of its end -/
def Go (p : Program) (e : Env) (below : List Frame) (P : State → Outcome → Prop) (T : State) (g : JFrame) : Prop := ∃ U o, Steps p.tables e below (T.setTop g) U ∧ U.status = .running ∧ Ended U below o ∧ P U o
variable {p : Program} {l : Launch} {e : Env} {R : Room} {s : State} {m : MethodId} {args : Array Value} {below : List Frame} {meth : Method} {c : Code} {T : State} {locs : List Loc} {cells slots : Nat} {P : State → Outcome → Prop} {B : ByteArray} {pc pc' : Nat} {ls ls' : Array Slot} {st : List Value}
theorem Go.of {T' : State} {g g' : JFrame} (k : ∀ t, Steps p.tables e below (T'.setTop g') t → Steps p.tables e below (T.setTop g) t) (h : Go p e below P T' g') : Go p e below P T g := by
  obtain ⟨U, o, h1, h2⟩ := h
  exact ⟨U, o, k _ h1, h2⟩
theorem Go.tr {T' : State} {g g' : JFrame} (k : Steps p.tables e below (T.setTop g) (T'.setTop g')) (h : Go p e below P T' g') : Go p e below P T g := Go.of (fun _ h => k.trans h) h
theorem Go.cast {g g' : JFrame} (q : g = g') (h : Go p e below P T g') : Go p e below P T g := q ▸ h

theorem g_iadd (A : Ax p l e R s m args below meth c T locs cells slots B) {x : Int32} {y : Int32} (hd : decode B pc = .ok (.iadd, 1)) (hp : pc + 1 = pc') (k : Go p e below P T (mkF m pc' ls (.int (x + y) :: st))) : Go p e below P T (mkF m pc ls (.int y :: .int x :: st)) := by
  subst hp; exact Go.of (fun _ k' => XS.iadd A.1.here A.2.1 rfl (hb A.2.2 hd) rfl k') k
theorem g_isub (A : Ax p l e R s m args below meth c T locs cells slots B) {x : Int32} {y : Int32} (hd : decode B pc = .ok (.isub, 1)) (hp : pc + 1 = pc') (k : Go p e below P T (mkF m pc' ls (.int (x - y) :: st))) : Go p e below P T (mkF m pc ls (.int y :: .int x :: st)) := by
  subst hp; exact Go.of (fun _ k' => XS.isub A.1.here A.2.1 rfl (hb A.2.2 hd) rfl k') k
theorem g_iand (A : Ax p l e R s m args below meth c T locs cells slots B) {x : Int32} {y : Int32} (hd : decode B pc = .ok (.iand, 1)) (hp : pc + 1 = pc') (k : Go p e below P T (mkF m pc' ls (.int (x &&& y) :: st))) : Go p e below P T (mkF m pc ls (.int y :: .int x :: st)) := by
  subst hp; exact Go.of (fun _ k' => XS.iand A.1.here A.2.1 rfl (hb A.2.2 hd) rfl k') k
theorem g_imul (A : Ax p l e R s m args below meth c T locs cells slots B) {x : Int32} {y : Int32} (hd : decode B pc = .ok (.imul, 1)) (hp : pc + 1 = pc') (k : Go p e below P T (mkF m pc' ls (.int (x * y) :: st))) : Go p e below P T (mkF m pc ls (.int y :: .int x :: st)) := by
  subst hp; exact Go.of (fun _ k' => XS.imul A.1.here A.2.1 rfl (hb A.2.2 hd) rfl k') k
theorem g_ixor (A : Ax p l e R s m args below meth c T locs cells slots B) {x : Int32} {y : Int32} (hd : decode B pc = .ok (.ixor, 1)) (hp : pc + 1 = pc') (k : Go p e below P T (mkF m pc' ls (.int (x ^^^ y) :: st))) : Go p e below P T (mkF m pc ls (.int y :: .int x :: st)) := by
  subst hp; exact Go.of (fun _ k' => XT.ixor A.1.here A.2.1 rfl (hb A.2.2 hd) rfl k') k
theorem g_ior (A : Ax p l e R s m args below meth c T locs cells slots B) {x : Int32} {y : Int32} (hd : decode B pc = .ok (.ior, 1)) (hp : pc + 1 = pc') (k : Go p e below P T (mkF m pc' ls (.int (x ||| y) :: st))) : Go p e below P T (mkF m pc ls (.int y :: .int x :: st)) := by
  subst hp; exact Go.of (fun _ k' => XT.ior A.1.here A.2.1 rfl (hb A.2.2 hd) rfl k') k
theorem g_ishl (A : Ax p l e R s m args below meth c T locs cells slots B) {x : Int32} {y : Int32} (hd : decode B pc = .ok (.ishl, 1)) (hp : pc + 1 = pc') (k : Go p e below P T (mkF m pc' ls (.int (x <<< (y &&& 31)) :: st))) : Go p e below P T (mkF m pc ls (.int y :: .int x :: st)) := by
  subst hp; exact Go.of (fun _ k' => XT.ishl A.1.here A.2.1 rfl (hb A.2.2 hd) rfl k') k
theorem g_ishr (A : Ax p l e R s m args below meth c T locs cells slots B) {x : Int32} {y : Int32} (hd : decode B pc = .ok (.ishr, 1)) (hp : pc + 1 = pc') (k : Go p e below P T (mkF m pc' ls (.int (x >>> (y &&& 31)) :: st))) : Go p e below P T (mkF m pc ls (.int y :: .int x :: st)) := by
  subst hp; exact Go.of (fun _ k' => XT.ishr A.1.here A.2.1 rfl (hb A.2.2 hd) rfl k') k
theorem g_iushr (A : Ax p l e R s m args below meth c T locs cells slots B) {x : Int32} {y : Int32} (hd : decode B pc = .ok (.iushr, 1)) (hp : pc + 1 = pc') (k : Go p e below P T (mkF m pc' ls (.int (XT.ushr x y) :: st))) : Go p e below P T (mkF m pc ls (.int y :: .int x :: st)) := by
  subst hp; exact Go.of (fun _ k' => XT.iushr A.1.here A.2.1 rfl (hb A.2.2 hd) rfl k') k
theorem g_idiv (A : Ax p l e R s m args below meth c T locs cells slots B) {x : Int32} {y : Int32} (hd : decode B pc = .ok (.idiv, 1)) (hy : y ≠ 0) (hp : pc + 1 = pc') (k : Go p e below P T (mkF m pc' ls (.int (x / y) :: st))) : Go p e below P T (mkF m pc ls (.int y :: .int x :: st)) := by
  subst hp; exact Go.of (fun _ k' => XS.idiv A.1.here A.2.1 rfl (hb A.2.2 hd) rfl hy k') k
theorem g_ladd (A : Ax p l e R s m args below meth c T locs cells slots B) {x : Int64} {y : Int64} (hd : decode B pc = .ok (.ladd, 1)) (hp : pc + 1 = pc') (k : Go p e below P T (mkF m pc' ls (.long (x + y) :: st))) : Go p e below P T (mkF m pc ls (.long y :: .long x :: st)) := by
  subst hp; exact Go.of (fun _ k' => XT.ladd A.1.here A.2.1 rfl (hb A.2.2 hd) rfl k') k
theorem g_lsub (A : Ax p l e R s m args below meth c T locs cells slots B) {x : Int64} {y : Int64} (hd : decode B pc = .ok (.lsub, 1)) (hp : pc + 1 = pc') (k : Go p e below P T (mkF m pc' ls (.long (x - y) :: st))) : Go p e below P T (mkF m pc ls (.long y :: .long x :: st)) := by
  subst hp; exact Go.of (fun _ k' => XT.lsub A.1.here A.2.1 rfl (hb A.2.2 hd) rfl k') k
theorem g_lmul (A : Ax p l e R s m args below meth c T locs cells slots B) {x : Int64} {y : Int64} (hd : decode B pc = .ok (.lmul, 1)) (hp : pc + 1 = pc') (k : Go p e below P T (mkF m pc' ls (.long (x * y) :: st))) : Go p e below P T (mkF m pc ls (.long y :: .long x :: st)) := by
  subst hp; exact Go.of (fun _ k' => XT.lmul A.1.here A.2.1 rfl (hb A.2.2 hd) rfl k') k
theorem g_land (A : Ax p l e R s m args below meth c T locs cells slots B) {x : Int64} {y : Int64} (hd : decode B pc = .ok (.land, 1)) (hp : pc + 1 = pc') (k : Go p e below P T (mkF m pc' ls (.long (x &&& y) :: st))) : Go p e below P T (mkF m pc ls (.long y :: .long x :: st)) := by
  subst hp; exact Go.of (fun _ k' => XT.land A.1.here A.2.1 rfl (hb A.2.2 hd) rfl k') k
theorem g_lor (A : Ax p l e R s m args below meth c T locs cells slots B) {x : Int64} {y : Int64} (hd : decode B pc = .ok (.lor, 1)) (hp : pc + 1 = pc') (k : Go p e below P T (mkF m pc' ls (.long (x ||| y) :: st))) : Go p e below P T (mkF m pc ls (.long y :: .long x :: st)) := by
  subst hp; exact Go.of (fun _ k' => XT.lor A.1.here A.2.1 rfl (hb A.2.2 hd) rfl k') k
theorem g_lxor (A : Ax p l e R s m args below meth c T locs cells slots B) {x : Int64} {y : Int64} (hd : decode B pc = .ok (.lxor, 1)) (hp : pc + 1 = pc') (k : Go p e below P T (mkF m pc' ls (.long (x ^^^ y) :: st))) : Go p e below P T (mkF m pc ls (.long y :: .long x :: st)) := by
  subst hp; exact Go.of (fun _ k' => XT.lxor A.1.here A.2.1 rfl (hb A.2.2 hd) rfl k') k
theorem g_lshl (A : Ax p l e R s m args below meth c T locs cells slots B) {x : Int64} {y : Int32} (hd : decode B pc = .ok (.lshl, 1)) (hp : pc + 1 = pc') (k : Go p e below P T (mkF m pc' ls (.long (x <<< (y.toInt64 &&& 63)) :: st))) : Go p e below P T (mkF m pc ls (.int y :: .long x :: st)) := by
  subst hp; exact Go.of (fun _ k' => XT.lshl A.1.here A.2.1 rfl (hb A.2.2 hd) rfl k') k
theorem g_lshr (A : Ax p l e R s m args below meth c T locs cells slots B) {x : Int64} {y : Int32} (hd : decode B pc = .ok (.lshr, 1)) (hp : pc + 1 = pc') (k : Go p e below P T (mkF m pc' ls (.long (x >>> (y.toInt64 &&& 63)) :: st))) : Go p e below P T (mkF m pc ls (.int y :: .long x :: st)) := by
  subst hp; exact Go.of (fun _ k' => XT.lshr A.1.here A.2.1 rfl (hb A.2.2 hd) rfl k') k
theorem g_lushr (A : Ax p l e R s m args below meth c T locs cells slots B) {x : Int64} {y : Int32} (hd : decode B pc = .ok (.lushr, 1)) (hp : pc + 1 = pc') (k : Go p e below P T (mkF m pc' ls (.long (XT.ushrL x y) :: st))) : Go p e below P T (mkF m pc ls (.int y :: .long x :: st)) := by
  subst hp; exact Go.of (fun _ k' => XT.lushr A.1.here A.2.1 rfl (hb A.2.2 hd) rfl k') k
theorem g_ldiv (A : Ax p l e R s m args below meth c T locs cells slots B) {x : Int64} {y : Int64} (hd : decode B pc = .ok (.ldiv, 1)) (hy : y ≠ 0) (hp : pc + 1 = pc') (k : Go p e below P T (mkF m pc' ls (.long (x / y) :: st))) : Go p e below P T (mkF m pc ls (.long y :: .long x :: st)) := by
  subst hp; exact Go.of (fun _ k' => XT.ldiv A.1.here A.2.1 rfl (hb A.2.2 hd) rfl hy k') k
theorem g_lrem (A : Ax p l e R s m args below meth c T locs cells slots B) {x y : Int64} (hd : decode B pc = .ok (.lrem, 1)) (hy : y ≠ 0) (hp : pc + 1 = pc') (k : Go p e below P T (mkF m pc' ls (.long (x % y) :: st))) : Go p e below P T (mkF m pc ls (.long y :: .long x :: st)) := by
  subst hp; rw [← lrem_mod] at k; exact Go.of (fun _ k' => XT.lrem A.1.here A.2.1 rfl (hb A.2.2 hd) rfl hy k') k
theorem g_i2s (A : Ax p l e R s m args below meth c T locs cells slots B) {x : Int32} (hd : decode B pc = .ok (.i2s, 1)) (hp : pc + 1 = pc') (k : Go p e below P T (mkF m pc' ls (.int (x.toInt16.toInt32) :: st))) : Go p e below P T (mkF m pc ls (.int x :: st)) := by
  subst hp; exact Go.of (fun _ k' => XT.i2s A.1.here A.2.1 rfl (hb A.2.2 hd) rfl k') k
theorem g_i2b (A : Ax p l e R s m args below meth c T locs cells slots B) {x : Int32} (hd : decode B pc = .ok (.i2b, 1)) (hp : pc + 1 = pc') (k : Go p e below P T (mkF m pc' ls (.int (x.toInt8.toInt32) :: st))) : Go p e below P T (mkF m pc ls (.int x :: st)) := by
  subst hp; exact Go.of (fun _ k' => XT.i2b A.1.here A.2.1 rfl (hb A.2.2 hd) rfl k') k
theorem g_i2c (A : Ax p l e R s m args below meth c T locs cells slots B) {x : Int32} (hd : decode B pc = .ok (.i2c, 1)) (hp : pc + 1 = pc') (k : Go p e below P T (mkF m pc' ls (.int (x.toUInt32.toUInt16.toUInt32.toInt32) :: st))) : Go p e below P T (mkF m pc ls (.int x :: st)) := by
  subst hp; exact Go.of (fun _ k' => XT.i2c A.1.here A.2.1 rfl (hb A.2.2 hd) rfl k') k
theorem g_ineg (A : Ax p l e R s m args below meth c T locs cells slots B) {x : Int32} (hd : decode B pc = .ok (.ineg, 1)) (hp : pc + 1 = pc') (k : Go p e below P T (mkF m pc' ls (.int (-x) :: st))) : Go p e below P T (mkF m pc ls (.int x :: st)) := by
  subst hp; exact Go.of (fun _ k' => XS.ineg A.1.here A.2.1 rfl (hb A.2.2 hd) rfl k') k
theorem g_lneg (A : Ax p l e R s m args below meth c T locs cells slots B) {x : Int64} (hd : decode B pc = .ok (.lneg, 1)) (hp : pc + 1 = pc') (k : Go p e below P T (mkF m pc' ls (.long (-x) :: st))) : Go p e below P T (mkF m pc ls (.long x :: st)) := by
  subst hp; exact Go.of (fun _ k' => XT.lneg A.1.here A.2.1 rfl (hb A.2.2 hd) rfl k') k
theorem g_i2l (A : Ax p l e R s m args below meth c T locs cells slots B) {x : Int32} (hd : decode B pc = .ok (.i2l, 1)) (hp : pc + 1 = pc') (k : Go p e below P T (mkF m pc' ls (.long (x.toInt64) :: st))) : Go p e below P T (mkF m pc ls (.int x :: st)) := by
  subst hp; exact Go.of (fun _ k' => XT.i2l A.1.here A.2.1 rfl (hb A.2.2 hd) rfl k') k
theorem g_l2i (A : Ax p l e R s m args below meth c T locs cells slots B) {x : Int64} (hd : decode B pc = .ok (.l2i, 1)) (hp : pc + 1 = pc') (k : Go p e below P T (mkF m pc' ls (.int (x.toInt32) :: st))) : Go p e below P T (mkF m pc ls (.long x :: st)) := by
  subst hp; exact Go.of (fun _ k' => XT.l2i A.1.here A.2.1 rfl (hb A.2.2 hd) rfl k') k
theorem g_irem (A : Ax p l e R s m args below meth c T locs cells slots B) {x y : Int32} (hd : decode B pc = .ok (.irem, 1)) (hy : y ≠ 0) (hp : pc + 1 = pc') (k : Go p e below P T (mkF m pc' ls (.int (x % y) :: st))) : Go p e below P T (mkF m pc ls (.int y :: .int x :: st)) := by
  subst hp; exact Go.of (fun _ k' => iremM A.1 A.2.1 rfl (hb A.2.2 hd) rfl hy k') k
theorem g_iloadN (A : Ax p l e R s m args below meth c T locs cells slots B) {k : Fin 4} {v : Int32} (hd : decode B pc = .ok (.iload_n k, 1)) (hl : ls[k.val]? = some (.val (.int v))) (hp : pc + 1 = pc') (k : Go p e below P T (mkF m pc' ls (.int v :: st))) : Go p e below P T (mkF m pc ls st) := by
  subst hp; exact Go.of (fun _ k' => XS.iloadN A.1.here A.2.1 rfl (hb A.2.2 hd) hl k') k
theorem g_iload (A : Ax p l e R s m args below meth c T locs cells slots B) {k : Nat} {v : Int32} (hd : decode B pc = .ok (.iload k, 2)) (hl : ls[k]? = some (.val (.int v))) (hp : pc + 2 = pc') (k : Go p e below P T (mkF m pc' ls (.int v :: st))) : Go p e below P T (mkF m pc ls st) := by
  subst hp; exact Go.of (fun _ k' => XS.iload A.1.here A.2.1 rfl (hb A.2.2 hd) hl k') k
theorem g_lloadN (A : Ax p l e R s m args below meth c T locs cells slots B) {k : Fin 4} {v : Int64} (hd : decode B pc = .ok (.lload_n k, 1)) (hl : ls[k.val]? = some (.val (.long v))) (hp : pc + 1 = pc') (k : Go p e below P T (mkF m pc' ls (.long v :: st))) : Go p e below P T (mkF m pc ls st) := by
  subst hp; exact Go.of (fun _ k' => XT.lloadN A.1.here A.2.1 rfl (hb A.2.2 hd) hl k') k
theorem g_lload (A : Ax p l e R s m args below meth c T locs cells slots B) {k : Nat} {v : Int64} (hd : decode B pc = .ok (.lload k, 2)) (hl : ls[k]? = some (.val (.long v))) (hp : pc + 2 = pc') (k : Go p e below P T (mkF m pc' ls (.long v :: st))) : Go p e below P T (mkF m pc ls st) := by
  subst hp; exact Go.of (fun _ k' => XT.lload A.1.here A.2.1 rfl (hb A.2.2 hd) hl k') k
theorem g_aloadN (A : Ax p l e R s m args below meth c T locs cells slots B) {k : Fin 4} {v : Value} (hd : decode B pc = .ok (.aload_n k, 1)) (hl : ls[k.val]? = some (.val v)) (hv : v.isRef = true) (hp : pc + 1 = pc') (k : Go p e below P T (mkF m pc' ls (v :: st))) : Go p e below P T (mkF m pc ls st) := by
  subst hp; exact Go.of (fun _ k' => XS.aloadN A.1.here A.2.1 rfl (hb A.2.2 hd) hl hv k') k
theorem g_aload (A : Ax p l e R s m args below meth c T locs cells slots B) {k : Nat} {v : Value} (hd : decode B pc = .ok (.aload k, 2)) (hl : ls[k]? = some (.val v)) (hv : v.isRef = true) (hp : pc + 2 = pc') (k : Go p e below P T (mkF m pc' ls (v :: st))) : Go p e below P T (mkF m pc ls st) := by
  subst hp; exact Go.of (fun _ k' => XS.aload A.1.here A.2.1 rfl (hb A.2.2 hd) hl hv k') k
theorem g_dloadN (A : Ax p l e R s m args below meth c T locs cells slots B) {k : Fin 4} {v : UInt64} (hd : decode B pc = .ok (.dload_n k, 1)) (hl : ls[k.val]? = some (.val (.double v))) (hp : pc + 1 = pc') (k : Go p e below P T (mkF m pc' ls (.double v :: st))) : Go p e below P T (mkF m pc ls st) := by
  subst hp
  refine Go.of (fun t k' => ?_) k
  have h := A.1.here
  have hx := A.2.1
  have hd' := hb A.2.2 hd
  show Steps p.tables e below (T.setTop { method := m, pc := pc, locals := ls, stack := st, locked := none }) _
  jvm_step h [h.top, hx, hd', hl]
  exact k'
theorem g_dload (A : Ax p l e R s m args below meth c T locs cells slots B) {k : Nat} {v : UInt64} (hd : decode B pc = .ok (.dload k, 2)) (hl : ls[k]? = some (.val (.double v))) (hp : pc + 2 = pc') (k : Go p e below P T (mkF m pc' ls (.double v :: st))) : Go p e below P T (mkF m pc ls st) := by
  subst hp
  refine Go.of (fun t k' => ?_) k
  have h := A.1.here
  have hx := A.2.1
  have hd' := hb A.2.2 hd
  show Steps p.tables e below (T.setTop { method := m, pc := pc, locals := ls, stack := st, locked := none }) _
  jvm_step h [h.top, hx, hd', hl]
  exact k'
theorem g_istoreN (A : Ax p l e R s m args below meth c T locs cells slots B) {k : Fin 4} {x : Int32} (hd : decode B pc = .ok (.istore_n k, 1)) (hl : storeLocals ls k.val (.int x) = some ls') (hp : pc + 1 = pc') (k : Go p e below P T (mkF m pc' ls' st)) : Go p e below P T (mkF m pc ls (.int x :: st)) := by
  subst hp; exact Go.of (fun _ k' => XS.istoreN A.1.here A.2.1 rfl (hb A.2.2 hd) rfl hl k') k
theorem g_istore (A : Ax p l e R s m args below meth c T locs cells slots B) {k : Nat} {x : Int32} (hd : decode B pc = .ok (.istore k, 2)) (hl : storeLocals ls k (.int x) = some ls') (hp : pc + 2 = pc') (k : Go p e below P T (mkF m pc' ls' st)) : Go p e below P T (mkF m pc ls (.int x :: st)) := by
  subst hp; exact Go.of (fun _ k' => XS.istore A.1.here A.2.1 rfl (hb A.2.2 hd) rfl hl k') k
theorem g_lstoreN (A : Ax p l e R s m args below meth c T locs cells slots B) {k : Fin 4} {x : Int64} (hd : decode B pc = .ok (.lstore_n k, 1)) (hl : storeLocals ls k.val (.long x) = some ls') (hp : pc + 1 = pc') (k : Go p e below P T (mkF m pc' ls' st)) : Go p e below P T (mkF m pc ls (.long x :: st)) := by
  subst hp; exact Go.of (fun _ k' => XT.lstoreN A.1.here A.2.1 rfl (hb A.2.2 hd) rfl hl k') k
theorem g_lstore (A : Ax p l e R s m args below meth c T locs cells slots B) {k : Nat} {x : Int64} (hd : decode B pc = .ok (.lstore k, 2)) (hl : storeLocals ls k (.long x) = some ls') (hp : pc + 2 = pc') (k : Go p e below P T (mkF m pc' ls' st)) : Go p e below P T (mkF m pc ls (.long x :: st)) := by
  subst hp; exact Go.of (fun _ k' => XT.lstore A.1.here A.2.1 rfl (hb A.2.2 hd) rfl hl k') k
theorem g_astoreN (A : Ax p l e R s m args below meth c T locs cells slots B) {k : Fin 4} {x : Value} (hd : decode B pc = .ok (.astore_n k, 1)) (hv : x.isRef = true) (hl : storeLocals ls k.val x = some ls') (hp : pc + 1 = pc') (k : Go p e below P T (mkF m pc' ls' st)) : Go p e below P T (mkF m pc ls (x :: st)) := by
  subst hp; exact Go.of (fun _ k' => XS.astoreN A.1.here A.2.1 rfl (hb A.2.2 hd) rfl hv hl k') k
theorem g_astore (A : Ax p l e R s m args below meth c T locs cells slots B) {k : Nat} {x : Value} (hd : decode B pc = .ok (.astore k, 2)) (hv : x.isRef = true) (hl : storeLocals ls k x = some ls') (hp : pc + 2 = pc') (k : Go p e below P T (mkF m pc' ls' st)) : Go p e below P T (mkF m pc ls (x :: st)) := by
  subst hp; exact Go.of (fun _ k' => XS.astore A.1.here A.2.1 rfl (hb A.2.2 hd) rfl hv hl k') k
theorem g_dstoreN (A : Ax p l e R s m args below meth c T locs cells slots B) {k : Fin 4} {x : UInt64} (hd : decode B pc = .ok (.dstore_n k, 1)) (hl : storeLocals ls k.val (.double x) = some ls') (hp : pc + 1 = pc') (k : Go p e below P T (mkF m pc' ls' st)) : Go p e below P T (mkF m pc ls (.double x :: st)) := by
  subst hp
  refine Go.of (fun t k' => ?_) k
  have h := A.1.here
  have hx := A.2.1
  have hd' := hb A.2.2 hd
  show Steps p.tables e below (T.setTop { method := m, pc := pc, locals := ls, stack := .double x :: st, locked := none }) _
  jvm_step h [h.top, hx, hd']
  exact ⟨ls', hl, k'⟩
theorem g_dstore (A : Ax p l e R s m args below meth c T locs cells slots B) {k : Nat} {x : UInt64} (hd : decode B pc = .ok (.dstore k, 2)) (hl : storeLocals ls k (.double x) = some ls') (hp : pc + 2 = pc') (k : Go p e below P T (mkF m pc' ls' st)) : Go p e below P T (mkF m pc ls (.double x :: st)) := by
  subst hp
  refine Go.of (fun t k' => ?_) k
  have h := A.1.here
  have hx := A.2.1
  have hd' := hb A.2.2 hd
  show Steps p.tables e below (T.setTop { method := m, pc := pc, locals := ls, stack := .double x :: st, locked := none }) _
  jvm_step h [h.top, hx, hd']
  exact ⟨ls', hl, k'⟩
theorem g_iconst (A : Ax p l e R s m args below meth c T locs cells slots B) {i : Int} {v : Int32} (hd : decode B pc = .ok (.iconst i, 1)) (hv : Int32.ofInt i = v) (hp : pc + 1 = pc') (k : Go p e below P T (mkF m pc' ls (.int v :: st))) : Go p e below P T (mkF m pc ls st) := by
  subst hp hv; exact Go.of (fun _ k' => XS.iconst A.1.here A.2.1 rfl (hb A.2.2 hd) k') k
theorem g_bipush (A : Ax p l e R s m args below meth c T locs cells slots B) {i : Int} {v : Int32} (hd : decode B pc = .ok (.bipush i, 2)) (hv : (Int8.ofInt i).toInt32 = v) (hp : pc + 2 = pc') (k : Go p e below P T (mkF m pc' ls (.int v :: st))) : Go p e below P T (mkF m pc ls st) := by
  subst hp hv; exact Go.of (fun _ k' => XS.bipush A.1.here A.2.1 rfl (hb A.2.2 hd) k') k
theorem g_sipush (A : Ax p l e R s m args below meth c T locs cells slots B) {i : Int} {v : Int32} (hd : decode B pc = .ok (.sipush i, 3)) (hv : (Int16.ofInt i).toInt32 = v) (hp : pc + 3 = pc') (k : Go p e below P T (mkF m pc' ls (.int v :: st))) : Go p e below P T (mkF m pc ls st) := by
  subst hp hv; exact Go.of (fun _ k' => XS.sipush A.1.here A.2.1 rfl (hb A.2.2 hd) k') k
theorem g_aconst (A : Ax p l e R s m args below meth c T locs cells slots B) (hd : decode B pc = .ok (.aconst_null, 1)) (hp : pc + 1 = pc') (k : Go p e below P T (mkF m pc' ls (.null :: st))) : Go p e below P T (mkF m pc ls st) := by
  subst hp; exact Go.of (fun _ k' => XS.aconstNull A.1.here A.2.1 rfl (hb A.2.2 hd) k') k
theorem g_lconst (A : Ax p l e R s m args below meth c T locs cells slots B) {i : Fin 2} {v : Int64} (hd : decode B pc = .ok (.lconst i, 1)) (hv : Int64.ofNat i = v) (hp : pc + 1 = pc') (k : Go p e below P T (mkF m pc' ls (.long v :: st))) : Go p e below P T (mkF m pc ls st) := by
  subst hp hv; exact Go.of (fun _ k' => XT.lconst A.1.here A.2.1 rfl (hb A.2.2 hd) k') k
theorem g_dconst0 (A : Ax p l e R s m args below meth c T locs cells slots B) (hd : decode B pc = .ok (.dconst 0, 1)) (hp : pc + 1 = pc') (k : Go p e below P T (mkF m pc' ls (.double (0 : UInt64) :: st))) : Go p e below P T (mkF m pc ls st) := by
  subst hp
  refine Go.of (fun t k' => ?_) k
  have h := A.1.here
  have hx := A.2.1
  have hd' := hb A.2.2 hd
  show Steps p.tables e below (T.setTop { method := m, pc := pc, locals := ls, stack := st, locked := none }) _
  jvm_step h [h.top, hx, hd']
  exact k'
theorem g_dconst1 (A : Ax p l e R s m args below meth c T locs cells slots B) (hd : decode B pc = .ok (.dconst 1, 1)) (hp : pc + 1 = pc') (k : Go p e below P T (mkF m pc' ls (.double (4607182418800017408 : UInt64) :: st))) : Go p e below P T (mkF m pc ls st) := by
  subst hp
  refine Go.of (fun t k' => ?_) k
  have h := A.1.here
  have hx := A.2.1
  have hd' := hb A.2.2 hd
  show Steps p.tables e below (T.setTop { method := m, pc := pc, locals := ls, stack := st, locked := none }) _
  jvm_step h [h.top, hx, hd']
  exact k'
theorem g_dadd (A : Ax p l e R s m args below meth c T locs cells slots B) {x y : UInt64} (hd : decode B pc = .ok (.dadd, 1)) (hn : NoNaN64 (FP.dadd x y)) (hp : pc + 1 = pc') (k : Go p e below P T (mkF m pc' ls (.double (FP.dadd x y) :: st))) : Go p e below P T (mkF m pc ls (.double y :: .double x :: st)) := by
  subst hp
  refine Go.of (fun t k' => ?_) k
  have h := A.1.here
  have hx := A.2.1
  have hd' := hb A.2.2 hd
  show Steps p.tables e below (T.setTop { method := m, pc := pc, locals := ls, stack := .double y :: .double x :: st, locked := none }) _
  jvm_step h [h.top, hx, hd', Op.dadd.at_number h.top hn]
  exact k'
theorem g_dsub (A : Ax p l e R s m args below meth c T locs cells slots B) {x y : UInt64} (hd : decode B pc = .ok (.dsub, 1)) (hn : NoNaN64 (FP.dsub x y)) (hp : pc + 1 = pc') (k : Go p e below P T (mkF m pc' ls (.double (FP.dsub x y) :: st))) : Go p e below P T (mkF m pc ls (.double y :: .double x :: st)) := by
  subst hp
  refine Go.of (fun t k' => ?_) k
  have h := A.1.here
  have hx := A.2.1
  have hd' := hb A.2.2 hd
  show Steps p.tables e below (T.setTop { method := m, pc := pc, locals := ls, stack := .double y :: .double x :: st, locked := none }) _
  jvm_step h [h.top, hx, hd', Op.dsub.at_number h.top hn]
  exact k'
theorem g_dmul (A : Ax p l e R s m args below meth c T locs cells slots B) {x y : UInt64} (hd : decode B pc = .ok (.dmul, 1)) (hn : NoNaN64 (FP.dmul x y)) (hp : pc + 1 = pc') (k : Go p e below P T (mkF m pc' ls (.double (FP.dmul x y) :: st))) : Go p e below P T (mkF m pc ls (.double y :: .double x :: st)) := by
  subst hp
  refine Go.of (fun t k' => ?_) k
  have h := A.1.here
  have hx := A.2.1
  have hd' := hb A.2.2 hd
  show Steps p.tables e below (T.setTop { method := m, pc := pc, locals := ls, stack := .double y :: .double x :: st, locked := none }) _
  jvm_step h [h.top, hx, hd', Op.dmul.at_number h.top hn]
  exact k'
theorem g_ddiv (A : Ax p l e R s m args below meth c T locs cells slots B) {x y : UInt64} (hd : decode B pc = .ok (.ddiv, 1)) (hn : NoNaN64 (FP.ddiv x y)) (hp : pc + 1 = pc') (k : Go p e below P T (mkF m pc' ls (.double (FP.ddiv x y) :: st))) : Go p e below P T (mkF m pc ls (.double y :: .double x :: st)) := by
  subst hp
  refine Go.of (fun t k' => ?_) k
  have h := A.1.here
  have hx := A.2.1
  have hd' := hb A.2.2 hd
  show Steps p.tables e below (T.setTop { method := m, pc := pc, locals := ls, stack := .double y :: .double x :: st, locked := none }) _
  jvm_step h [h.top, hx, hd', Op.ddiv.at_number h.top hn]
  exact k'
theorem g_dneg (A : Ax p l e R s m args below meth c T locs cells slots B) {x : UInt64} (hd : decode B pc = .ok (.dneg, 1)) (hp : pc + 1 = pc') (k : Go p e below P T (mkF m pc' ls (.double (FP.dneg x) :: st))) : Go p e below P T (mkF m pc ls (.double x :: st)) := by
  subst hp
  refine Go.of (fun t k' => ?_) k
  have h := A.1.here
  have hx := A.2.1
  have hd' := hb A.2.2 hd
  show Steps p.tables e below (T.setTop { method := m, pc := pc, locals := ls, stack := .double x :: st, locked := none }) _
  jvm_step h [h.top, hx, hd']
  exact k'
theorem g_i2d (A : Ax p l e R s m args below meth c T locs cells slots B) {x : Int32} (hd : decode B pc = .ok (.i2d, 1)) (hp : pc + 1 = pc') (k : Go p e below P T (mkF m pc' ls (.double (FP.i2d x) :: st))) : Go p e below P T (mkF m pc ls (.int x :: st)) := by
  subst hp
  refine Go.of (fun t k' => ?_) k
  have h := A.1.here
  have hx := A.2.1
  have hd' := hb A.2.2 hd
  show Steps p.tables e below (T.setTop { method := m, pc := pc, locals := ls, stack := .int x :: st, locked := none }) _
  jvm_step h [h.top, hx, hd']
  exact k'
theorem g_l2d (A : Ax p l e R s m args below meth c T locs cells slots B) {x : Int64} (hd : decode B pc = .ok (.l2d, 1)) (hp : pc + 1 = pc') (k : Go p e below P T (mkF m pc' ls (.double (FP.l2d x) :: st))) : Go p e below P T (mkF m pc ls (.long x :: st)) := by
  subst hp
  refine Go.of (fun t k' => ?_) k
  have h := A.1.here
  have hx := A.2.1
  have hd' := hb A.2.2 hd
  show Steps p.tables e below (T.setTop { method := m, pc := pc, locals := ls, stack := .long x :: st, locked := none }) _
  jvm_step h [h.top, hx, hd']
  exact k'
theorem g_dcmp (A : Ax p l e R s m args below meth c T locs cells slots B) {x y : UInt64} {op : CmpOp} (hd : decode B pc = .ok (.dcmp op, 1)) (hp : pc + 1 = pc') (k : Go p e below P T (mkF m pc' ls (.int (cmpValue (FP.dcmp x y) op) :: st))) : Go p e below P T (mkF m pc ls (.double y :: .double x :: st)) := by
  subst hp
  refine Go.of (fun t k' => ?_) k
  have h := A.1.here
  have hx := A.2.1
  have hd' := hb A.2.2 hd
  show Steps p.tables e below (T.setTop { method := m, pc := pc, locals := ls, stack := .double y :: .double x :: st, locked := none }) _
  jvm_step h [h.top, hx, hd']
  exact k'
theorem g_lcmp (A : Ax p l e R s m args below meth c T locs cells slots B) {x y : Int64} (hd : decode B pc = .ok (.lcmp, 1)) (hp : pc + 1 = pc') (k : Go p e below P T (mkF m pc' ls (.int (XT.cmpL x y) :: st))) : Go p e below P T (mkF m pc ls (.long y :: .long x :: st)) := by
  subst hp; exact Go.of (fun _ k' => XT.lcmp A.1.here A.2.1 rfl (hb A.2.2 hd) rfl k') k
theorem g_dup (A : Ax p l e R s m args below meth c T locs cells slots B) {x : Value} (hd : decode B pc = .ok (.dup, 1)) (hc : x.category = 1) (hp : pc + 1 = pc') (k : Go p e below P T (mkF m pc' ls (x :: x :: st))) : Go p e below P T (mkF m pc ls (x :: st)) := by
  subst hp; exact Go.of (fun _ k' => XS.dup A.1.here A.2.1 rfl (hb A.2.2 hd) rfl hc k') k
theorem g_pop (A : Ax p l e R s m args below meth c T locs cells slots B) {x : Value} (hd : decode B pc = .ok (.pop, 1)) (hc : x.category = 1) (hp : pc + 1 = pc') (k : Go p e below P T (mkF m pc' ls st)) : Go p e below P T (mkF m pc ls (x :: st)) := by
  subst hp; exact Go.of (fun _ k' => XT.pop A.1.here A.2.1 rfl (hb A.2.2 hd) rfl hc k') k
theorem g_iinc (A : Ax p l e R s m args below meth c T locs cells slots B) {k : Nat} {i : Int} {x y : Int32} (hd : decode B pc = .ok (.iinc k i, 3)) (hl : ls[k]? = some (.val (.int x))) (hy : x + Int32.ofInt i = y) (hl' : storeLocals ls k (.int y) = some ls') (hp : pc + 3 = pc') (k : Go p e below P T (mkF m pc' ls' st)) : Go p e below P T (mkF m pc ls st) := by
  subst hp hy; exact Go.of (fun _ k' => XS.iinc A.1.here A.2.1 rfl (hb A.2.2 hd) hl hl' k') k
theorem own_off {pc pc' : Nat} {o : Int} (h : (pc : Int) + o = (pc' : Int)) : 0 ≤ (pc : Int) + o ∧ ((pc : Int) + o).toNat = pc' := by omega
theorem g_goto (A : Ax p l e R s m args below meth c T locs cells slots B) {o : Int} (hd : decode B pc = .ok (.goto o, 3)) (hp : (pc : Int) + o = (pc' : Int)) (k : Go p e below P T (mkF m pc' ls st)) : Go p e below P T (mkF m pc ls st) := Go.of (fun _ k' => XS.goto A.1.here A.2.1 rfl rfl (hb A.2.2 hd) (own_off hp).1 (own_off hp).2 k') k
theorem g_ifY (A : Ax p l e R s m args below meth c T locs cells slots B) {o : Int} {cd : ClassFile.Cond} {x : Int32} (hd : decode B pc = .ok (.ifCond cd o, 3)) (hc : ifCond.holds cd x = true) (hp : (pc : Int) + o = (pc' : Int)) (k : Go p e below P T (mkF m pc' ls st)) : Go p e below P T (mkF m pc ls (.int x :: st)) := Go.of (fun _ k' => XS.ifYes A.1.here A.2.1 rfl rfl (hb A.2.2 hd) rfl hc (own_off hp).1 (own_off hp).2 k') k
theorem g_ifN (A : Ax p l e R s m args below meth c T locs cells slots B) {o : Int} {cd : ClassFile.Cond} {x : Int32} (hd : decode B pc = .ok (.ifCond cd o, 3)) (hc : ifCond.holds cd x = false) (hp : pc + 3 = pc') (k : Go p e below P T (mkF m pc' ls st)) : Go p e below P T (mkF m pc ls (.int x :: st)) := by
  subst hp; exact Go.of (fun _ k' => XS.ifNo A.1.here A.2.1 rfl (hb A.2.2 hd) rfl hc k') k
theorem g_icY (A : Ax p l e R s m args below meth c T locs cells slots B) {o : Int} {cd : ClassFile.Cond} {x y : Int32} (hd : decode B pc = .ok (.if_icmp cd o, 3)) (hc : if_icmp.holds cd x y = true) (hp : (pc : Int) + o = (pc' : Int)) (k : Go p e below P T (mkF m pc' ls st)) : Go p e below P T (mkF m pc ls (.int y :: .int x :: st)) := Go.of (fun _ k' => XS.icmpYes A.1.here A.2.1 rfl rfl (hb A.2.2 hd) rfl hc (own_off hp).1 (own_off hp).2 k') k
theorem g_icN (A : Ax p l e R s m args below meth c T locs cells slots B) {o : Int} {cd : ClassFile.Cond} {x y : Int32} (hd : decode B pc = .ok (.if_icmp cd o, 3)) (hc : if_icmp.holds cd x y = false) (hp : pc + 3 = pc') (k : Go p e below P T (mkF m pc' ls st)) : Go p e below P T (mkF m pc ls (.int y :: .int x :: st)) := by
  subst hp; exact Go.of (fun _ k' => XS.icmpNo A.1.here A.2.1 rfl (hb A.2.2 hd) rfl hc k') k
theorem c0_eq_t {x : Int32} (h : x = 0) : ifCond.holds .eq x = true := (if0 _ _).trans (teq h).1
theorem c0_eq_f {x : Int32} (h : ¬ x = 0) : ifCond.holds .eq x = false := (if0 _ _).trans (feq h).1
theorem c0_ne_t {x : Int32} (h : ¬ x = 0) : ifCond.holds .ne x = true := (if0 _ _).trans (feq h).2
theorem c0_ne_f {x : Int32} (h : x = 0) : ifCond.holds .ne x = false := (if0 _ _).trans (teq h).2
theorem c0_lt_t {x : Int32} (h : x < 0) : ifCond.holds .lt x = true := (if0 _ _).trans (tlt h).1
theorem c0_lt_f {x : Int32} (h : ¬ x < 0) : ifCond.holds .lt x = false := (if0 _ _).trans (flt h).1
theorem c0_ge_t {x : Int32} (h : ¬ x < 0) : ifCond.holds .ge x = true := (if0 _ _).trans (flt h).2.1
theorem c0_ge_f {x : Int32} (h : x < 0) : ifCond.holds .ge x = false := (if0 _ _).trans (tlt h).2.1
theorem c0_gt_t {x : Int32} (h : 0 < x) : ifCond.holds .gt x = true := (if0 _ _).trans (tlt h).2.2.1
theorem c0_gt_f {x : Int32} (h : ¬ 0 < x) : ifCond.holds .gt x = false := (if0 _ _).trans (flt h).2.2.1
theorem c0_le_t {x : Int32} (h : ¬ 0 < x) : ifCond.holds .le x = true := (if0 _ _).trans (flt h).2.2.2
theorem c0_le_f {x : Int32} (h : 0 < x) : ifCond.holds .le x = false := (if0 _ _).trans (tlt h).2.2.2
theorem c2_eq_t {x y : Int32} (h : x = y) : if_icmp.holds .eq x y = true := (teq h).1
theorem c2_eq_f {x y : Int32} (h : ¬ x = y) : if_icmp.holds .eq x y = false := (feq h).1
theorem c2_ne_t {x y : Int32} (h : ¬ x = y) : if_icmp.holds .ne x y = true := (feq h).2
theorem c2_ne_f {x y : Int32} (h : x = y) : if_icmp.holds .ne x y = false := (teq h).2
theorem c2_lt_t {x y : Int32} (h : x < y) : if_icmp.holds .lt x y = true := (tlt h).1
theorem c2_lt_f {x y : Int32} (h : ¬ x < y) : if_icmp.holds .lt x y = false := (flt h).1
theorem c2_ge_t {x y : Int32} (h : ¬ x < y) : if_icmp.holds .ge x y = true := (flt h).2.1
theorem c2_ge_f {x y : Int32} (h : x < y) : if_icmp.holds .ge x y = false := (tlt h).2.1
theorem c2_gt_t {x y : Int32} (h : y < x) : if_icmp.holds .gt x y = true := (tlt h).2.2.1
theorem c2_gt_f {x y : Int32} (h : ¬ y < x) : if_icmp.holds .gt x y = false := (flt h).2.2.1
theorem c2_le_t {x y : Int32} (h : ¬ y < x) : if_icmp.holds .le x y = true := (flt h).2.2.2
theorem c2_le_f {x y : Int32} (h : y < x) : if_icmp.holds .le x y = false := (tlt h).2.2.2
theorem b0_eq_t {C : Prop} [Decidable C] {v : Int32} (e : v = if C then 1 else 0) (h : ¬ C) : ifCond.holds .eq v = true := c0_eq_t (by rw [e, if_neg h])
theorem b0_eq_f {C : Prop} [Decidable C] {v : Int32} (e : v = if C then 1 else 0) (h : C) : ifCond.holds .eq v = false := c0_eq_f (by rw [e, if_pos h]; decide)
theorem b0_ne_t {C : Prop} [Decidable C] {v : Int32} (e : v = if C then 1 else 0) (h : C) : ifCond.holds .ne v = true := c0_ne_t (by rw [e, if_pos h]; decide)
theorem b0_ne_f {C : Prop} [Decidable C] {v : Int32} (e : v = if C then 1 else 0) (h : ¬ C) : ifCond.holds .ne v = false := c0_ne_f (by rw [e, if_neg h])
theorem own_b01 {C : Prop} [Decidable C] {v : Int32} (e : v = if C then 1 else 0) : narrow .boolean (.int v) = .int v := by
  subst e; by_cases h : C
  · rw [if_pos h]; rfl
  · rw [if_neg h]; rfl
theorem own_fb {C : Prop} [Decidable C] {v : Int32} (e : v = if C then 1 else 0) : fits .boolean (.int v) = true := by
  subst e; by_cases h : C
  · rw [if_pos h]; rfl
  · rw [if_neg h]; rfl
theorem own_ndadd {x y : UInt64} (h1 : Fin64 x) (h2 : Fin64 y) : NoNaN64 (FP.dadd x y) := dadd_out h1.noNaN h2
theorem own_ndsub {x y : UInt64} (h1 : Fin64 x) (h2 : Fin64 y) : NoNaN64 (FP.dsub x y) := dsub_out h1.noNaN h2
theorem own_ndmul {x y : UInt64} (h1 : Fin64 x) (h2 : Fin64 y) : NoNaN64 (FP.dmul x y) := dmul_out h1 h2
theorem own_fin {x : UInt64} : Fin64 x ↔ FP.Core.DFin x := fin64_core
theorem own_fneg {x : UInt64} (h : Fin64 x) : Fin64 (FP.dneg x) := by
  obtain ⟨s, c, q, e⟩ := fin64_core.mp h
  exact fin64_core.mpr ⟨!s, c, q, (FP.val64_dneg x).trans (by rw [e]; rfl)⟩
theorem own_self {x : UInt64} (h : Fin64 x) : FP.dcmp x x = some .eq := FP.Core.dcmp_self (fin64_core.mp h).ne_nan
theorem own_sgt {x : UInt64} (h : Fin64 x) : ¬ FP.dcmp x x = some .gt := by rw [own_self h]; decide
theorem own_slt {x : UInt64} (h : Fin64 x) : ¬ FP.dcmp x x = some .lt := by rw [own_self h]; decide
theorem own_and {c d : Jvm.Cond} {a : Array Value} {s : State} (h1 : c.before a s = true) (h2 : d.before a s = true) : (Jvm.Cond.and c d).before a s = true := by rw [Cond.before_and, h1, h2]; rfl
theorem own_isfin {x : UInt64} (h : Fin64 x) : some (Value.int (if Jvm.Free.Fl.relLe (FP.dcmp (x &&& 0x7fffffffffffffff) Jvm.Free.Fl.maxD) = true then (1 : Int32) else 0)) = some (.int (1 : Int32)) := by rw [if_pos ((le_max_iff h.noNaN).mpr h)]
theorem own_isinf {x : UInt64} (h : Fin64 x) : some (Value.int (if Jvm.Free.Fl.relGt (FP.dcmp (x &&& 0x7fffffffffffffff) Jvm.Free.Fl.maxD) = true then (1 : Int32) else 0)) = some (.int (0 : Int32)) := by rw [if_neg (fun h4 => (gt_max_iff h.noNaN).mp h4 h)]
theorem own_dfin {i : Int} {x : UInt64} (h : FP.Core.DInt i x) : Fin64 x := by
  refine fin64_core.mpr ?_
  have q : FP.Core.Whole i (FP.Core.val64 x) := h
  cases e : FP.Core.val64 x with
  | nan => rw [e] at q; exact q.elim
  | inf s => rw [e] at q; exact q.elim
  | fin s c q => exact ⟨s, c, q, e⟩
theorem own_fn {v : Int32} (h : narrow .boolean (.int v) = .int v) : fits .boolean (.int v) = true := by
  have q : v &&& 1 = v := Value.int.inj h
  rcases and_one v with z | z <;> rw [z] at q <;> subst q <;> rfl
/-- a double less than, equal to .. another, as the code asks it -/
abbrev oGe (o : Option Ordering) : Prop := o = some .gt ∨ o = some .eq
abbrev oLe (o : Option Ordering) : Prop := o = some .lt ∨ o = some .eq
theorem d_l_eq_t {o : Option Ordering} (h : o = some .eq) : ifCond.holds .eq (cmpValue o .l) = true := by
  rcases o with _ | _ | _ | _ <;> first | rfl | decide | (exfalso; revert h; decide)
theorem d_l_eq_f {o : Option Ordering} (h : ¬ o = some .eq) : ifCond.holds .eq (cmpValue o .l) = false := by
  rcases o with _ | _ | _ | _ <;> first | rfl | decide | (exfalso; revert h; decide)
theorem d_l_ne_t {o : Option Ordering} (h : ¬ o = some .eq) : ifCond.holds .ne (cmpValue o .l) = true := by
  rcases o with _ | _ | _ | _ <;> first | rfl | decide | (exfalso; revert h; decide)
theorem d_l_ne_f {o : Option Ordering} (h : o = some .eq) : ifCond.holds .ne (cmpValue o .l) = false := by
  rcases o with _ | _ | _ | _ <;> first | rfl | decide | (exfalso; revert h; decide)
theorem d_g_eq_t {o : Option Ordering} (h : o = some .eq) : ifCond.holds .eq (cmpValue o .g) = true := by
  rcases o with _ | _ | _ | _ <;> first | rfl | decide | (exfalso; revert h; decide)
theorem d_g_eq_f {o : Option Ordering} (h : ¬ o = some .eq) : ifCond.holds .eq (cmpValue o .g) = false := by
  rcases o with _ | _ | _ | _ <;> first | rfl | decide | (exfalso; revert h; decide)
theorem d_g_ne_t {o : Option Ordering} (h : ¬ o = some .eq) : ifCond.holds .ne (cmpValue o .g) = true := by
  rcases o with _ | _ | _ | _ <;> first | rfl | decide | (exfalso; revert h; decide)
theorem d_g_ne_f {o : Option Ordering} (h : o = some .eq) : ifCond.holds .ne (cmpValue o .g) = false := by
  rcases o with _ | _ | _ | _ <;> first | rfl | decide | (exfalso; revert h; decide)
theorem d_l_lt_t {o : Option Ordering} (h : ¬ oGe o) : ifCond.holds .lt (cmpValue o .l) = true := by
  rcases o with _ | _ | _ | _ <;> first | rfl | decide | (exfalso; revert h; decide)
theorem d_l_lt_f {o : Option Ordering} (h : oGe o) : ifCond.holds .lt (cmpValue o .l) = false := by
  rcases o with _ | _ | _ | _ <;> first | rfl | decide | (exfalso; revert h; decide)
theorem d_l_ge_t {o : Option Ordering} (h : oGe o) : ifCond.holds .ge (cmpValue o .l) = true := by
  rcases o with _ | _ | _ | _ <;> first | rfl | decide | (exfalso; revert h; decide)
theorem d_l_ge_f {o : Option Ordering} (h : ¬ oGe o) : ifCond.holds .ge (cmpValue o .l) = false := by
  rcases o with _ | _ | _ | _ <;> first | rfl | decide | (exfalso; revert h; decide)
theorem d_l_gt_t {o : Option Ordering} (h : o = some .gt) : ifCond.holds .gt (cmpValue o .l) = true := by
  rcases o with _ | _ | _ | _ <;> first | rfl | decide | (exfalso; revert h; decide)
theorem d_l_gt_f {o : Option Ordering} (h : ¬ o = some .gt) : ifCond.holds .gt (cmpValue o .l) = false := by
  rcases o with _ | _ | _ | _ <;> first | rfl | decide | (exfalso; revert h; decide)
theorem d_l_le_t {o : Option Ordering} (h : ¬ o = some .gt) : ifCond.holds .le (cmpValue o .l) = true := by
  rcases o with _ | _ | _ | _ <;> first | rfl | decide | (exfalso; revert h; decide)
theorem d_l_le_f {o : Option Ordering} (h : o = some .gt) : ifCond.holds .le (cmpValue o .l) = false := by
  rcases o with _ | _ | _ | _ <;> first | rfl | decide | (exfalso; revert h; decide)
theorem d_g_lt_t {o : Option Ordering} (h : o = some .lt) : ifCond.holds .lt (cmpValue o .g) = true := by
  rcases o with _ | _ | _ | _ <;> first | rfl | decide | (exfalso; revert h; decide)
theorem d_g_lt_f {o : Option Ordering} (h : ¬ o = some .lt) : ifCond.holds .lt (cmpValue o .g) = false := by
  rcases o with _ | _ | _ | _ <;> first | rfl | decide | (exfalso; revert h; decide)
theorem d_g_ge_t {o : Option Ordering} (h : ¬ o = some .lt) : ifCond.holds .ge (cmpValue o .g) = true := by
  rcases o with _ | _ | _ | _ <;> first | rfl | decide | (exfalso; revert h; decide)
theorem d_g_ge_f {o : Option Ordering} (h : o = some .lt) : ifCond.holds .ge (cmpValue o .g) = false := by
  rcases o with _ | _ | _ | _ <;> first | rfl | decide | (exfalso; revert h; decide)
theorem d_g_gt_t {o : Option Ordering} (h : ¬ oLe o) : ifCond.holds .gt (cmpValue o .g) = true := by
  rcases o with _ | _ | _ | _ <;> first | rfl | decide | (exfalso; revert h; decide)
theorem d_g_gt_f {o : Option Ordering} (h : oLe o) : ifCond.holds .gt (cmpValue o .g) = false := by
  rcases o with _ | _ | _ | _ <;> first | rfl | decide | (exfalso; revert h; decide)
theorem d_g_le_t {o : Option Ordering} (h : oLe o) : ifCond.holds .le (cmpValue o .g) = true := by
  rcases o with _ | _ | _ | _ <;> first | rfl | decide | (exfalso; revert h; decide)
theorem d_g_le_f {o : Option Ordering} (h : ¬ oLe o) : ifCond.holds .le (cmpValue o .g) = false := by
  rcases o with _ | _ | _ | _ <;> first | rfl | decide | (exfalso; revert h; decide)
theorem l_eq (x y : Int64) : XT.cmpL x y = 0 ↔ x = y := lw_eq x y
theorem l_lt (x y : Int64) : XT.cmpL x y < 0 ↔ x < y := lw_lt x y
theorem l_gt (x y : Int64) : 0 < XT.cmpL x y ↔ y < x := lw_gt x y
theorem g_ret (A : Ax p l e R s m args below meth c T locs cells slots B) {w : Value} {t : FieldType} {i : Instr} {Q : Option Value → Heap → List Loc → Prop} {K S : Nat} (hd : decode B pc = .ok (i, 1)) (hlk : meth.locks = false) (hret : meth.sig.returnType = some t) (hn : narrow t w = w)
    (hi : (i = .ireturn ∧ (t = .int ∨ t = .boolean ∨ t = .byte ∨ t = .char ∨ t = .short) ∧ ∃ z, w = .int z) ∨ (i = .lreturn ∧ t = .long ∧ ∃ z, w = .long z) ∨ (i = .dreturn ∧ t = .double ∧ ∃ z, w = .double z) ∨ (i = .freturn ∧ t = .float ∧ ∃ z, w = .float z) ∨ (i = .areturn ∧ t.isReference = true ∧ w.isRef = true))
    (hK : cells ≤ K) (hS : slots ≤ S) (hQ : Q (some w) T.heap locs) : Go p e below (fun U o => ∃ v L, o = .returned v ∧ Q v U.heap L ∧ FrameEnd s o U L K S) T (mkF m pc ls (w :: st)) := by
  obtain ⟨fs, hr, hrun, hended, hW, hsame⟩ := A.1.leave (v := some w) (fun h => by rw [hret] at h; cases h) hlk
  exact ⟨_, _, retOut A.1 A.2.1 hret hn hi (hb A.2.2 hd) hr, hrun, hended, _, _, rfl, hQ, ⟨_, rfl⟩, hW, hsame.mono hK hS⟩
theorem g_retV (A : Ax p l e R s m args below meth c T locs cells slots B) {Q : Option Value → Heap → List Loc → Prop} {K S : Nat} (hd : decode B pc = .ok (.return_, 1)) (hlk : meth.locks = false) (hret : meth.sig.returnType = none)
    (hK : cells ≤ K) (hS : slots ≤ S) (hQ : Q none T.heap locs) : Go p e below (fun U o => ∃ v L, o = .returned v ∧ Q v U.heap L ∧ FrameEnd s o U L K S) T (mkF m pc ls []) := by
  obtain ⟨fs, hr, hrun, hended, hW, hsame⟩ := A.1.leave (v := none) (fun _ => rfl) hlk
  exact ⟨_, _, A.1.returnOut A.2.1 hret (hb A.2.2 hd) hr, hrun, hended, _, _, rfl, hQ, ⟨_, rfl⟩, hW, hsame.mono hK hS⟩
theorem g_ldcI (A : Ax p l e R s m args below meth c T locs cells slots B) {Z : State} {a0 : Array Value} {own : String} {i : Nat} {v : Int32} (hZ : Z.Warmed39 s.vm) (hown : s.vm.findClass own = some m.cls) (w : (Jvm.Cond.constant own i v).before a0 Z = true) (hd : decode B pc = .ok (.ldc i, 2)) (hp : pc + 2 = pc') (k : Go p e below P T (mkF m pc' ls (.int v :: st))) : Go p e below P T (mkF m pc ls st) := by
  subst hp; exact Go.of (A.1.ldcInt A.2.1 hown (mvT hZ w) (g := mkF m pc ls st) rfl (hb A.2.2 hd)) k
theorem g_ldcD (A : Ax p l e R s m args below meth c T locs cells slots B) {Z : State} {a0 : Array Value} {own : String} {i : Nat} {v : UInt64} (hZ : Z.Warmed39 s.vm) (hown : s.vm.findClass own = some m.cls) (w : (Jvm.Cond.constantDouble own i v).before a0 Z = true) (hd : decode B pc = .ok (.ldc2_w i, 3)) (hp : pc + 3 = pc') (k : Go p e below P T (mkF m pc' ls (.double v :: st))) : Go p e below P T (mkF m pc ls st) := by
  subst hp; exact Go.of (A.1.ldc2DoubleC A.2.1 hown (mvT hZ w) (g := mkF m pc ls st) rfl (hb A.2.2 hd)) k
theorem g_ldcL (A : Ax p l e R s m args below meth c T locs cells slots B) {Z : State} {a0 : Array Value} {own : String} {i : Nat} {v : Int64} (hZ : Z.Warmed39 s.vm) (hown : s.vm.findClass own = some m.cls) (w : (Jvm.Cond.constantLong own i v).before a0 Z = true) (hd : decode B pc = .ok (.ldc2_w i, 3)) (hp : pc + 3 = pc') (k : Go p e below P T (mkF m pc' ls (.long v :: st))) : Go p e below P T (mkF m pc ls st) := by
  subst hp; exact Go.of (A.1.ldc2Long A.2.1 hown (mvT hZ w) (g := mkF m pc ls st) rfl (hb A.2.2 hd)) k
theorem g_nnY (A : Ax p l e R s m args below meth c T locs cells slots B) {o : Int} {b : Addr} (hd : decode B pc = .ok (.ifnonnull o, 3)) (hp : (pc : Int) + o = (pc' : Int)) (k : Go p e below P T (mkF m pc' ls st)) : Go p e below P T (mkF m pc ls (.ref b :: st)) := Go.of (fun _ k' => XT.ifnonnullYes A.1.here A.2.1 rfl rfl (hb A.2.2 hd) rfl (own_off hp).1 (own_off hp).2 k') k
theorem g_nnN (A : Ax p l e R s m args below meth c T locs cells slots B) {o : Int} (hd : decode B pc = .ok (.ifnonnull o, 3)) (hp : pc + 3 = pc') (k : Go p e below P T (mkF m pc' ls st)) : Go p e below P T (mkF m pc ls (.null :: st)) := by
  subst hp; exact Go.of (fun _ k' => XT.ifnonnullNo A.1.here A.2.1 rfl (hb A.2.2 hd) rfl k') k
theorem g_nuY (A : Ax p l e R s m args below meth c T locs cells slots B) {o : Int} (hd : decode B pc = .ok (.ifnull o, 3)) (hp : (pc : Int) + o = (pc' : Int)) (k : Go p e below P T (mkF m pc' ls st)) : Go p e below P T (mkF m pc ls (.null :: st)) := Go.of (fun _ k' => XS.ifnullYes A.1.here A.2.1 rfl rfl (hb A.2.2 hd) rfl (own_off hp).1 (own_off hp).2 k') k
theorem g_nuN (A : Ax p l e R s m args below meth c T locs cells slots B) {o : Int} {b : Addr} (hd : decode B pc = .ok (.ifnull o, 3)) (hp : pc + 3 = pc') (k : Go p e below P T (mkF m pc' ls st)) : Go p e below P T (mkF m pc ls (.ref b :: st)) := by
  subst hp; exact Go.of (fun _ k' => XS.ifnullNo A.1.here A.2.1 rfl (hb A.2.2 hd) rfl k') k
theorem g_acY (A : Ax p l e R s m args below meth c T locs cells slots B) {o : Int} {cd : ClassFile.ACond} {x y : Value} (hd : decode B pc = .ok (.if_acmp cd o, 3)) (h1 : x.isRef = true) (h2 : y.isRef = true) (hc : XT.acmp cd x y = true) (hp : (pc : Int) + o = (pc' : Int)) (k : Go p e below P T (mkF m pc' ls st)) : Go p e below P T (mkF m pc ls (y :: x :: st)) := Go.of (fun _ k' => XT.acmpYes A.1.here A.2.1 rfl rfl (hb A.2.2 hd) rfl h1 h2 hc (own_off hp).1 (own_off hp).2 k') k
theorem g_acN (A : Ax p l e R s m args below meth c T locs cells slots B) {o : Int} {cd : ClassFile.ACond} {x y : Value} (hd : decode B pc = .ok (.if_acmp cd o, 3)) (h1 : x.isRef = true) (h2 : y.isRef = true) (hc : XT.acmp cd x y = false) (hp : pc + 3 = pc') (k : Go p e below P T (mkF m pc' ls st)) : Go p e below P T (mkF m pc ls (y :: x :: st)) := by
  subst hp; exact Go.of (fun _ k' => XT.acmpNo A.1.here A.2.1 rfl (hb A.2.2 hd) rfl h1 h2 hc k') k
/-- an array of n places: its i-th holds f i -/
def Dar (Z : State) (h : Heap) (a : Addr) (ty : FieldType) (n : Nat) (f : Nat → Value) : Prop := ∃ cl : Cell, RoadKit.Arr Z h a cl ty ∧ cl.slots.size = n ∧ n < 2147483648 ∧ ∀ i, i < n → cl.slots[i]? = some (f i)
variable {Z : State} {h h' : Heap} {a b : Addr} {ty : FieldType} {n : Nat} {f g : Nat → Value} {sl : Nat} {v : Value} {ws : List Addr}
theorem Dar.lt (F : Dar Z h a ty n f) : a < h.size := by obtain ⟨cl, A, -⟩ := F; exact A.lt
theorem Dar.ext (E : Ext h h') (F : Dar Z h a ty n f) : Dar Z h' a ty n f := by obtain ⟨cl, A, r⟩ := F; exact ⟨cl, A.ext E, r⟩
theorem Dar.other (W : Wr h h' b sl v) (F : Dar Z h a ty n f) (q : a ≠ b) : Dar Z h' a ty n f := by obtain ⟨cl, A, r⟩ := F; exact ⟨cl, A.other W q, r⟩
theorem Dar.keep (F : Dar Z h a ty n f) (K : Keep h h' ws) (q : a ∉ ws) : Dar Z h' a ty n f := by obtain ⟨cl, A, r⟩ := F; exact ⟨cl, ⟨K.2.1 a cl A.1 q, A.2⟩, r⟩
theorem Dar.congr (F : Dar Z h a ty n f) (q : ∀ i, i < n → f i = g i) : Dar Z h a ty n g := by obtain ⟨cl, A, r1, r2, r3⟩ := F; exact ⟨cl, A, r1, r2, fun i hi => by rw [← q i hi]; exact r3 i hi⟩
theorem Dar.new {cA : ClassId} {z : Int32} (A : RoadKit.Arr Z h a (newA cA ty z) ty) (hz : z.toNatClampNeg = n) : Dar Z h a ty n (fun _ => defaultValue ty) := by
  refine ⟨_, A, (sz_new _ _ _).trans hz, ?_, fun i hi => by subst hz; simp [newA, hi]⟩
  have := z.toInt_lt
  rw [← hz, Int32.toNatClampNeg]; omega
theorem Dar.ne_exa {a0 : Array Value} {k : Nat} {C : String} (F : Dar Z h a ty n f) (E : Exa Z h b C) (wi : (Jvm.Cond.instantiable C k).before a0 Z = true) : a ≠ b := by obtain ⟨cl, A, -⟩ := F; exact fun q => ne_arr E wi A q.symm
theorem own_ne {a b : Nat} {h : Heap} (g : a = h.size) (q : b < h.size) : b ≠ a := by rw [g]; exact Nat.ne_of_lt q
theorem own_clamp {i : Nat} (hi : i < 2147483648) : (Int32.ofNat i).toNatClampNeg = i ∧ ¬ Int32.ofNat i < 0 := by
  have e : (Int32.ofNat i).toInt = i := Int32.toInt_ofNat_of_lt hi
  refine ⟨by rw [Int32.toNatClampNeg, e]; omega, fun q => ?_⟩
  rw [Int32.lt_iff_toInt_lt, e] at q
  have : (0 : Int32).toInt = 0 := rfl
  omega
theorem Dar.set {i : Nat} (F : Dar Z h a ty n f) (W : Wr h h' a i v) (q : ∀ j, j < n → g j = if j = i then v else f j) : Dar Z h' a ty n g := by
  obtain ⟨cl, A, r1, r2, r3⟩ := F
  refine ⟨_, A.same W, (sz_set _ _ _).trans r1, r2, fun j hj => ?_⟩
  rw [q j hj]
  by_cases e : j = i
  · subst e; rw [if_pos rfl]; simp [Cell.setSlot, r1, hj]
  · rw [if_neg e]; exact (Array.getElem?_setIfInBounds_ne (Ne.symm e)).trans (r3 j hj)
theorem own_in {cl : Cell} {i : Nat} (S : cl.slots.size = n) (hn : n < 2147483648) (hi : i < n) : ¬ (Int32.ofNat i < 0 ∨ cl.slots.size ≤ (Int32.ofNat i).toNatClampNeg) := by
  obtain ⟨q1, q2⟩ := own_clamp (i := i) (by omega)
  rw [q1, S]; exact fun z => z.elim q2 (by omega)
theorem g_daload (A : Ax p l e R s m args below meth c T locs cells slots B) (hZ : Z.Warmed39 s.vm) (eT : T.heap = h) {j : Int32} {i : Nat} {x : UInt64} (F : Dar Z h a .double n f) (hi : i < n) (hj : j = Int32.ofNat i) (hv : f i = .double x) (hd : decode B pc = .ok (.daload, 1)) (hp : pc + 1 = pc') (k : Go p e below P T (mkF m pc' ls (.double x :: st))) : Go p e below P T (mkF m pc ls (.int j :: .ref a :: st)) := by
  subst hp hj
  obtain ⟨cl, A2, r1, r2, r3⟩ := F
  have q := (own_clamp (i := i) (by omega)).1
  exact Go.of (fun t k' => A.1.daload A.2.1 (j := Int32.ofNat i) (v := .double x) (by rw [eT]; exact A2.1) (State.isArrayOf_alike hZ.alike A2.2.1) A2.2.2 (own_in r1 r2 hi) (by rw [q, ← hv]; exact r3 i hi) (g := mkF m pc ls (.int (Int32.ofNat i) :: .ref a :: st)) rfl rfl (hb A.2.2 hd) t k') k
theorem g_iaload (A : Ax p l e R s m args below meth c T locs cells slots B) (hZ : Z.Warmed39 s.vm) (eT : T.heap = h) {j : Int32} {i : Nat} {x : Int32} (F : Dar Z h a .int n f) (hi : i < n) (hj : j = Int32.ofNat i) (hv : f i = .int x) (hd : decode B pc = .ok (.iaload, 1)) (hp : pc + 1 = pc') (k : Go p e below P T (mkF m pc' ls (.int x :: st))) : Go p e below P T (mkF m pc ls (.int j :: .ref a :: st)) := by
  subst hp hj
  obtain ⟨cl, A2, r1, r2, r3⟩ := F
  have q := (own_clamp (i := i) (by omega)).1
  exact Go.of (fun t k' => A.1.iaload A.2.1 (j := Int32.ofNat i) (v := .int x) (by rw [eT]; exact A2.1) (State.isArrayOf_alike hZ.alike A2.2.1) A2.2.2 (own_in r1 r2 hi) (by rw [q, ← hv]; exact r3 i hi) (g := mkF m pc ls (.int (Int32.ofNat i) :: .ref a :: st)) rfl rfl (hb A.2.2 hd) t k') k
theorem g_baload (A : Ax p l e R s m args below meth c T locs cells slots B) (hZ : Z.Warmed39 s.vm) (eT : T.heap = h) {j : Int32} {i : Nat} {x : Int32} (F : Dar Z h a .boolean n f) (hi : i < n) (hj : j = Int32.ofNat i) (hv : f i = .int x) (hd : decode B pc = .ok (.baload, 1)) (hp : pc + 1 = pc') (k : Go p e below P T (mkF m pc' ls (.int x :: st))) : Go p e below P T (mkF m pc ls (.int j :: .ref a :: st)) := by
  subst hp hj
  obtain ⟨cl, A2, r1, r2, r3⟩ := F
  have q := (own_clamp (i := i) (by omega)).1
  exact Go.of (fun t k' => A.1.baloadBooleans A.2.1 (j := Int32.ofNat i) (v := .int x) (by rw [eT]; exact A2.1) (State.isArrayOf_alike hZ.alike A2.2.1) A2.2.2 (own_in r1 r2 hi) (by rw [q, ← hv]; exact r3 i hi) (g := mkF m pc ls (.int (Int32.ofNat i) :: .ref a :: st)) rfl rfl (hb A.2.2 hd) t k') k
theorem g_alen (A : Ax p l e R s m args below meth c T locs cells slots B) (hZ : Z.Warmed39 s.vm) (eT : T.heap = h) (F : Dar Z h a ty n f) (hd : decode B pc = .ok (.arraylength, 1)) {z : Int32} (hz : Int32.ofNat n = z) (hp : pc + 1 = pc') (k : Go p e below P T (mkF m pc' ls (.int z :: st))) : Go p e below P T (mkF m pc ls (.ref a :: st)) := by
  subst hp hz
  obtain ⟨cl, A2, r1, r2, r3⟩ := F
  exact Go.of (fun t k' => A.1.arraylength A.2.1 (cell := cl) (by rw [eT]; exact A2.1) (State.isArrayOf_alike hZ.alike A2.2.1) (g := mkF m pc ls (.ref a :: st)) rfl (rest := st) rfl (hb A.2.2 hd) t (by rw [r1]; exact k')) k
theorem s_dastore (A : Ax p l e R s m args below meth c T locs cells slots B) (hZ : Z.Warmed39 s.vm) (eT : T.heap = h) {j : Int32} {i : Nat} {x : UInt64} (F : Dar Z h a .double n f) (hi : i < n) (hj : j = Int32.ofNat i) (hd : decode B pc = .ok (.dastore, 1)) (hp : pc + 1 = pc') :
    ∃ T' h', Ax p l e R s m args below meth c T' (locs ++ [⟨a, i⟩]) cells slots B ∧ T'.heap = h' ∧ Wr h h' a i (.double x) ∧ ∀ {P : State → Outcome → Prop}, Go p e below P T' (mkF m pc' ls st) → Go p e below P T (mkF m pc ls (.double x :: .int j :: .ref a :: st)) := by
  subst hp hj
  obtain ⟨cl, A2, r1, r2, r3⟩ := F
  have q := (own_clamp (i := i) (by omega)).1
  obtain ⟨X', st'⟩ := A.1.dastore A.2.1 (by rw [eT]; exact A2.1) (State.isArrayOf_alike hZ.alike A2.2.1) A2.2.2 (own_in r1 r2 hi) (x := x) (g := mkF m pc ls (.double x :: .int (Int32.ofNat i) :: .ref a :: st)) rfl rfl (hb A.2.2 hd)
  rw [q] at X' st'
  exact ⟨_, _, ⟨X', A.2⟩, rfl, ⟨cl, A2.1, A2.plain, by rw [r1]; exact hi, by rw [← eT]; rfl⟩, fun k => Go.of st' k⟩
theorem s_iastore (A : Ax p l e R s m args below meth c T locs cells slots B) (hZ : Z.Warmed39 s.vm) (eT : T.heap = h) {j : Int32} {i : Nat} {x : Int32} (F : Dar Z h a .int n f) (hi : i < n) (hj : j = Int32.ofNat i) (hd : decode B pc = .ok (.iastore, 1)) (hp : pc + 1 = pc') :
    ∃ T' h', Ax p l e R s m args below meth c T' (locs ++ [⟨a, i⟩]) cells slots B ∧ T'.heap = h' ∧ Wr h h' a i (.int x) ∧ ∀ {P : State → Outcome → Prop}, Go p e below P T' (mkF m pc' ls st) → Go p e below P T (mkF m pc ls (.int x :: .int j :: .ref a :: st)) := by
  subst hp hj
  obtain ⟨cl, A2, r1, r2, r3⟩ := F
  have q := (own_clamp (i := i) (by omega)).1
  obtain ⟨T', h', X', e', W, st'⟩ := stI A.1 A.2.1 hZ eT A2 (own_in r1 r2 hi) (x := x) (g := mkF m pc ls (.int x :: .int (Int32.ofNat i) :: .ref a :: st)) rfl rfl (hb A.2.2 hd)
  rw [q] at X' W
  exact ⟨_, _, ⟨X', A.2⟩, e', W, fun k => Go.of st' k⟩
theorem s_zastore (A : Ax p l e R s m args below meth c T locs cells slots B) (hZ : Z.Warmed39 s.vm) (eT : T.heap = h) {j : Int32} {i : Nat} {x : Int32} (F : Dar Z h a .boolean n f) (hi : i < n) (hj : j = Int32.ofNat i) (hx1 : narrow .boolean (.int x) = .int x) (hd : decode B pc = .ok (.bastore, 1)) (hp : pc + 1 = pc') :
    ∃ T' h', Ax p l e R s m args below meth c T' (locs ++ [⟨a, i⟩]) cells slots B ∧ T'.heap = h' ∧ Wr h h' a i (.int x) ∧ ∀ {P : State → Outcome → Prop}, Go p e below P T' (mkF m pc' ls st) → Go p e below P T (mkF m pc ls (.int x :: .int j :: .ref a :: st)) := by
  subst hp hj
  obtain ⟨cl, A2, r1, r2, r3⟩ := F
  have q := (own_clamp (i := i) (by omega)).1
  obtain ⟨T', h', X', e', W, st'⟩ := stZ A.1 A.2.1 hZ eT A2 (own_in r1 r2 hi) (x := x) (g := mkF m pc ls (.int x :: .int (Int32.ofNat i) :: .ref a :: st)) rfl rfl (hb A.2.2 hd)
  have q2 : nar .boolean x = x := Value.int.inj hx1
  rw [q] at X' W; rw [q2] at W
  exact ⟨_, _, ⟨X', A.2⟩, e', W, fun k => Go.of st' k⟩
end own_go
theorem d1_0 : decode prog_19_method_2_code 0 = .ok (.aload_n 0, 1) := by decide +kernel
theorem d1_1 : decode prog_19_method_2_code 1 = .ok (.invokespecial 7, 3) := by decide +kernel
theorem d1_4 : decode prog_19_method_2_code 4 = .ok (.aload_n 1, 1) := by decide +kernel
theorem d1_5 : decode prog_19_method_2_code 5 = .ok (.arraylength, 1) := by decide +kernel
theorem d1_6 : decode prog_19_method_2_code 6 = .ok (.aload_n 2, 1) := by decide +kernel
theorem d1_7 : decode prog_19_method_2_code 7 = .ok (.arraylength, 1) := by decide +kernel
theorem d1_8 : decode prog_19_method_2_code 8 = .ok (.if_icmp .eq 20, 3) := by decide +kernel
theorem d1_11 : decode prog_19_method_2_code 11 = .ok (.new 12, 3) := by decide +kernel
theorem d1_14 : decode prog_19_method_2_code 14 = .ok (.dup, 1) := by decide +kernel
theorem d1_15 : decode prog_19_method_2_code 15 = .ok (.aload_n 1, 1) := by decide +kernel
theorem d1_16 : decode prog_19_method_2_code 16 = .ok (.arraylength, 1) := by decide +kernel
theorem d1_17 : decode prog_19_method_2_code 17 = .ok (.aload_n 2, 1) := by decide +kernel
theorem d1_18 : decode prog_19_method_2_code 18 = .ok (.arraylength, 1) := by decide +kernel
theorem d1_19 : decode prog_19_method_2_code 19 = .ok (.invokedynamic 14, 5) := by decide +kernel
theorem d1_24 : decode prog_19_method_2_code 24 = .ok (.invokespecial 18, 3) := by decide +kernel
theorem d1_27 : decode prog_19_method_2_code 27 = .ok (.athrow, 1) := by decide +kernel
theorem d1_28 : decode prog_19_method_2_code 28 = .ok (.aload_n 3, 1) := by decide +kernel
theorem d1_29 : decode prog_19_method_2_code 29 = .ok (.ifnull 10, 3) := by decide +kernel
theorem d1_32 : decode prog_19_method_2_code 32 = .ok (.aload_n 3, 1) := by decide +kernel
theorem d1_33 : decode prog_19_method_2_code 33 = .ok (.arraylength, 1) := by decide +kernel
theorem d1_34 : decode prog_19_method_2_code 34 = .ok (.aload_n 1, 1) := by decide +kernel
theorem d1_35 : decode prog_19_method_2_code 35 = .ok (.arraylength, 1) := by decide +kernel
theorem d1_36 : decode prog_19_method_2_code 36 = .ok (.if_icmp .ne 16, 3) := by decide +kernel
theorem d1_39 : decode prog_19_method_2_code 39 = .ok (.aload 4, 2) := by decide +kernel
theorem d1_41 : decode prog_19_method_2_code 41 = .ok (.ifnull 26, 3) := by decide +kernel
theorem d1_44 : decode prog_19_method_2_code 44 = .ok (.aload 4, 2) := by decide +kernel
theorem d1_46 : decode prog_19_method_2_code 46 = .ok (.arraylength, 1) := by decide +kernel
theorem d1_47 : decode prog_19_method_2_code 47 = .ok (.aload_n 1, 1) := by decide +kernel
theorem d1_48 : decode prog_19_method_2_code 48 = .ok (.arraylength, 1) := by decide +kernel
theorem d1_49 : decode prog_19_method_2_code 49 = .ok (.if_icmp .eq 18, 3) := by decide +kernel
theorem d1_52 : decode prog_19_method_2_code 52 = .ok (.new 12, 3) := by decide +kernel
theorem d1_55 : decode prog_19_method_2_code 55 = .ok (.dup, 1) := by decide +kernel
theorem d1_56 : decode prog_19_method_2_code 56 = .ok (.aload_n 1, 1) := by decide +kernel
theorem d1_57 : decode prog_19_method_2_code 57 = .ok (.arraylength, 1) := by decide +kernel
theorem d1_58 : decode prog_19_method_2_code 58 = .ok (.invokedynamic 21, 5) := by decide +kernel
theorem d1_63 : decode prog_19_method_2_code 63 = .ok (.invokespecial 18, 3) := by decide +kernel
theorem d1_66 : decode prog_19_method_2_code 66 = .ok (.athrow, 1) := by decide +kernel
theorem d1_67 : decode prog_19_method_2_code 67 = .ok (.aload_n 0, 1) := by decide +kernel
theorem d1_68 : decode prog_19_method_2_code 68 = .ok (.aload_n 1, 1) := by decide +kernel
theorem d1_69 : decode prog_19_method_2_code 69 = .ok (.putfield 24, 3) := by decide +kernel
theorem d1_72 : decode prog_19_method_2_code 72 = .ok (.aload_n 0, 1) := by decide +kernel
theorem d1_73 : decode prog_19_method_2_code 73 = .ok (.aload_n 2, 1) := by decide +kernel
theorem d1_74 : decode prog_19_method_2_code 74 = .ok (.putfield 28, 3) := by decide +kernel
theorem d1_77 : decode prog_19_method_2_code 77 = .ok (.aload_n 0, 1) := by decide +kernel
theorem d1_78 : decode prog_19_method_2_code 78 = .ok (.aload_n 3, 1) := by decide +kernel
theorem d1_79 : decode prog_19_method_2_code 79 = .ok (.putfield 32, 3) := by decide +kernel
theorem d1_82 : decode prog_19_method_2_code 82 = .ok (.aload_n 0, 1) := by decide +kernel
theorem d1_83 : decode prog_19_method_2_code 83 = .ok (.aload 4, 2) := by decide +kernel
theorem d1_85 : decode prog_19_method_2_code 85 = .ok (.putfield 35, 3) := by decide +kernel
theorem d1_88 : decode prog_19_method_2_code 88 = .ok (.iconst 0, 1) := by decide +kernel
theorem d1_89 : decode prog_19_method_2_code 89 = .ok (.istore 5, 2) := by decide +kernel
theorem d1_91 : decode prog_19_method_2_code 91 = .ok (.aload_n 2, 1) := by decide +kernel
theorem d1_92 : decode prog_19_method_2_code 92 = .ok (.astore 6, 2) := by decide +kernel
theorem d1_94 : decode prog_19_method_2_code 94 = .ok (.aload 6, 2) := by decide +kernel
theorem d1_96 : decode prog_19_method_2_code 96 = .ok (.arraylength, 1) := by decide +kernel
theorem d1_97 : decode prog_19_method_2_code 97 = .ok (.istore 7, 2) := by decide +kernel
theorem d1_99 : decode prog_19_method_2_code 99 = .ok (.iconst 0, 1) := by decide +kernel
theorem d1_100 : decode prog_19_method_2_code 100 = .ok (.istore 8, 2) := by decide +kernel
theorem d1_102 : decode prog_19_method_2_code 102 = .ok (.iload 8, 2) := by decide +kernel
theorem d1_104 : decode prog_19_method_2_code 104 = .ok (.iload 7, 2) := by decide +kernel
theorem d1_106 : decode prog_19_method_2_code 106 = .ok (.if_icmp .ge 24, 3) := by decide +kernel
theorem d1_109 : decode prog_19_method_2_code 109 = .ok (.aload 6, 2) := by decide +kernel
theorem d1_111 : decode prog_19_method_2_code 111 = .ok (.iload 8, 2) := by decide +kernel
theorem d1_113 : decode prog_19_method_2_code 113 = .ok (.baload, 1) := by decide +kernel
theorem d1_114 : decode prog_19_method_2_code 114 = .ok (.istore 9, 2) := by decide +kernel
theorem d1_116 : decode prog_19_method_2_code 116 = .ok (.iload 9, 2) := by decide +kernel
theorem d1_118 : decode prog_19_method_2_code 118 = .ok (.ifCond .eq 6, 3) := by decide +kernel
theorem d1_121 : decode prog_19_method_2_code 121 = .ok (.iinc 5 1, 3) := by decide +kernel
theorem d1_124 : decode prog_19_method_2_code 124 = .ok (.iinc 8 1, 3) := by decide +kernel
theorem d1_127 : decode prog_19_method_2_code 127 = .ok (.goto (-25), 3) := by decide +kernel
theorem d1_130 : decode prog_19_method_2_code 130 = .ok (.aload_n 0, 1) := by decide +kernel
theorem d1_131 : decode prog_19_method_2_code 131 = .ok (.iload 5, 2) := by decide +kernel
theorem d1_133 : decode prog_19_method_2_code 133 = .ok (.putfield 38, 3) := by decide +kernel
theorem d1_136 : decode prog_19_method_2_code 136 = .ok (.return_, 1) := by decide +kernel
theorem pn_0 : plainName "com/example/swathloom/swathloom/planning/Plan" = true := by first | (simp [plainName, overriddenIn]; done) | decide +kernel
theorem ef1 (m : MethodId) (a1 : Addr) (a2 : Addr) (a3 : Addr) (a4 : Addr) (f4 : Nat → Value) (a5 : Addr) (f5 : Nat → Value) (f2 : Nat → Value) (f3 : Nat → Value) (w0 : Int32) (w1 : Int32) (w2 : Int32) (u0 : Value) (u1 : Value) (u2 : Value) (u3 : Value) (u4 : Value) : entryFrame m #[(.ref a1), (.ref a2), (.ref a3), (.ref a4), (.ref a5)] 10 = mkF m 0 #[.val (.ref a1), .val (.ref a2), .val (.ref a3), .val (.ref a4), .val (.ref a5), .unset, .unset, .unset, .unset, .unset] [] := by first | (simp [entryFrame, mkF, argsToLocals, Value.category]; done) | rfl
def Q1_00 (Z : State) (a1 : Addr) (a2 : Addr) (a3 : Addr) (a4 : Addr) (f4 : Nat → Value) (a5 : Addr) (f5 : Nat → Value) (f2 : Nat → Value) (f3 : Nat → Value) (w0 : Int32) (w1 : Int32) (w2 : Int32) (u0 : Value) (u1 : Value) (u2 : Value) (u3 : Value) (u4 : Value) (h0 : Heap) (n0 : Nat) (v : Option Value) (h : Heap) (L : List Loc) : Prop := v = none ∧ Fr n0 L ∧ Keep h0 h [a1] ∧ Fld Z h a1 "com/example/swathloom/swathloom/planning/Plan" "used" "[Z" (.ref a3) ∧ Fld Z h a1 "com/example/swathloom/swathloom/planning/Plan" "rollVelocities" "[D" (.ref a4) ∧ Fld Z h a1 "com/example/swathloom/swathloom/planning/Plan" "selectionVelocities" "[D" (.ref a5)
set_option maxRecDepth 65536 in
set_option maxHeartbeats 40000000 in
theorem rm1_00 (l : Launch) (Z : State) (a0 : Array Value) (hw : ∀ d ∈ tables_1, d.before a0 Z = true) (ws : List Jvm.Cond) (a1 : Addr) (a2 : Addr) (a3 : Addr) (a4 : Addr) (f4 : Nat → Value) (a5 : Addr) (f5 : Nat → Value) (f2 : Nat → Value) (f3 : Nat → Value) (w0 : Int32) (w1 : Int32) (w2 : Int32) (u0 : Value) (u1 : Value) (u2 : Value) (u3 : Value) (u4 : Value) (h0 : Heap) (n0 : Nat) (Z0 : n0 ≤ h0.size) (E2 : Exa Z h0 a1 "com/example/swathloom/swathloom/planning/Plan") (F3 : Fld Z h0 a1 "com/example/swathloom/swathloom/planning/Plan" "rolls" "[D" u0) (F4 : Fld Z h0 a1 "com/example/swathloom/swathloom/planning/Plan" "used" "[Z" u1) (F5 : Fld Z h0 a1 "com/example/swathloom/swathloom/planning/Plan" "rollVelocities" "[D" u2) (F6 : Fld Z h0 a1 "com/example/swathloom/swathloom/planning/Plan" "selectionVelocities" "[D" u3) (F7 : Fld Z h0 a1 "com/example/swathloom/swathloom/planning/Plan" "strips" "I" u4) (g8 : n0 ≤ a1) (V9 : Dar Z h0 a2 .double 3 f2) (V10 : Dar Z h0 a3 .boolean 3 f3) (ne11 : a2 ≠ a1) (ne12 : a3 ≠ a1) (hw0 : f3 0 = .int w0) (hw1 : f3 1 = .int w1) (hw2 : f3 2 = .int w2) (V13 : Dar Z h0 a4 .double 3 f4) (ne14 : a4 ≠ a1) (V15 : Dar Z h0 a5 .double 3 f5) (ne16 : a5 ≠ a1) :
    MetFree l (⟨"com/example/swathloom/swathloom/planning/Plan", "<init>", "([D[Z[D[D)V"⟩ : MethodName) (head1 (Jvm.Cond.code (⟨"com/example/swathloom/swathloom/planning/Plan", "<init>", "([D[Z[D[D)V"⟩ : MethodName) prog_19_method_2_code 10 none :: ws) ({ frames := 1, cells := 0, slots := 0, locals := 12 } : Room)) (fun a U => a = #[(.ref a1), (.ref a2), (.ref a3), (.ref a4), (.ref a5)] ∧ Z.Warmed39 U.vm ∧ U.heap = h0) (fun _ _ _ _ _ => True) (fun _ U o U' => ∃ v L, o = .returned v ∧ Q1_00 Z a1 a2 a3 a4 f4 a5 f5 f2 f3 w0 w1 w2 u0 u1 u2 u3 u4 h0 n0 v U'.heap L ∧ FrameEnd U o U' L 0 0) := by
  refine MetFree.of_bodySF (plainFor_of_name pn_0) hisR ?_
  intro p e s m args below meth c s₁ Bd hml0 hP hK
  obtain ⟨rfl, hZ, hh⟩ := hP
  have hx := Bd.exec
  have hby := Bd.bytes
  have hml : c.maxLocals = 10 := hml0
  have hown : s.vm.findClass "com/example/swathloom/swathloom/planning/Plan" = some m.cls := findClass_of_methodNamed Bd.named
  have hnm := (name_of_methodNamed Bd.named Bd.method).1
  have X0 : Stand p l e ({ frames := 1, cells := 0, slots := 0, locals := 12 } : Room) s m #[(.ref a1), (.ref a2), (.ref a3), (.ref a4), (.ref a5)] below meth c s₁ [] 0 0 := Stand.of_body Bd
  have e0 : s₁.heap = h0 := by rw [← hh, Bd.state]; rfl
  have N0 := Fr.nil n0
  have A0 := (⟨X0, hx, hby⟩ : Ax _ _ _ _ _ _ _ _ _ _ _ _ _ _ _)
  show Go p e below (fun U o => ∃ v L, o = .returned v ∧ Q1_00 Z a1 a2 a3 a4 f4 a5 f5 f2 f3 w0 w1 w2 u0 u1 u2 u3 u4 h0 n0 v U.heap L ∧ FrameEnd s o U L 0 0) s₁ (entryFrame m #[(.ref a1), (.ref a2), (.ref a3), (.ref a4), (.ref a5)] 10)
  refine Go.cast (ef1 m a1 a2 a3 a4 f4 a5 f5 f2 f3 w0 w1 w2 u0 u1 u2 u3 u4) ?_
  refine g_aloadN A0 d1_0 rfl rfl (pc' := 1) rfl ?_
  obtain ⟨T17, X17, e17, st17⟩ := initO X0 hx hZ hown (hw _ (List.mem_of_getElem? (i := 10) rfl)) (hw _ (List.mem_of_getElem? (i := 11) rfl)) (hw _ (List.mem_of_getElem? (i := 12) rfl)) e0 (g := (mkF m 1 #[.val (.ref a1), .val (.ref a2), .val (.ref a3), .val (.ref a4), .val (.ref a5), .unset, .unset, .unset, .unset, .unset] [(.ref a1)])) rfl (by rw [hml]; rfl) rfl (hb hby d1_1) (by decide) (W := 0) (by show 2 * 0 + _ ≤ _; exact Nat.le_of_eq rfl) (by decide)
  refine Go.of (g' := (mkF m 4 #[.val (.ref a1), .val (.ref a2), .val (.ref a3), .val (.ref a4), .val (.ref a5), .unset, .unset, .unset, .unset, .unset] [])) st17 ?_
  have A18 := (⟨X17, hx, hby⟩ : Ax _ _ _ _ _ _ _ _ _ _ _ _ _ _ _)
  refine g_aloadN A18 d1_4 rfl rfl (pc' := 5) rfl ?_
  refine g_alen A18 hZ e17 V9 d1_5 (z := (3 : Int32)) rfl (pc' := 6) rfl ?_
  refine g_aloadN A18 d1_6 rfl rfl (pc' := 7) rfl ?_
  refine g_alen A18 hZ e17 V10 d1_7 (z := (3 : Int32)) rfl (pc' := 8) rfl ?_
  refine g_icY A18 d1_8 (c2_eq_t rfl) (pc' := 28) rfl ?_
  refine g_aloadN A18 d1_28 rfl rfl (pc' := 29) rfl ?_
  refine g_nuN A18 d1_29 (pc' := 32) rfl ?_
  refine g_aloadN A18 d1_32 rfl rfl (pc' := 33) rfl ?_
  refine g_alen A18 hZ e17 V13 d1_33 (z := (3 : Int32)) rfl (pc' := 34) rfl ?_
  refine g_aloadN A18 d1_34 rfl rfl (pc' := 35) rfl ?_
  refine g_alen A18 hZ e17 V9 d1_35 (z := (3 : Int32)) rfl (pc' := 36) rfl ?_
  refine g_icN A18 d1_36 (c2_ne_f rfl) (pc' := 39) rfl ?_
  refine g_aload A18 d1_39 rfl rfl (pc' := 41) rfl ?_
  refine g_nuN A18 d1_41 (pc' := 44) rfl ?_
  refine g_aload A18 d1_44 rfl rfl (pc' := 46) rfl ?_
  refine g_alen A18 hZ e17 V15 d1_46 (z := (3 : Int32)) rfl (pc' := 47) rfl ?_
  refine g_aloadN A18 d1_47 rfl rfl (pc' := 48) rfl ?_
  refine g_alen A18 hZ e17 V9 d1_48 (z := (3 : Int32)) rfl (pc' := 49) rfl ?_
  refine g_icY A18 d1_49 (c2_eq_t rfl) (pc' := 67) rfl ?_
  refine g_aloadN A18 d1_67 rfl rfl (pc' := 68) rfl ?_
  refine g_aloadN A18 d1_68 rfl rfl (pc' := 69) rfl ?_
  obtain ⟨T19, h19, X19, e19, W19, st19⟩ := putF X17 hx hZ hown (host := "") (Or.inl (hw _ (List.mem_of_getElem? (i := 13) rfl))) Via.refl e17 F3 E2 (Or.inr ⟨(hw _ (List.mem_of_getElem? (i := 14) rfl)), rfl, hnm⟩) (hw _ (List.mem_of_getElem? (i := 5) rfl)) (ty := (.array .double)) (by decide) rfl rfl (g := (mkF m 69 #[.val (.ref a1), .val (.ref a2), .val (.ref a3), .val (.ref a4), .val (.ref a5), .unset, .unset, .unset, .unset, .unset] [(.ref a2), (.ref a1)])) rfl rfl (hb hby d1_69)
  have N20 := Fr.snoc X19 N0 g8
  have K21 : Keep h0 h19 [a1] := (Keep.refl h0 [a1]).wr W19 (Or.inl (List.mem_of_getElem? (i := 0) rfl))
  have E22 : Exa Z h19 a1 "com/example/swathloom/swathloom/planning/Plan" := Exa.wr W19 E2
  have F23 : Fld Z h19 a1 "com/example/swathloom/swathloom/planning/Plan" "used" "[Z" u1 := Fld.other W19 F4 (Or.inr (slot_ne (Or.inr (hw _ (List.mem_of_getElem? (i := 16) rfl))) (Or.inr (hw _ (List.mem_of_getElem? (i := 14) rfl))) (by decide) (t := (.array .boolean)) (t' := (.array .double)) (by decide) (by decide)))
  have F24 : Fld Z h19 a1 "com/example/swathloom/swathloom/planning/Plan" "rollVelocities" "[D" u2 := Fld.other W19 F5 (Or.inr (slot_ne (Or.inr (hw _ (List.mem_of_getElem? (i := 18) rfl))) (Or.inr (hw _ (List.mem_of_getElem? (i := 14) rfl))) (by decide) (t := (.array .double)) (t' := (.array .double)) (by decide) (by decide)))
  have F25 : Fld Z h19 a1 "com/example/swathloom/swathloom/planning/Plan" "selectionVelocities" "[D" u3 := Fld.other W19 F6 (Or.inr (slot_ne (Or.inr (hw _ (List.mem_of_getElem? (i := 20) rfl))) (Or.inr (hw _ (List.mem_of_getElem? (i := 14) rfl))) (by decide) (t := (.array .double)) (t' := (.array .double)) (by decide) (by decide)))
  have F26 : Fld Z h19 a1 "com/example/swathloom/swathloom/planning/Plan" "strips" "I" u4 := Fld.other W19 F7 (Or.inr (slot_ne (Or.inr (hw _ (List.mem_of_getElem? (i := 22) rfl))) (Or.inr (hw _ (List.mem_of_getElem? (i := 14) rfl))) (by decide) (t := .int) (t' := (.array .double)) (by decide) (by decide)))
  have V27 : Dar Z h19 a2 .double 3 f2 := Dar.other W19 V9 ne11
  have V28 : Dar Z h19 a3 .boolean 3 f3 := Dar.other W19 V10 ne12
  have V29 : Dar Z h19 a4 .double 3 f4 := Dar.other W19 V13 ne14
  have V30 : Dar Z h19 a5 .double 3 f5 := Dar.other W19 V15 ne16
  have F31 : Fld Z h19 a1 "com/example/swathloom/swathloom/planning/Plan" "rolls" "[D" (.ref a2) := Fld.same W19 F3
  have Z32 : n0 ≤ h19.size := by rw [W19.size]; exact Z0
  refine Go.of (g' := (mkF m 72 #[.val (.ref a1), .val (.ref a2), .val (.ref a3), .val (.ref a4), .val (.ref a5), .unset, .unset, .unset, .unset, .unset] [])) st19 ?_
  have A33 := (⟨X19, hx, hby⟩ : Ax _ _ _ _ _ _ _ _ _ _ _ _ _ _ _)
  refine g_aloadN A33 d1_72 rfl rfl (pc' := 73) rfl ?_
  refine g_aloadN A33 d1_73 rfl rfl (pc' := 74) rfl ?_
  obtain ⟨T34, h34, X34, e34, W34, st34⟩ := putF X19 hx hZ hown (host := "") (Or.inl (hw _ (List.mem_of_getElem? (i := 15) rfl))) Via.refl e19 F23 E22 (Or.inr ⟨(hw _ (List.mem_of_getElem? (i := 16) rfl)), rfl, hnm⟩) (hw _ (List.mem_of_getElem? (i := 5) rfl)) (ty := (.array .boolean)) (by decide) rfl rfl (g := (mkF m 74 #[.val (.ref a1), .val (.ref a2), .val (.ref a3), .val (.ref a4), .val (.ref a5), .unset, .unset, .unset, .unset, .unset] [(.ref a3), (.ref a1)])) rfl rfl (hb hby d1_74)
  have N35 := Fr.snoc X34 N20 g8
  have K36 : Keep h0 h34 [a1] := K21.wr W34 (Or.inl (List.mem_of_getElem? (i := 0) rfl))
  have E37 : Exa Z h34 a1 "com/example/swathloom/swathloom/planning/Plan" := Exa.wr W34 E22
  have F38 : Fld Z h34 a1 "com/example/swathloom/swathloom/planning/Plan" "rollVelocities" "[D" u2 := Fld.other W34 F24 (Or.inr (slot_ne (Or.inr (hw _ (List.mem_of_getElem? (i := 18) rfl))) (Or.inr (hw _ (List.mem_of_getElem? (i := 16) rfl))) (by decide) (t := (.array .double)) (t' := (.array .boolean)) (by decide) (by decide)))
  have F39 : Fld Z h34 a1 "com/example/swathloom/swathloom/planning/Plan" "selectionVelocities" "[D" u3 := Fld.other W34 F25 (Or.inr (slot_ne (Or.inr (hw _ (List.mem_of_getElem? (i := 20) rfl))) (Or.inr (hw _ (List.mem_of_getElem? (i := 16) rfl))) (by decide) (t := (.array .double)) (t' := (.array .boolean)) (by decide) (by decide)))
  have F40 : Fld Z h34 a1 "com/example/swathloom/swathloom/planning/Plan" "strips" "I" u4 := Fld.other W34 F26 (Or.inr (slot_ne (Or.inr (hw _ (List.mem_of_getElem? (i := 22) rfl))) (Or.inr (hw _ (List.mem_of_getElem? (i := 16) rfl))) (by decide) (t := .int) (t' := (.array .boolean)) (by decide) (by decide)))
  have V41 : Dar Z h34 a2 .double 3 f2 := Dar.other W34 V27 ne11
  have V42 : Dar Z h34 a3 .boolean 3 f3 := Dar.other W34 V28 ne12
  have V43 : Dar Z h34 a4 .double 3 f4 := Dar.other W34 V29 ne14
  have V44 : Dar Z h34 a5 .double 3 f5 := Dar.other W34 V30 ne16
  have F45 : Fld Z h34 a1 "com/example/swathloom/swathloom/planning/Plan" "rolls" "[D" (.ref a2) := Fld.other W34 F31 (Or.inr (slot_ne (Or.inr (hw _ (List.mem_of_getElem? (i := 14) rfl))) (Or.inr (hw _ (List.mem_of_getElem? (i := 16) rfl))) (by decide) (t := (.array .double)) (t' := (.array .boolean)) (by decide) (by decide)))
  have F46 : Fld Z h34 a1 "com/example/swathloom/swathloom/planning/Plan" "used" "[Z" (.ref a3) := Fld.same W34 F23
  have Z47 : n0 ≤ h34.size := by rw [W34.size]; exact Z32
  refine Go.of (g' := (mkF m 77 #[.val (.ref a1), .val (.ref a2), .val (.ref a3), .val (.ref a4), .val (.ref a5), .unset, .unset, .unset, .unset, .unset] [])) st34 ?_
  have A48 := (⟨X34, hx, hby⟩ : Ax _ _ _ _ _ _ _ _ _ _ _ _ _ _ _)
  refine g_aloadN A48 d1_77 rfl rfl (pc' := 78) rfl ?_
  refine g_aloadN A48 d1_78 rfl rfl (pc' := 79) rfl ?_
  obtain ⟨T49, h49, X49, e49, W49, st49⟩ := putF X34 hx hZ hown (host := "") (Or.inl (hw _ (List.mem_of_getElem? (i := 17) rfl))) Via.refl e34 F38 E37 (Or.inr ⟨(hw _ (List.mem_of_getElem? (i := 18) rfl)), rfl, hnm⟩) (hw _ (List.mem_of_getElem? (i := 5) rfl)) (ty := (.array .double)) (by decide) rfl rfl (g := (mkF m 79 #[.val (.ref a1), .val (.ref a2), .val (.ref a3), .val (.ref a4), .val (.ref a5), .unset, .unset, .unset, .unset, .unset] [(.ref a4), (.ref a1)])) rfl rfl (hb hby d1_79)
  have N50 := Fr.snoc X49 N35 g8
  have K51 : Keep h0 h49 [a1] := K36.wr W49 (Or.inl (List.mem_of_getElem? (i := 0) rfl))
  have E52 : Exa Z h49 a1 "com/example/swathloom/swathloom/planning/Plan" := Exa.wr W49 E37
  have F53 : Fld Z h49 a1 "com/example/swathloom/swathloom/planning/Plan" "selectionVelocities" "[D" u3 := Fld.other W49 F39 (Or.inr (slot_ne (Or.inr (hw _ (List.mem_of_getElem? (i := 20) rfl))) (Or.inr (hw _ (List.mem_of_getElem? (i := 18) rfl))) (by decide) (t := (.array .double)) (t' := (.array .double)) (by decide) (by decide)))
  have F54 : Fld Z h49 a1 "com/example/swathloom/swathloom/planning/Plan" "strips" "I" u4 := Fld.other W49 F40 (Or.inr (slot_ne (Or.inr (hw _ (List.mem_of_getElem? (i := 22) rfl))) (Or.inr (hw _ (List.mem_of_getElem? (i := 18) rfl))) (by decide) (t := .int) (t' := (.array .double)) (by decide) (by decide)))
  have V55 : Dar Z h49 a2 .double 3 f2 := Dar.other W49 V41 ne11
  have V56 : Dar Z h49 a3 .boolean 3 f3 := Dar.other W49 V42 ne12
  have V57 : Dar Z h49 a4 .double 3 f4 := Dar.other W49 V43 ne14
  have V58 : Dar Z h49 a5 .double 3 f5 := Dar.other W49 V44 ne16
  have F59 : Fld Z h49 a1 "com/example/swathloom/swathloom/planning/Plan" "rolls" "[D" (.ref a2) := Fld.other W49 F45 (Or.inr (slot_ne (Or.inr (hw _ (List.mem_of_getElem? (i := 14) rfl))) (Or.inr (hw _ (List.mem_of_getElem? (i := 18) rfl))) (by decide) (t := (.array .double)) (t' := (.array .double)) (by decide) (by decide)))
  have F60 : Fld Z h49 a1 "com/example/swathloom/swathloom/planning/Plan" "used" "[Z" (.ref a3) := Fld.other W49 F46 (Or.inr (slot_ne (Or.inr (hw _ (List.mem_of_getElem? (i := 16) rfl))) (Or.inr (hw _ (List.mem_of_getElem? (i := 18) rfl))) (by decide) (t := (.array .boolean)) (t' := (.array .double)) (by decide) (by decide)))
  have F61 : Fld Z h49 a1 "com/example/swathloom/swathloom/planning/Plan" "rollVelocities" "[D" (.ref a4) := Fld.same W49 F38
  have Z62 : n0 ≤ h49.size := by rw [W49.size]; exact Z47
  refine Go.of (g' := (mkF m 82 #[.val (.ref a1), .val (.ref a2), .val (.ref a3), .val (.ref a4), .val (.ref a5), .unset, .unset, .unset, .unset, .unset] [])) st49 ?_
  have A63 := (⟨X49, hx, hby⟩ : Ax _ _ _ _ _ _ _ _ _ _ _ _ _ _ _)
  refine g_aloadN A63 d1_82 rfl rfl (pc' := 83) rfl ?_
  refine g_aload A63 d1_83 rfl rfl (pc' := 85) rfl ?_
  obtain ⟨T64, h64, X64, e64, W64, st64⟩ := putF X49 hx hZ hown (host := "") (Or.inl (hw _ (List.mem_of_getElem? (i := 19) rfl))) Via.refl e49 F53 E52 (Or.inr ⟨(hw _ (List.mem_of_getElem? (i := 20) rfl)), rfl, hnm⟩) (hw _ (List.mem_of_getElem? (i := 5) rfl)) (ty := (.array .double)) (by decide) rfl rfl (g := (mkF m 85 #[.val (.ref a1), .val (.ref a2), .val (.ref a3), .val (.ref a4), .val (.ref a5), .unset, .unset, .unset, .unset, .unset] [(.ref a5), (.ref a1)])) rfl rfl (hb hby d1_85)
  have N65 := Fr.snoc X64 N50 g8
  have K66 : Keep h0 h64 [a1] := K51.wr W64 (Or.inl (List.mem_of_getElem? (i := 0) rfl))
  have E67 : Exa Z h64 a1 "com/example/swathloom/swathloom/planning/Plan" := Exa.wr W64 E52
  have F68 : Fld Z h64 a1 "com/example/swathloom/swathloom/planning/Plan" "strips" "I" u4 := Fld.other W64 F54 (Or.inr (slot_ne (Or.inr (hw _ (List.mem_of_getElem? (i := 22) rfl))) (Or.inr (hw _ (List.mem_of_getElem? (i := 20) rfl))) (by decide) (t := .int) (t' := (.array .double)) (by decide) (by decide)))
  have V69 : Dar Z h64 a2 .double 3 f2 := Dar.other W64 V55 ne11
  have V70 : Dar Z h64 a3 .boolean 3 f3 := Dar.other W64 V56 ne12
  have V71 : Dar Z h64 a4 .double 3 f4 := Dar.other W64 V57 ne14
  have V72 : Dar Z h64 a5 .double 3 f5 := Dar.other W64 V58 ne16
  have F73 : Fld Z h64 a1 "com/example/swathloom/swathloom/planning/Plan" "rolls" "[D" (.ref a2) := Fld.other W64 F59 (Or.inr (slot_ne (Or.inr (hw _ (List.mem_of_getElem? (i := 14) rfl))) (Or.inr (hw _ (List.mem_of_getElem? (i := 20) rfl))) (by decide) (t := (.array .double)) (t' := (.array .double)) (by decide) (by decide)))
  have F74 : Fld Z h64 a1 "com/example/swathloom/swathloom/planning/Plan" "used" "[Z" (.ref a3) := Fld.other W64 F60 (Or.inr (slot_ne (Or.inr (hw _ (List.mem_of_getElem? (i := 16) rfl))) (Or.inr (hw _ (List.mem_of_getElem? (i := 20) rfl))) (by decide) (t := (.array .boolean)) (t' := (.array .double)) (by decide) (by decide)))
  have F75 : Fld Z h64 a1 "com/example/swathloom/swathloom/planning/Plan" "rollVelocities" "[D" (.ref a4) := Fld.other W64 F61 (Or.inr (slot_ne (Or.inr (hw _ (List.mem_of_getElem? (i := 18) rfl))) (Or.inr (hw _ (List.mem_of_getElem? (i := 20) rfl))) (by decide) (t := (.array .double)) (t' := (.array .double)) (by decide) (by decide)))
  have F76 : Fld Z h64 a1 "com/example/swathloom/swathloom/planning/Plan" "selectionVelocities" "[D" (.ref a5) := Fld.same W64 F53
  have Z77 : n0 ≤ h64.size := by rw [W64.size]; exact Z62
  refine Go.of (g' := (mkF m 88 #[.val (.ref a1), .val (.ref a2), .val (.ref a3), .val (.ref a4), .val (.ref a5), .unset, .unset, .unset, .unset, .unset] [])) st64 ?_
  have A78 := (⟨X64, hx, hby⟩ : Ax _ _ _ _ _ _ _ _ _ _ _ _ _ _ _)
  refine g_iconst A78 d1_88 (v := (0 : Int32)) rfl (pc' := 89) rfl ?_
  refine g_istore A78 d1_89 (ls' := #[.val (.ref a1), .val (.ref a2), .val (.ref a3), .val (.ref a4), .val (.ref a5), .val (.int (0 : Int32)), .unset, .unset, .unset, .unset]) rfl (pc' := 91) rfl ?_
  refine g_aloadN A78 d1_91 rfl rfl (pc' := 92) rfl ?_
  refine g_astore A78 d1_92 rfl (ls' := #[.val (.ref a1), .val (.ref a2), .val (.ref a3), .val (.ref a4), .val (.ref a5), .val (.int (0 : Int32)), .val (.ref a3), .unset, .unset, .unset]) rfl (pc' := 94) rfl ?_
  refine g_aload A78 d1_94 rfl rfl (pc' := 96) rfl ?_
  refine g_alen A78 hZ e64 V70 d1_96 (z := (3 : Int32)) rfl (pc' := 97) rfl ?_
  refine g_istore A78 d1_97 (ls' := #[.val (.ref a1), .val (.ref a2), .val (.ref a3), .val (.ref a4), .val (.ref a5), .val (.int (0 : Int32)), .val (.ref a3), .val (.int (3 : Int32)), .unset, .unset]) rfl (pc' := 99) rfl ?_
  refine g_iconst A78 d1_99 (v := (0 : Int32)) rfl (pc' := 100) rfl ?_
  refine g_istore A78 d1_100 (ls' := #[.val (.ref a1), .val (.ref a2), .val (.ref a3), .val (.ref a4), .val (.ref a5), .val (.int (0 : Int32)), .val (.ref a3), .val (.int (3 : Int32)), .val (.int (0 : Int32)), .unset]) rfl (pc' := 102) rfl ?_
  refine g_iload A78 d1_102 rfl (pc' := 104) rfl ?_
  refine g_iload A78 d1_104 rfl (pc' := 106) rfl ?_
  refine g_icN A78 d1_106 (c2_ge_f (by decide)) (pc' := 109) rfl ?_
  refine g_aload A78 d1_109 rfl rfl (pc' := 111) rfl ?_
  refine g_iload A78 d1_111 rfl (pc' := 113) rfl ?_
  refine g_baload A78 hZ e64 V70 (i := 0) (by decide) rfl (x := w0) hw0 d1_113 (pc' := 114) rfl ?_
  refine g_istore A78 d1_114 (ls' := #[.val (.ref a1), .val (.ref a2), .val (.ref a3), .val (.ref a4), .val (.ref a5), .val (.int (0 : Int32)), .val (.ref a3), .val (.int (3 : Int32)), .val (.int (0 : Int32)), .val (.int w0)]) rfl (pc' := 116) rfl ?_
  refine g_iload A78 d1_116 rfl (pc' := 118) rfl ?_
  obtain ⟨v79, hv79⟩ : ∃ z : Int32, z = if ¬ (w0 = 0) then (1 : Int32) else 0 := ⟨_, rfl⟩
  have sg80 : ∀ {P : State → Outcome → Prop}, Go p e below P T64 (mkF m 124 #[.val (.ref a1), .val (.ref a2), .val (.ref a3), .val (.ref a4), .val (.ref a5), .val (.int v79), .val (.ref a3), .val (.int (3 : Int32)), .val (.int (0 : Int32)), .val (.int w0)] []) → Go p e below P T64 (mkF m 118 #[.val (.ref a1), .val (.ref a2), .val (.ref a3), .val (.ref a4), .val (.ref a5), .val (.int (0 : Int32)), .val (.ref a3), .val (.int (3 : Int32)), .val (.int (0 : Int32)), .val (.int w0)] [(.int w0)]) := by
    intro P hr
    by_cases c81 : w0 = 0
    · skip
      refine g_ifY A78 d1_118 (c0_eq_t c81) (pc' := 124) rfl ?_
      obtain rfl : v79 = (0 : Int32) := hv79.trans (if_neg (fun q => q c81))
      exact hr
    · skip
      refine g_ifN A78 d1_118 (c0_eq_f c81) (pc' := 121) rfl ?_
      refine g_iinc A78 d1_121 rfl (y := (1 : Int32)) (by decide) (ls' := #[.val (.ref a1), .val (.ref a2), .val (.ref a3), .val (.ref a4), .val (.ref a5), .val (.int (1 : Int32)), .val (.ref a3), .val (.int (3 : Int32)), .val (.int (0 : Int32)), .val (.int w0)]) rfl (pc' := 124) rfl ?_
      obtain rfl : v79 = (1 : Int32) := hv79.trans (if_pos c81)
      exact hr
  refine sg80 ?_
  refine g_iinc A78 d1_124 rfl (y := (1 : Int32)) (by decide) (ls' := #[.val (.ref a1), .val (.ref a2), .val (.ref a3), .val (.ref a4), .val (.ref a5), .val (.int v79), .val (.ref a3), .val (.int (3 : Int32)), .val (.int (1 : Int32)), .val (.int w0)]) rfl (pc' := 127) rfl ?_
  refine g_goto A78 d1_127 (pc' := 102) rfl ?_
  refine g_iload A78 d1_102 rfl (pc' := 104) rfl ?_
  refine g_iload A78 d1_104 rfl (pc' := 106) rfl ?_
  refine g_icN A78 d1_106 (c2_ge_f (by decide)) (pc' := 109) rfl ?_
  refine g_aload A78 d1_109 rfl rfl (pc' := 111) rfl ?_
  refine g_iload A78 d1_111 rfl (pc' := 113) rfl ?_
  refine g_baload A78 hZ e64 V70 (i := 1) (by decide) rfl (x := w1) hw1 d1_113 (pc' := 114) rfl ?_
  refine g_istore A78 d1_114 (ls' := #[.val (.ref a1), .val (.ref a2), .val (.ref a3), .val (.ref a4), .val (.ref a5), .val (.int v79), .val (.ref a3), .val (.int (3 : Int32)), .val (.int (1 : Int32)), .val (.int w1)]) rfl (pc' := 116) rfl ?_
  refine g_iload A78 d1_116 rfl (pc' := 118) rfl ?_
  obtain ⟨v82, hv82⟩ : ∃ z : Int32, z = (if w1 = 0 then v79 else (v79 + (1 : Int32))) := ⟨_, rfl⟩
  have sg83 : ∀ {P : State → Outcome → Prop}, Go p e below P T64 (mkF m 124 #[.val (.ref a1), .val (.ref a2), .val (.ref a3), .val (.ref a4), .val (.ref a5), .val (.int v82), .val (.ref a3), .val (.int (3 : Int32)), .val (.int (1 : Int32)), .val (.int w1)] []) → Go p e below P T64 (mkF m 118 #[.val (.ref a1), .val (.ref a2), .val (.ref a3), .val (.ref a4), .val (.ref a5), .val (.int v79), .val (.ref a3), .val (.int (3 : Int32)), .val (.int (1 : Int32)), .val (.int w1)] [(.int w1)]) := by
    intro P hr
    by_cases c84 : w1 = 0
    · skip
      refine g_ifY A78 d1_118 (c0_eq_t c84) (pc' := 124) rfl ?_
      obtain rfl : v82 = v79 := hv82.trans ((if_pos c84).trans rfl)
      exact hr
    · skip
      refine g_ifN A78 d1_118 (c0_eq_f c84) (pc' := 121) rfl ?_
      refine g_iinc A78 d1_121 rfl (y := (v79 + (1 : Int32))) rfl (ls' := #[.val (.ref a1), .val (.ref a2), .val (.ref a3), .val (.ref a4), .val (.ref a5), .val (.int (v79 + (1 : Int32))), .val (.ref a3), .val (.int (3 : Int32)), .val (.int (1 : Int32)), .val (.int w1)]) rfl (pc' := 124) rfl ?_
      obtain rfl : v82 = (v79 + (1 : Int32)) := hv82.trans ((if_neg c84).trans rfl)
      exact hr
  refine sg83 ?_
  refine g_iinc A78 d1_124 rfl (y := (2 : Int32)) (by decide) (ls' := #[.val (.ref a1), .val (.ref a2), .val (.ref a3), .val (.ref a4), .val (.ref a5), .val (.int v82), .val (.ref a3), .val (.int (3 : Int32)), .val (.int (2 : Int32)), .val (.int w1)]) rfl (pc' := 127) rfl ?_
  refine g_goto A78 d1_127 (pc' := 102) rfl ?_
  refine g_iload A78 d1_102 rfl (pc' := 104) rfl ?_
  refine g_iload A78 d1_104 rfl (pc' := 106) rfl ?_
  refine g_icN A78 d1_106 (c2_ge_f (by decide)) (pc' := 109) rfl ?_
  refine g_aload A78 d1_109 rfl rfl (pc' := 111) rfl ?_
  refine g_iload A78 d1_111 rfl (pc' := 113) rfl ?_
  refine g_baload A78 hZ e64 V70 (i := 2) (by decide) rfl (x := w2) hw2 d1_113 (pc' := 114) rfl ?_
  refine g_istore A78 d1_114 (ls' := #[.val (.ref a1), .val (.ref a2), .val (.ref a3), .val (.ref a4), .val (.ref a5), .val (.int v82), .val (.ref a3), .val (.int (3 : Int32)), .val (.int (2 : Int32)), .val (.int w2)]) rfl (pc' := 116) rfl ?_
  refine g_iload A78 d1_116 rfl (pc' := 118) rfl ?_
  obtain ⟨v85, hv85⟩ : ∃ z : Int32, z = (if w2 = 0 then v82 else (v82 + (1 : Int32))) := ⟨_, rfl⟩
  have sg86 : ∀ {P : State → Outcome → Prop}, Go p e below P T64 (mkF m 124 #[.val (.ref a1), .val (.ref a2), .val (.ref a3), .val (.ref a4), .val (.ref a5), .val (.int v85), .val (.ref a3), .val (.int (3 : Int32)), .val (.int (2 : Int32)), .val (.int w2)] []) → Go p e below P T64 (mkF m 118 #[.val (.ref a1), .val (.ref a2), .val (.ref a3), .val (.ref a4), .val (.ref a5), .val (.int v82), .val (.ref a3), .val (.int (3 : Int32)), .val (.int (2 : Int32)), .val (.int w2)] [(.int w2)]) := by
    intro P hr
    by_cases c87 : w2 = 0
    · skip
      refine g_ifY A78 d1_118 (c0_eq_t c87) (pc' := 124) rfl ?_
      obtain rfl : v85 = v82 := hv85.trans ((if_pos c87).trans rfl)
      exact hr
    · skip
      refine g_ifN A78 d1_118 (c0_eq_f c87) (pc' := 121) rfl ?_
      refine g_iinc A78 d1_121 rfl (y := (v82 + (1 : Int32))) rfl (ls' := #[.val (.ref a1), .val (.ref a2), .val (.ref a3), .val (.ref a4), .val (.ref a5), .val (.int (v82 + (1 : Int32))), .val (.ref a3), .val (.int (3 : Int32)), .val (.int (2 : Int32)), .val (.int w2)]) rfl (pc' := 124) rfl ?_
      obtain rfl : v85 = (v82 + (1 : Int32)) := hv85.trans ((if_neg c87).trans rfl)
      exact hr
  refine sg86 ?_
  refine g_iinc A78 d1_124 rfl (y := (3 : Int32)) (by decide) (ls' := #[.val (.ref a1), .val (.ref a2), .val (.ref a3), .val (.ref a4), .val (.ref a5), .val (.int v85), .val (.ref a3), .val (.int (3 : Int32)), .val (.int (3 : Int32)), .val (.int w2)]) rfl (pc' := 127) rfl ?_
  refine g_goto A78 d1_127 (pc' := 102) rfl ?_
  refine g_iload A78 d1_102 rfl (pc' := 104) rfl ?_
  refine g_iload A78 d1_104 rfl (pc' := 106) rfl ?_
  refine g_icY A78 d1_106 (c2_ge_t (by decide)) (pc' := 130) rfl ?_
  refine g_aloadN A78 d1_130 rfl rfl (pc' := 131) rfl ?_
  refine g_iload A78 d1_131 rfl (pc' := 133) rfl ?_
  obtain ⟨T88, h88, X88, e88, W88, st88⟩ := putF X64 hx hZ hown (host := "") (Or.inl (hw _ (List.mem_of_getElem? (i := 21) rfl))) Via.refl e64 F68 E67 (Or.inr ⟨(hw _ (List.mem_of_getElem? (i := 22) rfl)), rfl, hnm⟩) (hw _ (List.mem_of_getElem? (i := 5) rfl)) (ty := .int) (by decide) rfl rfl (g := (mkF m 133 #[.val (.ref a1), .val (.ref a2), .val (.ref a3), .val (.ref a4), .val (.ref a5), .val (.int v85), .val (.ref a3), .val (.int (3 : Int32)), .val (.int (3 : Int32)), .val (.int w2)] [(.int v85), (.ref a1)])) rfl rfl (hb hby d1_133)
  have N89 := Fr.snoc X88 N65 g8
  have K90 : Keep h0 h88 [a1] := K66.wr W88 (Or.inl (List.mem_of_getElem? (i := 0) rfl))
  have E91 : Exa Z h88 a1 "com/example/swathloom/swathloom/planning/Plan" := Exa.wr W88 E67
  have V92 : Dar Z h88 a2 .double 3 f2 := Dar.other W88 V69 ne11
  have V93 : Dar Z h88 a3 .boolean 3 f3 := Dar.other W88 V70 ne12
  have V94 : Dar Z h88 a4 .double 3 f4 := Dar.other W88 V71 ne14
  have V95 : Dar Z h88 a5 .double 3 f5 := Dar.other W88 V72 ne16
  have F96 : Fld Z h88 a1 "com/example/swathloom/swathloom/planning/Plan" "rolls" "[D" (.ref a2) := Fld.other W88 F73 (Or.inr (slot_ne (Or.inr (hw _ (List.mem_of_getElem? (i := 14) rfl))) (Or.inr (hw _ (List.mem_of_getElem? (i := 22) rfl))) (by decide) (t := (.array .double)) (t' := .int) (by decide) (by decide)))
  have F97 : Fld Z h88 a1 "com/example/swathloom/swathloom/planning/Plan" "used" "[Z" (.ref a3) := Fld.other W88 F74 (Or.inr (slot_ne (Or.inr (hw _ (List.mem_of_getElem? (i := 16) rfl))) (Or.inr (hw _ (List.mem_of_getElem? (i := 22) rfl))) (by decide) (t := (.array .boolean)) (t' := .int) (by decide) (by decide)))
  have F98 : Fld Z h88 a1 "com/example/swathloom/swathloom/planning/Plan" "rollVelocities" "[D" (.ref a4) := Fld.other W88 F75 (Or.inr (slot_ne (Or.inr (hw _ (List.mem_of_getElem? (i := 18) rfl))) (Or.inr (hw _ (List.mem_of_getElem? (i := 22) rfl))) (by decide) (t := (.array .double)) (t' := .int) (by decide) (by decide)))
  have F99 : Fld Z h88 a1 "com/example/swathloom/swathloom/planning/Plan" "selectionVelocities" "[D" (.ref a5) := Fld.other W88 F76 (Or.inr (slot_ne (Or.inr (hw _ (List.mem_of_getElem? (i := 20) rfl))) (Or.inr (hw _ (List.mem_of_getElem? (i := 22) rfl))) (by decide) (t := (.array .double)) (t' := .int) (by decide) (by decide)))
  have F100 : Fld Z h88 a1 "com/example/swathloom/swathloom/planning/Plan" "strips" "I" (.int v85) := Fld.same W88 F68
  have Z101 : n0 ≤ h88.size := by rw [W88.size]; exact Z77
  refine Go.of (g' := (mkF m 136 #[.val (.ref a1), .val (.ref a2), .val (.ref a3), .val (.ref a4), .val (.ref a5), .val (.int v85), .val (.ref a3), .val (.int (3 : Int32)), .val (.int (3 : Int32)), .val (.int w2)] [])) st88 ?_
  have A102 := (⟨X88, hx, hby⟩ : Ax _ _ _ _ _ _ _ _ _ _ _ _ _ _ _)
  exact g_retV (Q := Q1_00 Z a1 a2 a3 a4 f4 a5 f5 f2 f3 w0 w1 w2 u0 u1 u2 u3 u4 h0 n0) A102 d1_136 Bd.notSynchronized Bd.returns (by decide) (by decide) (by rw [e88]; exact ⟨rfl, N89, K90, F97, F98, F99⟩)
theorem ef103 (m : MethodId) (a1 : Addr) (a2 : Addr) (a3 : Addr) (a4 : Addr) (f4 : Nat → Value) (f2 : Nat → Value) (f3 : Nat → Value) (w0 : Int32) (w1 : Int32) (w2 : Int32) (u0 : Value) (u1 : Value) (u2 : Value) (u3 : Value) (u4 : Value) : entryFrame m #[(.ref a1), (.ref a2), (.ref a3), (.ref a4), .null] 10 = mkF m 0 #[.val (.ref a1), .val (.ref a2), .val (.ref a3), .val (.ref a4), .val .null, .unset, .unset, .unset, .unset, .unset] [] := by first | (simp [entryFrame, mkF, argsToLocals, Value.category]; done) | rfl
def Q1_01 (Z : State) (a1 : Addr) (a2 : Addr) (a3 : Addr) (a4 : Addr) (f4 : Nat → Value) (f2 : Nat → Value) (f3 : Nat → Value) (w0 : Int32) (w1 : Int32) (w2 : Int32) (u0 : Value) (u1 : Value) (u2 : Value) (u3 : Value) (u4 : Value) (h0 : Heap) (n0 : Nat) (v : Option Value) (h : Heap) (L : List Loc) : Prop := v = none ∧ Fr n0 L ∧ Keep h0 h [a1] ∧ Fld Z h a1 "com/example/swathloom/swathloom/planning/Plan" "used" "[Z" (.ref a3) ∧ Fld Z h a1 "com/example/swathloom/swathloom/planning/Plan" "rollVelocities" "[D" (.ref a4) ∧ Fld Z h a1 "com/example/swathloom/swathloom/planning/Plan" "selectionVelocities" "[D" .null
set_option maxRecDepth 65536 in
set_option maxHeartbeats 40000000 in
theorem rm1_01 (l : Launch) (Z : State) (a0 : Array Value) (hw : ∀ d ∈ tables_1, d.before a0 Z = true) (ws : List Jvm.Cond) (a1 : Addr) (a2 : Addr) (a3 : Addr) (a4 : Addr) (f4 : Nat → Value) (f2 : Nat → Value) (f3 : Nat → Value) (w0 : Int32) (w1 : Int32) (w2 : Int32) (u0 : Value) (u1 : Value) (u2 : Value) (u3 : Value) (u4 : Value) (h0 : Heap) (n0 : Nat) (Z0 : n0 ≤ h0.size) (E104 : Exa Z h0 a1 "com/example/swathloom/swathloom/planning/Plan") (F105 : Fld Z h0 a1 "com/example/swathloom/swathloom/planning/Plan" "rolls" "[D" u0) (F106 : Fld Z h0 a1 "com/example/swathloom/swathloom/planning/Plan" "used" "[Z" u1) (F107 : Fld Z h0 a1 "com/example/swathloom/swathloom/planning/Plan" "rollVelocities" "[D" u2) (F108 : Fld Z h0 a1 "com/example/swathloom/swathloom/planning/Plan" "selectionVelocities" "[D" u3) (F109 : Fld Z h0 a1 "com/example/swathloom/swathloom/planning/Plan" "strips" "I" u4) (g110 : n0 ≤ a1) (V111 : Dar Z h0 a2 .double 3 f2) (V112 : Dar Z h0 a3 .boolean 3 f3) (ne113 : a2 ≠ a1) (ne114 : a3 ≠ a1) (hw0 : f3 0 = .int w0) (hw1 : f3 1 = .int w1) (hw2 : f3 2 = .int w2) (V115 : Dar Z h0 a4 .double 3 f4) (ne116 : a4 ≠ a1) :
    MetFree l (⟨"com/example/swathloom/swathloom/planning/Plan", "<init>", "([D[Z[D[D)V"⟩ : MethodName) (head1 (Jvm.Cond.code (⟨"com/example/swathloom/swathloom/planning/Plan", "<init>", "([D[Z[D[D)V"⟩ : MethodName) prog_19_method_2_code 10 none :: ws) ({ frames := 1, cells := 0, slots := 0, locals := 12 } : Room)) (fun a U => a = #[(.ref a1), (.ref a2), (.ref a3), (.ref a4), .null] ∧ Z.Warmed39 U.vm ∧ U.heap = h0) (fun _ _ _ _ _ => True) (fun _ U o U' => ∃ v L, o = .returned v ∧ Q1_01 Z a1 a2 a3 a4 f4 f2 f3 w0 w1 w2 u0 u1 u2 u3 u4 h0 n0 v U'.heap L ∧ FrameEnd U o U' L 0 0) := by
  refine MetFree.of_bodySF (plainFor_of_name pn_0) hisR ?_
  intro p e s m args below meth c s₁ Bd hml0 hP hK
  obtain ⟨rfl, hZ, hh⟩ := hP
  have hx := Bd.exec
  have hby := Bd.bytes
  have hml : c.maxLocals = 10 := hml0
  have hown : s.vm.findClass "com/example/swathloom/swathloom/planning/Plan" = some m.cls := findClass_of_methodNamed Bd.named
  have hnm := (name_of_methodNamed Bd.named Bd.method).1
  have X0 : Stand p l e ({ frames := 1, cells := 0, slots := 0, locals := 12 } : Room) s m #[(.ref a1), (.ref a2), (.ref a3), (.ref a4), .null] below meth c s₁ [] 0 0 := Stand.of_body Bd
  have e0 : s₁.heap = h0 := by rw [← hh, Bd.state]; rfl
  have N0 := Fr.nil n0
  have A0 := (⟨X0, hx, hby⟩ : Ax _ _ _ _ _ _ _ _ _ _ _ _ _ _ _)
  show Go p e below (fun U o => ∃ v L, o = .returned v ∧ Q1_01 Z a1 a2 a3 a4 f4 f2 f3 w0 w1 w2 u0 u1 u2 u3 u4 h0 n0 v U.heap L ∧ FrameEnd s o U L 0 0) s₁ (entryFrame m #[(.ref a1), (.ref a2), (.ref a3), (.ref a4), .null] 10)
  refine Go.cast (ef103 m a1 a2 a3 a4 f4 f2 f3 w0 w1 w2 u0 u1 u2 u3 u4) ?_
  refine g_aloadN A0 d1_0 rfl rfl (pc' := 1) rfl ?_
  obtain ⟨T117, X117, e117, st117⟩ := initO X0 hx hZ hown (hw _ (List.mem_of_getElem? (i := 10) rfl)) (hw _ (List.mem_of_getElem? (i := 11) rfl)) (hw _ (List.mem_of_getElem? (i := 12) rfl)) e0 (g := (mkF m 1 #[.val (.ref a1), .val (.ref a2), .val (.ref a3), .val (.ref a4), .val .null, .unset, .unset, .unset, .unset, .unset] [(.ref a1)])) rfl (by rw [hml]; rfl) rfl (hb hby d1_1) (by decide) (W := 0) (by show 2 * 0 + _ ≤ _; exact Nat.le_of_eq rfl) (by decide)
  refine Go.of (g' := (mkF m 4 #[.val (.ref a1), .val (.ref a2), .val (.ref a3), .val (.ref a4), .val .null, .unset, .unset, .unset, .unset, .unset] [])) st117 ?_
  have A118 := (⟨X117, hx, hby⟩ : Ax _ _ _ _ _ _ _ _ _ _ _ _ _ _ _)
  refine g_aloadN A118 d1_4 rfl rfl (pc' := 5) rfl ?_
  refine g_alen A118 hZ e117 V111 d1_5 (z := (3 : Int32)) rfl (pc' := 6) rfl ?_
  refine g_aloadN A118 d1_6 rfl rfl (pc' := 7) rfl ?_
  refine g_alen A118 hZ e117 V112 d1_7 (z := (3 : Int32)) rfl (pc' := 8) rfl ?_
  refine g_icY A118 d1_8 (c2_eq_t rfl) (pc' := 28) rfl ?_
  refine g_aloadN A118 d1_28 rfl rfl (pc' := 29) rfl ?_
  refine g_nuN A118 d1_29 (pc' := 32) rfl ?_
  refine g_aloadN A118 d1_32 rfl rfl (pc' := 33) rfl ?_
  refine g_alen A118 hZ e117 V115 d1_33 (z := (3 : Int32)) rfl (pc' := 34) rfl ?_
  refine g_aloadN A118 d1_34 rfl rfl (pc' := 35) rfl ?_
  refine g_alen A118 hZ e117 V111 d1_35 (z := (3 : Int32)) rfl (pc' := 36) rfl ?_
  refine g_icN A118 d1_36 (c2_ne_f rfl) (pc' := 39) rfl ?_
  refine g_aload A118 d1_39 rfl rfl (pc' := 41) rfl ?_
  refine g_nuY A118 d1_41 (pc' := 67) rfl ?_
  refine g_aloadN A118 d1_67 rfl rfl (pc' := 68) rfl ?_
  refine g_aloadN A118 d1_68 rfl rfl (pc' := 69) rfl ?_
  obtain ⟨T119, h119, X119, e119, W119, st119⟩ := putF X117 hx hZ hown (host := "") (Or.inl (hw _ (List.mem_of_getElem? (i := 13) rfl))) Via.refl e117 F105 E104 (Or.inr ⟨(hw _ (List.mem_of_getElem? (i := 14) rfl)), rfl, hnm⟩) (hw _ (List.mem_of_getElem? (i := 5) rfl)) (ty := (.array .double)) (by decide) rfl rfl (g := (mkF m 69 #[.val (.ref a1), .val (.ref a2), .val (.ref a3), .val (.ref a4), .val .null, .unset, .unset, .unset, .unset, .unset] [(.ref a2), (.ref a1)])) rfl rfl (hb hby d1_69)
  have N120 := Fr.snoc X119 N0 g110
  have K121 : Keep h0 h119 [a1] := (Keep.refl h0 [a1]).wr W119 (Or.inl (List.mem_of_getElem? (i := 0) rfl))
  have E122 : Exa Z h119 a1 "com/example/swathloom/swathloom/planning/Plan" := Exa.wr W119 E104
  have F123 : Fld Z h119 a1 "com/example/swathloom/swathloom/planning/Plan" "used" "[Z" u1 := Fld.other W119 F106 (Or.inr (slot_ne (Or.inr (hw _ (List.mem_of_getElem? (i := 16) rfl))) (Or.inr (hw _ (List.mem_of_getElem? (i := 14) rfl))) (by decide) (t := (.array .boolean)) (t' := (.array .double)) (by decide) (by decide)))
  have F124 : Fld Z h119 a1 "com/example/swathloom/swathloom/planning/Plan" "rollVelocities" "[D" u2 := Fld.other W119 F107 (Or.inr (slot_ne (Or.inr (hw _ (List.mem_of_getElem? (i := 18) rfl))) (Or.inr (hw _ (List.mem_of_getElem? (i := 14) rfl))) (by decide) (t := (.array .double)) (t' := (.array .double)) (by decide) (by decide)))
  have F125 : Fld Z h119 a1 "com/example/swathloom/swathloom/planning/Plan" "selectionVelocities" "[D" u3 := Fld.other W119 F108 (Or.inr (slot_ne (Or.inr (hw _ (List.mem_of_getElem? (i := 20) rfl))) (Or.inr (hw _ (List.mem_of_getElem? (i := 14) rfl))) (by decide) (t := (.array .double)) (t' := (.array .double)) (by decide) (by decide)))
  have F126 : Fld Z h119 a1 "com/example/swathloom/swathloom/planning/Plan" "strips" "I" u4 := Fld.other W119 F109 (Or.inr (slot_ne (Or.inr (hw _ (List.mem_of_getElem? (i := 22) rfl))) (Or.inr (hw _ (List.mem_of_getElem? (i := 14) rfl))) (by decide) (t := .int) (t' := (.array .double)) (by decide) (by decide)))
  have V127 : Dar Z h119 a2 .double 3 f2 := Dar.other W119 V111 ne113
  have V128 : Dar Z h119 a3 .boolean 3 f3 := Dar.other W119 V112 ne114
  have V129 : Dar Z h119 a4 .double 3 f4 := Dar.other W119 V115 ne116
  have F130 : Fld Z h119 a1 "com/example/swathloom/swathloom/planning/Plan" "rolls" "[D" (.ref a2) := Fld.same W119 F105
  have Z131 : n0 ≤ h119.size := by rw [W119.size]; exact Z0
  refine Go.of (g' := (mkF m 72 #[.val (.ref a1), .val (.ref a2), .val (.ref a3), .val (.ref a4), .val .null, .unset, .unset, .unset, .unset, .unset] [])) st119 ?_
  have A132 := (⟨X119, hx, hby⟩ : Ax _ _ _ _ _ _ _ _ _ _ _ _ _ _ _)
  refine g_aloadN A132 d1_72 rfl rfl (pc' := 73) rfl ?_
  refine g_aloadN A132 d1_73 rfl rfl (pc' := 74) rfl ?_
  obtain ⟨T133, h133, X133, e133, W133, st133⟩ := putF X119 hx hZ hown (host := "") (Or.inl (hw _ (List.mem_of_getElem? (i := 15) rfl))) Via.refl e119 F123 E122 (Or.inr ⟨(hw _ (List.mem_of_getElem? (i := 16) rfl)), rfl, hnm⟩) (hw _ (List.mem_of_getElem? (i := 5) rfl)) (ty := (.array .boolean)) (by decide) rfl rfl (g := (mkF m 74 #[.val (.ref a1), .val (.ref a2), .val (.ref a3), .val (.ref a4), .val .null, .unset, .unset, .unset, .unset, .unset] [(.ref a3), (.ref a1)])) rfl rfl (hb hby d1_74)
  have N134 := Fr.snoc X133 N120 g110
  have K135 : Keep h0 h133 [a1] := K121.wr W133 (Or.inl (List.mem_of_getElem? (i := 0) rfl))
  have E136 : Exa Z h133 a1 "com/example/swathloom/swathloom/planning/Plan" := Exa.wr W133 E122
  have F137 : Fld Z h133 a1 "com/example/swathloom/swathloom/planning/Plan" "rollVelocities" "[D" u2 := Fld.other W133 F124 (Or.inr (slot_ne (Or.inr (hw _ (List.mem_of_getElem? (i := 18) rfl))) (Or.inr (hw _ (List.mem_of_getElem? (i := 16) rfl))) (by decide) (t := (.array .double)) (t' := (.array .boolean)) (by decide) (by decide)))
  have F138 : Fld Z h133 a1 "com/example/swathloom/swathloom/planning/Plan" "selectionVelocities" "[D" u3 := Fld.other W133 F125 (Or.inr (slot_ne (Or.inr (hw _ (List.mem_of_getElem? (i := 20) rfl))) (Or.inr (hw _ (List.mem_of_getElem? (i := 16) rfl))) (by decide) (t := (.array .double)) (t' := (.array .boolean)) (by decide) (by decide)))
  have F139 : Fld Z h133 a1 "com/example/swathloom/swathloom/planning/Plan" "strips" "I" u4 := Fld.other W133 F126 (Or.inr (slot_ne (Or.inr (hw _ (List.mem_of_getElem? (i := 22) rfl))) (Or.inr (hw _ (List.mem_of_getElem? (i := 16) rfl))) (by decide) (t := .int) (t' := (.array .boolean)) (by decide) (by decide)))
  have V140 : Dar Z h133 a2 .double 3 f2 := Dar.other W133 V127 ne113
  have V141 : Dar Z h133 a3 .boolean 3 f3 := Dar.other W133 V128 ne114
  have V142 : Dar Z h133 a4 .double 3 f4 := Dar.other W133 V129 ne116
  have F143 : Fld Z h133 a1 "com/example/swathloom/swathloom/planning/Plan" "rolls" "[D" (.ref a2) := Fld.other W133 F130 (Or.inr (slot_ne (Or.inr (hw _ (List.mem_of_getElem? (i := 14) rfl))) (Or.inr (hw _ (List.mem_of_getElem? (i := 16) rfl))) (by decide) (t := (.array .double)) (t' := (.array .boolean)) (by decide) (by decide)))
  have F144 : Fld Z h133 a1 "com/example/swathloom/swathloom/planning/Plan" "used" "[Z" (.ref a3) := Fld.same W133 F123
  have Z145 : n0 ≤ h133.size := by rw [W133.size]; exact Z131
  refine Go.of (g' := (mkF m 77 #[.val (.ref a1), .val (.ref a2), .val (.ref a3), .val (.ref a4), .val .null, .unset, .unset, .unset, .unset, .unset] [])) st133 ?_
  have A146 := (⟨X133, hx, hby⟩ : Ax _ _ _ _ _ _ _ _ _ _ _ _ _ _ _)
  refine g_aloadN A146 d1_77 rfl rfl (pc' := 78) rfl ?_
  refine g_aloadN A146 d1_78 rfl rfl (pc' := 79) rfl ?_
  obtain ⟨T147, h147, X147, e147, W147, st147⟩ := putF X133 hx hZ hown (host := "") (Or.inl (hw _ (List.mem_of_getElem? (i := 17) rfl))) Via.refl e133 F137 E136 (Or.inr ⟨(hw _ (List.mem_of_getElem? (i := 18) rfl)), rfl, hnm⟩) (hw _ (List.mem_of_getElem? (i := 5) rfl)) (ty := (.array .double)) (by decide) rfl rfl (g := (mkF m 79 #[.val (.ref a1), .val (.ref a2), .val (.ref a3), .val (.ref a4), .val .null, .unset, .unset, .unset, .unset, .unset] [(.ref a4), (.ref a1)])) rfl rfl (hb hby d1_79)
  have N148 := Fr.snoc X147 N134 g110
  have K149 : Keep h0 h147 [a1] := K135.wr W147 (Or.inl (List.mem_of_getElem? (i := 0) rfl))
  have E150 : Exa Z h147 a1 "com/example/swathloom/swathloom/planning/Plan" := Exa.wr W147 E136
  have F151 : Fld Z h147 a1 "com/example/swathloom/swathloom/planning/Plan" "selectionVelocities" "[D" u3 := Fld.other W147 F138 (Or.inr (slot_ne (Or.inr (hw _ (List.mem_of_getElem? (i := 20) rfl))) (Or.inr (hw _ (List.mem_of_getElem? (i := 18) rfl))) (by decide) (t := (.array .double)) (t' := (.array .double)) (by decide) (by decide)))
  have F152 : Fld Z h147 a1 "com/example/swathloom/swathloom/planning/Plan" "strips" "I" u4 := Fld.other W147 F139 (Or.inr (slot_ne (Or.inr (hw _ (List.mem_of_getElem? (i := 22) rfl))) (Or.inr (hw _ (List.mem_of_getElem? (i := 18) rfl))) (by decide) (t := .int) (t' := (.array .double)) (by decide) (by decide)))
  have V153 : Dar Z h147 a2 .double 3 f2 := Dar.other W147 V140 ne113
  have V154 : Dar Z h147 a3 .boolean 3 f3 := Dar.other W147 V141 ne114
  have V155 : Dar Z h147 a4 .double 3 f4 := Dar.other W147 V142 ne116
  have F156 : Fld Z h147 a1 "com/example/swathloom/swathloom/planning/Plan" "rolls" "[D" (.ref a2) := Fld.other W147 F143 (Or.inr (slot_ne (Or.inr (hw _ (List.mem_of_getElem? (i := 14) rfl))) (Or.inr (hw _ (List.mem_of_getElem? (i := 18) rfl))) (by decide) (t := (.array .double)) (t' := (.array .double)) (by decide) (by decide)))
  have F157 : Fld Z h147 a1 "com/example/swathloom/swathloom/planning/Plan" "used" "[Z" (.ref a3) := Fld.other W147 F144 (Or.inr (slot_ne (Or.inr (hw _ (List.mem_of_getElem? (i := 16) rfl))) (Or.inr (hw _ (List.mem_of_getElem? (i := 18) rfl))) (by decide) (t := (.array .boolean)) (t' := (.array .double)) (by decide) (by decide)))
  have F158 : Fld Z h147 a1 "com/example/swathloom/swathloom/planning/Plan" "rollVelocities" "[D" (.ref a4) := Fld.same W147 F137
  have Z159 : n0 ≤ h147.size := by rw [W147.size]; exact Z145
  refine Go.of (g' := (mkF m 82 #[.val (.ref a1), .val (.ref a2), .val (.ref a3), .val (.ref a4), .val .null, .unset, .unset, .unset, .unset, .unset] [])) st147 ?_
  have A160 := (⟨X147, hx, hby⟩ : Ax _ _ _ _ _ _ _ _ _ _ _ _ _ _ _)
  refine g_aloadN A160 d1_82 rfl rfl (pc' := 83) rfl ?_
  refine g_aload A160 d1_83 rfl rfl (pc' := 85) rfl ?_
  obtain ⟨T161, h161, X161, e161, W161, st161⟩ := putF X147 hx hZ hown (host := "") (Or.inl (hw _ (List.mem_of_getElem? (i := 19) rfl))) Via.refl e147 F151 E150 (Or.inr ⟨(hw _ (List.mem_of_getElem? (i := 20) rfl)), rfl, hnm⟩) (hw _ (List.mem_of_getElem? (i := 5) rfl)) (ty := (.array .double)) (by decide) rfl rfl (g := (mkF m 85 #[.val (.ref a1), .val (.ref a2), .val (.ref a3), .val (.ref a4), .val .null, .unset, .unset, .unset, .unset, .unset] [.null, (.ref a1)])) rfl rfl (hb hby d1_85)
  have N162 := Fr.snoc X161 N148 g110
  have K163 : Keep h0 h161 [a1] := K149.wr W161 (Or.inl (List.mem_of_getElem? (i := 0) rfl))
  have E164 : Exa Z h161 a1 "com/example/swathloom/swathloom/planning/Plan" := Exa.wr W161 E150
  have F165 : Fld Z h161 a1 "com/example/swathloom/swathloom/planning/Plan" "strips" "I" u4 := Fld.other W161 F152 (Or.inr (slot_ne (Or.inr (hw _ (List.mem_of_getElem? (i := 22) rfl))) (Or.inr (hw _ (List.mem_of_getElem? (i := 20) rfl))) (by decide) (t := .int) (t' := (.array .double)) (by decide) (by decide)))
  have V166 : Dar Z h161 a2 .double 3 f2 := Dar.other W161 V153 ne113
  have V167 : Dar Z h161 a3 .boolean 3 f3 := Dar.other W161 V154 ne114
  have V168 : Dar Z h161 a4 .double 3 f4 := Dar.other W161 V155 ne116
  have F169 : Fld Z h161 a1 "com/example/swathloom/swathloom/planning/Plan" "rolls" "[D" (.ref a2) := Fld.other W161 F156 (Or.inr (slot_ne (Or.inr (hw _ (List.mem_of_getElem? (i := 14) rfl))) (Or.inr (hw _ (List.mem_of_getElem? (i := 20) rfl))) (by decide) (t := (.array .double)) (t' := (.array .double)) (by decide) (by decide)))
  have F170 : Fld Z h161 a1 "com/example/swathloom/swathloom/planning/Plan" "used" "[Z" (.ref a3) := Fld.other W161 F157 (Or.inr (slot_ne (Or.inr (hw _ (List.mem_of_getElem? (i := 16) rfl))) (Or.inr (hw _ (List.mem_of_getElem? (i := 20) rfl))) (by decide) (t := (.array .boolean)) (t' := (.array .double)) (by decide) (by decide)))
  have F171 : Fld Z h161 a1 "com/example/swathloom/swathloom/planning/Plan" "rollVelocities" "[D" (.ref a4) := Fld.other W161 F158 (Or.inr (slot_ne (Or.inr (hw _ (List.mem_of_getElem? (i := 18) rfl))) (Or.inr (hw _ (List.mem_of_getElem? (i := 20) rfl))) (by decide) (t := (.array .double)) (t' := (.array .double)) (by decide) (by decide)))
  have F172 : Fld Z h161 a1 "com/example/swathloom/swathloom/planning/Plan" "selectionVelocities" "[D" .null := Fld.same W161 F151
  have Z173 : n0 ≤ h161.size := by rw [W161.size]; exact Z159
  refine Go.of (g' := (mkF m 88 #[.val (.ref a1), .val (.ref a2), .val (.ref a3), .val (.ref a4), .val .null, .unset, .unset, .unset, .unset, .unset] [])) st161 ?_
  have A174 := (⟨X161, hx, hby⟩ : Ax _ _ _ _ _ _ _ _ _ _ _ _ _ _ _)
  refine g_iconst A174 d1_88 (v := (0 : Int32)) rfl (pc' := 89) rfl ?_
  refine g_istore A174 d1_89 (ls' := #[.val (.ref a1), .val (.ref a2), .val (.ref a3), .val (.ref a4), .val .null, .val (.int (0 : Int32)), .unset, .unset, .unset, .unset]) rfl (pc' := 91) rfl ?_
  refine g_aloadN A174 d1_91 rfl rfl (pc' := 92) rfl ?_
  refine g_astore A174 d1_92 rfl (ls' := #[.val (.ref a1), .val (.ref a2), .val (.ref a3), .val (.ref a4), .val .null, .val (.int (0 : Int32)), .val (.ref a3), .unset, .unset, .unset]) rfl (pc' := 94) rfl ?_
  refine g_aload A174 d1_94 rfl rfl (pc' := 96) rfl ?_
  refine g_alen A174 hZ e161 V167 d1_96 (z := (3 : Int32)) rfl (pc' := 97) rfl ?_
  refine g_istore A174 d1_97 (ls' := #[.val (.ref a1), .val (.ref a2), .val (.ref a3), .val (.ref a4), .val .null, .val (.int (0 : Int32)), .val (.ref a3), .val (.int (3 : Int32)), .unset, .unset]) rfl (pc' := 99) rfl ?_
  refine g_iconst A174 d1_99 (v := (0 : Int32)) rfl (pc' := 100) rfl ?_
  refine g_istore A174 d1_100 (ls' := #[.val (.ref a1), .val (.ref a2), .val (.ref a3), .val (.ref a4), .val .null, .val (.int (0 : Int32)), .val (.ref a3), .val (.int (3 : Int32)), .val (.int (0 : Int32)), .unset]) rfl (pc' := 102) rfl ?_
  refine g_iload A174 d1_102 rfl (pc' := 104) rfl ?_
  refine g_iload A174 d1_104 rfl (pc' := 106) rfl ?_
  refine g_icN A174 d1_106 (c2_ge_f (by decide)) (pc' := 109) rfl ?_
  refine g_aload A174 d1_109 rfl rfl (pc' := 111) rfl ?_
  refine g_iload A174 d1_111 rfl (pc' := 113) rfl ?_
  refine g_baload A174 hZ e161 V167 (i := 0) (by decide) rfl (x := w0) hw0 d1_113 (pc' := 114) rfl ?_
  refine g_istore A174 d1_114 (ls' := #[.val (.ref a1), .val (.ref a2), .val (.ref a3), .val (.ref a4), .val .null, .val (.int (0 : Int32)), .val (.ref a3), .val (.int (3 : Int32)), .val (.int (0 : Int32)), .val (.int w0)]) rfl (pc' := 116) rfl ?_
  refine g_iload A174 d1_116 rfl (pc' := 118) rfl ?_
  obtain ⟨v175, hv175⟩ : ∃ z : Int32, z = if ¬ (w0 = 0) then (1 : Int32) else 0 := ⟨_, rfl⟩
  have sg176 : ∀ {P : State → Outcome → Prop}, Go p e below P T161 (mkF m 124 #[.val (.ref a1), .val (.ref a2), .val (.ref a3), .val (.ref a4), .val .null, .val (.int v175), .val (.ref a3), .val (.int (3 : Int32)), .val (.int (0 : Int32)), .val (.int w0)] []) → Go p e below P T161 (mkF m 118 #[.val (.ref a1), .val (.ref a2), .val (.ref a3), .val (.ref a4), .val .null, .val (.int (0 : Int32)), .val (.ref a3), .val (.int (3 : Int32)), .val (.int (0 : Int32)), .val (.int w0)] [(.int w0)]) := by
    intro P hr
    by_cases c177 : w0 = 0
    · skip
      refine g_ifY A174 d1_118 (c0_eq_t c177) (pc' := 124) rfl ?_
      obtain rfl : v175 = (0 : Int32) := hv175.trans (if_neg (fun q => q c177))
      exact hr
    · skip
      refine g_ifN A174 d1_118 (c0_eq_f c177) (pc' := 121) rfl ?_
      refine g_iinc A174 d1_121 rfl (y := (1 : Int32)) (by decide) (ls' := #[.val (.ref a1), .val (.ref a2), .val (.ref a3), .val (.ref a4), .val .null, .val (.int (1 : Int32)), .val (.ref a3), .val (.int (3 : Int32)), .val (.int (0 : Int32)), .val (.int w0)]) rfl (pc' := 124) rfl ?_
      obtain rfl : v175 = (1 : Int32) := hv175.trans (if_pos c177)
      exact hr
  refine sg176 ?_
  refine g_iinc A174 d1_124 rfl (y := (1 : Int32)) (by decide) (ls' := #[.val (.ref a1), .val (.ref a2), .val (.ref a3), .val (.ref a4), .val .null, .val (.int v175), .val (.ref a3), .val (.int (3 : Int32)), .val (.int (1 : Int32)), .val (.int w0)]) rfl (pc' := 127) rfl ?_
  refine g_goto A174 d1_127 (pc' := 102) rfl ?_
  refine g_iload A174 d1_102 rfl (pc' := 104) rfl ?_
  refine g_iload A174 d1_104 rfl (pc' := 106) rfl ?_
  refine g_icN A174 d1_106 (c2_ge_f (by decide)) (pc' := 109) rfl ?_
  refine g_aload A174 d1_109 rfl rfl (pc' := 111) rfl ?_
  refine g_iload A174 d1_111 rfl (pc' := 113) rfl ?_
  refine g_baload A174 hZ e161 V167 (i := 1) (by decide) rfl (x := w1) hw1 d1_113 (pc' := 114) rfl ?_
  refine g_istore A174 d1_114 (ls' := #[.val (.ref a1), .val (.ref a2), .val (.ref a3), .val (.ref a4), .val .null, .val (.int v175), .val (.ref a3), .val (.int (3 : Int32)), .val (.int (1 : Int32)), .val (.int w1)]) rfl (pc' := 116) rfl ?_
  refine g_iload A174 d1_116 rfl (pc' := 118) rfl ?_
  obtain ⟨v178, hv178⟩ : ∃ z : Int32, z = (if w1 = 0 then v175 else (v175 + (1 : Int32))) := ⟨_, rfl⟩
  have sg179 : ∀ {P : State → Outcome → Prop}, Go p e below P T161 (mkF m 124 #[.val (.ref a1), .val (.ref a2), .val (.ref a3), .val (.ref a4), .val .null, .val (.int v178), .val (.ref a3), .val (.int (3 : Int32)), .val (.int (1 : Int32)), .val (.int w1)] []) → Go p e below P T161 (mkF m 118 #[.val (.ref a1), .val (.ref a2), .val (.ref a3), .val (.ref a4), .val .null, .val (.int v175), .val (.ref a3), .val (.int (3 : Int32)), .val (.int (1 : Int32)), .val (.int w1)] [(.int w1)]) := by
    intro P hr
    by_cases c180 : w1 = 0
    · skip
      refine g_ifY A174 d1_118 (c0_eq_t c180) (pc' := 124) rfl ?_
      obtain rfl : v178 = v175 := hv178.trans ((if_pos c180).trans rfl)
      exact hr
    · skip
      refine g_ifN A174 d1_118 (c0_eq_f c180) (pc' := 121) rfl ?_
      refine g_iinc A174 d1_121 rfl (y := (v175 + (1 : Int32))) rfl (ls' := #[.val (.ref a1), .val (.ref a2), .val (.ref a3), .val (.ref a4), .val .null, .val (.int (v175 + (1 : Int32))), .val (.ref a3), .val (.int (3 : Int32)), .val (.int (1 : Int32)), .val (.int w1)]) rfl (pc' := 124) rfl ?_
      obtain rfl : v178 = (v175 + (1 : Int32)) := hv178.trans ((if_neg c180).trans rfl)
      exact hr
  refine sg179 ?_
  refine g_iinc A174 d1_124 rfl (y := (2 : Int32)) (by decide) (ls' := #[.val (.ref a1), .val (.ref a2), .val (.ref a3), .val (.ref a4), .val .null, .val (.int v178), .val (.ref a3), .val (.int (3 : Int32)), .val (.int (2 : Int32)), .val (.int w1)]) rfl (pc' := 127) rfl ?_
  refine g_goto A174 d1_127 (pc' := 102) rfl ?_
  refine g_iload A174 d1_102 rfl (pc' := 104) rfl ?_
  refine g_iload A174 d1_104 rfl (pc' := 106) rfl ?_
  refine g_icN A174 d1_106 (c2_ge_f (by decide)) (pc' := 109) rfl ?_
  refine g_aload A174 d1_109 rfl rfl (pc' := 111) rfl ?_
  refine g_iload A174 d1_111 rfl (pc' := 113) rfl ?_
  refine g_baload A174 hZ e161 V167 (i := 2) (by decide) rfl (x := w2) hw2 d1_113 (pc' := 114) rfl ?_
  refine g_istore A174 d1_114 (ls' := #[.val (.ref a1), .val (.ref a2), .val (.ref a3), .val (.ref a4), .val .null, .val (.int v178), .val (.ref a3), .val (.int (3 : Int32)), .val (.int (2 : Int32)), .val (.int w2)]) rfl (pc' := 116) rfl ?_
  refine g_iload A174 d1_116 rfl (pc' := 118) rfl ?_
  obtain ⟨v181, hv181⟩ : ∃ z : Int32, z = (if w2 = 0 then v178 else (v178 + (1 : Int32))) := ⟨_, rfl⟩
  have sg182 : ∀ {P : State → Outcome → Prop}, Go p e below P T161 (mkF m 124 #[.val (.ref a1), .val (.ref a2), .val (.ref a3), .val (.ref a4), .val .null, .val (.int v181), .val (.ref a3), .val (.int (3 : Int32)), .val (.int (2 : Int32)), .val (.int w2)] []) → Go p e below P T161 (mkF m 118 #[.val (.ref a1), .val (.ref a2), .val (.ref a3), .val (.ref a4), .val .null, .val (.int v178), .val (.ref a3), .val (.int (3 : Int32)), .val (.int (2 : Int32)), .val (.int w2)] [(.int w2)]) := by
    intro P hr
    by_cases c183 : w2 = 0
    · skip
      refine g_ifY A174 d1_118 (c0_eq_t c183) (pc' := 124) rfl ?_
      obtain rfl : v181 = v178 := hv181.trans ((if_pos c183).trans rfl)
      exact hr
    · skip
      refine g_ifN A174 d1_118 (c0_eq_f c183) (pc' := 121) rfl ?_
      refine g_iinc A174 d1_121 rfl (y := (v178 + (1 : Int32))) rfl (ls' := #[.val (.ref a1), .val (.ref a2), .val (.ref a3), .val (.ref a4), .val .null, .val (.int (v178 + (1 : Int32))), .val (.ref a3), .val (.int (3 : Int32)), .val (.int (2 : Int32)), .val (.int w2)]) rfl (pc' := 124) rfl ?_
      obtain rfl : v181 = (v178 + (1 : Int32)) := hv181.trans ((if_neg c183).trans rfl)
      exact hr
  refine sg182 ?_
  refine g_iinc A174 d1_124 rfl (y := (3 : Int32)) (by decide) (ls' := #[.val (.ref a1), .val (.ref a2), .val (.ref a3), .val (.ref a4), .val .null, .val (.int v181), .val (.ref a3), .val (.int (3 : Int32)), .val (.int (3 : Int32)), .val (.int w2)]) rfl (pc' := 127) rfl ?_
  refine g_goto A174 d1_127 (pc' := 102) rfl ?_
  refine g_iload A174 d1_102 rfl (pc' := 104) rfl ?_
  refine g_iload A174 d1_104 rfl (pc' := 106) rfl ?_
  refine g_icY A174 d1_106 (c2_ge_t (by decide)) (pc' := 130) rfl ?_
  refine g_aloadN A174 d1_130 rfl rfl (pc' := 131) rfl ?_
  refine g_iload A174 d1_131 rfl (pc' := 133) rfl ?_
  obtain ⟨T184, h184, X184, e184, W184, st184⟩ := putF X161 hx hZ hown (host := "") (Or.inl (hw _ (List.mem_of_getElem? (i := 21) rfl))) Via.refl e161 F165 E164 (Or.inr ⟨(hw _ (List.mem_of_getElem? (i := 22) rfl)), rfl, hnm⟩) (hw _ (List.mem_of_getElem? (i := 5) rfl)) (ty := .int) (by decide) rfl rfl (g := (mkF m 133 #[.val (.ref a1), .val (.ref a2), .val (.ref a3), .val (.ref a4), .val .null, .val (.int v181), .val (.ref a3), .val (.int (3 : Int32)), .val (.int (3 : Int32)), .val (.int w2)] [(.int v181), (.ref a1)])) rfl rfl (hb hby d1_133)
  have N185 := Fr.snoc X184 N162 g110
  have K186 : Keep h0 h184 [a1] := K163.wr W184 (Or.inl (List.mem_of_getElem? (i := 0) rfl))
  have E187 : Exa Z h184 a1 "com/example/swathloom/swathloom/planning/Plan" := Exa.wr W184 E164
  have V188 : Dar Z h184 a2 .double 3 f2 := Dar.other W184 V166 ne113
  have V189 : Dar Z h184 a3 .boolean 3 f3 := Dar.other W184 V167 ne114
  have V190 : Dar Z h184 a4 .double 3 f4 := Dar.other W184 V168 ne116
  have F191 : Fld Z h184 a1 "com/example/swathloom/swathloom/planning/Plan" "rolls" "[D" (.ref a2) := Fld.other W184 F169 (Or.inr (slot_ne (Or.inr (hw _ (List.mem_of_getElem? (i := 14) rfl))) (Or.inr (hw _ (List.mem_of_getElem? (i := 22) rfl))) (by decide) (t := (.array .double)) (t' := .int) (by decide) (by decide)))
  have F192 : Fld Z h184 a1 "com/example/swathloom/swathloom/planning/Plan" "used" "[Z" (.ref a3) := Fld.other W184 F170 (Or.inr (slot_ne (Or.inr (hw _ (List.mem_of_getElem? (i := 16) rfl))) (Or.inr (hw _ (List.mem_of_getElem? (i := 22) rfl))) (by decide) (t := (.array .boolean)) (t' := .int) (by decide) (by decide)))
  have F193 : Fld Z h184 a1 "com/example/swathloom/swathloom/planning/Plan" "rollVelocities" "[D" (.ref a4) := Fld.other W184 F171 (Or.inr (slot_ne (Or.inr (hw _ (List.mem_of_getElem? (i := 18) rfl))) (Or.inr (hw _ (List.mem_of_getElem? (i := 22) rfl))) (by decide) (t := (.array .double)) (t' := .int) (by decide) (by decide)))
  have F194 : Fld Z h184 a1 "com/example/swathloom/swathloom/planning/Plan" "selectionVelocities" "[D" .null := Fld.other W184 F172 (Or.inr (slot_ne (Or.inr (hw _ (List.mem_of_getElem? (i := 20) rfl))) (Or.inr (hw _ (List.mem_of_getElem? (i := 22) rfl))) (by decide) (t := (.array .double)) (t' := .int) (by decide) (by decide)))
  have F195 : Fld Z h184 a1 "com/example/swathloom/swathloom/planning/Plan" "strips" "I" (.int v181) := Fld.same W184 F165
  have Z196 : n0 ≤ h184.size := by rw [W184.size]; exact Z173
  refine Go.of (g' := (mkF m 136 #[.val (.ref a1), .val (.ref a2), .val (.ref a3), .val (.ref a4), .val .null, .val (.int v181), .val (.ref a3), .val (.int (3 : Int32)), .val (.int (3 : Int32)), .val (.int w2)] [])) st184 ?_
  have A197 := (⟨X184, hx, hby⟩ : Ax _ _ _ _ _ _ _ _ _ _ _ _ _ _ _)
  exact g_retV (Q := Q1_01 Z a1 a2 a3 a4 f4 f2 f3 w0 w1 w2 u0 u1 u2 u3 u4 h0 n0) A197 d1_136 Bd.notSynchronized Bd.returns (by decide) (by decide) (by rw [e184]; exact ⟨rfl, N185, K186, F192, F193, F194⟩)
theorem ef198 (m : MethodId) (a1 : Addr) (a2 : Addr) (a3 : Addr) (a5 : Addr) (f5 : Nat → Value) (f2 : Nat → Value) (f3 : Nat → Value) (w0 : Int32) (w1 : Int32) (w2 : Int32) (u0 : Value) (u1 : Value) (u2 : Value) (u3 : Value) (u4 : Value) : entryFrame m #[(.ref a1), (.ref a2), (.ref a3), .null, (.ref a5)] 10 = mkF m 0 #[.val (.ref a1), .val (.ref a2), .val (.ref a3), .val .null, .val (.ref a5), .unset, .unset, .unset, .unset, .unset] [] := by first | (simp [entryFrame, mkF, argsToLocals, Value.category]; done) | rfl
def Q1_10 (Z : State) (a1 : Addr) (a2 : Addr) (a3 : Addr) (a5 : Addr) (f5 : Nat → Value) (f2 : Nat → Value) (f3 : Nat → Value) (w0 : Int32) (w1 : Int32) (w2 : Int32) (u0 : Value) (u1 : Value) (u2 : Value) (u3 : Value) (u4 : Value) (h0 : Heap) (n0 : Nat) (v : Option Value) (h : Heap) (L : List Loc) : Prop := v = none ∧ Fr n0 L ∧ Keep h0 h [a1] ∧ Fld Z h a1 "com/example/swathloom/swathloom/planning/Plan" "used" "[Z" (.ref a3) ∧ Fld Z h a1 "com/example/swathloom/swathloom/planning/Plan" "rollVelocities" "[D" .null ∧ Fld Z h a1 "com/example/swathloom/swathloom/planning/Plan" "selectionVelocities" "[D" (.ref a5)
set_option maxRecDepth 65536 in
set_option maxHeartbeats 40000000 in
theorem rm1_10 (l : Launch) (Z : State) (a0 : Array Value) (hw : ∀ d ∈ tables_1, d.before a0 Z = true) (ws : List Jvm.Cond) (a1 : Addr) (a2 : Addr) (a3 : Addr) (a5 : Addr) (f5 : Nat → Value) (f2 : Nat → Value) (f3 : Nat → Value) (w0 : Int32) (w1 : Int32) (w2 : Int32) (u0 : Value) (u1 : Value) (u2 : Value) (u3 : Value) (u4 : Value) (h0 : Heap) (n0 : Nat) (Z0 : n0 ≤ h0.size) (E199 : Exa Z h0 a1 "com/example/swathloom/swathloom/planning/Plan") (F200 : Fld Z h0 a1 "com/example/swathloom/swathloom/planning/Plan" "rolls" "[D" u0) (F201 : Fld Z h0 a1 "com/example/swathloom/swathloom/planning/Plan" "used" "[Z" u1) (F202 : Fld Z h0 a1 "com/example/swathloom/swathloom/planning/Plan" "rollVelocities" "[D" u2) (F203 : Fld Z h0 a1 "com/example/swathloom/swathloom/planning/Plan" "selectionVelocities" "[D" u3) (F204 : Fld Z h0 a1 "com/example/swathloom/swathloom/planning/Plan" "strips" "I" u4) (g205 : n0 ≤ a1) (V206 : Dar Z h0 a2 .double 3 f2) (V207 : Dar Z h0 a3 .boolean 3 f3) (ne208 : a2 ≠ a1) (ne209 : a3 ≠ a1) (hw0 : f3 0 = .int w0) (hw1 : f3 1 = .int w1) (hw2 : f3 2 = .int w2) (V210 : Dar Z h0 a5 .double 3 f5) (ne211 : a5 ≠ a1) :
    MetFree l (⟨"com/example/swathloom/swathloom/planning/Plan", "<init>", "([D[Z[D[D)V"⟩ : MethodName) (head1 (Jvm.Cond.code (⟨"com/example/swathloom/swathloom/planning/Plan", "<init>", "([D[Z[D[D)V"⟩ : MethodName) prog_19_method_2_code 10 none :: ws) ({ frames := 1, cells := 0, slots := 0, locals := 12 } : Room)) (fun a U => a = #[(.ref a1), (.ref a2), (.ref a3), .null, (.ref a5)] ∧ Z.Warmed39 U.vm ∧ U.heap = h0) (fun _ _ _ _ _ => True) (fun _ U o U' => ∃ v L, o = .returned v ∧ Q1_10 Z a1 a2 a3 a5 f5 f2 f3 w0 w1 w2 u0 u1 u2 u3 u4 h0 n0 v U'.heap L ∧ FrameEnd U o U' L 0 0) := by
  refine MetFree.of_bodySF (plainFor_of_name pn_0) hisR ?_
  intro p e s m args below meth c s₁ Bd hml0 hP hK
  obtain ⟨rfl, hZ, hh⟩ := hP
  have hx := Bd.exec
  have hby := Bd.bytes
  have hml : c.maxLocals = 10 := hml0
  have hown : s.vm.findClass "com/example/swathloom/swathloom/planning/Plan" = some m.cls := findClass_of_methodNamed Bd.named
  have hnm := (name_of_methodNamed Bd.named Bd.method).1
  have X0 : Stand p l e ({ frames := 1, cells := 0, slots := 0, locals := 12 } : Room) s m #[(.ref a1), (.ref a2), (.ref a3), .null, (.ref a5)] below meth c s₁ [] 0 0 := Stand.of_body Bd
  have e0 : s₁.heap = h0 := by rw [← hh, Bd.state]; rfl
  have N0 := Fr.nil n0
  have A0 := (⟨X0, hx, hby⟩ : Ax _ _ _ _ _ _ _ _ _ _ _ _ _ _ _)
  show Go p e below (fun U o => ∃ v L, o = .returned v ∧ Q1_10 Z a1 a2 a3 a5 f5 f2 f3 w0 w1 w2 u0 u1 u2 u3 u4 h0 n0 v U.heap L ∧ FrameEnd s o U L 0 0) s₁ (entryFrame m #[(.ref a1), (.ref a2), (.ref a3), .null, (.ref a5)] 10)
  refine Go.cast (ef198 m a1 a2 a3 a5 f5 f2 f3 w0 w1 w2 u0 u1 u2 u3 u4) ?_
  refine g_aloadN A0 d1_0 rfl rfl (pc' := 1) rfl ?_
  obtain ⟨T212, X212, e212, st212⟩ := initO X0 hx hZ hown (hw _ (List.mem_of_getElem? (i := 10) rfl)) (hw _ (List.mem_of_getElem? (i := 11) rfl)) (hw _ (List.mem_of_getElem? (i := 12) rfl)) e0 (g := (mkF m 1 #[.val (.ref a1), .val (.ref a2), .val (.ref a3), .val .null, .val (.ref a5), .unset, .unset, .unset, .unset, .unset] [(.ref a1)])) rfl (by rw [hml]; rfl) rfl (hb hby d1_1) (by decide) (W := 0) (by show 2 * 0 + _ ≤ _; exact Nat.le_of_eq rfl) (by decide)
  refine Go.of (g' := (mkF m 4 #[.val (.ref a1), .val (.ref a2), .val (.ref a3), .val .null, .val (.ref a5), .unset, .unset, .unset, .unset, .unset] [])) st212 ?_
  have A213 := (⟨X212, hx, hby⟩ : Ax _ _ _ _ _ _ _ _ _ _ _ _ _ _ _)
  refine g_aloadN A213 d1_4 rfl rfl (pc' := 5) rfl ?_
  refine g_alen A213 hZ e212 V206 d1_5 (z := (3 : Int32)) rfl (pc' := 6) rfl ?_
  refine g_aloadN A213 d1_6 rfl rfl (pc' := 7) rfl ?_
  refine g_alen A213 hZ e212 V207 d1_7 (z := (3 : Int32)) rfl (pc' := 8) rfl ?_
  refine g_icY A213 d1_8 (c2_eq_t rfl) (pc' := 28) rfl ?_
  refine g_aloadN A213 d1_28 rfl rfl (pc' := 29) rfl ?_
  refine g_nuY A213 d1_29 (pc' := 39) rfl ?_
  refine g_aload A213 d1_39 rfl rfl (pc' := 41) rfl ?_
  refine g_nuN A213 d1_41 (pc' := 44) rfl ?_
  refine g_aload A213 d1_44 rfl rfl (pc' := 46) rfl ?_
  refine g_alen A213 hZ e212 V210 d1_46 (z := (3 : Int32)) rfl (pc' := 47) rfl ?_
  refine g_aloadN A213 d1_47 rfl rfl (pc' := 48) rfl ?_
  refine g_alen A213 hZ e212 V206 d1_48 (z := (3 : Int32)) rfl (pc' := 49) rfl ?_
  refine g_icY A213 d1_49 (c2_eq_t rfl) (pc' := 67) rfl ?_
  refine g_aloadN A213 d1_67 rfl rfl (pc' := 68) rfl ?_
  refine g_aloadN A213 d1_68 rfl rfl (pc' := 69) rfl ?_
  obtain ⟨T214, h214, X214, e214, W214, st214⟩ := putF X212 hx hZ hown (host := "") (Or.inl (hw _ (List.mem_of_getElem? (i := 13) rfl))) Via.refl e212 F200 E199 (Or.inr ⟨(hw _ (List.mem_of_getElem? (i := 14) rfl)), rfl, hnm⟩) (hw _ (List.mem_of_getElem? (i := 5) rfl)) (ty := (.array .double)) (by decide) rfl rfl (g := (mkF m 69 #[.val (.ref a1), .val (.ref a2), .val (.ref a3), .val .null, .val (.ref a5), .unset, .unset, .unset, .unset, .unset] [(.ref a2), (.ref a1)])) rfl rfl (hb hby d1_69)
  have N215 := Fr.snoc X214 N0 g205
  have K216 : Keep h0 h214 [a1] := (Keep.refl h0 [a1]).wr W214 (Or.inl (List.mem_of_getElem? (i := 0) rfl))
  have E217 : Exa Z h214 a1 "com/example/swathloom/swathloom/planning/Plan" := Exa.wr W214 E199
  have F218 : Fld Z h214 a1 "com/example/swathloom/swathloom/planning/Plan" "used" "[Z" u1 := Fld.other W214 F201 (Or.inr (slot_ne (Or.inr (hw _ (List.mem_of_getElem? (i := 16) rfl))) (Or.inr (hw _ (List.mem_of_getElem? (i := 14) rfl))) (by decide) (t := (.array .boolean)) (t' := (.array .double)) (by decide) (by decide)))
  have F219 : Fld Z h214 a1 "com/example/swathloom/swathloom/planning/Plan" "rollVelocities" "[D" u2 := Fld.other W214 F202 (Or.inr (slot_ne (Or.inr (hw _ (List.mem_of_getElem? (i := 18) rfl))) (Or.inr (hw _ (List.mem_of_getElem? (i := 14) rfl))) (by decide) (t := (.array .double)) (t' := (.array .double)) (by decide) (by decide)))
  have F220 : Fld Z h214 a1 "com/example/swathloom/swathloom/planning/Plan" "selectionVelocities" "[D" u3 := Fld.other W214 F203 (Or.inr (slot_ne (Or.inr (hw _ (List.mem_of_getElem? (i := 20) rfl))) (Or.inr (hw _ (List.mem_of_getElem? (i := 14) rfl))) (by decide) (t := (.array .double)) (t' := (.array .double)) (by decide) (by decide)))
  have F221 : Fld Z h214 a1 "com/example/swathloom/swathloom/planning/Plan" "strips" "I" u4 := Fld.other W214 F204 (Or.inr (slot_ne (Or.inr (hw _ (List.mem_of_getElem? (i := 22) rfl))) (Or.inr (hw _ (List.mem_of_getElem? (i := 14) rfl))) (by decide) (t := .int) (t' := (.array .double)) (by decide) (by decide)))
  have V222 : Dar Z h214 a2 .double 3 f2 := Dar.other W214 V206 ne208
  have V223 : Dar Z h214 a3 .boolean 3 f3 := Dar.other W214 V207 ne209
  have V224 : Dar Z h214 a5 .double 3 f5 := Dar.other W214 V210 ne211
  have F225 : Fld Z h214 a1 "com/example/swathloom/swathloom/planning/Plan" "rolls" "[D" (.ref a2) := Fld.same W214 F200
  have Z226 : n0 ≤ h214.size := by rw [W214.size]; exact Z0
  refine Go.of (g' := (mkF m 72 #[.val (.ref a1), .val (.ref a2), .val (.ref a3), .val .null, .val (.ref a5), .unset, .unset, .unset, .unset, .unset] [])) st214 ?_
  have A227 := (⟨X214, hx, hby⟩ : Ax _ _ _ _ _ _ _ _ _ _ _ _ _ _ _)
  refine g_aloadN A227 d1_72 rfl rfl (pc' := 73) rfl ?_
  refine g_aloadN A227 d1_73 rfl rfl (pc' := 74) rfl ?_
  obtain ⟨T228, h228, X228, e228, W228, st228⟩ := putF X214 hx hZ hown (host := "") (Or.inl (hw _ (List.mem_of_getElem? (i := 15) rfl))) Via.refl e214 F218 E217 (Or.inr ⟨(hw _ (List.mem_of_getElem? (i := 16) rfl)), rfl, hnm⟩) (hw _ (List.mem_of_getElem? (i := 5) rfl)) (ty := (.array .boolean)) (by decide) rfl rfl (g := (mkF m 74 #[.val (.ref a1), .val (.ref a2), .val (.ref a3), .val .null, .val (.ref a5), .unset, .unset, .unset, .unset, .unset] [(.ref a3), (.ref a1)])) rfl rfl (hb hby d1_74)
  have N229 := Fr.snoc X228 N215 g205
  have K230 : Keep h0 h228 [a1] := K216.wr W228 (Or.inl (List.mem_of_getElem? (i := 0) rfl))
  have E231 : Exa Z h228 a1 "com/example/swathloom/swathloom/planning/Plan" := Exa.wr W228 E217
  have F232 : Fld Z h228 a1 "com/example/swathloom/swathloom/planning/Plan" "rollVelocities" "[D" u2 := Fld.other W228 F219 (Or.inr (slot_ne (Or.inr (hw _ (List.mem_of_getElem? (i := 18) rfl))) (Or.inr (hw _ (List.mem_of_getElem? (i := 16) rfl))) (by decide) (t := (.array .double)) (t' := (.array .boolean)) (by decide) (by decide)))
  have F233 : Fld Z h228 a1 "com/example/swathloom/swathloom/planning/Plan" "selectionVelocities" "[D" u3 := Fld.other W228 F220 (Or.inr (slot_ne (Or.inr (hw _ (List.mem_of_getElem? (i := 20) rfl))) (Or.inr (hw _ (List.mem_of_getElem? (i := 16) rfl))) (by decide) (t := (.array .double)) (t' := (.array .boolean)) (by decide) (by decide)))
  have F234 : Fld Z h228 a1 "com/example/swathloom/swathloom/planning/Plan" "strips" "I" u4 := Fld.other W228 F221 (Or.inr (slot_ne (Or.inr (hw _ (List.mem_of_getElem? (i := 22) rfl))) (Or.inr (hw _ (List.mem_of_getElem? (i := 16) rfl))) (by decide) (t := .int) (t' := (.array .boolean)) (by decide) (by decide)))
  have V235 : Dar Z h228 a2 .double 3 f2 := Dar.other W228 V222 ne208
  have V236 : Dar Z h228 a3 .boolean 3 f3 := Dar.other W228 V223 ne209
  have V237 : Dar Z h228 a5 .double 3 f5 := Dar.other W228 V224 ne211
  have F238 : Fld Z h228 a1 "com/example/swathloom/swathloom/planning/Plan" "rolls" "[D" (.ref a2) := Fld.other W228 F225 (Or.inr (slot_ne (Or.inr (hw _ (List.mem_of_getElem? (i := 14) rfl))) (Or.inr (hw _ (List.mem_of_getElem? (i := 16) rfl))) (by decide) (t := (.array .double)) (t' := (.array .boolean)) (by decide) (by decide)))
  have F239 : Fld Z h228 a1 "com/example/swathloom/swathloom/planning/Plan" "used" "[Z" (.ref a3) := Fld.same W228 F218
  have Z240 : n0 ≤ h228.size := by rw [W228.size]; exact Z226
  refine Go.of (g' := (mkF m 77 #[.val (.ref a1), .val (.ref a2), .val (.ref a3), .val .null, .val (.ref a5), .unset, .unset, .unset, .unset, .unset] [])) st228 ?_
  have A241 := (⟨X228, hx, hby⟩ : Ax _ _ _ _ _ _ _ _ _ _ _ _ _ _ _)
  refine g_aloadN A241 d1_77 rfl rfl (pc' := 78) rfl ?_
  refine g_aloadN A241 d1_78 rfl rfl (pc' := 79) rfl ?_
  obtain ⟨T242, h242, X242, e242, W242, st242⟩ := putF X228 hx hZ hown (host := "") (Or.inl (hw _ (List.mem_of_getElem? (i := 17) rfl))) Via.refl e228 F232 E231 (Or.inr ⟨(hw _ (List.mem_of_getElem? (i := 18) rfl)), rfl, hnm⟩) (hw _ (List.mem_of_getElem? (i := 5) rfl)) (ty := (.array .double)) (by decide) rfl rfl (g := (mkF m 79 #[.val (.ref a1), .val (.ref a2), .val (.ref a3), .val .null, .val (.ref a5), .unset, .unset, .unset, .unset, .unset] [.null, (.ref a1)])) rfl rfl (hb hby d1_79)
  have N243 := Fr.snoc X242 N229 g205
  have K244 : Keep h0 h242 [a1] := K230.wr W242 (Or.inl (List.mem_of_getElem? (i := 0) rfl))
  have E245 : Exa Z h242 a1 "com/example/swathloom/swathloom/planning/Plan" := Exa.wr W242 E231
  have F246 : Fld Z h242 a1 "com/example/swathloom/swathloom/planning/Plan" "selectionVelocities" "[D" u3 := Fld.other W242 F233 (Or.inr (slot_ne (Or.inr (hw _ (List.mem_of_getElem? (i := 20) rfl))) (Or.inr (hw _ (List.mem_of_getElem? (i := 18) rfl))) (by decide) (t := (.array .double)) (t' := (.array .double)) (by decide) (by decide)))
  have F247 : Fld Z h242 a1 "com/example/swathloom/swathloom/planning/Plan" "strips" "I" u4 := Fld.other W242 F234 (Or.inr (slot_ne (Or.inr (hw _ (List.mem_of_getElem? (i := 22) rfl))) (Or.inr (hw _ (List.mem_of_getElem? (i := 18) rfl))) (by decide) (t := .int) (t' := (.array .double)) (by decide) (by decide)))
  have V248 : Dar Z h242 a2 .double 3 f2 := Dar.other W242 V235 ne208
  have V249 : Dar Z h242 a3 .boolean 3 f3 := Dar.other W242 V236 ne209
  have V250 : Dar Z h242 a5 .double 3 f5 := Dar.other W242 V237 ne211
  have F251 : Fld Z h242 a1 "com/example/swathloom/swathloom/planning/Plan" "rolls" "[D" (.ref a2) := Fld.other W242 F238 (Or.inr (slot_ne (Or.inr (hw _ (List.mem_of_getElem? (i := 14) rfl))) (Or.inr (hw _ (List.mem_of_getElem? (i := 18) rfl))) (by decide) (t := (.array .double)) (t' := (.array .double)) (by decide) (by decide)))
  have F252 : Fld Z h242 a1 "com/example/swathloom/swathloom/planning/Plan" "used" "[Z" (.ref a3) := Fld.other W242 F239 (Or.inr (slot_ne (Or.inr (hw _ (List.mem_of_getElem? (i := 16) rfl))) (Or.inr (hw _ (List.mem_of_getElem? (i := 18) rfl))) (by decide) (t := (.array .boolean)) (t' := (.array .double)) (by decide) (by decide)))
  have F253 : Fld Z h242 a1 "com/example/swathloom/swathloom/planning/Plan" "rollVelocities" "[D" .null := Fld.same W242 F232
  have Z254 : n0 ≤ h242.size := by rw [W242.size]; exact Z240
  refine Go.of (g' := (mkF m 82 #[.val (.ref a1), .val (.ref a2), .val (.ref a3), .val .null, .val (.ref a5), .unset, .unset, .unset, .unset, .unset] [])) st242 ?_
  have A255 := (⟨X242, hx, hby⟩ : Ax _ _ _ _ _ _ _ _ _ _ _ _ _ _ _)
  refine g_aloadN A255 d1_82 rfl rfl (pc' := 83) rfl ?_
  refine g_aload A255 d1_83 rfl rfl (pc' := 85) rfl ?_
  obtain ⟨T256, h256, X256, e256, W256, st256⟩ := putF X242 hx hZ hown (host := "") (Or.inl (hw _ (List.mem_of_getElem? (i := 19) rfl))) Via.refl e242 F246 E245 (Or.inr ⟨(hw _ (List.mem_of_getElem? (i := 20) rfl)), rfl, hnm⟩) (hw _ (List.mem_of_getElem? (i := 5) rfl)) (ty := (.array .double)) (by decide) rfl rfl (g := (mkF m 85 #[.val (.ref a1), .val (.ref a2), .val (.ref a3), .val .null, .val (.ref a5), .unset, .unset, .unset, .unset, .unset] [(.ref a5), (.ref a1)])) rfl rfl (hb hby d1_85)
  have N257 := Fr.snoc X256 N243 g205
  have K258 : Keep h0 h256 [a1] := K244.wr W256 (Or.inl (List.mem_of_getElem? (i := 0) rfl))
  have E259 : Exa Z h256 a1 "com/example/swathloom/swathloom/planning/Plan" := Exa.wr W256 E245
  have F260 : Fld Z h256 a1 "com/example/swathloom/swathloom/planning/Plan" "strips" "I" u4 := Fld.other W256 F247 (Or.inr (slot_ne (Or.inr (hw _ (List.mem_of_getElem? (i := 22) rfl))) (Or.inr (hw _ (List.mem_of_getElem? (i := 20) rfl))) (by decide) (t := .int) (t' := (.array .double)) (by decide) (by decide)))
  have V261 : Dar Z h256 a2 .double 3 f2 := Dar.other W256 V248 ne208
  have V262 : Dar Z h256 a3 .boolean 3 f3 := Dar.other W256 V249 ne209
  have V263 : Dar Z h256 a5 .double 3 f5 := Dar.other W256 V250 ne211
  have F264 : Fld Z h256 a1 "com/example/swathloom/swathloom/planning/Plan" "rolls" "[D" (.ref a2) := Fld.other W256 F251 (Or.inr (slot_ne (Or.inr (hw _ (List.mem_of_getElem? (i := 14) rfl))) (Or.inr (hw _ (List.mem_of_getElem? (i := 20) rfl))) (by decide) (t := (.array .double)) (t' := (.array .double)) (by decide) (by decide)))
  have F265 : Fld Z h256 a1 "com/example/swathloom/swathloom/planning/Plan" "used" "[Z" (.ref a3) := Fld.other W256 F252 (Or.inr (slot_ne (Or.inr (hw _ (List.mem_of_getElem? (i := 16) rfl))) (Or.inr (hw _ (List.mem_of_getElem? (i := 20) rfl))) (by decide) (t := (.array .boolean)) (t' := (.array .double)) (by decide) (by decide)))
  have F266 : Fld Z h256 a1 "com/example/swathloom/swathloom/planning/Plan" "rollVelocities" "[D" .null := Fld.other W256 F253 (Or.inr (slot_ne (Or.inr (hw _ (List.mem_of_getElem? (i := 18) rfl))) (Or.inr (hw _ (List.mem_of_getElem? (i := 20) rfl))) (by decide) (t := (.array .double)) (t' := (.array .double)) (by decide) (by decide)))
  have F267 : Fld Z h256 a1 "com/example/swathloom/swathloom/planning/Plan" "selectionVelocities" "[D" (.ref a5) := Fld.same W256 F246
  have Z268 : n0 ≤ h256.size := by rw [W256.size]; exact Z254
  refine Go.of (g' := (mkF m 88 #[.val (.ref a1), .val (.ref a2), .val (.ref a3), .val .null, .val (.ref a5), .unset, .unset, .unset, .unset, .unset] [])) st256 ?_
  have A269 := (⟨X256, hx, hby⟩ : Ax _ _ _ _ _ _ _ _ _ _ _ _ _ _ _)
  refine g_iconst A269 d1_88 (v := (0 : Int32)) rfl (pc' := 89) rfl ?_
  refine g_istore A269 d1_89 (ls' := #[.val (.ref a1), .val (.ref a2), .val (.ref a3), .val .null, .val (.ref a5), .val (.int (0 : Int32)), .unset, .unset, .unset, .unset]) rfl (pc' := 91) rfl ?_
  refine g_aloadN A269 d1_91 rfl rfl (pc' := 92) rfl ?_
  refine g_astore A269 d1_92 rfl (ls' := #[.val (.ref a1), .val (.ref a2), .val (.ref a3), .val .null, .val (.ref a5), .val (.int (0 : Int32)), .val (.ref a3), .unset, .unset, .unset]) rfl (pc' := 94) rfl ?_
  refine g_aload A269 d1_94 rfl rfl (pc' := 96) rfl ?_
  refine g_alen A269 hZ e256 V262 d1_96 (z := (3 : Int32)) rfl (pc' := 97) rfl ?_
  refine g_istore A269 d1_97 (ls' := #[.val (.ref a1), .val (.ref a2), .val (.ref a3), .val .null, .val (.ref a5), .val (.int (0 : Int32)), .val (.ref a3), .val (.int (3 : Int32)), .unset, .unset]) rfl (pc' := 99) rfl ?_
  refine g_iconst A269 d1_99 (v := (0 : Int32)) rfl (pc' := 100) rfl ?_
  refine g_istore A269 d1_100 (ls' := #[.val (.ref a1), .val (.ref a2), .val (.ref a3), .val .null, .val (.ref a5), .val (.int (0 : Int32)), .val (.ref a3), .val (.int (3 : Int32)), .val (.int (0 : Int32)), .unset]) rfl (pc' := 102) rfl ?_
  refine g_iload A269 d1_102 rfl (pc' := 104) rfl ?_
  refine g_iload A269 d1_104 rfl (pc' := 106) rfl ?_
  refine g_icN A269 d1_106 (c2_ge_f (by decide)) (pc' := 109) rfl ?_
  refine g_aload A269 d1_109 rfl rfl (pc' := 111) rfl ?_
  refine g_iload A269 d1_111 rfl (pc' := 113) rfl ?_
  refine g_baload A269 hZ e256 V262 (i := 0) (by decide) rfl (x := w0) hw0 d1_113 (pc' := 114) rfl ?_
  refine g_istore A269 d1_114 (ls' := #[.val (.ref a1), .val (.ref a2), .val (.ref a3), .val .null, .val (.ref a5), .val (.int (0 : Int32)), .val (.ref a3), .val (.int (3 : Int32)), .val (.int (0 : Int32)), .val (.int w0)]) rfl (pc' := 116) rfl ?_
  refine g_iload A269 d1_116 rfl (pc' := 118) rfl ?_
  obtain ⟨v270, hv270⟩ : ∃ z : Int32, z = if ¬ (w0 = 0) then (1 : Int32) else 0 := ⟨_, rfl⟩
  have sg271 : ∀ {P : State → Outcome → Prop}, Go p e below P T256 (mkF m 124 #[.val (.ref a1), .val (.ref a2), .val (.ref a3), .val .null, .val (.ref a5), .val (.int v270), .val (.ref a3), .val (.int (3 : Int32)), .val (.int (0 : Int32)), .val (.int w0)] []) → Go p e below P T256 (mkF m 118 #[.val (.ref a1), .val (.ref a2), .val (.ref a3), .val .null, .val (.ref a5), .val (.int (0 : Int32)), .val (.ref a3), .val (.int (3 : Int32)), .val (.int (0 : Int32)), .val (.int w0)] [(.int w0)]) := by
    intro P hr
    by_cases c272 : w0 = 0
    · skip
      refine g_ifY A269 d1_118 (c0_eq_t c272) (pc' := 124) rfl ?_
      obtain rfl : v270 = (0 : Int32) := hv270.trans (if_neg (fun q => q c272))
      exact hr
    · skip
      refine g_ifN A269 d1_118 (c0_eq_f c272) (pc' := 121) rfl ?_
      refine g_iinc A269 d1_121 rfl (y := (1 : Int32)) (by decide) (ls' := #[.val (.ref a1), .val (.ref a2), .val (.ref a3), .val .null, .val (.ref a5), .val (.int (1 : Int32)), .val (.ref a3), .val (.int (3 : Int32)), .val (.int (0 : Int32)), .val (.int w0)]) rfl (pc' := 124) rfl ?_
      obtain rfl : v270 = (1 : Int32) := hv270.trans (if_pos c272)
      exact hr
  refine sg271 ?_
  refine g_iinc A269 d1_124 rfl (y := (1 : Int32)) (by decide) (ls' := #[.val (.ref a1), .val (.ref a2), .val (.ref a3), .val .null, .val (.ref a5), .val (.int v270), .val (.ref a3), .val (.int (3 : Int32)), .val (.int (1 : Int32)), .val (.int w0)]) rfl (pc' := 127) rfl ?_
  refine g_goto A269 d1_127 (pc' := 102) rfl ?_
  refine g_iload A269 d1_102 rfl (pc' := 104) rfl ?_
  refine g_iload A269 d1_104 rfl (pc' := 106) rfl ?_
  refine g_icN A269 d1_106 (c2_ge_f (by decide)) (pc' := 109) rfl ?_
  refine g_aload A269 d1_109 rfl rfl (pc' := 111) rfl ?_
  refine g_iload A269 d1_111 rfl (pc' := 113) rfl ?_
  refine g_baload A269 hZ e256 V262 (i := 1) (by decide) rfl (x := w1) hw1 d1_113 (pc' := 114) rfl ?_
  refine g_istore A269 d1_114 (ls' := #[.val (.ref a1), .val (.ref a2), .val (.ref a3), .val .null, .val (.ref a5), .val (.int v270), .val (.ref a3), .val (.int (3 : Int32)), .val (.int (1 : Int32)), .val (.int w1)]) rfl (pc' := 116) rfl ?_
  refine g_iload A269 d1_116 rfl (pc' := 118) rfl ?_
  obtain ⟨v273, hv273⟩ : ∃ z : Int32, z = (if w1 = 0 then v270 else (v270 + (1 : Int32))) := ⟨_, rfl⟩
  have sg274 : ∀ {P : State → Outcome → Prop}, Go p e below P T256 (mkF m 124 #[.val (.ref a1), .val (.ref a2), .val (.ref a3), .val .null, .val (.ref a5), .val (.int v273), .val (.ref a3), .val (.int (3 : Int32)), .val (.int (1 : Int32)), .val (.int w1)] []) → Go p e below P T256 (mkF m 118 #[.val (.ref a1), .val (.ref a2), .val (.ref a3), .val .null, .val (.ref a5), .val (.int v270), .val (.ref a3), .val (.int (3 : Int32)), .val (.int (1 : Int32)), .val (.int w1)] [(.int w1)]) := by
    intro P hr
    by_cases c275 : w1 = 0
    · skip
      refine g_ifY A269 d1_118 (c0_eq_t c275) (pc' := 124) rfl ?_
      obtain rfl : v273 = v270 := hv273.trans ((if_pos c275).trans rfl)
      exact hr
    · skip
      refine g_ifN A269 d1_118 (c0_eq_f c275) (pc' := 121) rfl ?_
      refine g_iinc A269 d1_121 rfl (y := (v270 + (1 : Int32))) rfl (ls' := #[.val (.ref a1), .val (.ref a2), .val (.ref a3), .val .null, .val (.ref a5), .val (.int (v270 + (1 : Int32))), .val (.ref a3), .val (.int (3 : Int32)), .val (.int (1 : Int32)), .val (.int w1)]) rfl (pc' := 124) rfl ?_
      obtain rfl : v273 = (v270 + (1 : Int32)) := hv273.trans ((if_neg c275).trans rfl)
      exact hr
  refine sg274 ?_
  refine g_iinc A269 d1_124 rfl (y := (2 : Int32)) (by decide) (ls' := #[.val (.ref a1), .val (.ref a2), .val (.ref a3), .val .null, .val (.ref a5), .val (.int v273), .val (.ref a3), .val (.int (3 : Int32)), .val (.int (2 : Int32)), .val (.int w1)]) rfl (pc' := 127) rfl ?_
  refine g_goto A269 d1_127 (pc' := 102) rfl ?_
  refine g_iload A269 d1_102 rfl (pc' := 104) rfl ?_
  refine g_iload A269 d1_104 rfl (pc' := 106) rfl ?_
  refine g_icN A269 d1_106 (c2_ge_f (by decide)) (pc' := 109) rfl ?_
  refine g_aload A269 d1_109 rfl rfl (pc' := 111) rfl ?_
  refine g_iload A269 d1_111 rfl (pc' := 113) rfl ?_
  refine g_baload A269 hZ e256 V262 (i := 2) (by decide) rfl (x := w2) hw2 d1_113 (pc' := 114) rfl ?_
  refine g_istore A269 d1_114 (ls' := #[.val (.ref a1), .val (.ref a2), .val (.ref a3), .val .null, .val (.ref a5), .val (.int v273), .val (.ref a3), .val (.int (3 : Int32)), .val (.int (2 : Int32)), .val (.int w2)]) rfl (pc' := 116) rfl ?_
  refine g_iload A269 d1_116 rfl (pc' := 118) rfl ?_
  obtain ⟨v276, hv276⟩ : ∃ z : Int32, z = (if w2 = 0 then v273 else (v273 + (1 : Int32))) := ⟨_, rfl⟩
  have sg277 : ∀ {P : State → Outcome → Prop}, Go p e below P T256 (mkF m 124 #[.val (.ref a1), .val (.ref a2), .val (.ref a3), .val .null, .val (.ref a5), .val (.int v276), .val (.ref a3), .val (.int (3 : Int32)), .val (.int (2 : Int32)), .val (.int w2)] []) → Go p e below P T256 (mkF m 118 #[.val (.ref a1), .val (.ref a2), .val (.ref a3), .val .null, .val (.ref a5), .val (.int v273), .val (.ref a3), .val (.int (3 : Int32)), .val (.int (2 : Int32)), .val (.int w2)] [(.int w2)]) := by
    intro P hr
    by_cases c278 : w2 = 0
    · skip
      refine g_ifY A269 d1_118 (c0_eq_t c278) (pc' := 124) rfl ?_
      obtain rfl : v276 = v273 := hv276.trans ((if_pos c278).trans rfl)
      exact hr
    · skip
      refine g_ifN A269 d1_118 (c0_eq_f c278) (pc' := 121) rfl ?_
      refine g_iinc A269 d1_121 rfl (y := (v273 + (1 : Int32))) rfl (ls' := #[.val (.ref a1), .val (.ref a2), .val (.ref a3), .val .null, .val (.ref a5), .val (.int (v273 + (1 : Int32))), .val (.ref a3), .val (.int (3 : Int32)), .val (.int (2 : Int32)), .val (.int w2)]) rfl (pc' := 124) rfl ?_
      obtain rfl : v276 = (v273 + (1 : Int32)) := hv276.trans ((if_neg c278).trans rfl)
      exact hr
  refine sg277 ?_
  refine g_iinc A269 d1_124 rfl (y := (3 : Int32)) (by decide) (ls' := #[.val (.ref a1), .val (.ref a2), .val (.ref a3), .val .null, .val (.ref a5), .val (.int v276), .val (.ref a3), .val (.int (3 : Int32)), .val (.int (3 : Int32)), .val (.int w2)]) rfl (pc' := 127) rfl ?_
  refine g_goto A269 d1_127 (pc' := 102) rfl ?_
  refine g_iload A269 d1_102 rfl (pc' := 104) rfl ?_
  refine g_iload A269 d1_104 rfl (pc' := 106) rfl ?_
  refine g_icY A269 d1_106 (c2_ge_t (by decide)) (pc' := 130) rfl ?_
  refine g_aloadN A269 d1_130 rfl rfl (pc' := 131) rfl ?_
  refine g_iload A269 d1_131 rfl (pc' := 133) rfl ?_
  obtain ⟨T279, h279, X279, e279, W279, st279⟩ := putF X256 hx hZ hown (host := "") (Or.inl (hw _ (List.mem_of_getElem? (i := 21) rfl))) Via.refl e256 F260 E259 (Or.inr ⟨(hw _ (List.mem_of_getElem? (i := 22) rfl)), rfl, hnm⟩) (hw _ (List.mem_of_getElem? (i := 5) rfl)) (ty := .int) (by decide) rfl rfl (g := (mkF m 133 #[.val (.ref a1), .val (.ref a2), .val (.ref a3), .val .null, .val (.ref a5), .val (.int v276), .val (.ref a3), .val (.int (3 : Int32)), .val (.int (3 : Int32)), .val (.int w2)] [(.int v276), (.ref a1)])) rfl rfl (hb hby d1_133)
  have N280 := Fr.snoc X279 N257 g205
  have K281 : Keep h0 h279 [a1] := K258.wr W279 (Or.inl (List.mem_of_getElem? (i := 0) rfl))
  have E282 : Exa Z h279 a1 "com/example/swathloom/swathloom/planning/Plan" := Exa.wr W279 E259
  have V283 : Dar Z h279 a2 .double 3 f2 := Dar.other W279 V261 ne208
  have V284 : Dar Z h279 a3 .boolean 3 f3 := Dar.other W279 V262 ne209
  have V285 : Dar Z h279 a5 .double 3 f5 := Dar.other W279 V263 ne211
  have F286 : Fld Z h279 a1 "com/example/swathloom/swathloom/planning/Plan" "rolls" "[D" (.ref a2) := Fld.other W279 F264 (Or.inr (slot_ne (Or.inr (hw _ (List.mem_of_getElem? (i := 14) rfl))) (Or.inr (hw _ (List.mem_of_getElem? (i := 22) rfl))) (by decide) (t := (.array .double)) (t' := .int) (by decide) (by decide)))
  have F287 : Fld Z h279 a1 "com/example/swathloom/swathloom/planning/Plan" "used" "[Z" (.ref a3) := Fld.other W279 F265 (Or.inr (slot_ne (Or.inr (hw _ (List.mem_of_getElem? (i := 16) rfl))) (Or.inr (hw _ (List.mem_of_getElem? (i := 22) rfl))) (by decide) (t := (.array .boolean)) (t' := .int) (by decide) (by decide)))
  have F288 : Fld Z h279 a1 "com/example/swathloom/swathloom/planning/Plan" "rollVelocities" "[D" .null := Fld.other W279 F266 (Or.inr (slot_ne (Or.inr (hw _ (List.mem_of_getElem? (i := 18) rfl))) (Or.inr (hw _ (List.mem_of_getElem? (i := 22) rfl))) (by decide) (t := (.array .double)) (t' := .int) (by decide) (by decide)))
  have F289 : Fld Z h279 a1 "com/example/swathloom/swathloom/planning/Plan" "selectionVelocities" "[D" (.ref a5) := Fld.other W279 F267 (Or.inr (slot_ne (Or.inr (hw _ (List.mem_of_getElem? (i := 20) rfl))) (Or.inr (hw _ (List.mem_of_getElem? (i := 22) rfl))) (by decide) (t := (.array .double)) (t' := .int) (by decide) (by decide)))
  have F290 : Fld Z h279 a1 "com/example/swathloom/swathloom/planning/Plan" "strips" "I" (.int v276) := Fld.same W279 F260
  have Z291 : n0 ≤ h279.size := by rw [W279.size]; exact Z268
  refine Go.of (g' := (mkF m 136 #[.val (.ref a1), .val (.ref a2), .val (.ref a3), .val .null, .val (.ref a5), .val (.int v276), .val (.ref a3), .val (.int (3 : Int32)), .val (.int (3 : Int32)), .val (.int w2)] [])) st279 ?_
  have A292 := (⟨X279, hx, hby⟩ : Ax _ _ _ _ _ _ _ _ _ _ _ _ _ _ _)
  exact g_retV (Q := Q1_10 Z a1 a2 a3 a5 f5 f2 f3 w0 w1 w2 u0 u1 u2 u3 u4 h0 n0) A292 d1_136 Bd.notSynchronized Bd.returns (by decide) (by decide) (by rw [e279]; exact ⟨rfl, N280, K281, F287, F288, F289⟩)
theorem ef293 (m : MethodId) (a1 : Addr) (a2 : Addr) (a3 : Addr) (f2 : Nat → Value) (f3 : Nat → Value) (w0 : Int32) (w1 : Int32) (w2 : Int32) (u0 : Value) (u1 : Value) (u2 : Value) (u3 : Value) (u4 : Value) : entryFrame m #[(.ref a1), (.ref a2), (.ref a3), .null, .null] 10 = mkF m 0 #[.val (.ref a1), .val (.ref a2), .val (.ref a3), .val .null, .val .null, .unset, .unset, .unset, .unset, .unset] [] := by first | (simp [entryFrame, mkF, argsToLocals, Value.category]; done) | rfl
def Q1_11 (Z : State) (a1 : Addr) (a2 : Addr) (a3 : Addr) (f2 : Nat → Value) (f3 : Nat → Value) (w0 : Int32) (w1 : Int32) (w2 : Int32) (u0 : Value) (u1 : Value) (u2 : Value) (u3 : Value) (u4 : Value) (h0 : Heap) (n0 : Nat) (v : Option Value) (h : Heap) (L : List Loc) : Prop := v = none ∧ Fr n0 L ∧ Keep h0 h [a1] ∧ Fld Z h a1 "com/example/swathloom/swathloom/planning/Plan" "used" "[Z" (.ref a3) ∧ Fld Z h a1 "com/example/swathloom/swathloom/planning/Plan" "rollVelocities" "[D" .null ∧ Fld Z h a1 "com/example/swathloom/swathloom/planning/Plan" "selectionVelocities" "[D" .null
set_option maxRecDepth 65536 in
set_option maxHeartbeats 40000000 in
theorem rm1_11 (l : Launch) (Z : State) (a0 : Array Value) (hw : ∀ d ∈ tables_1, d.before a0 Z = true) (ws : List Jvm.Cond) (a1 : Addr) (a2 : Addr) (a3 : Addr) (f2 : Nat → Value) (f3 : Nat → Value) (w0 : Int32) (w1 : Int32) (w2 : Int32) (u0 : Value) (u1 : Value) (u2 : Value) (u3 : Value) (u4 : Value) (h0 : Heap) (n0 : Nat) (Z0 : n0 ≤ h0.size) (E294 : Exa Z h0 a1 "com/example/swathloom/swathloom/planning/Plan") (F295 : Fld Z h0 a1 "com/example/swathloom/swathloom/planning/Plan" "rolls" "[D" u0) (F296 : Fld Z h0 a1 "com/example/swathloom/swathloom/planning/Plan" "used" "[Z" u1) (F297 : Fld Z h0 a1 "com/example/swathloom/swathloom/planning/Plan" "rollVelocities" "[D" u2) (F298 : Fld Z h0 a1 "com/example/swathloom/swathloom/planning/Plan" "selectionVelocities" "[D" u3) (F299 : Fld Z h0 a1 "com/example/swathloom/swathloom/planning/Plan" "strips" "I" u4) (g300 : n0 ≤ a1) (V301 : Dar Z h0 a2 .double 3 f2) (V302 : Dar Z h0 a3 .boolean 3 f3) (ne303 : a2 ≠ a1) (ne304 : a3 ≠ a1) (hw0 : f3 0 = .int w0) (hw1 : f3 1 = .int w1) (hw2 : f3 2 = .int w2) :
    MetFree l (⟨"com/example/swathloom/swathloom/planning/Plan", "<init>", "([D[Z[D[D)V"⟩ : MethodName) (head1 (Jvm.Cond.code (⟨"com/example/swathloom/swathloom/planning/Plan", "<init>", "([D[Z[D[D)V"⟩ : MethodName) prog_19_method_2_code 10 none :: ws) ({ frames := 1, cells := 0, slots := 0, locals := 12 } : Room)) (fun a U => a = #[(.ref a1), (.ref a2), (.ref a3), .null, .null] ∧ Z.Warmed39 U.vm ∧ U.heap = h0) (fun _ _ _ _ _ => True) (fun _ U o U' => ∃ v L, o = .returned v ∧ Q1_11 Z a1 a2 a3 f2 f3 w0 w1 w2 u0 u1 u2 u3 u4 h0 n0 v U'.heap L ∧ FrameEnd U o U' L 0 0) := by
  refine MetFree.of_bodySF (plainFor_of_name pn_0) hisR ?_
  intro p e s m args below meth c s₁ Bd hml0 hP hK
  obtain ⟨rfl, hZ, hh⟩ := hP
  have hx := Bd.exec
  have hby := Bd.bytes
  have hml : c.maxLocals = 10 := hml0
  have hown : s.vm.findClass "com/example/swathloom/swathloom/planning/Plan" = some m.cls := findClass_of_methodNamed Bd.named
  have hnm := (name_of_methodNamed Bd.named Bd.method).1
  have X0 : Stand p l e ({ frames := 1, cells := 0, slots := 0, locals := 12 } : Room) s m #[(.ref a1), (.ref a2), (.ref a3), .null, .null] below meth c s₁ [] 0 0 := Stand.of_body Bd
  have e0 : s₁.heap = h0 := by rw [← hh, Bd.state]; rfl
  have N0 := Fr.nil n0
  have A0 := (⟨X0, hx, hby⟩ : Ax _ _ _ _ _ _ _ _ _ _ _ _ _ _ _)
  show Go p e below (fun U o => ∃ v L, o = .returned v ∧ Q1_11 Z a1 a2 a3 f2 f3 w0 w1 w2 u0 u1 u2 u3 u4 h0 n0 v U.heap L ∧ FrameEnd s o U L 0 0) s₁ (entryFrame m #[(.ref a1), (.ref a2), (.ref a3), .null, .null] 10)
  refine Go.cast (ef293 m a1 a2 a3 f2 f3 w0 w1 w2 u0 u1 u2 u3 u4) ?_
  refine g_aloadN A0 d1_0 rfl rfl (pc' := 1) rfl ?_
  obtain ⟨T305, X305, e305, st305⟩ := initO X0 hx hZ hown (hw _ (List.mem_of_getElem? (i := 10) rfl)) (hw _ (List.mem_of_getElem? (i := 11) rfl)) (hw _ (List.mem_of_getElem? (i := 12) rfl)) e0 (g := (mkF m 1 #[.val (.ref a1), .val (.ref a2), .val (.ref a3), .val .null, .val .null, .unset, .unset, .unset, .unset, .unset] [(.ref a1)])) rfl (by rw [hml]; rfl) rfl (hb hby d1_1) (by decide) (W := 0) (by show 2 * 0 + _ ≤ _; exact Nat.le_of_eq rfl) (by decide)
  refine Go.of (g' := (mkF m 4 #[.val (.ref a1), .val (.ref a2), .val (.ref a3), .val .null, .val .null, .unset, .unset, .unset, .unset, .unset] [])) st305 ?_
  have A306 := (⟨X305, hx, hby⟩ : Ax _ _ _ _ _ _ _ _ _ _ _ _ _ _ _)
  refine g_aloadN A306 d1_4 rfl rfl (pc' := 5) rfl ?_
  refine g_alen A306 hZ e305 V301 d1_5 (z := (3 : Int32)) rfl (pc' := 6) rfl ?_
  refine g_aloadN A306 d1_6 rfl rfl (pc' := 7) rfl ?_
  refine g_alen A306 hZ e305 V302 d1_7 (z := (3 : Int32)) rfl (pc' := 8) rfl ?_
  refine g_icY A306 d1_8 (c2_eq_t rfl) (pc' := 28) rfl ?_
  refine g_aloadN A306 d1_28 rfl rfl (pc' := 29) rfl ?_
  refine g_nuY A306 d1_29 (pc' := 39) rfl ?_
  refine g_aload A306 d1_39 rfl rfl (pc' := 41) rfl ?_
  refine g_nuY A306 d1_41 (pc' := 67) rfl ?_
  refine g_aloadN A306 d1_67 rfl rfl (pc' := 68) rfl ?_
  refine g_aloadN A306 d1_68 rfl rfl (pc' := 69) rfl ?_
  obtain ⟨T307, h307, X307, e307, W307, st307⟩ := putF X305 hx hZ hown (host := "") (Or.inl (hw _ (List.mem_of_getElem? (i := 13) rfl))) Via.refl e305 F295 E294 (Or.inr ⟨(hw _ (List.mem_of_getElem? (i := 14) rfl)), rfl, hnm⟩) (hw _ (List.mem_of_getElem? (i := 5) rfl)) (ty := (.array .double)) (by decide) rfl rfl (g := (mkF m 69 #[.val (.ref a1), .val (.ref a2), .val (.ref a3), .val .null, .val .null, .unset, .unset, .unset, .unset, .unset] [(.ref a2), (.ref a1)])) rfl rfl (hb hby d1_69)
  have N308 := Fr.snoc X307 N0 g300
  have K309 : Keep h0 h307 [a1] := (Keep.refl h0 [a1]).wr W307 (Or.inl (List.mem_of_getElem? (i := 0) rfl))
  have E310 : Exa Z h307 a1 "com/example/swathloom/swathloom/planning/Plan" := Exa.wr W307 E294
  have F311 : Fld Z h307 a1 "com/example/swathloom/swathloom/planning/Plan" "used" "[Z" u1 := Fld.other W307 F296 (Or.inr (slot_ne (Or.inr (hw _ (List.mem_of_getElem? (i := 16) rfl))) (Or.inr (hw _ (List.mem_of_getElem? (i := 14) rfl))) (by decide) (t := (.array .boolean)) (t' := (.array .double)) (by decide) (by decide)))
  have F312 : Fld Z h307 a1 "com/example/swathloom/swathloom/planning/Plan" "rollVelocities" "[D" u2 := Fld.other W307 F297 (Or.inr (slot_ne (Or.inr (hw _ (List.mem_of_getElem? (i := 18) rfl))) (Or.inr (hw _ (List.mem_of_getElem? (i := 14) rfl))) (by decide) (t := (.array .double)) (t' := (.array .double)) (by decide) (by decide)))
  have F313 : Fld Z h307 a1 "com/example/swathloom/swathloom/planning/Plan" "selectionVelocities" "[D" u3 := Fld.other W307 F298 (Or.inr (slot_ne (Or.inr (hw _ (List.mem_of_getElem? (i := 20) rfl))) (Or.inr (hw _ (List.mem_of_getElem? (i := 14) rfl))) (by decide) (t := (.array .double)) (t' := (.array .double)) (by decide) (by decide)))
  have F314 : Fld Z h307 a1 "com/example/swathloom/swathloom/planning/Plan" "strips" "I" u4 := Fld.other W307 F299 (Or.inr (slot_ne (Or.inr (hw _ (List.mem_of_getElem? (i := 22) rfl))) (Or.inr (hw _ (List.mem_of_getElem? (i := 14) rfl))) (by decide) (t := .int) (t' := (.array .double)) (by decide) (by decide)))
  have V315 : Dar Z h307 a2 .double 3 f2 := Dar.other W307 V301 ne303
  have V316 : Dar Z h307 a3 .boolean 3 f3 := Dar.other W307 V302 ne304
  have F317 : Fld Z h307 a1 "com/example/swathloom/swathloom/planning/Plan" "rolls" "[D" (.ref a2) := Fld.same W307 F295
  have Z318 : n0 ≤ h307.size := by rw [W307.size]; exact Z0
  refine Go.of (g' := (mkF m 72 #[.val (.ref a1), .val (.ref a2), .val (.ref a3), .val .null, .val .null, .unset, .unset, .unset, .unset, .unset] [])) st307 ?_
  have A319 := (⟨X307, hx, hby⟩ : Ax _ _ _ _ _ _ _ _ _ _ _ _ _ _ _)
  refine g_aloadN A319 d1_72 rfl rfl (pc' := 73) rfl ?_
  refine g_aloadN A319 d1_73 rfl rfl (pc' := 74) rfl ?_
  obtain ⟨T320, h320, X320, e320, W320, st320⟩ := putF X307 hx hZ hown (host := "") (Or.inl (hw _ (List.mem_of_getElem? (i := 15) rfl))) Via.refl e307 F311 E310 (Or.inr ⟨(hw _ (List.mem_of_getElem? (i := 16) rfl)), rfl, hnm⟩) (hw _ (List.mem_of_getElem? (i := 5) rfl)) (ty := (.array .boolean)) (by decide) rfl rfl (g := (mkF m 74 #[.val (.ref a1), .val (.ref a2), .val (.ref a3), .val .null, .val .null, .unset, .unset, .unset, .unset, .unset] [(.ref a3), (.ref a1)])) rfl rfl (hb hby d1_74)
  have N321 := Fr.snoc X320 N308 g300
  have K322 : Keep h0 h320 [a1] := K309.wr W320 (Or.inl (List.mem_of_getElem? (i := 0) rfl))
  have E323 : Exa Z h320 a1 "com/example/swathloom/swathloom/planning/Plan" := Exa.wr W320 E310
  have F324 : Fld Z h320 a1 "com/example/swathloom/swathloom/planning/Plan" "rollVelocities" "[D" u2 := Fld.other W320 F312 (Or.inr (slot_ne (Or.inr (hw _ (List.mem_of_getElem? (i := 18) rfl))) (Or.inr (hw _ (List.mem_of_getElem? (i := 16) rfl))) (by decide) (t := (.array .double)) (t' := (.array .boolean)) (by decide) (by decide)))
  have F325 : Fld Z h320 a1 "com/example/swathloom/swathloom/planning/Plan" "selectionVelocities" "[D" u3 := Fld.other W320 F313 (Or.inr (slot_ne (Or.inr (hw _ (List.mem_of_getElem? (i := 20) rfl))) (Or.inr (hw _ (List.mem_of_getElem? (i := 16) rfl))) (by decide) (t := (.array .double)) (t' := (.array .boolean)) (by decide) (by decide)))
  have F326 : Fld Z h320 a1 "com/example/swathloom/swathloom/planning/Plan" "strips" "I" u4 := Fld.other W320 F314 (Or.inr (slot_ne (Or.inr (hw _ (List.mem_of_getElem? (i := 22) rfl))) (Or.inr (hw _ (List.mem_of_getElem? (i := 16) rfl))) (by decide) (t := .int) (t' := (.array .boolean)) (by decide) (by decide)))
  have V327 : Dar Z h320 a2 .double 3 f2 := Dar.other W320 V315 ne303
  have V328 : Dar Z h320 a3 .boolean 3 f3 := Dar.other W320 V316 ne304
  have F329 : Fld Z h320 a1 "com/example/swathloom/swathloom/planning/Plan" "rolls" "[D" (.ref a2) := Fld.other W320 F317 (Or.inr (slot_ne (Or.inr (hw _ (List.mem_of_getElem? (i := 14) rfl))) (Or.inr (hw _ (List.mem_of_getElem? (i := 16) rfl))) (by decide) (t := (.array .double)) (t' := (.array .boolean)) (by decide) (by decide)))
  have F330 : Fld Z h320 a1 "com/example/swathloom/swathloom/planning/Plan" "used" "[Z" (.ref a3) := Fld.same W320 F311
  have Z331 : n0 ≤ h320.size := by rw [W320.size]; exact Z318
  refine Go.of (g' := (mkF m 77 #[.val (.ref a1), .val (.ref a2), .val (.ref a3), .val .null, .val .null, .unset, .unset, .unset, .unset, .unset] [])) st320 ?_
  have A332 := (⟨X320, hx, hby⟩ : Ax _ _ _ _ _ _ _ _ _ _ _ _ _ _ _)
  refine g_aloadN A332 d1_77 rfl rfl (pc' := 78) rfl ?_
  refine g_aloadN A332 d1_78 rfl rfl (pc' := 79) rfl ?_
  obtain ⟨T333, h333, X333, e333, W333, st333⟩ := putF X320 hx hZ hown (host := "") (Or.inl (hw _ (List.mem_of_getElem? (i := 17) rfl))) Via.refl e320 F324 E323 (Or.inr ⟨(hw _ (List.mem_of_getElem? (i := 18) rfl)), rfl, hnm⟩) (hw _ (List.mem_of_getElem? (i := 5) rfl)) (ty := (.array .double)) (by decide) rfl rfl (g := (mkF m 79 #[.val (.ref a1), .val (.ref a2), .val (.ref a3), .val .null, .val .null, .unset, .unset, .unset, .unset, .unset] [.null, (.ref a1)])) rfl rfl (hb hby d1_79)
  have N334 := Fr.snoc X333 N321 g300
  have K335 : Keep h0 h333 [a1] := K322.wr W333 (Or.inl (List.mem_of_getElem? (i := 0) rfl))
  have E336 : Exa Z h333 a1 "com/example/swathloom/swathloom/planning/Plan" := Exa.wr W333 E323
  have F337 : Fld Z h333 a1 "com/example/swathloom/swathloom/planning/Plan" "selectionVelocities" "[D" u3 := Fld.other W333 F325 (Or.inr (slot_ne (Or.inr (hw _ (List.mem_of_getElem? (i := 20) rfl))) (Or.inr (hw _ (List.mem_of_getElem? (i := 18) rfl))) (by decide) (t := (.array .double)) (t' := (.array .double)) (by decide) (by decide)))
  have F338 : Fld Z h333 a1 "com/example/swathloom/swathloom/planning/Plan" "strips" "I" u4 := Fld.other W333 F326 (Or.inr (slot_ne (Or.inr (hw _ (List.mem_of_getElem? (i := 22) rfl))) (Or.inr (hw _ (List.mem_of_getElem? (i := 18) rfl))) (by decide) (t := .int) (t' := (.array .double)) (by decide) (by decide)))
  have V339 : Dar Z h333 a2 .double 3 f2 := Dar.other W333 V327 ne303
  have V340 : Dar Z h333 a3 .boolean 3 f3 := Dar.other W333 V328 ne304
  have F341 : Fld Z h333 a1 "com/example/swathloom/swathloom/planning/Plan" "rolls" "[D" (.ref a2) := Fld.other W333 F329 (Or.inr (slot_ne (Or.inr (hw _ (List.mem_of_getElem? (i := 14) rfl))) (Or.inr (hw _ (List.mem_of_getElem? (i := 18) rfl))) (by decide) (t := (.array .double)) (t' := (.array .double)) (by decide) (by decide)))
  have F342 : Fld Z h333 a1 "com/example/swathloom/swathloom/planning/Plan" "used" "[Z" (.ref a3) := Fld.other W333 F330 (Or.inr (slot_ne (Or.inr (hw _ (List.mem_of_getElem? (i := 16) rfl))) (Or.inr (hw _ (List.mem_of_getElem? (i := 18) rfl))) (by decide) (t := (.array .boolean)) (t' := (.array .double)) (by decide) (by decide)))
  have F343 : Fld Z h333 a1 "com/example/swathloom/swathloom/planning/Plan" "rollVelocities" "[D" .null := Fld.same W333 F324
  have Z344 : n0 ≤ h333.size := by rw [W333.size]; exact Z331
  refine Go.of (g' := (mkF m 82 #[.val (.ref a1), .val (.ref a2), .val (.ref a3), .val .null, .val .null, .unset, .unset, .unset, .unset, .unset] [])) st333 ?_
  have A345 := (⟨X333, hx, hby⟩ : Ax _ _ _ _ _ _ _ _ _ _ _ _ _ _ _)
  refine g_aloadN A345 d1_82 rfl rfl (pc' := 83) rfl ?_
  refine g_aload A345 d1_83 rfl rfl (pc' := 85) rfl ?_
  obtain ⟨T346, h346, X346, e346, W346, st346⟩ := putF X333 hx hZ hown (host := "") (Or.inl (hw _ (List.mem_of_getElem? (i := 19) rfl))) Via.refl e333 F337 E336 (Or.inr ⟨(hw _ (List.mem_of_getElem? (i := 20) rfl)), rfl, hnm⟩) (hw _ (List.mem_of_getElem? (i := 5) rfl)) (ty := (.array .double)) (by decide) rfl rfl (g := (mkF m 85 #[.val (.ref a1), .val (.ref a2), .val (.ref a3), .val .null, .val .null, .unset, .unset, .unset, .unset, .unset] [.null, (.ref a1)])) rfl rfl (hb hby d1_85)
  have N347 := Fr.snoc X346 N334 g300
  have K348 : Keep h0 h346 [a1] := K335.wr W346 (Or.inl (List.mem_of_getElem? (i := 0) rfl))
  have E349 : Exa Z h346 a1 "com/example/swathloom/swathloom/planning/Plan" := Exa.wr W346 E336
  have F350 : Fld Z h346 a1 "com/example/swathloom/swathloom/planning/Plan" "strips" "I" u4 := Fld.other W346 F338 (Or.inr (slot_ne (Or.inr (hw _ (List.mem_of_getElem? (i := 22) rfl))) (Or.inr (hw _ (List.mem_of_getElem? (i := 20) rfl))) (by decide) (t := .int) (t' := (.array .double)) (by decide) (by decide)))
  have V351 : Dar Z h346 a2 .double 3 f2 := Dar.other W346 V339 ne303
  have V352 : Dar Z h346 a3 .boolean 3 f3 := Dar.other W346 V340 ne304
  have F353 : Fld Z h346 a1 "com/example/swathloom/swathloom/planning/Plan" "rolls" "[D" (.ref a2) := Fld.other W346 F341 (Or.inr (slot_ne (Or.inr (hw _ (List.mem_of_getElem? (i := 14) rfl))) (Or.inr (hw _ (List.mem_of_getElem? (i := 20) rfl))) (by decide) (t := (.array .double)) (t' := (.array .double)) (by decide) (by decide)))
  have F354 : Fld Z h346 a1 "com/example/swathloom/swathloom/planning/Plan" "used" "[Z" (.ref a3) := Fld.other W346 F342 (Or.inr (slot_ne (Or.inr (hw _ (List.mem_of_getElem? (i := 16) rfl))) (Or.inr (hw _ (List.mem_of_getElem? (i := 20) rfl))) (by decide) (t := (.array .boolean)) (t' := (.array .double)) (by decide) (by decide)))
  have F355 : Fld Z h346 a1 "com/example/swathloom/swathloom/planning/Plan" "rollVelocities" "[D" .null := Fld.other W346 F343 (Or.inr (slot_ne (Or.inr (hw _ (List.mem_of_getElem? (i := 18) rfl))) (Or.inr (hw _ (List.mem_of_getElem? (i := 20) rfl))) (by decide) (t := (.array .double)) (t' := (.array .double)) (by decide) (by decide)))
  have F356 : Fld Z h346 a1 "com/example/swathloom/swathloom/planning/Plan" "selectionVelocities" "[D" .null := Fld.same W346 F337
  have Z357 : n0 ≤ h346.size := by rw [W346.size]; exact Z344
  refine Go.of (g' := (mkF m 88 #[.val (.ref a1), .val (.ref a2), .val (.ref a3), .val .null, .val .null, .unset, .unset, .unset, .unset, .unset] [])) st346 ?_
  have A358 := (⟨X346, hx, hby⟩ : Ax _ _ _ _ _ _ _ _ _ _ _ _ _ _ _)
  refine g_iconst A358 d1_88 (v := (0 : Int32)) rfl (pc' := 89) rfl ?_
  refine g_istore A358 d1_89 (ls' := #[.val (.ref a1), .val (.ref a2), .val (.ref a3), .val .null, .val .null, .val (.int (0 : Int32)), .unset, .unset, .unset, .unset]) rfl (pc' := 91) rfl ?_
  refine g_aloadN A358 d1_91 rfl rfl (pc' := 92) rfl ?_
  refine g_astore A358 d1_92 rfl (ls' := #[.val (.ref a1), .val (.ref a2), .val (.ref a3), .val .null, .val .null, .val (.int (0 : Int32)), .val (.ref a3), .unset, .unset, .unset]) rfl (pc' := 94) rfl ?_
  refine g_aload A358 d1_94 rfl rfl (pc' := 96) rfl ?_
  refine g_alen A358 hZ e346 V352 d1_96 (z := (3 : Int32)) rfl (pc' := 97) rfl ?_
  refine g_istore A358 d1_97 (ls' := #[.val (.ref a1), .val (.ref a2), .val (.ref a3), .val .null, .val .null, .val (.int (0 : Int32)), .val (.ref a3), .val (.int (3 : Int32)), .unset, .unset]) rfl (pc' := 99) rfl ?_
  refine g_iconst A358 d1_99 (v := (0 : Int32)) rfl (pc' := 100) rfl ?_
  refine g_istore A358 d1_100 (ls' := #[.val (.ref a1), .val (.ref a2), .val (.ref a3), .val .null, .val .null, .val (.int (0 : Int32)), .val (.ref a3), .val (.int (3 : Int32)), .val (.int (0 : Int32)), .unset]) rfl (pc' := 102) rfl ?_
  refine g_iload A358 d1_102 rfl (pc' := 104) rfl ?_
  refine g_iload A358 d1_104 rfl (pc' := 106) rfl ?_
  refine g_icN A358 d1_106 (c2_ge_f (by decide)) (pc' := 109) rfl ?_
  refine g_aload A358 d1_109 rfl rfl (pc' := 111) rfl ?_
  refine g_iload A358 d1_111 rfl (pc' := 113) rfl ?_
  refine g_baload A358 hZ e346 V352 (i := 0) (by decide) rfl (x := w0) hw0 d1_113 (pc' := 114) rfl ?_
  refine g_istore A358 d1_114 (ls' := #[.val (.ref a1), .val (.ref a2), .val (.ref a3), .val .null, .val .null, .val (.int (0 : Int32)), .val (.ref a3), .val (.int (3 : Int32)), .val (.int (0 : Int32)), .val (.int w0)]) rfl (pc' := 116) rfl ?_
  refine g_iload A358 d1_116 rfl (pc' := 118) rfl ?_
  obtain ⟨v359, hv359⟩ : ∃ z : Int32, z = if ¬ (w0 = 0) then (1 : Int32) else 0 := ⟨_, rfl⟩
  have sg360 : ∀ {P : State → Outcome → Prop}, Go p e below P T346 (mkF m 124 #[.val (.ref a1), .val (.ref a2), .val (.ref a3), .val .null, .val .null, .val (.int v359), .val (.ref a3), .val (.int (3 : Int32)), .val (.int (0 : Int32)), .val (.int w0)] []) → Go p e below P T346 (mkF m 118 #[.val (.ref a1), .val (.ref a2), .val (.ref a3), .val .null, .val .null, .val (.int (0 : Int32)), .val (.ref a3), .val (.int (3 : Int32)), .val (.int (0 : Int32)), .val (.int w0)] [(.int w0)]) := by
    intro P hr
    by_cases c361 : w0 = 0
    · skip
      refine g_ifY A358 d1_118 (c0_eq_t c361) (pc' := 124) rfl ?_
      obtain rfl : v359 = (0 : Int32) := hv359.trans (if_neg (fun q => q c361))
      exact hr
    · skip
      refine g_ifN A358 d1_118 (c0_eq_f c361) (pc' := 121) rfl ?_
      refine g_iinc A358 d1_121 rfl (y := (1 : Int32)) (by decide) (ls' := #[.val (.ref a1), .val (.ref a2), .val (.ref a3), .val .null, .val .null, .val (.int (1 : Int32)), .val (.ref a3), .val (.int (3 : Int32)), .val (.int (0 : Int32)), .val (.int w0)]) rfl (pc' := 124) rfl ?_
      obtain rfl : v359 = (1 : Int32) := hv359.trans (if_pos c361)
      exact hr
  refine sg360 ?_
  refine g_iinc A358 d1_124 rfl (y := (1 : Int32)) (by decide) (ls' := #[.val (.ref a1), .val (.ref a2), .val (.ref a3), .val .null, .val .null, .val (.int v359), .val (.ref a3), .val (.int (3 : Int32)), .val (.int (1 : Int32)), .val (.int w0)]) rfl (pc' := 127) rfl ?_
  refine g_goto A358 d1_127 (pc' := 102) rfl ?_
  refine g_iload A358 d1_102 rfl (pc' := 104) rfl ?_
  refine g_iload A358 d1_104 rfl (pc' := 106) rfl ?_
  refine g_icN A358 d1_106 (c2_ge_f (by decide)) (pc' := 109) rfl ?_
  refine g_aload A358 d1_109 rfl rfl (pc' := 111) rfl ?_
  refine g_iload A358 d1_111 rfl (pc' := 113) rfl ?_
  refine g_baload A358 hZ e346 V352 (i := 1) (by decide) rfl (x := w1) hw1 d1_113 (pc' := 114) rfl ?_
  refine g_istore A358 d1_114 (ls' := #[.val (.ref a1), .val (.ref a2), .val (.ref a3), .val .null, .val .null, .val (.int v359), .val (.ref a3), .val (.int (3 : Int32)), .val (.int (1 : Int32)), .val (.int w1)]) rfl (pc' := 116) rfl ?_
  refine g_iload A358 d1_116 rfl (pc' := 118) rfl ?_
  obtain ⟨v362, hv362⟩ : ∃ z : Int32, z = (if w1 = 0 then v359 else (v359 + (1 : Int32))) := ⟨_, rfl⟩
  have sg363 : ∀ {P : State → Outcome → Prop}, Go p e below P T346 (mkF m 124 #[.val (.ref a1), .val (.ref a2), .val (.ref a3), .val .null, .val .null, .val (.int v362), .val (.ref a3), .val (.int (3 : Int32)), .val (.int (1 : Int32)), .val (.int w1)] []) → Go p e below P T346 (mkF m 118 #[.val (.ref a1), .val (.ref a2), .val (.ref a3), .val .null, .val .null, .val (.int v359), .val (.ref a3), .val (.int (3 : Int32)), .val (.int (1 : Int32)), .val (.int w1)] [(.int w1)]) := by
    intro P hr
    by_cases c364 : w1 = 0
    · skip
      refine g_ifY A358 d1_118 (c0_eq_t c364) (pc' := 124) rfl ?_
      obtain rfl : v362 = v359 := hv362.trans ((if_pos c364).trans rfl)
      exact hr
    · skip
      refine g_ifN A358 d1_118 (c0_eq_f c364) (pc' := 121) rfl ?_
      refine g_iinc A358 d1_121 rfl (y := (v359 + (1 : Int32))) rfl (ls' := #[.val (.ref a1), .val (.ref a2), .val (.ref a3), .val .null, .val .null, .val (.int (v359 + (1 : Int32))), .val (.ref a3), .val (.int (3 : Int32)), .val (.int (1 : Int32)), .val (.int w1)]) rfl (pc' := 124) rfl ?_
      obtain rfl : v362 = (v359 + (1 : Int32)) := hv362.trans ((if_neg c364).trans rfl)
      exact hr
  refine sg363 ?_
  refine g_iinc A358 d1_124 rfl (y := (2 : Int32)) (by decide) (ls' := #[.val (.ref a1), .val (.ref a2), .val (.ref a3), .val .null, .val .null, .val (.int v362), .val (.ref a3), .val (.int (3 : Int32)), .val (.int (2 : Int32)), .val (.int w1)]) rfl (pc' := 127) rfl ?_
  refine g_goto A358 d1_127 (pc' := 102) rfl ?_
  refine g_iload A358 d1_102 rfl (pc' := 104) rfl ?_
  refine g_iload A358 d1_104 rfl (pc' := 106) rfl ?_
  refine g_icN A358 d1_106 (c2_ge_f (by decide)) (pc' := 109) rfl ?_
  refine g_aload A358 d1_109 rfl rfl (pc' := 111) rfl ?_
  refine g_iload A358 d1_111 rfl (pc' := 113) rfl ?_
  refine g_baload A358 hZ e346 V352 (i := 2) (by decide) rfl (x := w2) hw2 d1_113 (pc' := 114) rfl ?_
  refine g_istore A358 d1_114 (ls' := #[.val (.ref a1), .val (.ref a2), .val (.ref a3), .val .null, .val .null, .val (.int v362), .val (.ref a3), .val (.int (3 : Int32)), .val (.int (2 : Int32)), .val (.int w2)]) rfl (pc' := 116) rfl ?_
  refine g_iload A358 d1_116 rfl (pc' := 118) rfl ?_
  obtain ⟨v365, hv365⟩ : ∃ z : Int32, z = (if w2 = 0 then v362 else (v362 + (1 : Int32))) := ⟨_, rfl⟩
  have sg366 : ∀ {P : State → Outcome → Prop}, Go p e below P T346 (mkF m 124 #[.val (.ref a1), .val (.ref a2), .val (.ref a3), .val .null, .val .null, .val (.int v365), .val (.ref a3), .val (.int (3 : Int32)), .val (.int (2 : Int32)), .val (.int w2)] []) → Go p e below P T346 (mkF m 118 #[.val (.ref a1), .val (.ref a2), .val (.ref a3), .val .null, .val .null, .val (.int v362), .val (.ref a3), .val (.int (3 : Int32)), .val (.int (2 : Int32)), .val (.int w2)] [(.int w2)]) := by
    intro P hr
    by_cases c367 : w2 = 0
    · skip
      refine g_ifY A358 d1_118 (c0_eq_t c367) (pc' := 124) rfl ?_
      obtain rfl : v365 = v362 := hv365.trans ((if_pos c367).trans rfl)
      exact hr
    · skip
      refine g_ifN A358 d1_118 (c0_eq_f c367) (pc' := 121) rfl ?_
      refine g_iinc A358 d1_121 rfl (y := (v362 + (1 : Int32))) rfl (ls' := #[.val (.ref a1), .val (.ref a2), .val (.ref a3), .val .null, .val .null, .val (.int (v362 + (1 : Int32))), .val (.ref a3), .val (.int (3 : Int32)), .val (.int (2 : Int32)), .val (.int w2)]) rfl (pc' := 124) rfl ?_
      obtain rfl : v365 = (v362 + (1 : Int32)) := hv365.trans ((if_neg c367).trans rfl)
      exact hr
  refine sg366 ?_
  refine g_iinc A358 d1_124 rfl (y := (3 : Int32)) (by decide) (ls' := #[.val (.ref a1), .val (.ref a2), .val (.ref a3), .val .null, .val .null, .val (.int v365), .val (.ref a3), .val (.int (3 : Int32)), .val (.int (3 : Int32)), .val (.int w2)]) rfl (pc' := 127) rfl ?_
  refine g_goto A358 d1_127 (pc' := 102) rfl ?_
  refine g_iload A358 d1_102 rfl (pc' := 104) rfl ?_
  refine g_iload A358 d1_104 rfl (pc' := 106) rfl ?_
  refine g_icY A358 d1_106 (c2_ge_t (by decide)) (pc' := 130) rfl ?_
  refine g_aloadN A358 d1_130 rfl rfl (pc' := 131) rfl ?_
  refine g_iload A358 d1_131 rfl (pc' := 133) rfl ?_
  obtain ⟨T368, h368, X368, e368, W368, st368⟩ := putF X346 hx hZ hown (host := "") (Or.inl (hw _ (List.mem_of_getElem? (i := 21) rfl))) Via.refl e346 F350 E349 (Or.inr ⟨(hw _ (List.mem_of_getElem? (i := 22) rfl)), rfl, hnm⟩) (hw _ (List.mem_of_getElem? (i := 5) rfl)) (ty := .int) (by decide) rfl rfl (g := (mkF m 133 #[.val (.ref a1), .val (.ref a2), .val (.ref a3), .val .null, .val .null, .val (.int v365), .val (.ref a3), .val (.int (3 : Int32)), .val (.int (3 : Int32)), .val (.int w2)] [(.int v365), (.ref a1)])) rfl rfl (hb hby d1_133)
  have N369 := Fr.snoc X368 N347 g300
  have K370 : Keep h0 h368 [a1] := K348.wr W368 (Or.inl (List.mem_of_getElem? (i := 0) rfl))
  have E371 : Exa Z h368 a1 "com/example/swathloom/swathloom/planning/Plan" := Exa.wr W368 E349
  have V372 : Dar Z h368 a2 .double 3 f2 := Dar.other W368 V351 ne303
  have V373 : Dar Z h368 a3 .boolean 3 f3 := Dar.other W368 V352 ne304
  have F374 : Fld Z h368 a1 "com/example/swathloom/swathloom/planning/Plan" "rolls" "[D" (.ref a2) := Fld.other W368 F353 (Or.inr (slot_ne (Or.inr (hw _ (List.mem_of_getElem? (i := 14) rfl))) (Or.inr (hw _ (List.mem_of_getElem? (i := 22) rfl))) (by decide) (t := (.array .double)) (t' := .int) (by decide) (by decide)))
  have F375 : Fld Z h368 a1 "com/example/swathloom/swathloom/planning/Plan" "used" "[Z" (.ref a3) := Fld.other W368 F354 (Or.inr (slot_ne (Or.inr (hw _ (List.mem_of_getElem? (i := 16) rfl))) (Or.inr (hw _ (List.mem_of_getElem? (i := 22) rfl))) (by decide) (t := (.array .boolean)) (t' := .int) (by decide) (by decide)))
  have F376 : Fld Z h368 a1 "com/example/swathloom/swathloom/planning/Plan" "rollVelocities" "[D" .null := Fld.other W368 F355 (Or.inr (slot_ne (Or.inr (hw _ (List.mem_of_getElem? (i := 18) rfl))) (Or.inr (hw _ (List.mem_of_getElem? (i := 22) rfl))) (by decide) (t := (.array .double)) (t' := .int) (by decide) (by decide)))
  have F377 : Fld Z h368 a1 "com/example/swathloom/swathloom/planning/Plan" "selectionVelocities" "[D" .null := Fld.other W368 F356 (Or.inr (slot_ne (Or.inr (hw _ (List.mem_of_getElem? (i := 20) rfl))) (Or.inr (hw _ (List.mem_of_getElem? (i := 22) rfl))) (by decide) (t := (.array .double)) (t' := .int) (by decide) (by decide)))
  have F378 : Fld Z h368 a1 "com/example/swathloom/swathloom/planning/Plan" "strips" "I" (.int v365) := Fld.same W368 F350
  have Z379 : n0 ≤ h368.size := by rw [W368.size]; exact Z357
  refine Go.of (g' := (mkF m 136 #[.val (.ref a1), .val (.ref a2), .val (.ref a3), .val .null, .val .null, .val (.int v365), .val (.ref a3), .val (.int (3 : Int32)), .val (.int (3 : Int32)), .val (.int w2)] [])) st368 ?_
  have A380 := (⟨X368, hx, hby⟩ : Ax _ _ _ _ _ _ _ _ _ _ _ _ _ _ _)
  exact g_retV (Q := Q1_11 Z a1 a2 a3 f2 f3 w0 w1 w2 u0 u1 u2 u3 u4 h0 n0) A380 d1_136 Bd.notSynchronized Bd.returns (by decide) (by decide) (by rw [e368]; exact ⟨rfl, N369, K370, F375, F376, F377⟩)
theorem d3_0 : decode prog_19_method_6_code 0 = .ok (.aload_n 0, 1) := by decide +kernel
theorem d3_1 : decode prog_19_method_6_code 1 = .ok (.getfield 32, 3) := by decide +kernel
theorem d3_4 : decode prog_19_method_6_code 4 = .ok (.ifnonnull 7, 3) := by decide +kernel
theorem d3_7 : decode prog_19_method_6_code 7 = .ok (.dconst 0, 1) := by decide +kernel
theorem d3_8 : decode prog_19_method_6_code 8 = .ok (.goto 9, 3) := by decide +kernel
theorem d3_11 : decode prog_19_method_6_code 11 = .ok (.aload_n 0, 1) := by decide +kernel
theorem d3_12 : decode prog_19_method_6_code 12 = .ok (.getfield 32, 3) := by decide +kernel
theorem d3_15 : decode prog_19_method_6_code 15 = .ok (.iload_n 1, 1) := by decide +kernel
theorem d3_16 : decode prog_19_method_6_code 16 = .ok (.daload, 1) := by decide +kernel
theorem d3_17 : decode prog_19_method_6_code 17 = .ok (.dreturn, 1) := by decide +kernel
theorem ef381 (m : MethodId) (a1 : Addr) (i1 : Int32) : entryFrame m #[(.ref a1), (.int i1)] 2 = mkF m 0 #[.val (.ref a1), .val (.int i1)] [] := by first | (simp [entryFrame, mkF, argsToLocals, Value.category]; done) | rfl
def QVn (Z : State) (a1 : Addr) (i1 : Int32) (h0 : Heap) (n0 : Nat) (v : Option Value) (h : Heap) (L : List Loc) : Prop := v = some (.double (0 : UInt64)) ∧ Fr n0 L ∧ h = h0
set_option maxRecDepth 65536 in
set_option maxHeartbeats 40000000 in
theorem rmVn (l : Launch) (Z : State) (a0 : Array Value) (hw : ∀ d ∈ tables_1, d.before a0 Z = true) (ws : List Jvm.Cond) (a1 : Addr) (i1 : Int32) (h0 : Heap) (n0 : Nat) (Z0 : n0 ≤ h0.size) (F382 : Fld Z h0 a1 "com/example/swathloom/swathloom/planning/Plan" "rollVelocities" "[D" .null) :
    MetFree l (⟨"com/example/swathloom/swathloom/planning/Plan", "rollVelocity", "(I)D"⟩ : MethodName) (head1 (Jvm.Cond.code (⟨"com/example/swathloom/swathloom/planning/Plan", "rollVelocity", "(I)D"⟩ : MethodName) prog_19_method_6_code 2 (some .double) :: ws) ({ frames := 0, cells := 0, slots := 0, locals := 0 } : Room)) (fun a U => a = #[(.ref a1), (.int i1)] ∧ Z.Warmed39 U.vm ∧ U.heap = h0) (fun _ _ _ _ _ => True) (fun _ U o U' => ∃ v L, o = .returned v ∧ QVn Z a1 i1 h0 n0 v U'.heap L ∧ FrameEnd U o U' L 0 0) := by
  refine MetFree.of_bodySF (plainFor_of_name pn_0) hisR ?_
  intro p e s m args below meth c s₁ Bd hml0 hP hK
  obtain ⟨rfl, hZ, hh⟩ := hP
  have hx := Bd.exec
  have hby := Bd.bytes
  have hml : c.maxLocals = 2 := hml0
  have hown : s.vm.findClass "com/example/swathloom/swathloom/planning/Plan" = some m.cls := findClass_of_methodNamed Bd.named
  have hnm := (name_of_methodNamed Bd.named Bd.method).1
  have X0 : Stand p l e ({ frames := 0, cells := 0, slots := 0, locals := 0 } : Room) s m #[(.ref a1), (.int i1)] below meth c s₁ [] 0 0 := Stand.of_body Bd
  have e0 : s₁.heap = h0 := by rw [← hh, Bd.state]; rfl
  have N0 := Fr.nil n0
  have A0 := (⟨X0, hx, hby⟩ : Ax _ _ _ _ _ _ _ _ _ _ _ _ _ _ _)
  show Go p e below (fun U o => ∃ v L, o = .returned v ∧ QVn Z a1 i1 h0 n0 v U.heap L ∧ FrameEnd s o U L 0 0) s₁ (entryFrame m #[(.ref a1), (.int i1)] 2)
  refine Go.cast (ef381 m a1 i1) ?_
  refine g_aloadN A0 d3_0 rfl rfl (pc' := 1) rfl ?_
  obtain ⟨T383, X383, e383, st383⟩ := getF X0 hx hZ hown (host := "") (Or.inl (hw _ (List.mem_of_getElem? (i := 17) rfl))) Via.refl e0 F382 (g := (mkF m 1 #[.val (.ref a1), .val (.int i1)] [(.ref a1)])) rfl rfl (hb hby d3_1)
  refine Go.of (g' := (mkF m 4 #[.val (.ref a1), .val (.int i1)] [.null])) st383 ?_
  have A384 := (⟨X383, hx, hby⟩ : Ax _ _ _ _ _ _ _ _ _ _ _ _ _ _ _)
  refine g_nnN A384 d3_4 (pc' := 7) rfl ?_
  refine g_dconst0 A384 d3_7 (pc' := 8) rfl ?_
  refine g_goto A384 d3_8 (pc' := 17) rfl ?_
  exact g_ret (Q := QVn Z a1 i1 h0 n0) A384 d3_17 Bd.notSynchronized Bd.returns rfl (Or.inr (Or.inr (Or.inl ⟨rfl, rfl, _, rfl⟩))) (by decide) (by decide) (by rw [e383]; exact ⟨rfl, N0, rfl⟩)
theorem ef385 (m : MethodId) (a1 : Addr) (i1 : Int32) (a4 : Addr) (f : Nat → Value) (k : Nat) (x : UInt64) : entryFrame m #[(.ref a1), (.int i1)] 2 = mkF m 0 #[.val (.ref a1), .val (.int i1)] [] := by first | (simp [entryFrame, mkF, argsToLocals, Value.category]; done) | rfl
def QVr (Z : State) (a1 : Addr) (i1 : Int32) (a4 : Addr) (f : Nat → Value) (k : Nat) (x : UInt64) (h0 : Heap) (n0 : Nat) (v : Option Value) (h : Heap) (L : List Loc) : Prop := v = some (.double x) ∧ Fr n0 L ∧ h = h0
set_option maxRecDepth 65536 in
set_option maxHeartbeats 40000000 in
theorem rmVr (l : Launch) (Z : State) (a0 : Array Value) (hw : ∀ d ∈ tables_1, d.before a0 Z = true) (ws : List Jvm.Cond) (a1 : Addr) (i1 : Int32) (a4 : Addr) (f : Nat → Value) (k : Nat) (x : UInt64) (h0 : Heap) (n0 : Nat) (Z0 : n0 ≤ h0.size) (F386 : Fld Z h0 a1 "com/example/swathloom/swathloom/planning/Plan" "rollVelocities" "[D" (.ref a4)) (V387 : Dar Z h0 a4 .double 3 f) (hk : k < 3) (hj : i1 = Int32.ofNat k) (hv : f k = .double x) :
    MetFree l (⟨"com/example/swathloom/swathloom/planning/Plan", "rollVelocity", "(I)D"⟩ : MethodName) (head1 (Jvm.Cond.code (⟨"com/example/swathloom/swathloom/planning/Plan", "rollVelocity", "(I)D"⟩ : MethodName) prog_19_method_6_code 2 (some .double) :: ws) ({ frames := 0, cells := 0, slots := 0, locals := 0 } : Room)) (fun a U => a = #[(.ref a1), (.int i1)] ∧ Z.Warmed39 U.vm ∧ U.heap = h0) (fun _ _ _ _ _ => True) (fun _ U o U' => ∃ v L, o = .returned v ∧ QVr Z a1 i1 a4 f k x h0 n0 v U'.heap L ∧ FrameEnd U o U' L 0 0) := by
  refine MetFree.of_bodySF (plainFor_of_name pn_0) hisR ?_
  intro p e s m args below meth c s₁ Bd hml0 hP hK
  obtain ⟨rfl, hZ, hh⟩ := hP
  have hx := Bd.exec
  have hby := Bd.bytes
  have hml : c.maxLocals = 2 := hml0
  have hown : s.vm.findClass "com/example/swathloom/swathloom/planning/Plan" = some m.cls := findClass_of_methodNamed Bd.named
  have hnm := (name_of_methodNamed Bd.named Bd.method).1
  have X0 : Stand p l e ({ frames := 0, cells := 0, slots := 0, locals := 0 } : Room) s m #[(.ref a1), (.int i1)] below meth c s₁ [] 0 0 := Stand.of_body Bd
  have e0 : s₁.heap = h0 := by rw [← hh, Bd.state]; rfl
  have N0 := Fr.nil n0
  have A0 := (⟨X0, hx, hby⟩ : Ax _ _ _ _ _ _ _ _ _ _ _ _ _ _ _)
  show Go p e below (fun U o => ∃ v L, o = .returned v ∧ QVr Z a1 i1 a4 f k x h0 n0 v U.heap L ∧ FrameEnd s o U L 0 0) s₁ (entryFrame m #[(.ref a1), (.int i1)] 2)
  refine Go.cast (ef385 m a1 i1 a4 f k x) ?_
  refine g_aloadN A0 d3_0 rfl rfl (pc' := 1) rfl ?_
  obtain ⟨T388, X388, e388, st388⟩ := getF X0 hx hZ hown (host := "") (Or.inl (hw _ (List.mem_of_getElem? (i := 17) rfl))) Via.refl e0 F386 (g := (mkF m 1 #[.val (.ref a1), .val (.int i1)] [(.ref a1)])) rfl rfl (hb hby d3_1)
  refine Go.of (g' := (mkF m 4 #[.val (.ref a1), .val (.int i1)] [(.ref a4)])) st388 ?_
  have A389 := (⟨X388, hx, hby⟩ : Ax _ _ _ _ _ _ _ _ _ _ _ _ _ _ _)
  refine g_nnY A389 d3_4 (pc' := 11) rfl ?_
  refine g_aloadN A389 d3_11 rfl rfl (pc' := 12) rfl ?_
  obtain ⟨T390, X390, e390, st390⟩ := getF X388 hx hZ hown (host := "") (Or.inl (hw _ (List.mem_of_getElem? (i := 17) rfl))) Via.refl e388 F386 (g := (mkF m 12 #[.val (.ref a1), .val (.int i1)] [(.ref a1)])) rfl rfl (hb hby d3_12)
  refine Go.of (g' := (mkF m 15 #[.val (.ref a1), .val (.int i1)] [(.ref a4)])) st390 ?_
  have A391 := (⟨X390, hx, hby⟩ : Ax _ _ _ _ _ _ _ _ _ _ _ _ _ _ _)
  refine g_iloadN A391 d3_15 rfl (pc' := 16) rfl ?_
  refine g_daload A391 hZ e390 V387 (i := k) hk hj (x := x) hv d3_16 (pc' := 17) rfl ?_
  exact g_ret (Q := QVr Z a1 i1 a4 f k x h0 n0) A391 d3_17 Bd.notSynchronized Bd.returns rfl (Or.inr (Or.inr (Or.inl ⟨rfl, rfl, _, rfl⟩))) (by decide) (by decide) (by rw [e390]; exact ⟨rfl, N0, rfl⟩)
theorem pn_1 : plainName "com/example/swathloom/swathloom/planning/PlanRollVelocityPinLaw" = true := by first | (simp [plainName, overriddenIn]; done) | decide +kernel
theorem ef392 (m : MethodId) (p0 : Int32) (p1 : Int32) (p2 : Int32) (p3 : Int32) : entryFrame m #[(.int p0), (.int p1), (.int p2), (.int p3)] maxLocals = mkF m 0 #[.val (.int p0), .val (.int p1), .val (.int p2), .val (.int p3), .unset, .unset, .unset, .unset, .unset, .unset, .unset, .unset, .unset, .unset, .unset, .unset, .unset, .unset, .unset, .unset, .unset, .unset, .unset] [] := by first | (simp [entryFrame, mkF, argsToLocals, Value.category, maxLocals]; done) | rfl
def Q0 (Z : State) (p0 : Int32) (p1 : Int32) (p2 : Int32) (p3 : Int32) (h0 : Heap) (n0 : Nat) (v : Option Value) (h : Heap) (L : List Loc) : Prop := v = some (.int 1) ∧ Fr n0 L
theorem pd_0 : parseMethodDescriptor "([D[Z[D[D)V" = some ⟨[(.array .double), (.array .boolean), (.array .double), (.array .double)], none⟩ := by decide +kernel
theorem pd_1 : parseMethodDescriptor "(I)D" = some ⟨[.int], some .double⟩ := by decide +kernel
set_option maxRecDepth 65536 in
set_option maxHeartbeats 40000000 in
theorem rm0 (l : Launch) (Z : State) (a0 : Array Value) (hw : ∀ d ∈ tables_1, d.before a0 Z = true) (ws : List Jvm.Cond) (p0 : Int32) (p1 : Int32) (p2 : Int32) (p3 : Int32) (h0 : Heap) (n0 : Nat) (Z0 : n0 ≤ h0.size)  :
    MetFree l x (head1 (Jvm.Cond.code x code maxLocals ret :: ws) room_1) (fun a U => a = #[(.int p0), (.int p1), (.int p2), (.int p3)] ∧ Z.Warmed39 U.vm ∧ U.heap = h0) (fun _ _ _ _ _ => True) (fun _ U o U' => ∃ v L, o = .returned v ∧ Q0 Z p0 p1 p2 p3 h0 n0 v U'.heap L ∧ FrameEnd U o U' L 5 17) := by
  refine MetFree.of_bodySF (plainFor_of_name pn_1) hisR ?_
  intro p e s m args below meth c s₁ Bd hml0 hP hK
  obtain ⟨rfl, hZ, hh⟩ := hP
  have hx := Bd.exec
  have hby := Bd.bytes
  have hml : c.maxLocals = 23 := hml0
  have hown : s.vm.findClass "com/example/swathloom/swathloom/planning/PlanRollVelocityPinLaw" = some m.cls := findClass_of_methodNamed Bd.named
  have hnm := (name_of_methodNamed Bd.named Bd.method).1
  have X0 : Stand p l e room_1 s m #[(.int p0), (.int p1), (.int p2), (.int p3)] below meth c s₁ [] 0 0 := Stand.of_body Bd
  have e0 : s₁.heap = h0 := by rw [← hh, Bd.state]; rfl
  have N0 := Fr.nil n0
  have A0 := (⟨X0, hx, hby⟩ : Ax _ _ _ _ _ _ _ _ _ _ _ _ _ _ _)
  show Go p e below (fun U o => ∃ v L, o = .returned v ∧ Q0 Z p0 p1 p2 p3 h0 n0 v U.heap L ∧ FrameEnd s o U L 5 17) s₁ (entryFrame m #[(.int p0), (.int p1), (.int p2), (.int p3)] maxLocals)
  refine Go.cast (ef392 m p0 p1 p2 p3) ?_
  refine g_iloadN A0 at_0 rfl (pc' := 1) rfl ?_
  refine g_iconst A0 at_1 (v := (1 : Int32)) rfl (pc' := 2) rfl ?_
  refine g_iand A0 at_2 (pc' := 3) rfl ?_
  obtain ⟨v393, hv393⟩ : ∃ z : Int32, z = if ¬ ((p3 &&& (1 : Int32)) = 0) then (1 : Int32) else 0 := ⟨_, rfl⟩
  have sg394 : ∀ {P : State → Outcome → Prop}, Go p e below P s₁ (mkF m 11 #[.val (.int p0), .val (.int p1), .val (.int p2), .val (.int p3), .unset, .unset, .unset, .unset, .unset, .unset, .unset, .unset, .unset, .unset, .unset, .unset, .unset, .unset, .unset, .unset, .unset, .unset, .unset] [(.int v393)]) → Go p e below P s₁ (mkF m 3 #[.val (.int p0), .val (.int p1), .val (.int p2), .val (.int p3), .unset, .unset, .unset, .unset, .unset, .unset, .unset, .unset, .unset, .unset, .unset, .unset, .unset, .unset, .unset, .unset, .unset, .unset, .unset] [(.int (p3 &&& (1 : Int32)))]) := by
    intro P hr
    by_cases c395 : (p3 &&& (1 : Int32)) = 0
    · skip
      refine g_ifY A0 at_3 (c0_eq_t c395) (pc' := 10) rfl ?_
      refine g_iconst A0 at_10 (v := (0 : Int32)) rfl (pc' := 11) rfl ?_
      obtain rfl : v393 = (0 : Int32) := hv393.trans (if_neg (fun q => q c395))
      exact hr
    · skip
      refine g_ifN A0 at_3 (c0_eq_f c395) (pc' := 6) rfl ?_
      refine g_iconst A0 at_6 (v := (1 : Int32)) rfl (pc' := 7) rfl ?_
      refine g_goto A0 at_7 (pc' := 11) rfl ?_
      obtain rfl : v393 = (1 : Int32) := hv393.trans (if_pos c395)
      exact hr
  refine sg394 ?_
  refine g_istore A0 at_11 (ls' := #[.val (.int p0), .val (.int p1), .val (.int p2), .val (.int p3), .val (.int v393), .unset, .unset, .unset, .unset, .unset, .unset, .unset, .unset, .unset, .unset, .unset, .unset, .unset, .unset, .unset, .unset, .unset, .unset]) rfl (pc' := 13) rfl ?_
  refine g_iloadN A0 at_13 rfl (pc' := 14) rfl ?_
  refine g_iconst A0 at_14 (v := (2 : Int32)) rfl (pc' := 15) rfl ?_
  refine g_iand A0 at_15 (pc' := 16) rfl ?_
  obtain ⟨v396, hv396⟩ : ∃ z : Int32, z = if ¬ ((p3 &&& (2 : Int32)) = 0) then (1 : Int32) else 0 := ⟨_, rfl⟩
  have sg397 : ∀ {P : State → Outcome → Prop}, Go p e below P s₁ (mkF m 24 #[.val (.int p0), .val (.int p1), .val (.int p2), .val (.int p3), .val (.int v393), .unset, .unset, .unset, .unset, .unset, .unset, .unset, .unset, .unset, .unset, .unset, .unset, .unset, .unset, .unset, .unset, .unset, .unset] [(.int v396)]) → Go p e below P s₁ (mkF m 16 #[.val (.int p0), .val (.int p1), .val (.int p2), .val (.int p3), .val (.int v393), .unset, .unset, .unset, .unset, .unset, .unset, .unset, .unset, .unset, .unset, .unset, .unset, .unset, .unset, .unset, .unset, .unset, .unset] [(.int (p3 &&& (2 : Int32)))]) := by
    intro P hr
    by_cases c398 : (p3 &&& (2 : Int32)) = 0
    · skip
      refine g_ifY A0 at_16 (c0_eq_t c398) (pc' := 23) rfl ?_
      refine g_iconst A0 at_23 (v := (0 : Int32)) rfl (pc' := 24) rfl ?_
      obtain rfl : v396 = (0 : Int32) := hv396.trans (if_neg (fun q => q c398))
      exact hr
    · skip
      refine g_ifN A0 at_16 (c0_eq_f c398) (pc' := 19) rfl ?_
      refine g_iconst A0 at_19 (v := (1 : Int32)) rfl (pc' := 20) rfl ?_
      refine g_goto A0 at_20 (pc' := 24) rfl ?_
      obtain rfl : v396 = (1 : Int32) := hv396.trans (if_pos c398)
      exact hr
  refine sg397 ?_
  refine g_istore A0 at_24 (ls' := #[.val (.int p0), .val (.int p1), .val (.int p2), .val (.int p3), .val (.int v393), .val (.int v396), .unset, .unset, .unset, .unset, .unset, .unset, .unset, .unset, .unset, .unset, .unset, .unset, .unset, .unset, .unset, .unset, .unset]) rfl (pc' := 26) rfl ?_
  refine g_iconst A0 at_26 (v := (3 : Int32)) rfl (pc' := 27) rfl ?_
  obtain ⟨T399, h399, k399, X399, e399, E399, Ar399, st399⟩ := newP X0 hx hZ (hw _ (List.mem_of_getElem? (i := 0) rfl)) e0 (g := (mkF m 27 #[.val (.int p0), .val (.int p1), .val (.int p2), .val (.int p3), .val (.int v393), .val (.int v396), .unset, .unset, .unset, .unset, .unset, .unset, .unset, .unset, .unset, .unset, .unset, .unset, .unset, .unset, .unset, .unset, .unset] [(.int (3 : Int32))])) rfl (hb hby at_27) rfl (by decide) (cap := 3) (by decide) (by decide) (by decide) (by decide)
  obtain ⟨b400, eb400⟩ : ∃ z, z = h0.size := ⟨_, rfl⟩
  rw [← eb400] at Ar399 st399
  have g401 : n0 ≤ b400 := by rw [eb400]; exact Z0
  have gh402 : h0.size ≤ b400 := by rw [eb400]; exact (Keep.refl h0 []).1
  have K403 : Keep h0 h399 [] := (Keep.refl h0 []).ext E399
  have Z404 : n0 ≤ h399.size := Nat.le_trans Z0 E399.1
  have V405 : Dar Z h399 b400 .double 3 (fun _ => .double (0 : UInt64)) := Dar.new Ar399 (by decide)
  refine Go.of (g' := (mkF m 29 #[.val (.int p0), .val (.int p1), .val (.int p2), .val (.int p3), .val (.int v393), .val (.int v396), .unset, .unset, .unset, .unset, .unset, .unset, .unset, .unset, .unset, .unset, .unset, .unset, .unset, .unset, .unset, .unset, .unset] [(.ref b400)])) st399 ?_
  have A406 := (⟨X399, hx, hby⟩ : Ax _ _ _ _ _ _ _ _ _ _ _ _ _ _ _)
  refine g_astore A406 at_29 rfl (ls' := #[.val (.int p0), .val (.int p1), .val (.int p2), .val (.int p3), .val (.int v393), .val (.int v396), .val (.ref b400), .unset, .unset, .unset, .unset, .unset, .unset, .unset, .unset, .unset, .unset, .unset, .unset, .unset, .unset, .unset, .unset]) rfl (pc' := 31) rfl ?_
  refine g_aload A406 at_31 rfl rfl (pc' := 33) rfl ?_
  refine g_iconst A406 at_33 (v := (0 : Int32)) rfl (pc' := 34) rfl ?_
  refine g_iloadN A406 at_34 rfl (pc' := 35) rfl ?_
  refine g_i2d A406 at_35 (pc' := 36) rfl ?_
  refine g_ldcD A406 hZ hown (hw _ (List.mem_of_getElem? (i := 1) rfl)) at_36 (pc' := 39) rfl ?_
  refine g_dadd A406 at_39 (own_ndadd (i2d_fin p0) (by unfold Fin64; decide : Fin64 (4598175219545276416 : UInt64))) (pc' := 40) rfl ?_
  obtain ⟨T407, h407, A407, e407, W407, st407⟩ := s_dastore A406 hZ e399 (ls := #[.val (.int p0), .val (.int p1), .val (.int p2), .val (.int p3), .val (.int v393), .val (.int v396), .val (.ref b400), .unset, .unset, .unset, .unset, .unset, .unset, .unset, .unset, .unset, .unset, .unset, .unset, .unset, .unset, .unset, .unset]) (st := []) (x := (FP.dadd (FP.i2d p0) (4598175219545276416 : UInt64))) V405 (i := 0) (by decide) (j := (0 : Int32)) rfl at_40 (pc' := 41) rfl
  have N408 := Fr.snoc A407.1 N0 g401
  have K409 : Keep h0 h407 [] := K403.wr W407 (Or.inr gh402)
  have V410 : Dar Z h407 b400 .double 3 (fun j => if j = 0 then .double (FP.dadd (FP.i2d p0) (4598175219545276416 : UInt64)) else (fun _ => .double (0 : UInt64)) j) := Dar.set V405 W407 (fun _ _ => rfl)
  have Z411 : n0 ≤ h407.size := by rw [W407.size]; exact Z404
  refine st407 ?_
  refine g_aload A407 at_41 rfl rfl (pc' := 43) rfl ?_
  refine g_iconst A407 at_43 (v := (1 : Int32)) rfl (pc' := 44) rfl ?_
  refine g_iloadN A407 at_44 rfl (pc' := 45) rfl ?_
  refine g_i2d A407 at_45 (pc' := 46) rfl ?_
  refine g_ldcD A407 hZ hown (hw _ (List.mem_of_getElem? (i := 1) rfl)) at_46 (pc' := 49) rfl ?_
  refine g_dadd A407 at_49 (own_ndadd (i2d_fin p1) (by unfold Fin64; decide : Fin64 (4598175219545276416 : UInt64))) (pc' := 50) rfl ?_
  obtain ⟨T412, h412, A412, e412, W412, st412⟩ := s_dastore A407 hZ e407 (ls := #[.val (.int p0), .val (.int p1), .val (.int p2), .val (.int p3), .val (.int v393), .val (.int v396), .val (.ref b400), .unset, .unset, .unset, .unset, .unset, .unset, .unset, .unset, .unset, .unset, .unset, .unset, .unset, .unset, .unset, .unset]) (st := []) (x := (FP.dadd (FP.i2d p1) (4598175219545276416 : UInt64))) V410 (i := 1) (by decide) (j := (1 : Int32)) rfl at_50 (pc' := 51) rfl
  have N413 := Fr.snoc A412.1 N408 g401
  have K414 : Keep h0 h412 [] := K409.wr W412 (Or.inr gh402)
  have V415 : Dar Z h412 b400 .double 3 (fun j => if j = 1 then .double (FP.dadd (FP.i2d p1) (4598175219545276416 : UInt64)) else (fun j => if j = 0 then .double (FP.dadd (FP.i2d p0) (4598175219545276416 : UInt64)) else (fun _ => .double (0 : UInt64)) j) j) := Dar.set V410 W412 (fun _ _ => rfl)
  have Z416 : n0 ≤ h412.size := by rw [W412.size]; exact Z411
  refine st412 ?_
  refine g_aload A412 at_51 rfl rfl (pc' := 53) rfl ?_
  refine g_iconst A412 at_53 (v := (2 : Int32)) rfl (pc' := 54) rfl ?_
  refine g_iloadN A412 at_54 rfl (pc' := 55) rfl ?_
  refine g_i2d A412 at_55 (pc' := 56) rfl ?_
  refine g_ldcD A412 hZ hown (hw _ (List.mem_of_getElem? (i := 1) rfl)) at_56 (pc' := 59) rfl ?_
  refine g_dadd A412 at_59 (own_ndadd (i2d_fin p2) (by unfold Fin64; decide : Fin64 (4598175219545276416 : UInt64))) (pc' := 60) rfl ?_
  obtain ⟨T417, h417, A417, e417, W417, st417⟩ := s_dastore A412 hZ e412 (ls := #[.val (.int p0), .val (.int p1), .val (.int p2), .val (.int p3), .val (.int v393), .val (.int v396), .val (.ref b400), .unset, .unset, .unset, .unset, .unset, .unset, .unset, .unset, .unset, .unset, .unset, .unset, .unset, .unset, .unset, .unset]) (st := []) (x := (FP.dadd (FP.i2d p2) (4598175219545276416 : UInt64))) V415 (i := 2) (by decide) (j := (2 : Int32)) rfl at_60 (pc' := 61) rfl
  have N418 := Fr.snoc A417.1 N413 g401
  have K419 : Keep h0 h417 [] := K414.wr W417 (Or.inr gh402)
  have V420 : Dar Z h417 b400 .double 3 (fun j => if j = 2 then .double (FP.dadd (FP.i2d p2) (4598175219545276416 : UInt64)) else (fun j => if j = 1 then .double (FP.dadd (FP.i2d p1) (4598175219545276416 : UInt64)) else (fun j => if j = 0 then .double (FP.dadd (FP.i2d p0) (4598175219545276416 : UInt64)) else (fun _ => .double (0 : UInt64)) j) j) j) := Dar.set V415 W417 (fun _ _ => rfl)
  have Z421 : n0 ≤ h417.size := by rw [W417.size]; exact Z416
  refine st417 ?_
  refine g_iconst A417 at_61 (v := (3 : Int32)) rfl (pc' := 62) rfl ?_
  obtain ⟨T422, h422, k422, X422, e422, E422, Ar422, st422⟩ := newP A417.1 hx hZ (hw _ (List.mem_of_getElem? (i := 2) rfl)) e417 (g := (mkF m 62 #[.val (.int p0), .val (.int p1), .val (.int p2), .val (.int p3), .val (.int v393), .val (.int v396), .val (.ref b400), .unset, .unset, .unset, .unset, .unset, .unset, .unset, .unset, .unset, .unset, .unset, .unset, .unset, .unset, .unset, .unset] [(.int (3 : Int32))])) rfl (hb hby at_62) rfl (by decide) (cap := 3) (by decide) (by decide) (by decide) (by decide)
  obtain ⟨b423, eb423⟩ : ∃ z, z = h417.size := ⟨_, rfl⟩
  rw [← eb423] at Ar422 st422
  have ne424 : b400 ≠ b423 := own_ne eb423 V420.lt
  have g425 : n0 ≤ b423 := by rw [eb423]; exact Z421
  have gh426 : h0.size ≤ b423 := by rw [eb423]; exact K419.1
  have K427 : Keep h0 h422 [] := K419.ext E422
  have V428 : Dar Z h422 b400 .double 3 (fun j => if j = 2 then .double (FP.dadd (FP.i2d p2) (4598175219545276416 : UInt64)) else (fun j => if j = 1 then .double (FP.dadd (FP.i2d p1) (4598175219545276416 : UInt64)) else (fun j => if j = 0 then .double (FP.dadd (FP.i2d p0) (4598175219545276416 : UInt64)) else (fun _ => .double (0 : UInt64)) j) j) j) := Dar.ext E422 V420
  have Z429 : n0 ≤ h422.size := Nat.le_trans Z421 E422.1
  have V430 : Dar Z h422 b423 .boolean 3 (fun _ => .int (0 : Int32)) := Dar.new Ar422 (by decide)
  refine Go.of (g' := (mkF m 64 #[.val (.int p0), .val (.int p1), .val (.int p2), .val (.int p3), .val (.int v393), .val (.int v396), .val (.ref b400), .unset, .unset, .unset, .unset, .unset, .unset, .unset, .unset, .unset, .unset, .unset, .unset, .unset, .unset, .unset, .unset] [(.ref b423)])) st422 ?_
  have A431 := (⟨X422, hx, hby⟩ : Ax _ _ _ _ _ _ _ _ _ _ _ _ _ _ _)
  refine g_astore A431 at_64 rfl (ls' := #[.val (.int p0), .val (.int p1), .val (.int p2), .val (.int p3), .val (.int v393), .val (.int v396), .val (.ref b400), .val (.ref b423), .unset, .unset, .unset, .unset, .unset, .unset, .unset, .unset, .unset, .unset, .unset, .unset, .unset, .unset, .unset]) rfl (pc' := 66) rfl ?_
  refine g_aload A431 at_66 rfl rfl (pc' := 68) rfl ?_
  refine g_iconst A431 at_68 (v := (0 : Int32)) rfl (pc' := 69) rfl ?_
  refine g_iloadN A431 at_69 rfl (pc' := 70) rfl ?_
  refine g_iconst A431 at_70 (v := (4 : Int32)) rfl (pc' := 71) rfl ?_
  refine g_iand A431 at_71 (pc' := 72) rfl ?_
  obtain ⟨v432, hv432⟩ : ∃ z : Int32, z = if ¬ ((p3 &&& (4 : Int32)) = 0) then (1 : Int32) else 0 := ⟨_, rfl⟩
  have sg433 : ∀ {P : State → Outcome → Prop}, Go p e below P T422 (mkF m 80 #[.val (.int p0), .val (.int p1), .val (.int p2), .val (.int p3), .val (.int v393), .val (.int v396), .val (.ref b400), .val (.ref b423), .unset, .unset, .unset, .unset, .unset, .unset, .unset, .unset, .unset, .unset, .unset, .unset, .unset, .unset, .unset] [(.int v432), (.int (0 : Int32)), (.ref b423)]) → Go p e below P T422 (mkF m 72 #[.val (.int p0), .val (.int p1), .val (.int p2), .val (.int p3), .val (.int v393), .val (.int v396), .val (.ref b400), .val (.ref b423), .unset, .unset, .unset, .unset, .unset, .unset, .unset, .unset, .unset, .unset, .unset, .unset, .unset, .unset, .unset] [(.int (p3 &&& (4 : Int32))), (.int (0 : Int32)), (.ref b423)]) := by
    intro P hr
    by_cases c434 : (p3 &&& (4 : Int32)) = 0
    · skip
      refine g_ifY A431 at_72 (c0_eq_t c434) (pc' := 79) rfl ?_
      refine g_iconst A431 at_79 (v := (0 : Int32)) rfl (pc' := 80) rfl ?_
      obtain rfl : v432 = (0 : Int32) := hv432.trans (if_neg (fun q => q c434))
      exact hr
    · skip
      refine g_ifN A431 at_72 (c0_eq_f c434) (pc' := 75) rfl ?_
      refine g_iconst A431 at_75 (v := (1 : Int32)) rfl (pc' := 76) rfl ?_
      refine g_goto A431 at_76 (pc' := 80) rfl ?_
      obtain rfl : v432 = (1 : Int32) := hv432.trans (if_pos c434)
      exact hr
  refine sg433 ?_
  obtain ⟨T435, h435, A435, e435, W435, st435⟩ := s_zastore A431 hZ e422 (ls := #[.val (.int p0), .val (.int p1), .val (.int p2), .val (.int p3), .val (.int v393), .val (.int v396), .val (.ref b400), .val (.ref b423), .unset, .unset, .unset, .unset, .unset, .unset, .unset, .unset, .unset, .unset, .unset, .unset, .unset, .unset, .unset]) (st := []) (x := v432) V430 (i := 0) (by decide) (j := (0 : Int32)) rfl (own_b01 hv432) at_80 (pc' := 81) rfl
  have N436 := Fr.snoc A435.1 N418 g425
  have K437 : Keep h0 h435 [] := K427.wr W435 (Or.inr gh426)
  have V438 : Dar Z h435 b400 .double 3 (fun j => if j = 2 then .double (FP.dadd (FP.i2d p2) (4598175219545276416 : UInt64)) else (fun j => if j = 1 then .double (FP.dadd (FP.i2d p1) (4598175219545276416 : UInt64)) else (fun j => if j = 0 then .double (FP.dadd (FP.i2d p0) (4598175219545276416 : UInt64)) else (fun _ => .double (0 : UInt64)) j) j) j) := Dar.other W435 V428 ne424
  have V439 : Dar Z h435 b423 .boolean 3 (fun j => if j = 0 then .int v432 else (fun _ => .int (0 : Int32)) j) := Dar.set V430 W435 (fun _ _ => rfl)
  have Z440 : n0 ≤ h435.size := by rw [W435.size]; exact Z429
  refine st435 ?_
  refine g_aload A435 at_81 rfl rfl (pc' := 83) rfl ?_
  refine g_iconst A435 at_83 (v := (1 : Int32)) rfl (pc' := 84) rfl ?_
  refine g_iloadN A435 at_84 rfl (pc' := 85) rfl ?_
  refine g_bipush A435 at_85 (v := (8 : Int32)) rfl (pc' := 87) rfl ?_
  refine g_iand A435 at_87 (pc' := 88) rfl ?_
  obtain ⟨v441, hv441⟩ : ∃ z : Int32, z = if ¬ ((p3 &&& (8 : Int32)) = 0) then (1 : Int32) else 0 := ⟨_, rfl⟩
  have sg442 : ∀ {P : State → Outcome → Prop}, Go p e below P T435 (mkF m 96 #[.val (.int p0), .val (.int p1), .val (.int p2), .val (.int p3), .val (.int v393), .val (.int v396), .val (.ref b400), .val (.ref b423), .unset, .unset, .unset, .unset, .unset, .unset, .unset, .unset, .unset, .unset, .unset, .unset, .unset, .unset, .unset] [(.int v441), (.int (1 : Int32)), (.ref b423)]) → Go p e below P T435 (mkF m 88 #[.val (.int p0), .val (.int p1), .val (.int p2), .val (.int p3), .val (.int v393), .val (.int v396), .val (.ref b400), .val (.ref b423), .unset, .unset, .unset, .unset, .unset, .unset, .unset, .unset, .unset, .unset, .unset, .unset, .unset, .unset, .unset] [(.int (p3 &&& (8 : Int32))), (.int (1 : Int32)), (.ref b423)]) := by
    intro P hr
    by_cases c443 : (p3 &&& (8 : Int32)) = 0
    · skip
      refine g_ifY A435 at_88 (c0_eq_t c443) (pc' := 95) rfl ?_
      refine g_iconst A435 at_95 (v := (0 : Int32)) rfl (pc' := 96) rfl ?_
      obtain rfl : v441 = (0 : Int32) := hv441.trans (if_neg (fun q => q c443))
      exact hr
    · skip
      refine g_ifN A435 at_88 (c0_eq_f c443) (pc' := 91) rfl ?_
      refine g_iconst A435 at_91 (v := (1 : Int32)) rfl (pc' := 92) rfl ?_
      refine g_goto A435 at_92 (pc' := 96) rfl ?_
      obtain rfl : v441 = (1 : Int32) := hv441.trans (if_pos c443)
      exact hr
  refine sg442 ?_
  obtain ⟨T444, h444, A444, e444, W444, st444⟩ := s_zastore A435 hZ e435 (ls := #[.val (.int p0), .val (.int p1), .val (.int p2), .val (.int p3), .val (.int v393), .val (.int v396), .val (.ref b400), .val (.ref b423), .unset, .unset, .unset, .unset, .unset, .unset, .unset, .unset, .unset, .unset, .unset, .unset, .unset, .unset, .unset]) (st := []) (x := v441) V439 (i := 1) (by decide) (j := (1 : Int32)) rfl (own_b01 hv441) at_96 (pc' := 97) rfl
  have N445 := Fr.snoc A444.1 N436 g425
  have K446 : Keep h0 h444 [] := K437.wr W444 (Or.inr gh426)
  have V447 : Dar Z h444 b400 .double 3 (fun j => if j = 2 then .double (FP.dadd (FP.i2d p2) (4598175219545276416 : UInt64)) else (fun j => if j = 1 then .double (FP.dadd (FP.i2d p1) (4598175219545276416 : UInt64)) else (fun j => if j = 0 then .double (FP.dadd (FP.i2d p0) (4598175219545276416 : UInt64)) else (fun _ => .double (0 : UInt64)) j) j) j) := Dar.other W444 V438 ne424
  have V448 : Dar Z h444 b423 .boolean 3 (fun j => if j = 1 then .int v441 else (fun j => if j = 0 then .int v432 else (fun _ => .int (0 : Int32)) j) j) := Dar.set V439 W444 (fun _ _ => rfl)
  have Z449 : n0 ≤ h444.size := by rw [W444.size]; exact Z440
  refine st444 ?_
  refine g_aload A444 at_97 rfl rfl (pc' := 99) rfl ?_
  refine g_iconst A444 at_99 (v := (2 : Int32)) rfl (pc' := 100) rfl ?_
  refine g_iloadN A444 at_100 rfl (pc' := 101) rfl ?_
  refine g_bipush A444 at_101 (v := (16 : Int32)) rfl (pc' := 103) rfl ?_
  refine g_iand A444 at_103 (pc' := 104) rfl ?_
  obtain ⟨v450, hv450⟩ : ∃ z : Int32, z = if ¬ ((p3 &&& (16 : Int32)) = 0) then (1 : Int32) else 0 := ⟨_, rfl⟩
  have sg451 : ∀ {P : State → Outcome → Prop}, Go p e below P T444 (mkF m 112 #[.val (.int p0), .val (.int p1), .val (.int p2), .val (.int p3), .val (.int v393), .val (.int v396), .val (.ref b400), .val (.ref b423), .unset, .unset, .unset, .unset, .unset, .unset, .unset, .unset, .unset, .unset, .unset, .unset, .unset, .unset, .unset] [(.int v450), (.int (2 : Int32)), (.ref b423)]) → Go p e below P T444 (mkF m 104 #[.val (.int p0), .val (.int p1), .val (.int p2), .val (.int p3), .val (.int v393), .val (.int v396), .val (.ref b400), .val (.ref b423), .unset, .unset, .unset, .unset, .unset, .unset, .unset, .unset, .unset, .unset, .unset, .unset, .unset, .unset, .unset] [(.int (p3 &&& (16 : Int32))), (.int (2 : Int32)), (.ref b423)]) := by
    intro P hr
    by_cases c452 : (p3 &&& (16 : Int32)) = 0
    · skip
      refine g_ifY A444 at_104 (c0_eq_t c452) (pc' := 111) rfl ?_
      refine g_iconst A444 at_111 (v := (0 : Int32)) rfl (pc' := 112) rfl ?_
      obtain rfl : v450 = (0 : Int32) := hv450.trans (if_neg (fun q => q c452))
      exact hr
    · skip
      refine g_ifN A444 at_104 (c0_eq_f c452) (pc' := 107) rfl ?_
      refine g_iconst A444 at_107 (v := (1 : Int32)) rfl (pc' := 108) rfl ?_
      refine g_goto A444 at_108 (pc' := 112) rfl ?_
      obtain rfl : v450 = (1 : Int32) := hv450.trans (if_pos c452)
      exact hr
  refine sg451 ?_
  obtain ⟨T453, h453, A453, e453, W453, st453⟩ := s_zastore A444 hZ e444 (ls := #[.val (.int p0), .val (.int p1), .val (.int p2), .val (.int p3), .val (.int v393), .val (.int v396), .val (.ref b400), .val (.ref b423), .unset, .unset, .unset, .unset, .unset, .unset, .unset, .unset, .unset, .unset, .unset, .unset, .unset, .unset, .unset]) (st := []) (x := v450) V448 (i := 2) (by decide) (j := (2 : Int32)) rfl (own_b01 hv450) at_112 (pc' := 113) rfl
  have N454 := Fr.snoc A453.1 N445 g425
  have K455 : Keep h0 h453 [] := K446.wr W453 (Or.inr gh426)
  have V456 : Dar Z h453 b400 .double 3 (fun j => if j = 2 then .double (FP.dadd (FP.i2d p2) (4598175219545276416 : UInt64)) else (fun j => if j = 1 then .double (FP.dadd (FP.i2d p1) (4598175219545276416 : UInt64)) else (fun j => if j = 0 then .double (FP.dadd (FP.i2d p0) (4598175219545276416 : UInt64)) else (fun _ => .double (0 : UInt64)) j) j) j) := Dar.other W453 V447 ne424
  have V457 : Dar Z h453 b423 .boolean 3 (fun j => if j = 2 then .int v450 else (fun j => if j = 1 then .int v441 else (fun j => if j = 0 then .int v432 else (fun _ => .int (0 : Int32)) j) j) j) := Dar.set V448 W453 (fun _ _ => rfl)
  have Z458 : n0 ≤ h453.size := by rw [W453.size]; exact Z449
  refine st453 ?_
  refine g_aconst A453 at_113 (pc' := 114) rfl ?_
  refine g_astore A453 at_114 rfl (ls' := #[.val (.int p0), .val (.int p1), .val (.int p2), .val (.int p3), .val (.int v393), .val (.int v396), .val (.ref b400), .val (.ref b423), .val .null, .unset, .unset, .unset, .unset, .unset, .unset, .unset, .unset, .unset, .unset, .unset, .unset, .unset, .unset]) rfl (pc' := 116) rfl ?_
  refine g_iload A453 at_116 rfl (pc' := 118) rfl ?_
  by_cases hc459 : (p3 &&& (1 : Int32)) = 0
  · skip
    refine g_ifN A453 at_118 (b0_ne_f hv393 (fun q => q hc459)) (pc' := 121) rfl ?_
    refine g_iconst A453 at_121 (v := (3 : Int32)) rfl (pc' := 122) rfl ?_
    obtain ⟨T460, h460, k460, X460, e460, E460, Ar460, st460⟩ := newP A453.1 hx hZ (hw _ (List.mem_of_getElem? (i := 0) rfl)) e453 (g := (mkF m 122 #[.val (.int p0), .val (.int p1), .val (.int p2), .val (.int p3), .val (.int v393), .val (.int v396), .val (.ref b400), .val (.ref b423), .val .null, .unset, .unset, .unset, .unset, .unset, .unset, .unset, .unset, .unset, .unset, .unset, .unset, .unset, .unset] [(.int (3 : Int32))])) rfl (hb hby at_122) rfl (by decide) (cap := 3) (by decide) (by decide) (by decide) (by decide)
    obtain ⟨b461, eb461⟩ : ∃ z, z = h453.size := ⟨_, rfl⟩
    rw [← eb461] at Ar460 st460
    have ne462 : b400 ≠ b461 := own_ne eb461 V456.lt
    have ne463 : b423 ≠ b461 := own_ne eb461 V457.lt
    have g464 : n0 ≤ b461 := by rw [eb461]; exact Z458
    have gh465 : h0.size ≤ b461 := by rw [eb461]; exact K455.1
    have K466 : Keep h0 h460 [] := K455.ext E460
    have V467 : Dar Z h460 b400 .double 3 (fun j => if j = 2 then .double (FP.dadd (FP.i2d p2) (4598175219545276416 : UInt64)) else (fun j => if j = 1 then .double (FP.dadd (FP.i2d p1) (4598175219545276416 : UInt64)) else (fun j => if j = 0 then .double (FP.dadd (FP.i2d p0) (4598175219545276416 : UInt64)) else (fun _ => .double (0 : UInt64)) j) j) j) := Dar.ext E460 V456
    have V468 : Dar Z h460 b423 .boolean 3 (fun j => if j = 2 then .int v450 else (fun j => if j = 1 then .int v441 else (fun j => if j = 0 then .int v432 else (fun _ => .int (0 : Int32)) j) j) j) := Dar.ext E460 V457
    have Z469 : n0 ≤ h460.size := Nat.le_trans Z458 E460.1
    have V470 : Dar Z h460 b461 .double 3 (fun _ => .double (0 : UInt64)) := Dar.new Ar460 (by decide)
    refine Go.of (g' := (mkF m 124 #[.val (.int p0), .val (.int p1), .val (.int p2), .val (.int p3), .val (.int v393), .val (.int v396), .val (.ref b400), .val (.ref b423), .val .null, .unset, .unset, .unset, .unset, .unset, .unset, .unset, .unset, .unset, .unset, .unset, .unset, .unset, .unset] [(.ref b461)])) st460 ?_
    have A471 := (⟨X460, hx, hby⟩ : Ax _ _ _ _ _ _ _ _ _ _ _ _ _ _ _)
    refine g_astore A471 at_124 rfl (ls' := #[.val (.int p0), .val (.int p1), .val (.int p2), .val (.int p3), .val (.int v393), .val (.int v396), .val (.ref b400), .val (.ref b423), .val (.ref b461), .unset, .unset, .unset, .unset, .unset, .unset, .unset, .unset, .unset, .unset, .unset, .unset, .unset, .unset]) rfl (pc' := 126) rfl ?_
    refine g_aload A471 at_126 rfl rfl (pc' := 128) rfl ?_
    refine g_iconst A471 at_128 (v := (0 : Int32)) rfl (pc' := 129) rfl ?_
    refine g_iloadN A471 at_129 rfl (pc' := 130) rfl ?_
    refine g_i2d A471 at_130 (pc' := 131) rfl ?_
    obtain ⟨T472, h472, A472, e472, W472, st472⟩ := s_dastore A471 hZ e460 (ls := #[.val (.int p0), .val (.int p1), .val (.int p2), .val (.int p3), .val (.int v393), .val (.int v396), .val (.ref b400), .val (.ref b423), .val (.ref b461), .unset, .unset, .unset, .unset, .unset, .unset, .unset, .unset, .unset, .unset, .unset, .unset, .unset, .unset]) (st := []) (x := (FP.i2d p0)) V470 (i := 0) (by decide) (j := (0 : Int32)) rfl at_131 (pc' := 132) rfl
    have N473 := Fr.snoc A472.1 N454 g464
    have K474 : Keep h0 h472 [] := K466.wr W472 (Or.inr gh465)
    have V475 : Dar Z h472 b400 .double 3 (fun j => if j = 2 then .double (FP.dadd (FP.i2d p2) (4598175219545276416 : UInt64)) else (fun j => if j = 1 then .double (FP.dadd (FP.i2d p1) (4598175219545276416 : UInt64)) else (fun j => if j = 0 then .double (FP.dadd (FP.i2d p0) (4598175219545276416 : UInt64)) else (fun _ => .double (0 : UInt64)) j) j) j) := Dar.other W472 V467 ne462
    have V476 : Dar Z h472 b423 .boolean 3 (fun j => if j = 2 then .int v450 else (fun j => if j = 1 then .int v441 else (fun j => if j = 0 then .int v432 else (fun _ => .int (0 : Int32)) j) j) j) := Dar.other W472 V468 ne463
    have V477 : Dar Z h472 b461 .double 3 (fun j => if j = 0 then .double (FP.i2d p0) else (fun _ => .double (0 : UInt64)) j) := Dar.set V470 W472 (fun _ _ => rfl)
    have Z478 : n0 ≤ h472.size := by rw [W472.size]; exact Z469
    refine st472 ?_
    refine g_aload A472 at_132 rfl rfl (pc' := 134) rfl ?_
    refine g_iconst A472 at_134 (v := (1 : Int32)) rfl (pc' := 135) rfl ?_
    refine g_iloadN A472 at_135 rfl (pc' := 136) rfl ?_
    refine g_i2d A472 at_136 (pc' := 137) rfl ?_
    obtain ⟨T479, h479, A479, e479, W479, st479⟩ := s_dastore A472 hZ e472 (ls := #[.val (.int p0), .val (.int p1), .val (.int p2), .val (.int p3), .val (.int v393), .val (.int v396), .val (.ref b400), .val (.ref b423), .val (.ref b461), .unset, .unset, .unset, .unset, .unset, .unset, .unset, .unset, .unset, .unset, .unset, .unset, .unset, .unset]) (st := []) (x := (FP.i2d p1)) V477 (i := 1) (by decide) (j := (1 : Int32)) rfl at_137 (pc' := 138) rfl
    have N480 := Fr.snoc A479.1 N473 g464
    have K481 : Keep h0 h479 [] := K474.wr W479 (Or.inr gh465)
    have V482 : Dar Z h479 b400 .double 3 (fun j => if j = 2 then .double (FP.dadd (FP.i2d p2) (4598175219545276416 : UInt64)) else (fun j => if j = 1 then .double (FP.dadd (FP.i2d p1) (4598175219545276416 : UInt64)) else (fun j => if j = 0 then .double (FP.dadd (FP.i2d p0) (4598175219545276416 : UInt64)) else (fun _ => .double (0 : UInt64)) j) j) j) := Dar.other W479 V475 ne462
    have V483 : Dar Z h479 b423 .boolean 3 (fun j => if j = 2 then .int v450 else (fun j => if j = 1 then .int v441 else (fun j => if j = 0 then .int v432 else (fun _ => .int (0 : Int32)) j) j) j) := Dar.other W479 V476 ne463
    have V484 : Dar Z h479 b461 .double 3 (fun j => if j = 1 then .double (FP.i2d p1) else (fun j => if j = 0 then .double (FP.i2d p0) else (fun _ => .double (0 : UInt64)) j) j) := Dar.set V477 W479 (fun _ _ => rfl)
    have Z485 : n0 ≤ h479.size := by rw [W479.size]; exact Z478
    refine st479 ?_
    refine g_aload A479 at_138 rfl rfl (pc' := 140) rfl ?_
    refine g_iconst A479 at_140 (v := (2 : Int32)) rfl (pc' := 141) rfl ?_
    refine g_iloadN A479 at_141 rfl (pc' := 142) rfl ?_
    refine g_i2d A479 at_142 (pc' := 143) rfl ?_
    obtain ⟨T486, h486, A486, e486, W486, st486⟩ := s_dastore A479 hZ e479 (ls := #[.val (.int p0), .val (.int p1), .val (.int p2), .val (.int p3), .val (.int v393), .val (.int v396), .val (.ref b400), .val (.ref b423), .val (.ref b461), .unset, .unset, .unset, .unset, .unset, .unset, .unset, .unset, .unset, .unset, .unset, .unset, .unset, .unset]) (st := []) (x := (FP.i2d p2)) V484 (i := 2) (by decide) (j := (2 : Int32)) rfl at_143 (pc' := 144) rfl
    have N487 := Fr.snoc A486.1 N480 g464
    have K488 : Keep h0 h486 [] := K481.wr W486 (Or.inr gh465)
    have V489 : Dar Z h486 b400 .double 3 (fun j => if j = 2 then .double (FP.dadd (FP.i2d p2) (4598175219545276416 : UInt64)) else (fun j => if j = 1 then .double (FP.dadd (FP.i2d p1) (4598175219545276416 : UInt64)) else (fun j => if j = 0 then .double (FP.dadd (FP.i2d p0) (4598175219545276416 : UInt64)) else (fun _ => .double (0 : UInt64)) j) j) j) := Dar.other W486 V482 ne462
    have V490 : Dar Z h486 b423 .boolean 3 (fun j => if j = 2 then .int v450 else (fun j => if j = 1 then .int v441 else (fun j => if j = 0 then .int v432 else (fun _ => .int (0 : Int32)) j) j) j) := Dar.other W486 V483 ne463
    have V491 : Dar Z h486 b461 .double 3 (fun j => if j = 2 then .double (FP.i2d p2) else (fun j => if j = 1 then .double (FP.i2d p1) else (fun j => if j = 0 then .double (FP.i2d p0) else (fun _ => .double (0 : UInt64)) j) j) j) := Dar.set V484 W486 (fun _ _ => rfl)
    have Z492 : n0 ≤ h486.size := by rw [W486.size]; exact Z485
    refine st486 ?_
    refine g_aconst A486 at_144 (pc' := 145) rfl ?_
    refine g_astore A486 at_145 rfl (ls' := #[.val (.int p0), .val (.int p1), .val (.int p2), .val (.int p3), .val (.int v393), .val (.int v396), .val (.ref b400), .val (.ref b423), .val (.ref b461), .val .null, .unset, .unset, .unset, .unset, .unset, .unset, .unset, .unset, .unset, .unset, .unset, .unset, .unset]) rfl (pc' := 147) rfl ?_
    refine g_iload A486 at_147 rfl (pc' := 149) rfl ?_
    by_cases hc493 : (p3 &&& (2 : Int32)) = 0
    · skip
      refine g_ifN A486 at_149 (b0_ne_f hv396 (fun q => q hc493)) (pc' := 152) rfl ?_
      refine g_iconst A486 at_152 (v := (3 : Int32)) rfl (pc' := 153) rfl ?_
      obtain ⟨T494, h494, k494, X494, e494, E494, Ar494, st494⟩ := newP A486.1 hx hZ (hw _ (List.mem_of_getElem? (i := 0) rfl)) e486 (g := (mkF m 153 #[.val (.int p0), .val (.int p1), .val (.int p2), .val (.int p3), .val (.int v393), .val (.int v396), .val (.ref b400), .val (.ref b423), .val (.ref b461), .val .null, .unset, .unset, .unset, .unset, .unset, .unset, .unset, .unset, .unset, .unset, .unset, .unset, .unset] [(.int (3 : Int32))])) rfl (hb hby at_153) rfl (by decide) (cap := 3) (by decide) (by decide) (by decide) (by decide)
      obtain ⟨b495, eb495⟩ : ∃ z, z = h486.size := ⟨_, rfl⟩
      rw [← eb495] at Ar494 st494
      have ne496 : b400 ≠ b495 := own_ne eb495 V489.lt
      have ne497 : b423 ≠ b495 := own_ne eb495 V490.lt
      have ne498 : b461 ≠ b495 := own_ne eb495 V491.lt
      have g499 : n0 ≤ b495 := by rw [eb495]; exact Z492
      have gh500 : h0.size ≤ b495 := by rw [eb495]; exact K488.1
      have K501 : Keep h0 h494 [] := K488.ext E494
      have V502 : Dar Z h494 b400 .double 3 (fun j => if j = 2 then .double (FP.dadd (FP.i2d p2) (4598175219545276416 : UInt64)) else (fun j => if j = 1 then .double (FP.dadd (FP.i2d p1) (4598175219545276416 : UInt64)) else (fun j => if j = 0 then .double (FP.dadd (FP.i2d p0) (4598175219545276416 : UInt64)) else (fun _ => .double (0 : UInt64)) j) j) j) := Dar.ext E494 V489
      have V503 : Dar Z h494 b423 .boolean 3 (fun j => if j = 2 then .int v450 else (fun j => if j = 1 then .int v441 else (fun j => if j = 0 then .int v432 else (fun _ => .int (0 : Int32)) j) j) j) := Dar.ext E494 V490
      have V504 : Dar Z h494 b461 .double 3 (fun j => if j = 2 then .double (FP.i2d p2) else (fun j => if j = 1 then .double (FP.i2d p1) else (fun j => if j = 0 then .double (FP.i2d p0) else (fun _ => .double (0 : UInt64)) j) j) j) := Dar.ext E494 V491
      have Z505 : n0 ≤ h494.size := Nat.le_trans Z492 E494.1
      have V506 : Dar Z h494 b495 .double 3 (fun _ => .double (0 : UInt64)) := Dar.new Ar494 (by decide)
      refine Go.of (g' := (mkF m 155 #[.val (.int p0), .val (.int p1), .val (.int p2), .val (.int p3), .val (.int v393), .val (.int v396), .val (.ref b400), .val (.ref b423), .val (.ref b461), .val .null, .unset, .unset, .unset, .unset, .unset, .unset, .unset, .unset, .unset, .unset, .unset, .unset, .unset] [(.ref b495)])) st494 ?_
      have A507 := (⟨X494, hx, hby⟩ : Ax _ _ _ _ _ _ _ _ _ _ _ _ _ _ _)
      refine g_astore A507 at_155 rfl (ls' := #[.val (.int p0), .val (.int p1), .val (.int p2), .val (.int p3), .val (.int v393), .val (.int v396), .val (.ref b400), .val (.ref b423), .val (.ref b461), .val (.ref b495), .unset, .unset, .unset, .unset, .unset, .unset, .unset, .unset, .unset, .unset, .unset, .unset, .unset]) rfl (pc' := 157) rfl ?_
      refine g_aload A507 at_157 rfl rfl (pc' := 159) rfl ?_
      refine g_iconst A507 at_159 (v := (0 : Int32)) rfl (pc' := 160) rfl ?_
      refine g_iloadN A507 at_160 rfl (pc' := 161) rfl ?_
      refine g_i2d A507 at_161 (pc' := 162) rfl ?_
      refine g_ldcD A507 hZ hown (hw _ (List.mem_of_getElem? (i := 3) rfl)) at_162 (pc' := 165) rfl ?_
      refine g_dadd A507 at_165 (own_ndadd (i2d_fin p0) (by unfold Fin64; decide : Fin64 (4602678819172646912 : UInt64))) (pc' := 166) rfl ?_
      obtain ⟨T508, h508, A508, e508, W508, st508⟩ := s_dastore A507 hZ e494 (ls := #[.val (.int p0), .val (.int p1), .val (.int p2), .val (.int p3), .val (.int v393), .val (.int v396), .val (.ref b400), .val (.ref b423), .val (.ref b461), .val (.ref b495), .unset, .unset, .unset, .unset, .unset, .unset, .unset, .unset, .unset, .unset, .unset, .unset, .unset]) (st := []) (x := (FP.dadd (FP.i2d p0) (4602678819172646912 : UInt64))) V506 (i := 0) (by decide) (j := (0 : Int32)) rfl at_166 (pc' := 167) rfl
      have N509 := Fr.snoc A508.1 N487 g499
      have K510 : Keep h0 h508 [] := K501.wr W508 (Or.inr gh500)
      have V511 : Dar Z h508 b400 .double 3 (fun j => if j = 2 then .double (FP.dadd (FP.i2d p2) (4598175219545276416 : UInt64)) else (fun j => if j = 1 then .double (FP.dadd (FP.i2d p1) (4598175219545276416 : UInt64)) else (fun j => if j = 0 then .double (FP.dadd (FP.i2d p0) (4598175219545276416 : UInt64)) else (fun _ => .double (0 : UInt64)) j) j) j) := Dar.other W508 V502 ne496
      have V512 : Dar Z h508 b423 .boolean 3 (fun j => if j = 2 then .int v450 else (fun j => if j = 1 then .int v441 else (fun j => if j = 0 then .int v432 else (fun _ => .int (0 : Int32)) j) j) j) := Dar.other W508 V503 ne497
      have V513 : Dar Z h508 b461 .double 3 (fun j => if j = 2 then .double (FP.i2d p2) else (fun j => if j = 1 then .double (FP.i2d p1) else (fun j => if j = 0 then .double (FP.i2d p0) else (fun _ => .double (0 : UInt64)) j) j) j) := Dar.other W508 V504 ne498
      have V514 : Dar Z h508 b495 .double 3 (fun j => if j = 0 then .double (FP.dadd (FP.i2d p0) (4602678819172646912 : UInt64)) else (fun _ => .double (0 : UInt64)) j) := Dar.set V506 W508 (fun _ _ => rfl)
      have Z515 : n0 ≤ h508.size := by rw [W508.size]; exact Z505
      refine st508 ?_
      refine g_aload A508 at_167 rfl rfl (pc' := 169) rfl ?_
      refine g_iconst A508 at_169 (v := (1 : Int32)) rfl (pc' := 170) rfl ?_
      refine g_iloadN A508 at_170 rfl (pc' := 171) rfl ?_
      refine g_i2d A508 at_171 (pc' := 172) rfl ?_
      refine g_ldcD A508 hZ hown (hw _ (List.mem_of_getElem? (i := 3) rfl)) at_172 (pc' := 175) rfl ?_
      refine g_dadd A508 at_175 (own_ndadd (i2d_fin p1) (by unfold Fin64; decide : Fin64 (4602678819172646912 : UInt64))) (pc' := 176) rfl ?_
      obtain ⟨T516, h516, A516, e516, W516, st516⟩ := s_dastore A508 hZ e508 (ls := #[.val (.int p0), .val (.int p1), .val (.int p2), .val (.int p3), .val (.int v393), .val (.int v396), .val (.ref b400), .val (.ref b423), .val (.ref b461), .val (.ref b495), .unset, .unset, .unset, .unset, .unset, .unset, .unset, .unset, .unset, .unset, .unset, .unset, .unset]) (st := []) (x := (FP.dadd (FP.i2d p1) (4602678819172646912 : UInt64))) V514 (i := 1) (by decide) (j := (1 : Int32)) rfl at_176 (pc' := 177) rfl
      have N517 := Fr.snoc A516.1 N509 g499
      have K518 : Keep h0 h516 [] := K510.wr W516 (Or.inr gh500)
      have V519 : Dar Z h516 b400 .double 3 (fun j => if j = 2 then .double (FP.dadd (FP.i2d p2) (4598175219545276416 : UInt64)) else (fun j => if j = 1 then .double (FP.dadd (FP.i2d p1) (4598175219545276416 : UInt64)) else (fun j => if j = 0 then .double (FP.dadd (FP.i2d p0) (4598175219545276416 : UInt64)) else (fun _ => .double (0 : UInt64)) j) j) j) := Dar.other W516 V511 ne496
      have V520 : Dar Z h516 b423 .boolean 3 (fun j => if j = 2 then .int v450 else (fun j => if j = 1 then .int v441 else (fun j => if j = 0 then .int v432 else (fun _ => .int (0 : Int32)) j) j) j) := Dar.other W516 V512 ne497
      have V521 : Dar Z h516 b461 .double 3 (fun j => if j = 2 then .double (FP.i2d p2) else (fun j => if j = 1 then .double (FP.i2d p1) else (fun j => if j = 0 then .double (FP.i2d p0) else (fun _ => .double (0 : UInt64)) j) j) j) := Dar.other W516 V513 ne498
      have V522 : Dar Z h516 b495 .double 3 (fun j => if j = 1 then .double (FP.dadd (FP.i2d p1) (4602678819172646912 : UInt64)) else (fun j => if j = 0 then .double (FP.dadd (FP.i2d p0) (4602678819172646912 : UInt64)) else (fun _ => .double (0 : UInt64)) j) j) := Dar.set V514 W516 (fun _ _ => rfl)
      have Z523 : n0 ≤ h516.size := by rw [W516.size]; exact Z515
      refine st516 ?_
      refine g_aload A516 at_177 rfl rfl (pc' := 179) rfl ?_
      refine g_iconst A516 at_179 (v := (2 : Int32)) rfl (pc' := 180) rfl ?_
      refine g_iloadN A516 at_180 rfl (pc' := 181) rfl ?_
      refine g_i2d A516 at_181 (pc' := 182) rfl ?_
      refine g_ldcD A516 hZ hown (hw _ (List.mem_of_getElem? (i := 3) rfl)) at_182 (pc' := 185) rfl ?_
      refine g_dadd A516 at_185 (own_ndadd (i2d_fin p2) (by unfold Fin64; decide : Fin64 (4602678819172646912 : UInt64))) (pc' := 186) rfl ?_
      obtain ⟨T524, h524, A524, e524, W524, st524⟩ := s_dastore A516 hZ e516 (ls := #[.val (.int p0), .val (.int p1), .val (.int p2), .val (.int p3), .val (.int v393), .val (.int v396), .val (.ref b400), .val (.ref b423), .val (.ref b461), .val (.ref b495), .unset, .unset, .unset, .unset, .unset, .unset, .unset, .unset, .unset, .unset, .unset, .unset, .unset]) (st := []) (x := (FP.dadd (FP.i2d p2) (4602678819172646912 : UInt64))) V522 (i := 2) (by decide) (j := (2 : Int32)) rfl at_186 (pc' := 187) rfl
      have N525 := Fr.snoc A524.1 N517 g499
      have K526 : Keep h0 h524 [] := K518.wr W524 (Or.inr gh500)
      have V527 : Dar Z h524 b400 .double 3 (fun j => if j = 2 then .double (FP.dadd (FP.i2d p2) (4598175219545276416 : UInt64)) else (fun j => if j = 1 then .double (FP.dadd (FP.i2d p1) (4598175219545276416 : UInt64)) else (fun j => if j = 0 then .double (FP.dadd (FP.i2d p0) (4598175219545276416 : UInt64)) else (fun _ => .double (0 : UInt64)) j) j) j) := Dar.other W524 V519 ne496
      have V528 : Dar Z h524 b423 .boolean 3 (fun j => if j = 2 then .int v450 else (fun j => if j = 1 then .int v441 else (fun j => if j = 0 then .int v432 else (fun _ => .int (0 : Int32)) j) j) j) := Dar.other W524 V520 ne497
      have V529 : Dar Z h524 b461 .double 3 (fun j => if j = 2 then .double (FP.i2d p2) else (fun j => if j = 1 then .double (FP.i2d p1) else (fun j => if j = 0 then .double (FP.i2d p0) else (fun _ => .double (0 : UInt64)) j) j) j) := Dar.other W524 V521 ne498
      have V530 : Dar Z h524 b495 .double 3 (fun j => if j = 2 then .double (FP.dadd (FP.i2d p2) (4602678819172646912 : UInt64)) else (fun j => if j = 1 then .double (FP.dadd (FP.i2d p1) (4602678819172646912 : UInt64)) else (fun j => if j = 0 then .double (FP.dadd (FP.i2d p0) (4602678819172646912 : UInt64)) else (fun _ => .double (0 : UInt64)) j) j) j) := Dar.set V522 W524 (fun _ _ => rfl)
      have Z531 : n0 ≤ h524.size := by rw [W524.size]; exact Z523
      refine st524 ?_
      obtain ⟨T532, h532, X532, e532, E532, EA532, D532, -, st532⟩ := newO A524.1 hx hZ hown (hw _ (List.mem_of_getElem? (i := 4) rfl)) (hw _ (List.mem_of_getElem? (i := 5) rfl)) (hw _ (List.mem_of_getElem? (i := 6) rfl)) e524 (g := (mkF m 187 #[.val (.int p0), .val (.int p1), .val (.int p2), .val (.int p3), .val (.int v393), .val (.int v396), .val (.ref b400), .val (.ref b423), .val (.ref b461), .val (.ref b495), .unset, .unset, .unset, .unset, .unset, .unset, .unset, .unset, .unset, .unset, .unset, .unset, .unset] [])) rfl (hb hby at_187) (by decide) (by decide)
      obtain ⟨a533, ea533⟩ : ∃ z, z = h524.size := ⟨_, rfl⟩
      rw [← ea533] at EA532 D532 st532
      have ne534 : b400 ≠ a533 := own_ne ea533 V527.lt
      have ne535 : b423 ≠ a533 := own_ne ea533 V528.lt
      have ne536 : b461 ≠ a533 := own_ne ea533 V529.lt
      have ne537 : b495 ≠ a533 := own_ne ea533 V530.lt
      have g538 : n0 ≤ a533 := by rw [ea533]; exact Z531
      have gh539 : h0.size ≤ a533 := by rw [ea533]; exact K526.1
      have K540 : Keep h0 h532 [] := K526.ext E532
      have V541 : Dar Z h532 b400 .double 3 (fun j => if j = 2 then .double (FP.dadd (FP.i2d p2) (4598175219545276416 : UInt64)) else (fun j => if j = 1 then .double (FP.dadd (FP.i2d p1) (4598175219545276416 : UInt64)) else (fun j => if j = 0 then .double (FP.dadd (FP.i2d p0) (4598175219545276416 : UInt64)) else (fun _ => .double (0 : UInt64)) j) j) j) := Dar.ext E532 V527
      have V542 : Dar Z h532 b423 .boolean 3 (fun j => if j = 2 then .int v450 else (fun j => if j = 1 then .int v441 else (fun j => if j = 0 then .int v432 else (fun _ => .int (0 : Int32)) j) j) j) := Dar.ext E532 V528
      have V543 : Dar Z h532 b461 .double 3 (fun j => if j = 2 then .double (FP.i2d p2) else (fun j => if j = 1 then .double (FP.i2d p1) else (fun j => if j = 0 then .double (FP.i2d p0) else (fun _ => .double (0 : UInt64)) j) j) j) := Dar.ext E532 V529
      have V544 : Dar Z h532 b495 .double 3 (fun j => if j = 2 then .double (FP.dadd (FP.i2d p2) (4602678819172646912 : UInt64)) else (fun j => if j = 1 then .double (FP.dadd (FP.i2d p1) (4602678819172646912 : UInt64)) else (fun j => if j = 0 then .double (FP.dadd (FP.i2d p0) (4602678819172646912 : UInt64)) else (fun _ => .double (0 : UInt64)) j) j) j) := Dar.ext E532 V530
      have Z545 : n0 ≤ h532.size := Nat.le_trans Z531 E532.1
      have F546 : Fld Z h532 a533 "com/example/swathloom/swathloom/planning/Plan" "rolls" "[D" .null := D532 (Or.inr (hw _ (List.mem_of_getElem? (i := 14) rfl))) (ty := (.array .double)) (by decide)
      have F547 : Fld Z h532 a533 "com/example/swathloom/swathloom/planning/Plan" "used" "[Z" .null := D532 (Or.inr (hw _ (List.mem_of_getElem? (i := 16) rfl))) (ty := (.array .boolean)) (by decide)
      have F548 : Fld Z h532 a533 "com/example/swathloom/swathloom/planning/Plan" "rollVelocities" "[D" .null := D532 (Or.inr (hw _ (List.mem_of_getElem? (i := 18) rfl))) (ty := (.array .double)) (by decide)
      have F549 : Fld Z h532 a533 "com/example/swathloom/swathloom/planning/Plan" "selectionVelocities" "[D" .null := D532 (Or.inr (hw _ (List.mem_of_getElem? (i := 20) rfl))) (ty := (.array .double)) (by decide)
      have F550 : Fld Z h532 a533 "com/example/swathloom/swathloom/planning/Plan" "strips" "I" (.int (0 : Int32)) := D532 (Or.inr (hw _ (List.mem_of_getElem? (i := 22) rfl))) (ty := .int) (by decide)
      refine Go.of (g' := (mkF m 190 #[.val (.int p0), .val (.int p1), .val (.int p2), .val (.int p3), .val (.int v393), .val (.int v396), .val (.ref b400), .val (.ref b423), .val (.ref b461), .val (.ref b495), .unset, .unset, .unset, .unset, .unset, .unset, .unset, .unset, .unset, .unset, .unset, .unset, .unset] [(.ref a533)])) st532 ?_
      have A551 := (⟨X532, hx, hby⟩ : Ax _ _ _ _ _ _ _ _ _ _ _ _ _ _ _)
      refine g_dup A551 at_190 rfl (pc' := 191) rfl ?_
      refine g_aload A551 at_191 rfl rfl (pc' := 193) rfl ?_
      refine g_aload A551 at_193 rfl rfl (pc' := 195) rfl ?_
      refine g_aload A551 at_195 rfl rfl (pc' := 197) rfl ?_
      refine g_aload A551 at_197 rfl rfl (pc' := 199) rfl ?_
      obtain ⟨_, _, ⟨T552, L552, k552, n552⟩, -, X552, ⟨L552c, hQ552, l552, y552, z552⟩, st552⟩ := X532.specialBack hx (y := (⟨"com/example/swathloom/swathloom/planning/Plan", "<init>", "([D[Z[D[D)V"⟩ : MethodName)) rfl hown (mvT hZ (hw _ (List.mem_of_getElem? (i := 7) rfl))) (mvT hZ (hw _ (List.mem_of_getElem? (i := 8) rfl))) (mvT hZ (hw _ (List.mem_of_getElem? (i := 9) rfl))) (by decide) (backOf (W := 1) (rm1_00 l Z a0 hw [] a533 b400 b423 b461 (fun j => if j = 2 then .double (FP.i2d p2) else (fun j => if j = 1 then .double (FP.i2d p1) else (fun j => if j = 0 then .double (FP.i2d p0) else (fun _ => .double (0 : UInt64)) j) j) j) b495 (fun j => if j = 2 then .double (FP.dadd (FP.i2d p2) (4602678819172646912 : UInt64)) else (fun j => if j = 1 then .double (FP.dadd (FP.i2d p1) (4602678819172646912 : UInt64)) else (fun j => if j = 0 then .double (FP.dadd (FP.i2d p0) (4602678819172646912 : UInt64)) else (fun _ => .double (0 : UInt64)) j) j) j) (fun j => if j = 2 then .double (FP.dadd (FP.i2d p2) (4598175219545276416 : UInt64)) else (fun j => if j = 1 then .double (FP.dadd (FP.i2d p1) (4598175219545276416 : UInt64)) else (fun j => if j = 0 then .double (FP.dadd (FP.i2d p0) (4598175219545276416 : UInt64)) else (fun _ => .double (0 : UInt64)) j) j) j) (fun j => if j = 2 then .int v450 else (fun j => if j = 1 then .int v441 else (fun j => if j = 0 then .int v432 else (fun _ => .int (0 : Int32)) j) j) j) v432 v441 v450 .null .null .null .null (.int (0 : Int32)) h532 n0 Z545 EA532 F546 F547 F548 F549 F550 g538 V541 V542 ne534 ne535 rfl rfl rfl V543 ne536 V544 ne537) hZ (hw _ (List.mem_of_getElem? (i := 9) rfl)) (hw _ (List.mem_of_getElem? (i := 6) rfl)) (by decide) (by decide)) (g := (mkF m 199 #[.val (.int p0), .val (.int p1), .val (.int p2), .val (.int p3), .val (.int v393), .val (.int v396), .val (.ref b400), .val (.ref b423), .val (.ref b461), .val (.ref b495), .unset, .unset, .unset, .unset, .unset, .unset, .unset, .unset, .unset, .unset, .unset, .unset, .unset] [(.ref b495), (.ref b461), (.ref b423), (.ref b400), (.ref a533), (.ref a533)])) rfl (by rw [hml]; rfl) (Steps.refl _) (a := a533) (argsL := [(.ref b400), (.ref b423), (.ref b461), (.ref b495)]) (rest := [(.ref a533)]) (lenOf pd_0 rfl) rfl (by show 2 * 0 + _ ≤ _; exact Nat.le_of_eq rfl) (hb hby at_199) (fun _ _ => ⟨rfl, e532, (by decide : 5 + 0 ≤ _), (by decide : 17 + 0 ≤ _)⟩)
      dsimp only [Pt.U, Pt.locs, Pt.cells, Pt.slots] at X552 l552 y552 z552 st552 hQ552
      subst l552 y552 z552
      obtain ⟨rfl, Nq553, Kq554, F555, F556, F557⟩ := hQ552
      have N558 := Fr.app N525 Nq553
      refine Go.tr (g' := (mkF m 202 #[.val (.int p0), .val (.int p1), .val (.int p2), .val (.int p3), .val (.int v393), .val (.int v396), .val (.ref b400), .val (.ref b423), .val (.ref b461), .val (.ref b495), .unset, .unset, .unset, .unset, .unset, .unset, .unset, .unset, .unset, .unset, .unset, .unset, .unset] [(.ref a533)])) st552 ?_
      have V559 : Dar Z T552.heap b400 .double 3 (fun j => if j = 2 then .double (FP.dadd (FP.i2d p2) (4598175219545276416 : UInt64)) else (fun j => if j = 1 then .double (FP.dadd (FP.i2d p1) (4598175219545276416 : UInt64)) else (fun j => if j = 0 then .double (FP.dadd (FP.i2d p0) (4598175219545276416 : UInt64)) else (fun _ => .double (0 : UInt64)) j) j) j) := Dar.keep V541 Kq554 (ninS ne534 nin0)
      have V560 : Dar Z T552.heap b423 .boolean 3 (fun j => if j = 2 then .int v450 else (fun j => if j = 1 then .int v441 else (fun j => if j = 0 then .int v432 else (fun _ => .int (0 : Int32)) j) j) j) := Dar.keep V542 Kq554 (ninS ne535 nin0)
      have V561 : Dar Z T552.heap b461 .double 3 (fun j => if j = 2 then .double (FP.i2d p2) else (fun j => if j = 1 then .double (FP.i2d p1) else (fun j => if j = 0 then .double (FP.i2d p0) else (fun _ => .double (0 : UInt64)) j) j) j) := Dar.keep V543 Kq554 (ninS ne536 nin0)
      have V562 : Dar Z T552.heap b495 .double 3 (fun j => if j = 2 then .double (FP.dadd (FP.i2d p2) (4602678819172646912 : UInt64)) else (fun j => if j = 1 then .double (FP.dadd (FP.i2d p1) (4602678819172646912 : UInt64)) else (fun j => if j = 0 then .double (FP.dadd (FP.i2d p0) (4602678819172646912 : UInt64)) else (fun _ => .double (0 : UInt64)) j) j) j) := Dar.keep V544 Kq554 (ninS ne537 nin0)
      have E563 : Exa Z T552.heap a533 "com/example/swathloom/swathloom/planning/Plan" := Exa.keep EA532 Kq554
      have Z564 : n0 ≤ T552.heap.size := Nat.le_trans Z545 Kq554.1
      have K565 : Keep h0 T552.heap [] := K540.trans Kq554 (allS (Or.inr gh539) all0)
      have A566 := (⟨X552, hx, hby⟩ : Ax _ _ _ _ _ _ _ _ _ _ _ _ _ _ _)
      refine g_astore A566 at_202 rfl (ls' := #[.val (.int p0), .val (.int p1), .val (.int p2), .val (.int p3), .val (.int v393), .val (.int v396), .val (.ref b400), .val (.ref b423), .val (.ref b461), .val (.ref b495), .val (.ref a533), .unset, .unset, .unset, .unset, .unset, .unset, .unset, .unset, .unset, .unset, .unset, .unset]) rfl (pc' := 204) rfl ?_
      refine g_iload A566 at_204 rfl (pc' := 206) rfl ?_
      refine g_ifY A566 at_206 (b0_eq_t hv393 (fun q => q hc459)) (pc' := 213) rfl ?_
      refine g_iloadN A566 at_213 rfl (pc' := 214) rfl ?_
      refine g_i2d A566 at_214 (pc' := 215) rfl ?_
      refine g_dstore A566 at_215 (ls' := #[.val (.int p0), .val (.int p1), .val (.int p2), .val (.int p3), .val (.int v393), .val (.int v396), .val (.ref b400), .val (.ref b423), .val (.ref b461), .val (.ref b495), .val (.ref a533), .val (.double (FP.i2d p0)), .second, .unset, .unset, .unset, .unset, .unset, .unset, .unset, .unset, .unset, .unset]) rfl (pc' := 217) rfl ?_
      refine g_iload A566 at_217 rfl (pc' := 219) rfl ?_
      refine g_ifY A566 at_219 (b0_eq_t hv393 (fun q => q hc459)) (pc' := 226) rfl ?_
      refine g_iloadN A566 at_226 rfl (pc' := 227) rfl ?_
      refine g_i2d A566 at_227 (pc' := 228) rfl ?_
      refine g_dstore A566 at_228 (ls' := #[.val (.int p0), .val (.int p1), .val (.int p2), .val (.int p3), .val (.int v393), .val (.int v396), .val (.ref b400), .val (.ref b423), .val (.ref b461), .val (.ref b495), .val (.ref a533), .val (.double (FP.i2d p0)), .second, .val (.double (FP.i2d p1)), .second, .unset, .unset, .unset, .unset, .unset, .unset, .unset, .unset]) rfl (pc' := 230) rfl ?_
      refine g_iload A566 at_230 rfl (pc' := 232) rfl ?_
      refine g_ifY A566 at_232 (b0_eq_t hv393 (fun q => q hc459)) (pc' := 239) rfl ?_
      refine g_iloadN A566 at_239 rfl (pc' := 240) rfl ?_
      refine g_i2d A566 at_240 (pc' := 241) rfl ?_
      refine g_dstore A566 at_241 (ls' := #[.val (.int p0), .val (.int p1), .val (.int p2), .val (.int p3), .val (.int v393), .val (.int v396), .val (.ref b400), .val (.ref b423), .val (.ref b461), .val (.ref b495), .val (.ref a533), .val (.double (FP.i2d p0)), .second, .val (.double (FP.i2d p1)), .second, .val (.double (FP.i2d p2)), .second, .unset, .unset, .unset, .unset, .unset, .unset]) rfl (pc' := 243) rfl ?_
      refine g_aload A566 at_243 rfl rfl (pc' := 245) rfl ?_
      refine g_iconst A566 at_245 (v := (0 : Int32)) rfl (pc' := 246) rfl ?_
      obtain ⟨cq568, kq568, q568a, q568b, q568c⟩ := isOf hZ rfl E563
      obtain ⟨_, _, ⟨T567, L567, k567, n567⟩, -, X567, ⟨L567c, hQ567, l567, y567, z567⟩, st567⟩ := X552.virtualBack hx (y := (⟨"com/example/swathloom/swathloom/planning/Plan", "rollVelocity", "(I)D"⟩ : MethodName)) (z := (⟨"com/example/swathloom/swathloom/planning/Plan", "rollVelocity", "(I)D"⟩ : MethodName)) hown (mvT hZ (hw _ (List.mem_of_getElem? (i := 23) rfl))) (mvT hZ (hw _ (List.mem_of_getElem? (i := 24) rfl))) (notFace_of_selects (args := #[]) (mvT hZ (hw _ (List.mem_of_getElem? (i := 26) rfl)))) (mvT hZ (hw _ (List.mem_of_getElem? (i := 26) rfl))) (mvT hZ (hw _ (List.mem_of_getElem? (i := 25) rfl))) (by decide) (backOf (W := 0) (rmVr l Z a0 hw [] a533 (0 : Int32) b461 (fun j => if j = 2 then .double (FP.i2d p2) else (fun j => if j = 1 then .double (FP.i2d p1) else (fun j => if j = 0 then .double (FP.i2d p0) else (fun _ => .double (0 : UInt64)) j) j) j) 0 (FP.i2d p0) T552.heap n0 Z564 F556 V561 (by decide) rfl rfl) hZ (hw _ (List.mem_of_getElem? (i := 27) rfl)) (hw _ (List.mem_of_getElem? (i := 6) rfl)) (by decide) (by decide)) q568a q568c (g := (mkF m 246 #[.val (.int p0), .val (.int p1), .val (.int p2), .val (.int p3), .val (.int v393), .val (.int v396), .val (.ref b400), .val (.ref b423), .val (.ref b461), .val (.ref b495), .val (.ref a533), .val (.double (FP.i2d p0)), .second, .val (.double (FP.i2d p1)), .second, .val (.double (FP.i2d p2)), .second, .unset, .unset, .unset, .unset, .unset, .unset] [(.int (0 : Int32)), (.ref a533)])) rfl (by rw [hml]; rfl) (Steps.refl _) (argsL := [(.int (0 : Int32))]) (rest := []) (lenOf pd_1 rfl) rfl (by show 2 * 0 + _ ≤ _; exact Nat.le_of_eq rfl) (hb hby at_246) (fun _ _ => ⟨rfl, rfl, (by decide : 5 + 0 ≤ _), (by decide : 17 + 0 ≤ _)⟩)
      dsimp only [Pt.U, Pt.locs, Pt.cells, Pt.slots] at X567 l567 y567 z567 st567 hQ567
      subst l567 y567 z567
      obtain ⟨rfl, Nq569, Kq570⟩ := hQ567
      have N571 := Fr.app N558 Nq569
      refine Go.tr (g' := (mkF m 249 #[.val (.int p0), .val (.int p1), .val (.int p2), .val (.int p3), .val (.int v393), .val (.int v396), .val (.ref b400), .val (.ref b423), .val (.ref b461), .val (.ref b495), .val (.ref a533), .val (.double (FP.i2d p0)), .second, .val (.double (FP.i2d p1)), .second, .val (.double (FP.i2d p2)), .second, .unset, .unset, .unset, .unset, .unset, .unset] [(.double (FP.i2d p0))])) st567 ?_
      have e572 : T567.heap = T552.heap := Kq570
      have A573 := (⟨X567, hx, hby⟩ : Ax _ _ _ _ _ _ _ _ _ _ _ _ _ _ _)
      refine g_dstore A573 at_249 (ls' := #[.val (.int p0), .val (.int p1), .val (.int p2), .val (.int p3), .val (.int v393), .val (.int v396), .val (.ref b400), .val (.ref b423), .val (.ref b461), .val (.ref b495), .val (.ref a533), .val (.double (FP.i2d p0)), .second, .val (.double (FP.i2d p1)), .second, .val (.double (FP.i2d p2)), .second, .val (.double (FP.i2d p0)), .second, .unset, .unset, .unset, .unset]) rfl (pc' := 251) rfl ?_
      refine g_aload A573 at_251 rfl rfl (pc' := 253) rfl ?_
      refine g_iconst A573 at_253 (v := (1 : Int32)) rfl (pc' := 254) rfl ?_
      obtain ⟨cq575, kq575, q575a, q575b, q575c⟩ := isOf hZ e572 E563
      obtain ⟨_, _, ⟨T574, L574, k574, n574⟩, -, X574, ⟨L574c, hQ574, l574, y574, z574⟩, st574⟩ := X567.virtualBack hx (y := (⟨"com/example/swathloom/swathloom/planning/Plan", "rollVelocity", "(I)D"⟩ : MethodName)) (z := (⟨"com/example/swathloom/swathloom/planning/Plan", "rollVelocity", "(I)D"⟩ : MethodName)) hown (mvT hZ (hw _ (List.mem_of_getElem? (i := 23) rfl))) (mvT hZ (hw _ (List.mem_of_getElem? (i := 24) rfl))) (notFace_of_selects (args := #[]) (mvT hZ (hw _ (List.mem_of_getElem? (i := 26) rfl)))) (mvT hZ (hw _ (List.mem_of_getElem? (i := 26) rfl))) (mvT hZ (hw _ (List.mem_of_getElem? (i := 25) rfl))) (by decide) (backOf (W := 0) (rmVr l Z a0 hw [] a533 (1 : Int32) b461 (fun j => if j = 2 then .double (FP.i2d p2) else (fun j => if j = 1 then .double (FP.i2d p1) else (fun j => if j = 0 then .double (FP.i2d p0) else (fun _ => .double (0 : UInt64)) j) j) j) 1 (FP.i2d p1) T552.heap n0 Z564 F556 V561 (by decide) rfl rfl) hZ (hw _ (List.mem_of_getElem? (i := 27) rfl)) (hw _ (List.mem_of_getElem? (i := 6) rfl)) (by decide) (by decide)) q575a q575c (g := (mkF m 254 #[.val (.int p0), .val (.int p1), .val (.int p2), .val (.int p3), .val (.int v393), .val (.int v396), .val (.ref b400), .val (.ref b423), .val (.ref b461), .val (.ref b495), .val (.ref a533), .val (.double (FP.i2d p0)), .second, .val (.double (FP.i2d p1)), .second, .val (.double (FP.i2d p2)), .second, .val (.double (FP.i2d p0)), .second, .unset, .unset, .unset, .unset] [(.int (1 : Int32)), (.ref a533)])) rfl (by rw [hml]; rfl) (Steps.refl _) (argsL := [(.int (1 : Int32))]) (rest := []) (lenOf pd_1 rfl) rfl (by show 2 * 0 + _ ≤ _; exact Nat.le_of_eq rfl) (hb hby at_254) (fun _ _ => ⟨rfl, e572, (by decide : 5 + 0 ≤ _), (by decide : 17 + 0 ≤ _)⟩)
      dsimp only [Pt.U, Pt.locs, Pt.cells, Pt.slots] at X574 l574 y574 z574 st574 hQ574
      subst l574 y574 z574
      obtain ⟨rfl, Nq576, Kq577⟩ := hQ574
      have N578 := Fr.app N571 Nq576
      refine Go.tr (g' := (mkF m 257 #[.val (.int p0), .val (.int p1), .val (.int p2), .val (.int p3), .val (.int v393), .val (.int v396), .val (.ref b400), .val (.ref b423), .val (.ref b461), .val (.ref b495), .val (.ref a533), .val (.double (FP.i2d p0)), .second, .val (.double (FP.i2d p1)), .second, .val (.double (FP.i2d p2)), .second, .val (.double (FP.i2d p0)), .second, .unset, .unset, .unset, .unset] [(.double (FP.i2d p1))])) st574 ?_
      have e579 : T574.heap = T552.heap := Kq577
      have A580 := (⟨X574, hx, hby⟩ : Ax _ _ _ _ _ _ _ _ _ _ _ _ _ _ _)
      refine g_dstore A580 at_257 (ls' := #[.val (.int p0), .val (.int p1), .val (.int p2), .val (.int p3), .val (.int v393), .val (.int v396), .val (.ref b400), .val (.ref b423), .val (.ref b461), .val (.ref b495), .val (.ref a533), .val (.double (FP.i2d p0)), .second, .val (.double (FP.i2d p1)), .second, .val (.double (FP.i2d p2)), .second, .val (.double (FP.i2d p0)), .second, .val (.double (FP.i2d p1)), .second, .unset, .unset]) rfl (pc' := 259) rfl ?_
      refine g_aload A580 at_259 rfl rfl (pc' := 261) rfl ?_
      refine g_iconst A580 at_261 (v := (2 : Int32)) rfl (pc' := 262) rfl ?_
      obtain ⟨cq582, kq582, q582a, q582b, q582c⟩ := isOf hZ e579 E563
      obtain ⟨_, _, ⟨T581, L581, k581, n581⟩, -, X581, ⟨L581c, hQ581, l581, y581, z581⟩, st581⟩ := X574.virtualBack hx (y := (⟨"com/example/swathloom/swathloom/planning/Plan", "rollVelocity", "(I)D"⟩ : MethodName)) (z := (⟨"com/example/swathloom/swathloom/planning/Plan", "rollVelocity", "(I)D"⟩ : MethodName)) hown (mvT hZ (hw _ (List.mem_of_getElem? (i := 23) rfl))) (mvT hZ (hw _ (List.mem_of_getElem? (i := 24) rfl))) (notFace_of_selects (args := #[]) (mvT hZ (hw _ (List.mem_of_getElem? (i := 26) rfl)))) (mvT hZ (hw _ (List.mem_of_getElem? (i := 26) rfl))) (mvT hZ (hw _ (List.mem_of_getElem? (i := 25) rfl))) (by decide) (backOf (W := 0) (rmVr l Z a0 hw [] a533 (2 : Int32) b461 (fun j => if j = 2 then .double (FP.i2d p2) else (fun j => if j = 1 then .double (FP.i2d p1) else (fun j => if j = 0 then .double (FP.i2d p0) else (fun _ => .double (0 : UInt64)) j) j) j) 2 (FP.i2d p2) T552.heap n0 Z564 F556 V561 (by decide) rfl rfl) hZ (hw _ (List.mem_of_getElem? (i := 27) rfl)) (hw _ (List.mem_of_getElem? (i := 6) rfl)) (by decide) (by decide)) q582a q582c (g := (mkF m 262 #[.val (.int p0), .val (.int p1), .val (.int p2), .val (.int p3), .val (.int v393), .val (.int v396), .val (.ref b400), .val (.ref b423), .val (.ref b461), .val (.ref b495), .val (.ref a533), .val (.double (FP.i2d p0)), .second, .val (.double (FP.i2d p1)), .second, .val (.double (FP.i2d p2)), .second, .val (.double (FP.i2d p0)), .second, .val (.double (FP.i2d p1)), .second, .unset, .unset] [(.int (2 : Int32)), (.ref a533)])) rfl (by rw [hml]; rfl) (Steps.refl _) (argsL := [(.int (2 : Int32))]) (rest := []) (lenOf pd_1 rfl) rfl (by show 2 * 0 + _ ≤ _; exact Nat.le_of_eq rfl) (hb hby at_262) (fun _ _ => ⟨rfl, e579, (by decide : 5 + 0 ≤ _), (by decide : 17 + 0 ≤ _)⟩)
      dsimp only [Pt.U, Pt.locs, Pt.cells, Pt.slots] at X581 l581 y581 z581 st581 hQ581
      subst l581 y581 z581
      obtain ⟨rfl, Nq583, Kq584⟩ := hQ581
      have N585 := Fr.app N578 Nq583
      refine Go.tr (g' := (mkF m 265 #[.val (.int p0), .val (.int p1), .val (.int p2), .val (.int p3), .val (.int v393), .val (.int v396), .val (.ref b400), .val (.ref b423), .val (.ref b461), .val (.ref b495), .val (.ref a533), .val (.double (FP.i2d p0)), .second, .val (.double (FP.i2d p1)), .second, .val (.double (FP.i2d p2)), .second, .val (.double (FP.i2d p0)), .second, .val (.double (FP.i2d p1)), .second, .unset, .unset] [(.double (FP.i2d p2))])) st581 ?_
      have e586 : T581.heap = T552.heap := Kq584
      have A587 := (⟨X581, hx, hby⟩ : Ax _ _ _ _ _ _ _ _ _ _ _ _ _ _ _)
      refine g_dstore A587 at_265 (ls' := #[.val (.int p0), .val (.int p1), .val (.int p2), .val (.int p3), .val (.int v393), .val (.int v396), .val (.ref b400), .val (.ref b423), .val (.ref b461), .val (.ref b495), .val (.ref a533), .val (.double (FP.i2d p0)), .second, .val (.double (FP.i2d p1)), .second, .val (.double (FP.i2d p2)), .second, .val (.double (FP.i2d p0)), .second, .val (.double (FP.i2d p1)), .second, .val (.double (FP.i2d p2)), .second]) rfl (pc' := 267) rfl ?_
      refine g_dload A587 at_267 rfl (pc' := 269) rfl ?_
      refine g_dload A587 at_269 rfl (pc' := 271) rfl ?_
      refine g_dcmp A587 at_271 (pc' := 272) rfl ?_
      refine g_ifN A587 at_272 (d_l_ne_f (own_self (i2d_fin p0))) (pc' := 275) rfl ?_
      refine g_dload A587 at_275 rfl (pc' := 277) rfl ?_
      refine g_dload A587 at_277 rfl (pc' := 279) rfl ?_
      refine g_dcmp A587 at_279 (pc' := 280) rfl ?_
      refine g_ifN A587 at_280 (d_l_ne_f (own_self (i2d_fin p1))) (pc' := 283) rfl ?_
      refine g_dload A587 at_283 rfl (pc' := 285) rfl ?_
      refine g_dload A587 at_285 rfl (pc' := 287) rfl ?_
      refine g_dcmp A587 at_287 (pc' := 288) rfl ?_
      refine g_ifN A587 at_288 (d_l_ne_f (own_self (i2d_fin p2))) (pc' := 291) rfl ?_
      refine g_iconst A587 at_291 (v := (1 : Int32)) rfl (pc' := 292) rfl ?_
      refine g_goto A587 at_292 (pc' := 296) rfl ?_
      exact g_ret (Q := Q0 Z p0 p1 p2 p3 h0 n0) A587 at_296 Bd.notSynchronized Bd.returns rfl (Or.inl ⟨rfl, by simp, _, rfl⟩) (by decide) (by decide) (by rw [e586]; exact ⟨rfl, N585⟩)
    · skip
      refine g_ifY A486 at_149 (b0_ne_t hv396 hc493) (pc' := 187) rfl ?_
      obtain ⟨T588, h588, X588, e588, E588, EA588, D588, -, st588⟩ := newO A486.1 hx hZ hown (hw _ (List.mem_of_getElem? (i := 4) rfl)) (hw _ (List.mem_of_getElem? (i := 5) rfl)) (hw _ (List.mem_of_getElem? (i := 6) rfl)) e486 (g := (mkF m 187 #[.val (.int p0), .val (.int p1), .val (.int p2), .val (.int p3), .val (.int v393), .val (.int v396), .val (.ref b400), .val (.ref b423), .val (.ref b461), .val .null, .unset, .unset, .unset, .unset, .unset, .unset, .unset, .unset, .unset, .unset, .unset, .unset, .unset] [])) rfl (hb hby at_187) (by decide) (by decide)
      obtain ⟨a589, ea589⟩ : ∃ z, z = h486.size := ⟨_, rfl⟩
      rw [← ea589] at EA588 D588 st588
      have ne590 : b400 ≠ a589 := own_ne ea589 V489.lt
      have ne591 : b423 ≠ a589 := own_ne ea589 V490.lt
      have ne592 : b461 ≠ a589 := own_ne ea589 V491.lt
      have g593 : n0 ≤ a589 := by rw [ea589]; exact Z492
      have gh594 : h0.size ≤ a589 := by rw [ea589]; exact K488.1
      have K595 : Keep h0 h588 [] := K488.ext E588
      have V596 : Dar Z h588 b400 .double 3 (fun j => if j = 2 then .double (FP.dadd (FP.i2d p2) (4598175219545276416 : UInt64)) else (fun j => if j = 1 then .double (FP.dadd (FP.i2d p1) (4598175219545276416 : UInt64)) else (fun j => if j = 0 then .double (FP.dadd (FP.i2d p0) (4598175219545276416 : UInt64)) else (fun _ => .double (0 : UInt64)) j) j) j) := Dar.ext E588 V489
      have V597 : Dar Z h588 b423 .boolean 3 (fun j => if j = 2 then .int v450 else (fun j => if j = 1 then .int v441 else (fun j => if j = 0 then .int v432 else (fun _ => .int (0 : Int32)) j) j) j) := Dar.ext E588 V490
      have V598 : Dar Z h588 b461 .double 3 (fun j => if j = 2 then .double (FP.i2d p2) else (fun j => if j = 1 then .double (FP.i2d p1) else (fun j => if j = 0 then .double (FP.i2d p0) else (fun _ => .double (0 : UInt64)) j) j) j) := Dar.ext E588 V491
      have Z599 : n0 ≤ h588.size := Nat.le_trans Z492 E588.1
      have F600 : Fld Z h588 a589 "com/example/swathloom/swathloom/planning/Plan" "rolls" "[D" .null := D588 (Or.inr (hw _ (List.mem_of_getElem? (i := 14) rfl))) (ty := (.array .double)) (by decide)
      have F601 : Fld Z h588 a589 "com/example/swathloom/swathloom/planning/Plan" "used" "[Z" .null := D588 (Or.inr (hw _ (List.mem_of_getElem? (i := 16) rfl))) (ty := (.array .boolean)) (by decide)
      have F602 : Fld Z h588 a589 "com/example/swathloom/swathloom/planning/Plan" "rollVelocities" "[D" .null := D588 (Or.inr (hw _ (List.mem_of_getElem? (i := 18) rfl))) (ty := (.array .double)) (by decide)
      have F603 : Fld Z h588 a589 "com/example/swathloom/swathloom/planning/Plan" "selectionVelocities" "[D" .null := D588 (Or.inr (hw _ (List.mem_of_getElem? (i := 20) rfl))) (ty := (.array .double)) (by decide)
      have F604 : Fld Z h588 a589 "com/example/swathloom/swathloom/planning/Plan" "strips" "I" (.int (0 : Int32)) := D588 (Or.inr (hw _ (List.mem_of_getElem? (i := 22) rfl))) (ty := .int) (by decide)
      refine Go.of (g' := (mkF m 190 #[.val (.int p0), .val (.int p1), .val (.int p2), .val (.int p3), .val (.int v393), .val (.int v396), .val (.ref b400), .val (.ref b423), .val (.ref b461), .val .null, .unset, .unset, .unset, .unset, .unset, .unset, .unset, .unset, .unset, .unset, .unset, .unset, .unset] [(.ref a589)])) st588 ?_
      have A605 := (⟨X588, hx, hby⟩ : Ax _ _ _ _ _ _ _ _ _ _ _ _ _ _ _)
      refine g_dup A605 at_190 rfl (pc' := 191) rfl ?_
      refine g_aload A605 at_191 rfl rfl (pc' := 193) rfl ?_
      refine g_aload A605 at_193 rfl rfl (pc' := 195) rfl ?_
      refine g_aload A605 at_195 rfl rfl (pc' := 197) rfl ?_
      refine g_aload A605 at_197 rfl rfl (pc' := 199) rfl ?_
      obtain ⟨_, _, ⟨T606, L606, k606, n606⟩, -, X606, ⟨L606c, hQ606, l606, y606, z606⟩, st606⟩ := X588.specialBack hx (y := (⟨"com/example/swathloom/swathloom/planning/Plan", "<init>", "([D[Z[D[D)V"⟩ : MethodName)) rfl hown (mvT hZ (hw _ (List.mem_of_getElem? (i := 7) rfl))) (mvT hZ (hw _ (List.mem_of_getElem? (i := 8) rfl))) (mvT hZ (hw _ (List.mem_of_getElem? (i := 9) rfl))) (by decide) (backOf (W := 1) (rm1_01 l Z a0 hw [] a589 b400 b423 b461 (fun j => if j = 2 then .double (FP.i2d p2) else (fun j => if j = 1 then .double (FP.i2d p1) else (fun j => if j = 0 then .double (FP.i2d p0) else (fun _ => .double (0 : UInt64)) j) j) j) (fun j => if j = 2 then .double (FP.dadd (FP.i2d p2) (4598175219545276416 : UInt64)) else (fun j => if j = 1 then .double (FP.dadd (FP.i2d p1) (4598175219545276416 : UInt64)) else (fun j => if j = 0 then .double (FP.dadd (FP.i2d p0) (4598175219545276416 : UInt64)) else (fun _ => .double (0 : UInt64)) j) j) j) (fun j => if j = 2 then .int v450 else (fun j => if j = 1 then .int v441 else (fun j => if j = 0 then .int v432 else (fun _ => .int (0 : Int32)) j) j) j) v432 v441 v450 .null .null .null .null (.int (0 : Int32)) h588 n0 Z599 EA588 F600 F601 F602 F603 F604 g593 V596 V597 ne590 ne591 rfl rfl rfl V598 ne592) hZ (hw _ (List.mem_of_getElem? (i := 9) rfl)) (hw _ (List.mem_of_getElem? (i := 6) rfl)) (by decide) (by decide)) (g := (mkF m 199 #[.val (.int p0), .val (.int p1), .val (.int p2), .val (.int p3), .val (.int v393), .val (.int v396), .val (.ref b400), .val (.ref b423), .val (.ref b461), .val .null, .unset, .unset, .unset, .unset, .unset, .unset, .unset, .unset, .unset, .unset, .unset, .unset, .unset] [.null, (.ref b461), (.ref b423), (.ref b400), (.ref a589), (.ref a589)])) rfl (by rw [hml]; rfl) (Steps.refl _) (a := a589) (argsL := [(.ref b400), (.ref b423), (.ref b461), .null]) (rest := [(.ref a589)]) (lenOf pd_0 rfl) rfl (by show 2 * 0 + _ ≤ _; exact Nat.le_of_eq rfl) (hb hby at_199) (fun _ _ => ⟨rfl, e588, (by decide : 4 + 0 ≤ _), (by decide : 14 + 0 ≤ _)⟩)
      dsimp only [Pt.U, Pt.locs, Pt.cells, Pt.slots] at X606 l606 y606 z606 st606 hQ606
      subst l606 y606 z606
      obtain ⟨rfl, Nq607, Kq608, F609, F610, F611⟩ := hQ606
      have N612 := Fr.app N487 Nq607
      refine Go.tr (g' := (mkF m 202 #[.val (.int p0), .val (.int p1), .val (.int p2), .val (.int p3), .val (.int v393), .val (.int v396), .val (.ref b400), .val (.ref b423), .val (.ref b461), .val .null, .unset, .unset, .unset, .unset, .unset, .unset, .unset, .unset, .unset, .unset, .unset, .unset, .unset] [(.ref a589)])) st606 ?_
      have V613 : Dar Z T606.heap b400 .double 3 (fun j => if j = 2 then .double (FP.dadd (FP.i2d p2) (4598175219545276416 : UInt64)) else (fun j => if j = 1 then .double (FP.dadd (FP.i2d p1) (4598175219545276416 : UInt64)) else (fun j => if j = 0 then .double (FP.dadd (FP.i2d p0) (4598175219545276416 : UInt64)) else (fun _ => .double (0 : UInt64)) j) j) j) := Dar.keep V596 Kq608 (ninS ne590 nin0)
      have V614 : Dar Z T606.heap b423 .boolean 3 (fun j => if j = 2 then .int v450 else (fun j => if j = 1 then .int v441 else (fun j => if j = 0 then .int v432 else (fun _ => .int (0 : Int32)) j) j) j) := Dar.keep V597 Kq608 (ninS ne591 nin0)
      have V615 : Dar Z T606.heap b461 .double 3 (fun j => if j = 2 then .double (FP.i2d p2) else (fun j => if j = 1 then .double (FP.i2d p1) else (fun j => if j = 0 then .double (FP.i2d p0) else (fun _ => .double (0 : UInt64)) j) j) j) := Dar.keep V598 Kq608 (ninS ne592 nin0)
      have E616 : Exa Z T606.heap a589 "com/example/swathloom/swathloom/planning/Plan" := Exa.keep EA588 Kq608
      have Z617 : n0 ≤ T606.heap.size := Nat.le_trans Z599 Kq608.1
      have K618 : Keep h0 T606.heap [] := K595.trans Kq608 (allS (Or.inr gh594) all0)
      have A619 := (⟨X606, hx, hby⟩ : Ax _ _ _ _ _ _ _ _ _ _ _ _ _ _ _)
      refine g_astore A619 at_202 rfl (ls' := #[.val (.int p0), .val (.int p1), .val (.int p2), .val (.int p3), .val (.int v393), .val (.int v396), .val (.ref b400), .val (.ref b423), .val (.ref b461), .val .null, .val (.ref a589), .unset, .unset, .unset, .unset, .unset, .unset, .unset, .unset, .unset, .unset, .unset, .unset]) rfl (pc' := 204) rfl ?_
      refine g_iload A619 at_204 rfl (pc' := 206) rfl ?_
      refine g_ifY A619 at_206 (b0_eq_t hv393 (fun q => q hc459)) (pc' := 213) rfl ?_
      refine g_iloadN A619 at_213 rfl (pc' := 214) rfl ?_
      refine g_i2d A619 at_214 (pc' := 215) rfl ?_
      refine g_dstore A619 at_215 (ls' := #[.val (.int p0), .val (.int p1), .val (.int p2), .val (.int p3), .val (.int v393), .val (.int v396), .val (.ref b400), .val (.ref b423), .val (.ref b461), .val .null, .val (.ref a589), .val (.double (FP.i2d p0)), .second, .unset, .unset, .unset, .unset, .unset, .unset, .unset, .unset, .unset, .unset]) rfl (pc' := 217) rfl ?_
      refine g_iload A619 at_217 rfl (pc' := 219) rfl ?_
      refine g_ifY A619 at_219 (b0_eq_t hv393 (fun q => q hc459)) (pc' := 226) rfl ?_
      refine g_iloadN A619 at_226 rfl (pc' := 227) rfl ?_
      refine g_i2d A619 at_227 (pc' := 228) rfl ?_
      refine g_dstore A619 at_228 (ls' := #[.val (.int p0), .val (.int p1), .val (.int p2), .val (.int p3), .val (.int v393), .val (.int v396), .val (.ref b400), .val (.ref b423), .val (.ref b461), .val .null, .val (.ref a589), .val (.double (FP.i2d p0)), .second, .val (.double (FP.i2d p1)), .second, .unset, .unset, .unset, .unset, .unset, .unset, .unset, .unset]) rfl (pc' := 230) rfl ?_
      refine g_iload A619 at_230 rfl (pc' := 232) rfl ?_
      refine g_ifY A619 at_232 (b0_eq_t hv393 (fun q => q hc459)) (pc' := 239) rfl ?_
      refine g_iloadN A619 at_239 rfl (pc' := 240) rfl ?_
      refine g_i2d A619 at_240 (pc' := 241) rfl ?_
      refine g_dstore A619 at_241 (ls' := #[.val (.int p0), .val (.int p1), .val (.int p2), .val (.int p3), .val (.int v393), .val (.int v396), .val (.ref b400), .val (.ref b423), .val (.ref b461), .val .null, .val (.ref a589), .val (.double (FP.i2d p0)), .second, .val (.double (FP.i2d p1)), .second, .val (.double (FP.i2d p2)), .second, .unset, .unset, .unset, .unset, .unset, .unset]) rfl (pc' := 243) rfl ?_
      refine g_aload A619 at_243 rfl rfl (pc' := 245) rfl ?_
      refine g_iconst A619 at_245 (v := (0 : Int32)) rfl (pc' := 246) rfl ?_
      obtain ⟨cq621, kq621, q621a, q621b, q621c⟩ := isOf hZ rfl E616
      obtain ⟨_, _, ⟨T620, L620, k620, n620⟩, -, X620, ⟨L620c, hQ620, l620, y620, z620⟩, st620⟩ := X606.virtualBack hx (y := (⟨"com/example/swathloom/swathloom/planning/Plan", "rollVelocity", "(I)D"⟩ : MethodName)) (z := (⟨"com/example/swathloom/swathloom/planning/Plan", "rollVelocity", "(I)D"⟩ : MethodName)) hown (mvT hZ (hw _ (List.mem_of_getElem? (i := 23) rfl))) (mvT hZ (hw _ (List.mem_of_getElem? (i := 24) rfl))) (notFace_of_selects (args := #[]) (mvT hZ (hw _ (List.mem_of_getElem? (i := 26) rfl)))) (mvT hZ (hw _ (List.mem_of_getElem? (i := 26) rfl))) (mvT hZ (hw _ (List.mem_of_getElem? (i := 25) rfl))) (by decide) (backOf (W := 0) (rmVr l Z a0 hw [] a589 (0 : Int32) b461 (fun j => if j = 2 then .double (FP.i2d p2) else (fun j => if j = 1 then .double (FP.i2d p1) else (fun j => if j = 0 then .double (FP.i2d p0) else (fun _ => .double (0 : UInt64)) j) j) j) 0 (FP.i2d p0) T606.heap n0 Z617 F610 V615 (by decide) rfl rfl) hZ (hw _ (List.mem_of_getElem? (i := 27) rfl)) (hw _ (List.mem_of_getElem? (i := 6) rfl)) (by decide) (by decide)) q621a q621c (g := (mkF m 246 #[.val (.int p0), .val (.int p1), .val (.int p2), .val (.int p3), .val (.int v393), .val (.int v396), .val (.ref b400), .val (.ref b423), .val (.ref b461), .val .null, .val (.ref a589), .val (.double (FP.i2d p0)), .second, .val (.double (FP.i2d p1)), .second, .val (.double (FP.i2d p2)), .second, .unset, .unset, .unset, .unset, .unset, .unset] [(.int (0 : Int32)), (.ref a589)])) rfl (by rw [hml]; rfl) (Steps.refl _) (argsL := [(.int (0 : Int32))]) (rest := []) (lenOf pd_1 rfl) rfl (by show 2 * 0 + _ ≤ _; exact Nat.le_of_eq rfl) (hb hby at_246) (fun _ _ => ⟨rfl, rfl, (by decide : 4 + 0 ≤ _), (by decide : 14 + 0 ≤ _)⟩)
      dsimp only [Pt.U, Pt.locs, Pt.cells, Pt.slots] at X620 l620 y620 z620 st620 hQ620
      subst l620 y620 z620
      obtain ⟨rfl, Nq622, Kq623⟩ := hQ620
      have N624 := Fr.app N612 Nq622
      refine Go.tr (g' := (mkF m 249 #[.val (.int p0), .val (.int p1), .val (.int p2), .val (.int p3), .val (.int v393), .val (.int v396), .val (.ref b400), .val (.ref b423), .val (.ref b461), .val .null, .val (.ref a589), .val (.double (FP.i2d p0)), .second, .val (.double (FP.i2d p1)), .second, .val (.double (FP.i2d p2)), .second, .unset, .unset, .unset, .unset, .unset, .unset] [(.double (FP.i2d p0))])) st620 ?_
      have e625 : T620.heap = T606.heap := Kq623
      have A626 := (⟨X620, hx, hby⟩ : Ax _ _ _ _ _ _ _ _ _ _ _ _ _ _ _)
      refine g_dstore A626 at_249 (ls' := #[.val (.int p0), .val (.int p1), .val (.int p2), .val (.int p3), .val (.int v393), .val (.int v396), .val (.ref b400), .val (.ref b423), .val (.ref b461), .val .null, .val (.ref a589), .val (.double (FP.i2d p0)), .second, .val (.double (FP.i2d p1)), .second, .val (.double (FP.i2d p2)), .second, .val (.double (FP.i2d p0)), .second, .unset, .unset, .unset, .unset]) rfl (pc' := 251) rfl ?_
      refine g_aload A626 at_251 rfl rfl (pc' := 253) rfl ?_
      refine g_iconst A626 at_253 (v := (1 : Int32)) rfl (pc' := 254) rfl ?_
      obtain ⟨cq628, kq628, q628a, q628b, q628c⟩ := isOf hZ e625 E616
      obtain ⟨_, _, ⟨T627, L627, k627, n627⟩, -, X627, ⟨L627c, hQ627, l627, y627, z627⟩, st627⟩ := X620.virtualBack hx (y := (⟨"com/example/swathloom/swathloom/planning/Plan", "rollVelocity", "(I)D"⟩ : MethodName)) (z := (⟨"com/example/swathloom/swathloom/planning/Plan", "rollVelocity", "(I)D"⟩ : MethodName)) hown (mvT hZ (hw _ (List.mem_of_getElem? (i := 23) rfl))) (mvT hZ (hw _ (List.mem_of_getElem? (i := 24) rfl))) (notFace_of_selects (args := #[]) (mvT hZ (hw _ (List.mem_of_getElem? (i := 26) rfl)))) (mvT hZ (hw _ (List.mem_of_getElem? (i := 26) rfl))) (mvT hZ (hw _ (List.mem_of_getElem? (i := 25) rfl))) (by decide) (backOf (W := 0) (rmVr l Z a0 hw [] a589 (1 : Int32) b461 (fun j => if j = 2 then .double (FP.i2d p2) else (fun j => if j = 1 then .double (FP.i2d p1) else (fun j => if j = 0 then .double (FP.i2d p0) else (fun _ => .double (0 : UInt64)) j) j) j) 1 (FP.i2d p1) T606.heap n0 Z617 F610 V615 (by decide) rfl rfl) hZ (hw _ (List.mem_of_getElem? (i := 27) rfl)) (hw _ (List.mem_of_getElem? (i := 6) rfl)) (by decide) (by decide)) q628a q628c (g := (mkF m 254 #[.val (.int p0), .val (.int p1), .val (.int p2), .val (.int p3), .val (.int v393), .val (.int v396), .val (.ref b400), .val (.ref b423), .val (.ref b461), .val .null, .val (.ref a589), .val (.double (FP.i2d p0)), .second, .val (.double (FP.i2d p1)), .second, .val (.double (FP.i2d p2)), .second, .val (.double (FP.i2d p0)), .second, .unset, .unset, .unset, .unset] [(.int (1 : Int32)), (.ref a589)])) rfl (by rw [hml]; rfl) (Steps.refl _) (argsL := [(.int (1 : Int32))]) (rest := []) (lenOf pd_1 rfl) rfl (by show 2 * 0 + _ ≤ _; exact Nat.le_of_eq rfl) (hb hby at_254) (fun _ _ => ⟨rfl, e625, (by decide : 4 + 0 ≤ _), (by decide : 14 + 0 ≤ _)⟩)
      dsimp only [Pt.U, Pt.locs, Pt.cells, Pt.slots] at X627 l627 y627 z627 st627 hQ627
      subst l627 y627 z627
      obtain ⟨rfl, Nq629, Kq630⟩ := hQ627
      have N631 := Fr.app N624 Nq629
      refine Go.tr (g' := (mkF m 257 #[.val (.int p0), .val (.int p1), .val (.int p2), .val (.int p3), .val (.int v393), .val (.int v396), .val (.ref b400), .val (.ref b423), .val (.ref b461), .val .null, .val (.ref a589), .val (.double (FP.i2d p0)), .second, .val (.double (FP.i2d p1)), .second, .val (.double (FP.i2d p2)), .second, .val (.double (FP.i2d p0)), .second, .unset, .unset, .unset, .unset] [(.double (FP.i2d p1))])) st627 ?_
      have e632 : T627.heap = T606.heap := Kq630
      have A633 := (⟨X627, hx, hby⟩ : Ax _ _ _ _ _ _ _ _ _ _ _ _ _ _ _)
      refine g_dstore A633 at_257 (ls' := #[.val (.int p0), .val (.int p1), .val (.int p2), .val (.int p3), .val (.int v393), .val (.int v396), .val (.ref b400), .val (.ref b423), .val (.ref b461), .val .null, .val (.ref a589), .val (.double (FP.i2d p0)), .second, .val (.double (FP.i2d p1)), .second, .val (.double (FP.i2d p2)), .second, .val (.double (FP.i2d p0)), .second, .val (.double (FP.i2d p1)), .second, .unset, .unset]) rfl (pc' := 259) rfl ?_
      refine g_aload A633 at_259 rfl rfl (pc' := 261) rfl ?_
      refine g_iconst A633 at_261 (v := (2 : Int32)) rfl (pc' := 262) rfl ?_
      obtain ⟨cq635, kq635, q635a, q635b, q635c⟩ := isOf hZ e632 E616
      obtain ⟨_, _, ⟨T634, L634, k634, n634⟩, -, X634, ⟨L634c, hQ634, l634, y634, z634⟩, st634⟩ := X627.virtualBack hx (y := (⟨"com/example/swathloom/swathloom/planning/Plan", "rollVelocity", "(I)D"⟩ : MethodName)) (z := (⟨"com/example/swathloom/swathloom/planning/Plan", "rollVelocity", "(I)D"⟩ : MethodName)) hown (mvT hZ (hw _ (List.mem_of_getElem? (i := 23) rfl))) (mvT hZ (hw _ (List.mem_of_getElem? (i := 24) rfl))) (notFace_of_selects (args := #[]) (mvT hZ (hw _ (List.mem_of_getElem? (i := 26) rfl)))) (mvT hZ (hw _ (List.mem_of_getElem? (i := 26) rfl))) (mvT hZ (hw _ (List.mem_of_getElem? (i := 25) rfl))) (by decide) (backOf (W := 0) (rmVr l Z a0 hw [] a589 (2 : Int32) b461 (fun j => if j = 2 then .double (FP.i2d p2) else (fun j => if j = 1 then .double (FP.i2d p1) else (fun j => if j = 0 then .double (FP.i2d p0) else (fun _ => .double (0 : UInt64)) j) j) j) 2 (FP.i2d p2) T606.heap n0 Z617 F610 V615 (by decide) rfl rfl) hZ (hw _ (List.mem_of_getElem? (i := 27) rfl)) (hw _ (List.mem_of_getElem? (i := 6) rfl)) (by decide) (by decide)) q635a q635c (g := (mkF m 262 #[.val (.int p0), .val (.int p1), .val (.int p2), .val (.int p3), .val (.int v393), .val (.int v396), .val (.ref b400), .val (.ref b423), .val (.ref b461), .val .null, .val (.ref a589), .val (.double (FP.i2d p0)), .second, .val (.double (FP.i2d p1)), .second, .val (.double (FP.i2d p2)), .second, .val (.double (FP.i2d p0)), .second, .val (.double (FP.i2d p1)), .second, .unset, .unset] [(.int (2 : Int32)), (.ref a589)])) rfl (by rw [hml]; rfl) (Steps.refl _) (argsL := [(.int (2 : Int32))]) (rest := []) (lenOf pd_1 rfl) rfl (by show 2 * 0 + _ ≤ _; exact Nat.le_of_eq rfl) (hb hby at_262) (fun _ _ => ⟨rfl, e632, (by decide : 4 + 0 ≤ _), (by decide : 14 + 0 ≤ _)⟩)
      dsimp only [Pt.U, Pt.locs, Pt.cells, Pt.slots] at X634 l634 y634 z634 st634 hQ634
      subst l634 y634 z634
      obtain ⟨rfl, Nq636, Kq637⟩ := hQ634
      have N638 := Fr.app N631 Nq636
      refine Go.tr (g' := (mkF m 265 #[.val (.int p0), .val (.int p1), .val (.int p2), .val (.int p3), .val (.int v393), .val (.int v396), .val (.ref b400), .val (.ref b423), .val (.ref b461), .val .null, .val (.ref a589), .val (.double (FP.i2d p0)), .second, .val (.double (FP.i2d p1)), .second, .val (.double (FP.i2d p2)), .second, .val (.double (FP.i2d p0)), .second, .val (.double (FP.i2d p1)), .second, .unset, .unset] [(.double (FP.i2d p2))])) st634 ?_
      have e639 : T634.heap = T606.heap := Kq637
      have A640 := (⟨X634, hx, hby⟩ : Ax _ _ _ _ _ _ _ _ _ _ _ _ _ _ _)
      refine g_dstore A640 at_265 (ls' := #[.val (.int p0), .val (.int p1), .val (.int p2), .val (.int p3), .val (.int v393), .val (.int v396), .val (.ref b400), .val (.ref b423), .val (.ref b461), .val .null, .val (.ref a589), .val (.double (FP.i2d p0)), .second, .val (.double (FP.i2d p1)), .second, .val (.double (FP.i2d p2)), .second, .val (.double (FP.i2d p0)), .second, .val (.double (FP.i2d p1)), .second, .val (.double (FP.i2d p2)), .second]) rfl (pc' := 267) rfl ?_
      refine g_dload A640 at_267 rfl (pc' := 269) rfl ?_
      refine g_dload A640 at_269 rfl (pc' := 271) rfl ?_
      refine g_dcmp A640 at_271 (pc' := 272) rfl ?_
      refine g_ifN A640 at_272 (d_l_ne_f (own_self (i2d_fin p0))) (pc' := 275) rfl ?_
      refine g_dload A640 at_275 rfl (pc' := 277) rfl ?_
      refine g_dload A640 at_277 rfl (pc' := 279) rfl ?_
      refine g_dcmp A640 at_279 (pc' := 280) rfl ?_
      refine g_ifN A640 at_280 (d_l_ne_f (own_self (i2d_fin p1))) (pc' := 283) rfl ?_
      refine g_dload A640 at_283 rfl (pc' := 285) rfl ?_
      refine g_dload A640 at_285 rfl (pc' := 287) rfl ?_
      refine g_dcmp A640 at_287 (pc' := 288) rfl ?_
      refine g_ifN A640 at_288 (d_l_ne_f (own_self (i2d_fin p2))) (pc' := 291) rfl ?_
      refine g_iconst A640 at_291 (v := (1 : Int32)) rfl (pc' := 292) rfl ?_
      refine g_goto A640 at_292 (pc' := 296) rfl ?_
      exact g_ret (Q := Q0 Z p0 p1 p2 p3 h0 n0) A640 at_296 Bd.notSynchronized Bd.returns rfl (Or.inl ⟨rfl, by simp, _, rfl⟩) (by decide) (by decide) (by rw [e639]; exact ⟨rfl, N638⟩)
  · skip
    refine g_ifY A453 at_118 (b0_ne_t hv393 hc459) (pc' := 144) rfl ?_
    refine g_aconst A453 at_144 (pc' := 145) rfl ?_
    refine g_astore A453 at_145 rfl (ls' := #[.val (.int p0), .val (.int p1), .val (.int p2), .val (.int p3), .val (.int v393), .val (.int v396), .val (.ref b400), .val (.ref b423), .val .null, .val .null, .unset, .unset, .unset, .unset, .unset, .unset, .unset, .unset, .unset, .unset, .unset, .unset, .unset]) rfl (pc' := 147) rfl ?_
    refine g_iload A453 at_147 rfl (pc' := 149) rfl ?_
    by_cases hc641 : (p3 &&& (2 : Int32)) = 0
    · skip
      refine g_ifN A453 at_149 (b0_ne_f hv396 (fun q => q hc641)) (pc' := 152) rfl ?_
      refine g_iconst A453 at_152 (v := (3 : Int32)) rfl (pc' := 153) rfl ?_
      obtain ⟨T642, h642, k642, X642, e642, E642, Ar642, st642⟩ := newP A453.1 hx hZ (hw _ (List.mem_of_getElem? (i := 0) rfl)) e453 (g := (mkF m 153 #[.val (.int p0), .val (.int p1), .val (.int p2), .val (.int p3), .val (.int v393), .val (.int v396), .val (.ref b400), .val (.ref b423), .val .null, .val .null, .unset, .unset, .unset, .unset, .unset, .unset, .unset, .unset, .unset, .unset, .unset, .unset, .unset] [(.int (3 : Int32))])) rfl (hb hby at_153) rfl (by decide) (cap := 3) (by decide) (by decide) (by decide) (by decide)
      obtain ⟨b643, eb643⟩ : ∃ z, z = h453.size := ⟨_, rfl⟩
      rw [← eb643] at Ar642 st642
      have ne644 : b400 ≠ b643 := own_ne eb643 V456.lt
      have ne645 : b423 ≠ b643 := own_ne eb643 V457.lt
      have g646 : n0 ≤ b643 := by rw [eb643]; exact Z458
      have gh647 : h0.size ≤ b643 := by rw [eb643]; exact K455.1
      have K648 : Keep h0 h642 [] := K455.ext E642
      have V649 : Dar Z h642 b400 .double 3 (fun j => if j = 2 then .double (FP.dadd (FP.i2d p2) (4598175219545276416 : UInt64)) else (fun j => if j = 1 then .double (FP.dadd (FP.i2d p1) (4598175219545276416 : UInt64)) else (fun j => if j = 0 then .double (FP.dadd (FP.i2d p0) (4598175219545276416 : UInt64)) else (fun _ => .double (0 : UInt64)) j) j) j) := Dar.ext E642 V456
      have V650 : Dar Z h642 b423 .boolean 3 (fun j => if j = 2 then .int v450 else (fun j => if j = 1 then .int v441 else (fun j => if j = 0 then .int v432 else (fun _ => .int (0 : Int32)) j) j) j) := Dar.ext E642 V457
      have Z651 : n0 ≤ h642.size := Nat.le_trans Z458 E642.1
      have V652 : Dar Z h642 b643 .double 3 (fun _ => .double (0 : UInt64)) := Dar.new Ar642 (by decide)
      refine Go.of (g' := (mkF m 155 #[.val (.int p0), .val (.int p1), .val (.int p2), .val (.int p3), .val (.int v393), .val (.int v396), .val (.ref b400), .val (.ref b423), .val .null, .val .null, .unset, .unset, .unset, .unset, .unset, .unset, .unset, .unset, .unset, .unset, .unset, .unset, .unset] [(.ref b643)])) st642 ?_
      have A653 := (⟨X642, hx, hby⟩ : Ax _ _ _ _ _ _ _ _ _ _ _ _ _ _ _)
      refine g_astore A653 at_155 rfl (ls' := #[.val (.int p0), .val (.int p1), .val (.int p2), .val (.int p3), .val (.int v393), .val (.int v396), .val (.ref b400), .val (.ref b423), .val .null, .val (.ref b643), .unset, .unset, .unset, .unset, .unset, .unset, .unset, .unset, .unset, .unset, .unset, .unset, .unset]) rfl (pc' := 157) rfl ?_
      refine g_aload A653 at_157 rfl rfl (pc' := 159) rfl ?_
      refine g_iconst A653 at_159 (v := (0 : Int32)) rfl (pc' := 160) rfl ?_
      refine g_iloadN A653 at_160 rfl (pc' := 161) rfl ?_
      refine g_i2d A653 at_161 (pc' := 162) rfl ?_
      refine g_ldcD A653 hZ hown (hw _ (List.mem_of_getElem? (i := 3) rfl)) at_162 (pc' := 165) rfl ?_
      refine g_dadd A653 at_165 (own_ndadd (i2d_fin p0) (by unfold Fin64; decide : Fin64 (4602678819172646912 : UInt64))) (pc' := 166) rfl ?_
      obtain ⟨T654, h654, A654, e654, W654, st654⟩ := s_dastore A653 hZ e642 (ls := #[.val (.int p0), .val (.int p1), .val (.int p2), .val (.int p3), .val (.int v393), .val (.int v396), .val (.ref b400), .val (.ref b423), .val .null, .val (.ref b643), .unset, .unset, .unset, .unset, .unset, .unset, .unset, .unset, .unset, .unset, .unset, .unset, .unset]) (st := []) (x := (FP.dadd (FP.i2d p0) (4602678819172646912 : UInt64))) V652 (i := 0) (by decide) (j := (0 : Int32)) rfl at_166 (pc' := 167) rfl
      have N655 := Fr.snoc A654.1 N454 g646
      have K656 : Keep h0 h654 [] := K648.wr W654 (Or.inr gh647)
      have V657 : Dar Z h654 b400 .double 3 (fun j => if j = 2 then .double (FP.dadd (FP.i2d p2) (4598175219545276416 : UInt64)) else (fun j => if j = 1 then .double (FP.dadd (FP.i2d p1) (4598175219545276416 : UInt64)) else (fun j => if j = 0 then .double (FP.dadd (FP.i2d p0) (4598175219545276416 : UInt64)) else (fun _ => .double (0 : UInt64)) j) j) j) := Dar.other W654 V649 ne644
      have V658 : Dar Z h654 b423 .boolean 3 (fun j => if j = 2 then .int v450 else (fun j => if j = 1 then .int v441 else (fun j => if j = 0 then .int v432 else (fun _ => .int (0 : Int32)) j) j) j) := Dar.other W654 V650 ne645
      have V659 : Dar Z h654 b643 .double 3 (fun j => if j = 0 then .double (FP.dadd (FP.i2d p0) (4602678819172646912 : UInt64)) else (fun _ => .double (0 : UInt64)) j) := Dar.set V652 W654 (fun _ _ => rfl)
      have Z660 : n0 ≤ h654.size := by rw [W654.size]; exact Z651
      refine st654 ?_
      refine g_aload A654 at_167 rfl rfl (pc' := 169) rfl ?_
      refine g_iconst A654 at_169 (v := (1 : Int32)) rfl (pc' := 170) rfl ?_
      refine g_iloadN A654 at_170 rfl (pc' := 171) rfl ?_
      refine g_i2d A654 at_171 (pc' := 172) rfl ?_
      refine g_ldcD A654 hZ hown (hw _ (List.mem_of_getElem? (i := 3) rfl)) at_172 (pc' := 175) rfl ?_
      refine g_dadd A654 at_175 (own_ndadd (i2d_fin p1) (by unfold Fin64; decide : Fin64 (4602678819172646912 : UInt64))) (pc' := 176) rfl ?_
      obtain ⟨T661, h661, A661, e661, W661, st661⟩ := s_dastore A654 hZ e654 (ls := #[.val (.int p0), .val (.int p1), .val (.int p2), .val (.int p3), .val (.int v393), .val (.int v396), .val (.ref b400), .val (.ref b423), .val .null, .val (.ref b643), .unset, .unset, .unset, .unset, .unset, .unset, .unset, .unset, .unset, .unset, .unset, .unset, .unset]) (st := []) (x := (FP.dadd (FP.i2d p1) (4602678819172646912 : UInt64))) V659 (i := 1) (by decide) (j := (1 : Int32)) rfl at_176 (pc' := 177) rfl
      have N662 := Fr.snoc A661.1 N655 g646
      have K663 : Keep h0 h661 [] := K656.wr W661 (Or.inr gh647)
      have V664 : Dar Z h661 b400 .double 3 (fun j => if j = 2 then .double (FP.dadd (FP.i2d p2) (4598175219545276416 : UInt64)) else (fun j => if j = 1 then .double (FP.dadd (FP.i2d p1) (4598175219545276416 : UInt64)) else (fun j => if j = 0 then .double (FP.dadd (FP.i2d p0) (4598175219545276416 : UInt64)) else (fun _ => .double (0 : UInt64)) j) j) j) := Dar.other W661 V657 ne644
      have V665 : Dar Z h661 b423 .boolean 3 (fun j => if j = 2 then .int v450 else (fun j => if j = 1 then .int v441 else (fun j => if j = 0 then .int v432 else (fun _ => .int (0 : Int32)) j) j) j) := Dar.other W661 V658 ne645
      have V666 : Dar Z h661 b643 .double 3 (fun j => if j = 1 then .double (FP.dadd (FP.i2d p1) (4602678819172646912 : UInt64)) else (fun j => if j = 0 then .double (FP.dadd (FP.i2d p0) (4602678819172646912 : UInt64)) else (fun _ => .double (0 : UInt64)) j) j) := Dar.set V659 W661 (fun _ _ => rfl)
      have Z667 : n0 ≤ h661.size := by rw [W661.size]; exact Z660
      refine st661 ?_
      refine g_aload A661 at_177 rfl rfl (pc' := 179) rfl ?_
      refine g_iconst A661 at_179 (v := (2 : Int32)) rfl (pc' := 180) rfl ?_
      refine g_iloadN A661 at_180 rfl (pc' := 181) rfl ?_
      refine g_i2d A661 at_181 (pc' := 182) rfl ?_
      refine g_ldcD A661 hZ hown (hw _ (List.mem_of_getElem? (i := 3) rfl)) at_182 (pc' := 185) rfl ?_
      refine g_dadd A661 at_185 (own_ndadd (i2d_fin p2) (by unfold Fin64; decide : Fin64 (4602678819172646912 : UInt64))) (pc' := 186) rfl ?_
      obtain ⟨T668, h668, A668, e668, W668, st668⟩ := s_dastore A661 hZ e661 (ls := #[.val (.int p0), .val (.int p1), .val (.int p2), .val (.int p3), .val (.int v393), .val (.int v396), .val (.ref b400), .val (.ref b423), .val .null, .val (.ref b643), .unset, .unset, .unset, .unset, .unset, .unset, .unset, .unset, .unset, .unset, .unset, .unset, .unset]) (st := []) (x := (FP.dadd (FP.i2d p2) (4602678819172646912 : UInt64))) V666 (i := 2) (by decide) (j := (2 : Int32)) rfl at_186 (pc' := 187) rfl
      have N669 := Fr.snoc A668.1 N662 g646
      have K670 : Keep h0 h668 [] := K663.wr W668 (Or.inr gh647)
      have V671 : Dar Z h668 b400 .double 3 (fun j => if j = 2 then .double (FP.dadd (FP.i2d p2) (4598175219545276416 : UInt64)) else (fun j => if j = 1 then .double (FP.dadd (FP.i2d p1) (4598175219545276416 : UInt64)) else (fun j => if j = 0 then .double (FP.dadd (FP.i2d p0) (4598175219545276416 : UInt64)) else (fun _ => .double (0 : UInt64)) j) j) j) := Dar.other W668 V664 ne644
      have V672 : Dar Z h668 b423 .boolean 3 (fun j => if j = 2 then .int v450 else (fun j => if j = 1 then .int v441 else (fun j => if j = 0 then .int v432 else (fun _ => .int (0 : Int32)) j) j) j) := Dar.other W668 V665 ne645
      have V673 : Dar Z h668 b643 .double 3 (fun j => if j = 2 then .double (FP.dadd (FP.i2d p2) (4602678819172646912 : UInt64)) else (fun j => if j = 1 then .double (FP.dadd (FP.i2d p1) (4602678819172646912 : UInt64)) else (fun j => if j = 0 then .double (FP.dadd (FP.i2d p0) (4602678819172646912 : UInt64)) else (fun _ => .double (0 : UInt64)) j) j) j) := Dar.set V666 W668 (fun _ _ => rfl)
      have Z674 : n0 ≤ h668.size := by rw [W668.size]; exact Z667
      refine st668 ?_
      obtain ⟨T675, h675, X675, e675, E675, EA675, D675, -, st675⟩ := newO A668.1 hx hZ hown (hw _ (List.mem_of_getElem? (i := 4) rfl)) (hw _ (List.mem_of_getElem? (i := 5) rfl)) (hw _ (List.mem_of_getElem? (i := 6) rfl)) e668 (g := (mkF m 187 #[.val (.int p0), .val (.int p1), .val (.int p2), .val (.int p3), .val (.int v393), .val (.int v396), .val (.ref b400), .val (.ref b423), .val .null, .val (.ref b643), .unset, .unset, .unset, .unset, .unset, .unset, .unset, .unset, .unset, .unset, .unset, .unset, .unset] [])) rfl (hb hby at_187) (by decide) (by decide)
      obtain ⟨a676, ea676⟩ : ∃ z, z = h668.size := ⟨_, rfl⟩
      rw [← ea676] at EA675 D675 st675
      have ne677 : b400 ≠ a676 := own_ne ea676 V671.lt
      have ne678 : b423 ≠ a676 := own_ne ea676 V672.lt
      have ne679 : b643 ≠ a676 := own_ne ea676 V673.lt
      have g680 : n0 ≤ a676 := by rw [ea676]; exact Z674
      have gh681 : h0.size ≤ a676 := by rw [ea676]; exact K670.1
      have K682 : Keep h0 h675 [] := K670.ext E675
      have V683 : Dar Z h675 b400 .double 3 (fun j => if j = 2 then .double (FP.dadd (FP.i2d p2) (4598175219545276416 : UInt64)) else (fun j => if j = 1 then .double (FP.dadd (FP.i2d p1) (4598175219545276416 : UInt64)) else (fun j => if j = 0 then .double (FP.dadd (FP.i2d p0) (4598175219545276416 : UInt64)) else (fun _ => .double (0 : UInt64)) j) j) j) := Dar.ext E675 V671
      have V684 : Dar Z h675 b423 .boolean 3 (fun j => if j = 2 then .int v450 else (fun j => if j = 1 then .int v441 else (fun j => if j = 0 then .int v432 else (fun _ => .int (0 : Int32)) j) j) j) := Dar.ext E675 V672
      have V685 : Dar Z h675 b643 .double 3 (fun j => if j = 2 then .double (FP.dadd (FP.i2d p2) (4602678819172646912 : UInt64)) else (fun j => if j = 1 then .double (FP.dadd (FP.i2d p1) (4602678819172646912 : UInt64)) else (fun j => if j = 0 then .double (FP.dadd (FP.i2d p0) (4602678819172646912 : UInt64)) else (fun _ => .double (0 : UInt64)) j) j) j) := Dar.ext E675 V673
      have Z686 : n0 ≤ h675.size := Nat.le_trans Z674 E675.1
      have F687 : Fld Z h675 a676 "com/example/swathloom/swathloom/planning/Plan" "rolls" "[D" .null := D675 (Or.inr (hw _ (List.mem_of_getElem? (i := 14) rfl))) (ty := (.array .double)) (by decide)
      have F688 : Fld Z h675 a676 "com/example/swathloom/swathloom/planning/Plan" "used" "[Z" .null := D675 (Or.inr (hw _ (List.mem_of_getElem? (i := 16) rfl))) (ty := (.array .boolean)) (by decide)
      have F689 : Fld Z h675 a676 "com/example/swathloom/swathloom/planning/Plan" "rollVelocities" "[D" .null := D675 (Or.inr (hw _ (List.mem_of_getElem? (i := 18) rfl))) (ty := (.array .double)) (by decide)
      have F690 : Fld Z h675 a676 "com/example/swathloom/swathloom/planning/Plan" "selectionVelocities" "[D" .null := D675 (Or.inr (hw _ (List.mem_of_getElem? (i := 20) rfl))) (ty := (.array .double)) (by decide)
      have F691 : Fld Z h675 a676 "com/example/swathloom/swathloom/planning/Plan" "strips" "I" (.int (0 : Int32)) := D675 (Or.inr (hw _ (List.mem_of_getElem? (i := 22) rfl))) (ty := .int) (by decide)
      refine Go.of (g' := (mkF m 190 #[.val (.int p0), .val (.int p1), .val (.int p2), .val (.int p3), .val (.int v393), .val (.int v396), .val (.ref b400), .val (.ref b423), .val .null, .val (.ref b643), .unset, .unset, .unset, .unset, .unset, .unset, .unset, .unset, .unset, .unset, .unset, .unset, .unset] [(.ref a676)])) st675 ?_
      have A692 := (⟨X675, hx, hby⟩ : Ax _ _ _ _ _ _ _ _ _ _ _ _ _ _ _)
      refine g_dup A692 at_190 rfl (pc' := 191) rfl ?_
      refine g_aload A692 at_191 rfl rfl (pc' := 193) rfl ?_
      refine g_aload A692 at_193 rfl rfl (pc' := 195) rfl ?_
      refine g_aload A692 at_195 rfl rfl (pc' := 197) rfl ?_
      refine g_aload A692 at_197 rfl rfl (pc' := 199) rfl ?_
      obtain ⟨_, _, ⟨T693, L693, k693, n693⟩, -, X693, ⟨L693c, hQ693, l693, y693, z693⟩, st693⟩ := X675.specialBack hx (y := (⟨"com/example/swathloom/swathloom/planning/Plan", "<init>", "([D[Z[D[D)V"⟩ : MethodName)) rfl hown (mvT hZ (hw _ (List.mem_of_getElem? (i := 7) rfl))) (mvT hZ (hw _ (List.mem_of_getElem? (i := 8) rfl))) (mvT hZ (hw _ (List.mem_of_getElem? (i := 9) rfl))) (by decide) (backOf (W := 1) (rm1_10 l Z a0 hw [] a676 b400 b423 b643 (fun j => if j = 2 then .double (FP.dadd (FP.i2d p2) (4602678819172646912 : UInt64)) else (fun j => if j = 1 then .double (FP.dadd (FP.i2d p1) (4602678819172646912 : UInt64)) else (fun j => if j = 0 then .double (FP.dadd (FP.i2d p0) (4602678819172646912 : UInt64)) else (fun _ => .double (0 : UInt64)) j) j) j) (fun j => if j = 2 then .double (FP.dadd (FP.i2d p2) (4598175219545276416 : UInt64)) else (fun j => if j = 1 then .double (FP.dadd (FP.i2d p1) (4598175219545276416 : UInt64)) else (fun j => if j = 0 then .double (FP.dadd (FP.i2d p0) (4598175219545276416 : UInt64)) else (fun _ => .double (0 : UInt64)) j) j) j) (fun j => if j = 2 then .int v450 else (fun j => if j = 1 then .int v441 else (fun j => if j = 0 then .int v432 else (fun _ => .int (0 : Int32)) j) j) j) v432 v441 v450 .null .null .null .null (.int (0 : Int32)) h675 n0 Z686 EA675 F687 F688 F689 F690 F691 g680 V683 V684 ne677 ne678 rfl rfl rfl V685 ne679) hZ (hw _ (List.mem_of_getElem? (i := 9) rfl)) (hw _ (List.mem_of_getElem? (i := 6) rfl)) (by decide) (by decide)) (g := (mkF m 199 #[.val (.int p0), .val (.int p1), .val (.int p2), .val (.int p3), .val (.int v393), .val (.int v396), .val (.ref b400), .val (.ref b423), .val .null, .val (.ref b643), .unset, .unset, .unset, .unset, .unset, .unset, .unset, .unset, .unset, .unset, .unset, .unset, .unset] [(.ref b643), .null, (.ref b423), (.ref b400), (.ref a676), (.ref a676)])) rfl (by rw [hml]; rfl) (Steps.refl _) (a := a676) (argsL := [(.ref b400), (.ref b423), .null, (.ref b643)]) (rest := [(.ref a676)]) (lenOf pd_0 rfl) rfl (by show 2 * 0 + _ ≤ _; exact Nat.le_of_eq rfl) (hb hby at_199) (fun _ _ => ⟨rfl, e675, (by decide : 4 + 0 ≤ _), (by decide : 14 + 0 ≤ _)⟩)
      dsimp only [Pt.U, Pt.locs, Pt.cells, Pt.slots] at X693 l693 y693 z693 st693 hQ693
      subst l693 y693 z693
      obtain ⟨rfl, Nq694, Kq695, F696, F697, F698⟩ := hQ693
      have N699 := Fr.app N669 Nq694
      refine Go.tr (g' := (mkF m 202 #[.val (.int p0), .val (.int p1), .val (.int p2), .val (.int p3), .val (.int v393), .val (.int v396), .val (.ref b400), .val (.ref b423), .val .null, .val (.ref b643), .unset, .unset, .unset, .unset, .unset, .unset, .unset, .unset, .unset, .unset, .unset, .unset, .unset] [(.ref a676)])) st693 ?_
      have V700 : Dar Z T693.heap b400 .double 3 (fun j => if j = 2 then .double (FP.dadd (FP.i2d p2) (4598175219545276416 : UInt64)) else (fun j => if j = 1 then .double (FP.dadd (FP.i2d p1) (4598175219545276416 : UInt64)) else (fun j => if j = 0 then .double (FP.dadd (FP.i2d p0) (4598175219545276416 : UInt64)) else (fun _ => .double (0 : UInt64)) j) j) j) := Dar.keep V683 Kq695 (ninS ne677 nin0)
      have V701 : Dar Z T693.heap b423 .boolean 3 (fun j => if j = 2 then .int v450 else (fun j => if j = 1 then .int v441 else (fun j => if j = 0 then .int v432 else (fun _ => .int (0 : Int32)) j) j) j) := Dar.keep V684 Kq695 (ninS ne678 nin0)
      have V702 : Dar Z T693.heap b643 .double 3 (fun j => if j = 2 then .double (FP.dadd (FP.i2d p2) (4602678819172646912 : UInt64)) else (fun j => if j = 1 then .double (FP.dadd (FP.i2d p1) (4602678819172646912 : UInt64)) else (fun j => if j = 0 then .double (FP.dadd (FP.i2d p0) (4602678819172646912 : UInt64)) else (fun _ => .double (0 : UInt64)) j) j) j) := Dar.keep V685 Kq695 (ninS ne679 nin0)
      have E703 : Exa Z T693.heap a676 "com/example/swathloom/swathloom/planning/Plan" := Exa.keep EA675 Kq695
      have Z704 : n0 ≤ T693.heap.size := Nat.le_trans Z686 Kq695.1
      have K705 : Keep h0 T693.heap [] := K682.trans Kq695 (allS (Or.inr gh681) all0)
      have A706 := (⟨X693, hx, hby⟩ : Ax _ _ _ _ _ _ _ _ _ _ _ _ _ _ _)
      refine g_astore A706 at_202 rfl (ls' := #[.val (.int p0), .val (.int p1), .val (.int p2), .val (.int p3), .val (.int v393), .val (.int v396), .val (.ref b400), .val (.ref b423), .val .null, .val (.ref b643), .val (.ref a676), .unset, .unset, .unset, .unset, .unset, .unset, .unset, .unset, .unset, .unset, .unset, .unset]) rfl (pc' := 204) rfl ?_
      refine g_iload A706 at_204 rfl (pc' := 206) rfl ?_
      refine g_ifN A706 at_206 (b0_eq_f hv393 hc459) (pc' := 209) rfl ?_
      refine g_dconst0 A706 at_209 (pc' := 210) rfl ?_
      refine g_goto A706 at_210 (pc' := 215) rfl ?_
      refine g_dstore A706 at_215 (ls' := #[.val (.int p0), .val (.int p1), .val (.int p2), .val (.int p3), .val (.int v393), .val (.int v396), .val (.ref b400), .val (.ref b423), .val .null, .val (.ref b643), .val (.ref a676), .val (.double (0 : UInt64)), .second, .unset, .unset, .unset, .unset, .unset, .unset, .unset, .unset, .unset, .unset]) rfl (pc' := 217) rfl ?_
      refine g_iload A706 at_217 rfl (pc' := 219) rfl ?_
      refine g_ifN A706 at_219 (b0_eq_f hv393 hc459) (pc' := 222) rfl ?_
      refine g_dconst0 A706 at_222 (pc' := 223) rfl ?_
      refine g_goto A706 at_223 (pc' := 228) rfl ?_
      refine g_dstore A706 at_228 (ls' := #[.val (.int p0), .val (.int p1), .val (.int p2), .val (.int p3), .val (.int v393), .val (.int v396), .val (.ref b400), .val (.ref b423), .val .null, .val (.ref b643), .val (.ref a676), .val (.double (0 : UInt64)), .second, .val (.double (0 : UInt64)), .second, .unset, .unset, .unset, .unset, .unset, .unset, .unset, .unset]) rfl (pc' := 230) rfl ?_
      refine g_iload A706 at_230 rfl (pc' := 232) rfl ?_
      refine g_ifN A706 at_232 (b0_eq_f hv393 hc459) (pc' := 235) rfl ?_
      refine g_dconst0 A706 at_235 (pc' := 236) rfl ?_
      refine g_goto A706 at_236 (pc' := 241) rfl ?_
      refine g_dstore A706 at_241 (ls' := #[.val (.int p0), .val (.int p1), .val (.int p2), .val (.int p3), .val (.int v393), .val (.int v396), .val (.ref b400), .val (.ref b423), .val .null, .val (.ref b643), .val (.ref a676), .val (.double (0 : UInt64)), .second, .val (.double (0 : UInt64)), .second, .val (.double (0 : UInt64)), .second, .unset, .unset, .unset, .unset, .unset, .unset]) rfl (pc' := 243) rfl ?_
      refine g_aload A706 at_243 rfl rfl (pc' := 245) rfl ?_
      refine g_iconst A706 at_245 (v := (0 : Int32)) rfl (pc' := 246) rfl ?_
      obtain ⟨cq708, kq708, q708a, q708b, q708c⟩ := isOf hZ rfl E703
      obtain ⟨_, _, ⟨T707, L707, k707, n707⟩, -, X707, ⟨L707c, hQ707, l707, y707, z707⟩, st707⟩ := X693.virtualBack hx (y := (⟨"com/example/swathloom/swathloom/planning/Plan", "rollVelocity", "(I)D"⟩ : MethodName)) (z := (⟨"com/example/swathloom/swathloom/planning/Plan", "rollVelocity", "(I)D"⟩ : MethodName)) hown (mvT hZ (hw _ (List.mem_of_getElem? (i := 23) rfl))) (mvT hZ (hw _ (List.mem_of_getElem? (i := 24) rfl))) (notFace_of_selects (args := #[]) (mvT hZ (hw _ (List.mem_of_getElem? (i := 26) rfl)))) (mvT hZ (hw _ (List.mem_of_getElem? (i := 26) rfl))) (mvT hZ (hw _ (List.mem_of_getElem? (i := 25) rfl))) (by decide) (backOf (W := 0) (rmVn l Z a0 hw [] a676 (0 : Int32) T693.heap n0 Z704 F697) hZ (hw _ (List.mem_of_getElem? (i := 27) rfl)) (hw _ (List.mem_of_getElem? (i := 6) rfl)) (by decide) (by decide)) q708a q708c (g := (mkF m 246 #[.val (.int p0), .val (.int p1), .val (.int p2), .val (.int p3), .val (.int v393), .val (.int v396), .val (.ref b400), .val (.ref b423), .val .null, .val (.ref b643), .val (.ref a676), .val (.double (0 : UInt64)), .second, .val (.double (0 : UInt64)), .second, .val (.double (0 : UInt64)), .second, .unset, .unset, .unset, .unset, .unset, .unset] [(.int (0 : Int32)), (.ref a676)])) rfl (by rw [hml]; rfl) (Steps.refl _) (argsL := [(.int (0 : Int32))]) (rest := []) (lenOf pd_1 rfl) rfl (by show 2 * 0 + _ ≤ _; exact Nat.le_of_eq rfl) (hb hby at_246) (fun _ _ => ⟨rfl, rfl, (by decide : 4 + 0 ≤ _), (by decide : 14 + 0 ≤ _)⟩)
      dsimp only [Pt.U, Pt.locs, Pt.cells, Pt.slots] at X707 l707 y707 z707 st707 hQ707
      subst l707 y707 z707
      obtain ⟨rfl, Nq709, Kq710⟩ := hQ707
      have N711 := Fr.app N699 Nq709
      refine Go.tr (g' := (mkF m 249 #[.val (.int p0), .val (.int p1), .val (.int p2), .val (.int p3), .val (.int v393), .val (.int v396), .val (.ref b400), .val (.ref b423), .val .null, .val (.ref b643), .val (.ref a676), .val (.double (0 : UInt64)), .second, .val (.double (0 : UInt64)), .second, .val (.double (0 : UInt64)), .second, .unset, .unset, .unset, .unset, .unset, .unset] [(.double (0 : UInt64))])) st707 ?_
      have e712 : T707.heap = T693.heap := Kq710
      have A713 := (⟨X707, hx, hby⟩ : Ax _ _ _ _ _ _ _ _ _ _ _ _ _ _ _)
      refine g_dstore A713 at_249 (ls' := #[.val (.int p0), .val (.int p1), .val (.int p2), .val (.int p3), .val (.int v393), .val (.int v396), .val (.ref b400), .val (.ref b423), .val .null, .val (.ref b643), .val (.ref a676), .val (.double (0 : UInt64)), .second, .val (.double (0 : UInt64)), .second, .val (.double (0 : UInt64)), .second, .val (.double (0 : UInt64)), .second, .unset, .unset, .unset, .unset]) rfl (pc' := 251) rfl ?_
      refine g_aload A713 at_251 rfl rfl (pc' := 253) rfl ?_
      refine g_iconst A713 at_253 (v := (1 : Int32)) rfl (pc' := 254) rfl ?_
      obtain ⟨cq715, kq715, q715a, q715b, q715c⟩ := isOf hZ e712 E703
      obtain ⟨_, _, ⟨T714, L714, k714, n714⟩, -, X714, ⟨L714c, hQ714, l714, y714, z714⟩, st714⟩ := X707.virtualBack hx (y := (⟨"com/example/swathloom/swathloom/planning/Plan", "rollVelocity", "(I)D"⟩ : MethodName)) (z := (⟨"com/example/swathloom/swathloom/planning/Plan", "rollVelocity", "(I)D"⟩ : MethodName)) hown (mvT hZ (hw _ (List.mem_of_getElem? (i := 23) rfl))) (mvT hZ (hw _ (List.mem_of_getElem? (i := 24) rfl))) (notFace_of_selects (args := #[]) (mvT hZ (hw _ (List.mem_of_getElem? (i := 26) rfl)))) (mvT hZ (hw _ (List.mem_of_getElem? (i := 26) rfl))) (mvT hZ (hw _ (List.mem_of_getElem? (i := 25) rfl))) (by decide) (backOf (W := 0) (rmVn l Z a0 hw [] a676 (1 : Int32) T693.heap n0 Z704 F697) hZ (hw _ (List.mem_of_getElem? (i := 27) rfl)) (hw _ (List.mem_of_getElem? (i := 6) rfl)) (by decide) (by decide)) q715a q715c (g := (mkF m 254 #[.val (.int p0), .val (.int p1), .val (.int p2), .val (.int p3), .val (.int v393), .val (.int v396), .val (.ref b400), .val (.ref b423), .val .null, .val (.ref b643), .val (.ref a676), .val (.double (0 : UInt64)), .second, .val (.double (0 : UInt64)), .second, .val (.double (0 : UInt64)), .second, .val (.double (0 : UInt64)), .second, .unset, .unset, .unset, .unset] [(.int (1 : Int32)), (.ref a676)])) rfl (by rw [hml]; rfl) (Steps.refl _) (argsL := [(.int (1 : Int32))]) (rest := []) (lenOf pd_1 rfl) rfl (by show 2 * 0 + _ ≤ _; exact Nat.le_of_eq rfl) (hb hby at_254) (fun _ _ => ⟨rfl, e712, (by decide : 4 + 0 ≤ _), (by decide : 14 + 0 ≤ _)⟩)
      dsimp only [Pt.U, Pt.locs, Pt.cells, Pt.slots] at X714 l714 y714 z714 st714 hQ714
      subst l714 y714 z714
      obtain ⟨rfl, Nq716, Kq717⟩ := hQ714
      have N718 := Fr.app N711 Nq716
      refine Go.tr (g' := (mkF m 257 #[.val (.int p0), .val (.int p1), .val (.int p2), .val (.int p3), .val (.int v393), .val (.int v396), .val (.ref b400), .val (.ref b423), .val .null, .val (.ref b643), .val (.ref a676), .val (.double (0 : UInt64)), .second, .val (.double (0 : UInt64)), .second, .val (.double (0 : UInt64)), .second, .val (.double (0 : UInt64)), .second, .unset, .unset, .unset, .unset] [(.double (0 : UInt64))])) st714 ?_
      have e719 : T714.heap = T693.heap := Kq717
      have A720 := (⟨X714, hx, hby⟩ : Ax _ _ _ _ _ _ _ _ _ _ _ _ _ _ _)
      refine g_dstore A720 at_257 (ls' := #[.val (.int p0), .val (.int p1), .val (.int p2), .val (.int p3), .val (.int v393), .val (.int v396), .val (.ref b400), .val (.ref b423), .val .null, .val (.ref b643), .val (.ref a676), .val (.double (0 : UInt64)), .second, .val (.double (0 : UInt64)), .second, .val (.double (0 : UInt64)), .second, .val (.double (0 : UInt64)), .second, .val (.double (0 : UInt64)), .second, .unset, .unset]) rfl (pc' := 259) rfl ?_
      refine g_aload A720 at_259 rfl rfl (pc' := 261) rfl ?_
      refine g_iconst A720 at_261 (v := (2 : Int32)) rfl (pc' := 262) rfl ?_
      obtain ⟨cq722, kq722, q722a, q722b, q722c⟩ := isOf hZ e719 E703
      obtain ⟨_, _, ⟨T721, L721, k721, n721⟩, -, X721, ⟨L721c, hQ721, l721, y721, z721⟩, st721⟩ := X714.virtualBack hx (y := (⟨"com/example/swathloom/swathloom/planning/Plan", "rollVelocity", "(I)D"⟩ : MethodName)) (z := (⟨"com/example/swathloom/swathloom/planning/Plan", "rollVelocity", "(I)D"⟩ : MethodName)) hown (mvT hZ (hw _ (List.mem_of_getElem? (i := 23) rfl))) (mvT hZ (hw _ (List.mem_of_getElem? (i := 24) rfl))) (notFace_of_selects (args := #[]) (mvT hZ (hw _ (List.mem_of_getElem? (i := 26) rfl)))) (mvT hZ (hw _ (List.mem_of_getElem? (i := 26) rfl))) (mvT hZ (hw _ (List.mem_of_getElem? (i := 25) rfl))) (by decide) (backOf (W := 0) (rmVn l Z a0 hw [] a676 (2 : Int32) T693.heap n0 Z704 F697) hZ (hw _ (List.mem_of_getElem? (i := 27) rfl)) (hw _ (List.mem_of_getElem? (i := 6) rfl)) (by decide) (by decide)) q722a q722c (g := (mkF m 262 #[.val (.int p0), .val (.int p1), .val (.int p2), .val (.int p3), .val (.int v393), .val (.int v396), .val (.ref b400), .val (.ref b423), .val .null, .val (.ref b643), .val (.ref a676), .val (.double (0 : UInt64)), .second, .val (.double (0 : UInt64)), .second, .val (.double (0 : UInt64)), .second, .val (.double (0 : UInt64)), .second, .val (.double (0 : UInt64)), .second, .unset, .unset] [(.int (2 : Int32)), (.ref a676)])) rfl (by rw [hml]; rfl) (Steps.refl _) (argsL := [(.int (2 : Int32))]) (rest := []) (lenOf pd_1 rfl) rfl (by show 2 * 0 + _ ≤ _; exact Nat.le_of_eq rfl) (hb hby at_262) (fun _ _ => ⟨rfl, e719, (by decide : 4 + 0 ≤ _), (by decide : 14 + 0 ≤ _)⟩)
      dsimp only [Pt.U, Pt.locs, Pt.cells, Pt.slots] at X721 l721 y721 z721 st721 hQ721
      subst l721 y721 z721
      obtain ⟨rfl, Nq723, Kq724⟩ := hQ721
      have N725 := Fr.app N718 Nq723
      refine Go.tr (g' := (mkF m 265 #[.val (.int p0), .val (.int p1), .val (.int p2), .val (.int p3), .val (.int v393), .val (.int v396), .val (.ref b400), .val (.ref b423), .val .null, .val (.ref b643), .val (.ref a676), .val (.double (0 : UInt64)), .second, .val (.double (0 : UInt64)), .second, .val (.double (0 : UInt64)), .second, .val (.double (0 : UInt64)), .second, .val (.double (0 : UInt64)), .second, .unset, .unset] [(.double (0 : UInt64))])) st721 ?_
      have e726 : T721.heap = T693.heap := Kq724
      have A727 := (⟨X721, hx, hby⟩ : Ax _ _ _ _ _ _ _ _ _ _ _ _ _ _ _)
      refine g_dstore A727 at_265 (ls' := #[.val (.int p0), .val (.int p1), .val (.int p2), .val (.int p3), .val (.int v393), .val (.int v396), .val (.ref b400), .val (.ref b423), .val .null, .val (.ref b643), .val (.ref a676), .val (.double (0 : UInt64)), .second, .val (.double (0 : UInt64)), .second, .val (.double (0 : UInt64)), .second, .val (.double (0 : UInt64)), .second, .val (.double (0 : UInt64)), .second, .val (.double (0 : UInt64)), .second]) rfl (pc' := 267) rfl ?_
      refine g_dload A727 at_267 rfl (pc' := 269) rfl ?_
      refine g_dload A727 at_269 rfl (pc' := 271) rfl ?_
      refine g_dcmp A727 at_271 (pc' := 272) rfl ?_
      refine g_ifN A727 at_272 (d_l_ne_f (own_self (by unfold Fin64; decide : Fin64 (0 : UInt64)))) (pc' := 275) rfl ?_
      refine g_dload A727 at_275 rfl (pc' := 277) rfl ?_
      refine g_dload A727 at_277 rfl (pc' := 279) rfl ?_
      refine g_dcmp A727 at_279 (pc' := 280) rfl ?_
      refine g_ifN A727 at_280 (d_l_ne_f (own_self (by unfold Fin64; decide : Fin64 (0 : UInt64)))) (pc' := 283) rfl ?_
      refine g_dload A727 at_283 rfl (pc' := 285) rfl ?_
      refine g_dload A727 at_285 rfl (pc' := 287) rfl ?_
      refine g_dcmp A727 at_287 (pc' := 288) rfl ?_
      refine g_ifN A727 at_288 (d_l_ne_f (own_self (by unfold Fin64; decide : Fin64 (0 : UInt64)))) (pc' := 291) rfl ?_
      refine g_iconst A727 at_291 (v := (1 : Int32)) rfl (pc' := 292) rfl ?_
      refine g_goto A727 at_292 (pc' := 296) rfl ?_
      exact g_ret (Q := Q0 Z p0 p1 p2 p3 h0 n0) A727 at_296 Bd.notSynchronized Bd.returns rfl (Or.inl ⟨rfl, by simp, _, rfl⟩) (by decide) (by decide) (by rw [e726]; exact ⟨rfl, N725⟩)
    · skip
      refine g_ifY A453 at_149 (b0_ne_t hv396 hc641) (pc' := 187) rfl ?_
      obtain ⟨T728, h728, X728, e728, E728, EA728, D728, -, st728⟩ := newO A453.1 hx hZ hown (hw _ (List.mem_of_getElem? (i := 4) rfl)) (hw _ (List.mem_of_getElem? (i := 5) rfl)) (hw _ (List.mem_of_getElem? (i := 6) rfl)) e453 (g := (mkF m 187 #[.val (.int p0), .val (.int p1), .val (.int p2), .val (.int p3), .val (.int v393), .val (.int v396), .val (.ref b400), .val (.ref b423), .val .null, .val .null, .unset, .unset, .unset, .unset, .unset, .unset, .unset, .unset, .unset, .unset, .unset, .unset, .unset] [])) rfl (hb hby at_187) (by decide) (by decide)
      obtain ⟨a729, ea729⟩ : ∃ z, z = h453.size := ⟨_, rfl⟩
      rw [← ea729] at EA728 D728 st728
      have ne730 : b400 ≠ a729 := own_ne ea729 V456.lt
      have ne731 : b423 ≠ a729 := own_ne ea729 V457.lt
      have g732 : n0 ≤ a729 := by rw [ea729]; exact Z458
      have gh733 : h0.size ≤ a729 := by rw [ea729]; exact K455.1
      have K734 : Keep h0 h728 [] := K455.ext E728
      have V735 : Dar Z h728 b400 .double 3 (fun j => if j = 2 then .double (FP.dadd (FP.i2d p2) (4598175219545276416 : UInt64)) else (fun j => if j = 1 then .double (FP.dadd (FP.i2d p1) (4598175219545276416 : UInt64)) else (fun j => if j = 0 then .double (FP.dadd (FP.i2d p0) (4598175219545276416 : UInt64)) else (fun _ => .double (0 : UInt64)) j) j) j) := Dar.ext E728 V456
      have V736 : Dar Z h728 b423 .boolean 3 (fun j => if j = 2 then .int v450 else (fun j => if j = 1 then .int v441 else (fun j => if j = 0 then .int v432 else (fun _ => .int (0 : Int32)) j) j) j) := Dar.ext E728 V457
      have Z737 : n0 ≤ h728.size := Nat.le_trans Z458 E728.1
      have F738 : Fld Z h728 a729 "com/example/swathloom/swathloom/planning/Plan" "rolls" "[D" .null := D728 (Or.inr (hw _ (List.mem_of_getElem? (i := 14) rfl))) (ty := (.array .double)) (by decide)
      have F739 : Fld Z h728 a729 "com/example/swathloom/swathloom/planning/Plan" "used" "[Z" .null := D728 (Or.inr (hw _ (List.mem_of_getElem? (i := 16) rfl))) (ty := (.array .boolean)) (by decide)
      have F740 : Fld Z h728 a729 "com/example/swathloom/swathloom/planning/Plan" "rollVelocities" "[D" .null := D728 (Or.inr (hw _ (List.mem_of_getElem? (i := 18) rfl))) (ty := (.array .double)) (by decide)
      have F741 : Fld Z h728 a729 "com/example/swathloom/swathloom/planning/Plan" "selectionVelocities" "[D" .null := D728 (Or.inr (hw _ (List.mem_of_getElem? (i := 20) rfl))) (ty := (.array .double)) (by decide)
      have F742 : Fld Z h728 a729 "com/example/swathloom/swathloom/planning/Plan" "strips" "I" (.int (0 : Int32)) := D728 (Or.inr (hw _ (List.mem_of_getElem? (i := 22) rfl))) (ty := .int) (by decide)
      refine Go.of (g' := (mkF m 190 #[.val (.int p0), .val (.int p1), .val (.int p2), .val (.int p3), .val (.int v393), .val (.int v396), .val (.ref b400), .val (.ref b423), .val .null, .val .null, .unset, .unset, .unset, .unset, .unset, .unset, .unset, .unset, .unset, .unset, .unset, .unset, .unset] [(.ref a729)])) st728 ?_
      have A743 := (⟨X728, hx, hby⟩ : Ax _ _ _ _ _ _ _ _ _ _ _ _ _ _ _)
      refine g_dup A743 at_190 rfl (pc' := 191) rfl ?_
      refine g_aload A743 at_191 rfl rfl (pc' := 193) rfl ?_
      refine g_aload A743 at_193 rfl rfl (pc' := 195) rfl ?_
      refine g_aload A743 at_195 rfl rfl (pc' := 197) rfl ?_
      refine g_aload A743 at_197 rfl rfl (pc' := 199) rfl ?_
      obtain ⟨_, _, ⟨T744, L744, k744, n744⟩, -, X744, ⟨L744c, hQ744, l744, y744, z744⟩, st744⟩ := X728.specialBack hx (y := (⟨"com/example/swathloom/swathloom/planning/Plan", "<init>", "([D[Z[D[D)V"⟩ : MethodName)) rfl hown (mvT hZ (hw _ (List.mem_of_getElem? (i := 7) rfl))) (mvT hZ (hw _ (List.mem_of_getElem? (i := 8) rfl))) (mvT hZ (hw _ (List.mem_of_getElem? (i := 9) rfl))) (by decide) (backOf (W := 1) (rm1_11 l Z a0 hw [] a729 b400 b423 (fun j => if j = 2 then .double (FP.dadd (FP.i2d p2) (4598175219545276416 : UInt64)) else (fun j => if j = 1 then .double (FP.dadd (FP.i2d p1) (4598175219545276416 : UInt64)) else (fun j => if j = 0 then .double (FP.dadd (FP.i2d p0) (4598175219545276416 : UInt64)) else (fun _ => .double (0 : UInt64)) j) j) j) (fun j => if j = 2 then .int v450 else (fun j => if j = 1 then .int v441 else (fun j => if j = 0 then .int v432 else (fun _ => .int (0 : Int32)) j) j) j) v432 v441 v450 .null .null .null .null (.int (0 : Int32)) h728 n0 Z737 EA728 F738 F739 F740 F741 F742 g732 V735 V736 ne730 ne731 rfl rfl rfl) hZ (hw _ (List.mem_of_getElem? (i := 9) rfl)) (hw _ (List.mem_of_getElem? (i := 6) rfl)) (by decide) (by decide)) (g := (mkF m 199 #[.val (.int p0), .val (.int p1), .val (.int p2), .val (.int p3), .val (.int v393), .val (.int v396), .val (.ref b400), .val (.ref b423), .val .null, .val .null, .unset, .unset, .unset, .unset, .unset, .unset, .unset, .unset, .unset, .unset, .unset, .unset, .unset] [.null, .null, (.ref b423), (.ref b400), (.ref a729), (.ref a729)])) rfl (by rw [hml]; rfl) (Steps.refl _) (a := a729) (argsL := [(.ref b400), (.ref b423), .null, .null]) (rest := [(.ref a729)]) (lenOf pd_0 rfl) rfl (by show 2 * 0 + _ ≤ _; exact Nat.le_of_eq rfl) (hb hby at_199) (fun _ _ => ⟨rfl, e728, (by decide : 3 + 0 ≤ _), (by decide : 11 + 0 ≤ _)⟩)
      dsimp only [Pt.U, Pt.locs, Pt.cells, Pt.slots] at X744 l744 y744 z744 st744 hQ744
      subst l744 y744 z744
      obtain ⟨rfl, Nq745, Kq746, F747, F748, F749⟩ := hQ744
      have N750 := Fr.app N454 Nq745
      refine Go.tr (g' := (mkF m 202 #[.val (.int p0), .val (.int p1), .val (.int p2), .val (.int p3), .val (.int v393), .val (.int v396), .val (.ref b400), .val (.ref b423), .val .null, .val .null, .unset, .unset, .unset, .unset, .unset, .unset, .unset, .unset, .unset, .unset, .unset, .unset, .unset] [(.ref a729)])) st744 ?_
      have V751 : Dar Z T744.heap b400 .double 3 (fun j => if j = 2 then .double (FP.dadd (FP.i2d p2) (4598175219545276416 : UInt64)) else (fun j => if j = 1 then .double (FP.dadd (FP.i2d p1) (4598175219545276416 : UInt64)) else (fun j => if j = 0 then .double (FP.dadd (FP.i2d p0) (4598175219545276416 : UInt64)) else (fun _ => .double (0 : UInt64)) j) j) j) := Dar.keep V735 Kq746 (ninS ne730 nin0)
      have V752 : Dar Z T744.heap b423 .boolean 3 (fun j => if j = 2 then .int v450 else (fun j => if j = 1 then .int v441 else (fun j => if j = 0 then .int v432 else (fun _ => .int (0 : Int32)) j) j) j) := Dar.keep V736 Kq746 (ninS ne731 nin0)
      have E753 : Exa Z T744.heap a729 "com/example/swathloom/swathloom/planning/Plan" := Exa.keep EA728 Kq746
      have Z754 : n0 ≤ T744.heap.size := Nat.le_trans Z737 Kq746.1
      have K755 : Keep h0 T744.heap [] := K734.trans Kq746 (allS (Or.inr gh733) all0)
      have A756 := (⟨X744, hx, hby⟩ : Ax _ _ _ _ _ _ _ _ _ _ _ _ _ _ _)
      refine g_astore A756 at_202 rfl (ls' := #[.val (.int p0), .val (.int p1), .val (.int p2), .val (.int p3), .val (.int v393), .val (.int v396), .val (.ref b400), .val (.ref b423), .val .null, .val .null, .val (.ref a729), .unset, .unset, .unset, .unset, .unset, .unset, .unset, .unset, .unset, .unset, .unset, .unset]) rfl (pc' := 204) rfl ?_
      refine g_iload A756 at_204 rfl (pc' := 206) rfl ?_
      refine g_ifN A756 at_206 (b0_eq_f hv393 hc459) (pc' := 209) rfl ?_
      refine g_dconst0 A756 at_209 (pc' := 210) rfl ?_
      refine g_goto A756 at_210 (pc' := 215) rfl ?_
      refine g_dstore A756 at_215 (ls' := #[.val (.int p0), .val (.int p1), .val (.int p2), .val (.int p3), .val (.int v393), .val (.int v396), .val (.ref b400), .val (.ref b423), .val .null, .val .null, .val (.ref a729), .val (.double (0 : UInt64)), .second, .unset, .unset, .unset, .unset, .unset, .unset, .unset, .unset, .unset, .unset]) rfl (pc' := 217) rfl ?_
      refine g_iload A756 at_217 rfl (pc' := 219) rfl ?_
      refine g_ifN A756 at_219 (b0_eq_f hv393 hc459) (pc' := 222) rfl ?_
      refine g_dconst0 A756 at_222 (pc' := 223) rfl ?_
      refine g_goto A756 at_223 (pc' := 228) rfl ?_
      refine g_dstore A756 at_228 (ls' := #[.val (.int p0), .val (.int p1), .val (.int p2), .val (.int p3), .val (.int v393), .val (.int v396), .val (.ref b400), .val (.ref b423), .val .null, .val .null, .val (.ref a729), .val (.double (0 : UInt64)), .second, .val (.double (0 : UInt64)), .second, .unset, .unset, .unset, .unset, .unset, .unset, .unset, .unset]) rfl (pc' := 230) rfl ?_
      refine g_iload A756 at_230 rfl (pc' := 232) rfl ?_
      refine g_ifN A756 at_232 (b0_eq_f hv393 hc459) (pc' := 235) rfl ?_
      refine g_dconst0 A756 at_235 (pc' := 236) rfl ?_
      refine g_goto A756 at_236 (pc' := 241) rfl ?_
      refine g_dstore A756 at_241 (ls' := #[.val (.int p0), .val (.int p1), .val (.int p2), .val (.int p3), .val (.int v393), .val (.int v396), .val (.ref b400), .val (.ref b423), .val .null, .val .null, .val (.ref a729), .val (.double (0 : UInt64)), .second, .val (.double (0 : UInt64)), .second, .val (.double (0 : UInt64)), .second, .unset, .unset, .unset, .unset, .unset, .unset]) rfl (pc' := 243) rfl ?_
      refine g_aload A756 at_243 rfl rfl (pc' := 245) rfl ?_
      refine g_iconst A756 at_245 (v := (0 : Int32)) rfl (pc' := 246) rfl ?_
      obtain ⟨cq758, kq758, q758a, q758b, q758c⟩ := isOf hZ rfl E753
      obtain ⟨_, _, ⟨T757, L757, k757, n757⟩, -, X757, ⟨L757c, hQ757, l757, y757, z757⟩, st757⟩ := X744.virtualBack hx (y := (⟨"com/example/swathloom/swathloom/planning/Plan", "rollVelocity", "(I)D"⟩ : MethodName)) (z := (⟨"com/example/swathloom/swathloom/planning/Plan", "rollVelocity", "(I)D"⟩ : MethodName)) hown (mvT hZ (hw _ (List.mem_of_getElem? (i := 23) rfl))) (mvT hZ (hw _ (List.mem_of_getElem? (i := 24) rfl))) (notFace_of_selects (args := #[]) (mvT hZ (hw _ (List.mem_of_getElem? (i := 26) rfl)))) (mvT hZ (hw _ (List.mem_of_getElem? (i := 26) rfl))) (mvT hZ (hw _ (List.mem_of_getElem? (i := 25) rfl))) (by decide) (backOf (W := 0) (rmVn l Z a0 hw [] a729 (0 : Int32) T744.heap n0 Z754 F748) hZ (hw _ (List.mem_of_getElem? (i := 27) rfl)) (hw _ (List.mem_of_getElem? (i := 6) rfl)) (by decide) (by decide)) q758a q758c (g := (mkF m 246 #[.val (.int p0), .val (.int p1), .val (.int p2), .val (.int p3), .val (.int v393), .val (.int v396), .val (.ref b400), .val (.ref b423), .val .null, .val .null, .val (.ref a729), .val (.double (0 : UInt64)), .second, .val (.double (0 : UInt64)), .second, .val (.double (0 : UInt64)), .second, .unset, .unset, .unset, .unset, .unset, .unset] [(.int (0 : Int32)), (.ref a729)])) rfl (by rw [hml]; rfl) (Steps.refl _) (argsL := [(.int (0 : Int32))]) (rest := []) (lenOf pd_1 rfl) rfl (by show 2 * 0 + _ ≤ _; exact Nat.le_of_eq rfl) (hb hby at_246) (fun _ _ => ⟨rfl, rfl, (by decide : 3 + 0 ≤ _), (by decide : 11 + 0 ≤ _)⟩)
      dsimp only [Pt.U, Pt.locs, Pt.cells, Pt.slots] at X757 l757 y757 z757 st757 hQ757
      subst l757 y757 z757
      obtain ⟨rfl, Nq759, Kq760⟩ := hQ757
      have N761 := Fr.app N750 Nq759
      refine Go.tr (g' := (mkF m 249 #[.val (.int p0), .val (.int p1), .val (.int p2), .val (.int p3), .val (.int v393), .val (.int v396), .val (.ref b400), .val (.ref b423), .val .null, .val .null, .val (.ref a729), .val (.double (0 : UInt64)), .second, .val (.double (0 : UInt64)), .second, .val (.double (0 : UInt64)), .second, .unset, .unset, .unset, .unset, .unset, .unset] [(.double (0 : UInt64))])) st757 ?_
      have e762 : T757.heap = T744.heap := Kq760
      have A763 := (⟨X757, hx, hby⟩ : Ax _ _ _ _ _ _ _ _ _ _ _ _ _ _ _)
      refine g_dstore A763 at_249 (ls' := #[.val (.int p0), .val (.int p1), .val (.int p2), .val (.int p3), .val (.int v393), .val (.int v396), .val (.ref b400), .val (.ref b423), .val .null, .val .null, .val (.ref a729), .val (.double (0 : UInt64)), .second, .val (.double (0 : UInt64)), .second, .val (.double (0 : UInt64)), .second, .val (.double (0 : UInt64)), .second, .unset, .unset, .unset, .unset]) rfl (pc' := 251) rfl ?_
      refine g_aload A763 at_251 rfl rfl (pc' := 253) rfl ?_
      refine g_iconst A763 at_253 (v := (1 : Int32)) rfl (pc' := 254) rfl ?_
      obtain ⟨cq765, kq765, q765a, q765b, q765c⟩ := isOf hZ e762 E753
      obtain ⟨_, _, ⟨T764, L764, k764, n764⟩, -, X764, ⟨L764c, hQ764, l764, y764, z764⟩, st764⟩ := X757.virtualBack hx (y := (⟨"com/example/swathloom/swathloom/planning/Plan", "rollVelocity", "(I)D"⟩ : MethodName)) (z := (⟨"com/example/swathloom/swathloom/planning/Plan", "rollVelocity", "(I)D"⟩ : MethodName)) hown (mvT hZ (hw _ (List.mem_of_getElem? (i := 23) rfl))) (mvT hZ (hw _ (List.mem_of_getElem? (i := 24) rfl))) (notFace_of_selects (args := #[]) (mvT hZ (hw _ (List.mem_of_getElem? (i := 26) rfl)))) (mvT hZ (hw _ (List.mem_of_getElem? (i := 26) rfl))) (mvT hZ (hw _ (List.mem_of_getElem? (i := 25) rfl))) (by decide) (backOf (W := 0) (rmVn l Z a0 hw [] a729 (1 : Int32) T744.heap n0 Z754 F748) hZ (hw _ (List.mem_of_getElem? (i := 27) rfl)) (hw _ (List.mem_of_getElem? (i := 6) rfl)) (by decide) (by decide)) q765a q765c (g := (mkF m 254 #[.val (.int p0), .val (.int p1), .val (.int p2), .val (.int p3), .val (.int v393), .val (.int v396), .val (.ref b400), .val (.ref b423), .val .null, .val .null, .val (.ref a729), .val (.double (0 : UInt64)), .second, .val (.double (0 : UInt64)), .second, .val (.double (0 : UInt64)), .second, .val (.double (0 : UInt64)), .second, .unset, .unset, .unset, .unset] [(.int (1 : Int32)), (.ref a729)])) rfl (by rw [hml]; rfl) (Steps.refl _) (argsL := [(.int (1 : Int32))]) (rest := []) (lenOf pd_1 rfl) rfl (by show 2 * 0 + _ ≤ _; exact Nat.le_of_eq rfl) (hb hby at_254) (fun _ _ => ⟨rfl, e762, (by decide : 3 + 0 ≤ _), (by decide : 11 + 0 ≤ _)⟩)
      dsimp only [Pt.U, Pt.locs, Pt.cells, Pt.slots] at X764 l764 y764 z764 st764 hQ764
      subst l764 y764 z764
      obtain ⟨rfl, Nq766, Kq767⟩ := hQ764
      have N768 := Fr.app N761 Nq766
      refine Go.tr (g' := (mkF m 257 #[.val (.int p0), .val (.int p1), .val (.int p2), .val (.int p3), .val (.int v393), .val (.int v396), .val (.ref b400), .val (.ref b423), .val .null, .val .null, .val (.ref a729), .val (.double (0 : UInt64)), .second, .val (.double (0 : UInt64)), .second, .val (.double (0 : UInt64)), .second, .val (.double (0 : UInt64)), .second, .unset, .unset, .unset, .unset] [(.double (0 : UInt64))])) st764 ?_
      have e769 : T764.heap = T744.heap := Kq767
      have A770 := (⟨X764, hx, hby⟩ : Ax _ _ _ _ _ _ _ _ _ _ _ _ _ _ _)
      refine g_dstore A770 at_257 (ls' := #[.val (.int p0), .val (.int p1), .val (.int p2), .val (.int p3), .val (.int v393), .val (.int v396), .val (.ref b400), .val (.ref b423), .val .null, .val .null, .val (.ref a729), .val (.double (0 : UInt64)), .second, .val (.double (0 : UInt64)), .second, .val (.double (0 : UInt64)), .second, .val (.double (0 : UInt64)), .second, .val (.double (0 : UInt64)), .second, .unset, .unset]) rfl (pc' := 259) rfl ?_
      refine g_aload A770 at_259 rfl rfl (pc' := 261) rfl ?_
      refine g_iconst A770 at_261 (v := (2 : Int32)) rfl (pc' := 262) rfl ?_
      obtain ⟨cq772, kq772, q772a, q772b, q772c⟩ := isOf hZ e769 E753
      obtain ⟨_, _, ⟨T771, L771, k771, n771⟩, -, X771, ⟨L771c, hQ771, l771, y771, z771⟩, st771⟩ := X764.virtualBack hx (y := (⟨"com/example/swathloom/swathloom/planning/Plan", "rollVelocity", "(I)D"⟩ : MethodName)) (z := (⟨"com/example/swathloom/swathloom/planning/Plan", "rollVelocity", "(I)D"⟩ : MethodName)) hown (mvT hZ (hw _ (List.mem_of_getElem? (i := 23) rfl))) (mvT hZ (hw _ (List.mem_of_getElem? (i := 24) rfl))) (notFace_of_selects (args := #[]) (mvT hZ (hw _ (List.mem_of_getElem? (i := 26) rfl)))) (mvT hZ (hw _ (List.mem_of_getElem? (i := 26) rfl))) (mvT hZ (hw _ (List.mem_of_getElem? (i := 25) rfl))) (by decide) (backOf (W := 0) (rmVn l Z a0 hw [] a729 (2 : Int32) T744.heap n0 Z754 F748) hZ (hw _ (List.mem_of_getElem? (i := 27) rfl)) (hw _ (List.mem_of_getElem? (i := 6) rfl)) (by decide) (by decide)) q772a q772c (g := (mkF m 262 #[.val (.int p0), .val (.int p1), .val (.int p2), .val (.int p3), .val (.int v393), .val (.int v396), .val (.ref b400), .val (.ref b423), .val .null, .val .null, .val (.ref a729), .val (.double (0 : UInt64)), .second, .val (.double (0 : UInt64)), .second, .val (.double (0 : UInt64)), .second, .val (.double (0 : UInt64)), .second, .val (.double (0 : UInt64)), .second, .unset, .unset] [(.int (2 : Int32)), (.ref a729)])) rfl (by rw [hml]; rfl) (Steps.refl _) (argsL := [(.int (2 : Int32))]) (rest := []) (lenOf pd_1 rfl) rfl (by show 2 * 0 + _ ≤ _; exact Nat.le_of_eq rfl) (hb hby at_262) (fun _ _ => ⟨rfl, e769, (by decide : 3 + 0 ≤ _), (by decide : 11 + 0 ≤ _)⟩)
      dsimp only [Pt.U, Pt.locs, Pt.cells, Pt.slots] at X771 l771 y771 z771 st771 hQ771
      subst l771 y771 z771
      obtain ⟨rfl, Nq773, Kq774⟩ := hQ771
      have N775 := Fr.app N768 Nq773
      refine Go.tr (g' := (mkF m 265 #[.val (.int p0), .val (.int p1), .val (.int p2), .val (.int p3), .val (.int v393), .val (.int v396), .val (.ref b400), .val (.ref b423), .val .null, .val .null, .val (.ref a729), .val (.double (0 : UInt64)), .second, .val (.double (0 : UInt64)), .second, .val (.double (0 : UInt64)), .second, .val (.double (0 : UInt64)), .second, .val (.double (0 : UInt64)), .second, .unset, .unset] [(.double (0 : UInt64))])) st771 ?_
      have e776 : T771.heap = T744.heap := Kq774
      have A777 := (⟨X771, hx, hby⟩ : Ax _ _ _ _ _ _ _ _ _ _ _ _ _ _ _)
      refine g_dstore A777 at_265 (ls' := #[.val (.int p0), .val (.int p1), .val (.int p2), .val (.int p3), .val (.int v393), .val (.int v396), .val (.ref b400), .val (.ref b423), .val .null, .val .null, .val (.ref a729), .val (.double (0 : UInt64)), .second, .val (.double (0 : UInt64)), .second, .val (.double (0 : UInt64)), .second, .val (.double (0 : UInt64)), .second, .val (.double (0 : UInt64)), .second, .val (.double (0 : UInt64)), .second]) rfl (pc' := 267) rfl ?_
      refine g_dload A777 at_267 rfl (pc' := 269) rfl ?_
      refine g_dload A777 at_269 rfl (pc' := 271) rfl ?_
      refine g_dcmp A777 at_271 (pc' := 272) rfl ?_
      refine g_ifN A777 at_272 (d_l_ne_f (own_self (by unfold Fin64; decide : Fin64 (0 : UInt64)))) (pc' := 275) rfl ?_
      refine g_dload A777 at_275 rfl (pc' := 277) rfl ?_
      refine g_dload A777 at_277 rfl (pc' := 279) rfl ?_
      refine g_dcmp A777 at_279 (pc' := 280) rfl ?_
      refine g_ifN A777 at_280 (d_l_ne_f (own_self (by unfold Fin64; decide : Fin64 (0 : UInt64)))) (pc' := 283) rfl ?_
      refine g_dload A777 at_283 rfl (pc' := 285) rfl ?_
      refine g_dload A777 at_285 rfl (pc' := 287) rfl ?_
      refine g_dcmp A777 at_287 (pc' := 288) rfl ?_
      refine g_ifN A777 at_288 (d_l_ne_f (own_self (by unfold Fin64; decide : Fin64 (0 : UInt64)))) (pc' := 291) rfl ?_
      refine g_iconst A777 at_291 (v := (1 : Int32)) rfl (pc' := 292) rfl ?_
      refine g_goto A777 at_292 (pc' := 296) rfl ?_
      exact g_ret (Q := Q0 Z p0 p1 p2 p3 h0 n0) A777 at_296 Bd.notSynchronized Bd.returns rfl (Or.inl ⟨rfl, by simp, _, rfl⟩) (by decide) (by decide) (by rw [e776]; exact ⟨rfl, N775⟩)
set_option maxRecDepth 65536 in
set_option maxHeartbeats 40000000 in
theorem comes_1 {Post : Tables → Env → Array Value → State → Outcome → State → Prop} (hpost : ∀ tb e args s v u, (limb_1_1.after args s (.returned v) u = true ∧ limb_1_2.after args s (.returned v) u = true ∧ True) → FrameEnd s (.returned v) u (Jvm.fieldLocs frame_1_writes args s ++ Jvm.arrayLocs frame_1_arrays args s ++ Jvm.staticLocs frame_1_statics s) 24 128 → Post tb e args s (.returned v) u) :
    ArmFor flags0 classFile x code maxLocals ret World_1 tables_1 room_1 Calls_1 rest_1 Pre_1 Post := by
  intro l hfl _ _ p e ha hc hk s m args below hf hA hF happ hP
  obtain ⟨hcalls, hrest, hpre⟩ := hP
  obtain ⟨-, -, -, hnamed, -, -, -, hat⟩ := (Spec.applies_iff hf).mp happ
  obtain ⟨hg, hn⟩ := and_e (Cond.before_iff.mp (show (Jvm.Cond.and given_1 narrow_1).before args s = true from hpre))
  obtain ⟨g0, hg1⟩ := and_e hg
  obtain ⟨w0, w1, w2, w3, rfl⟩ : ∃ w0 w1 w2 w3 : Value, args = #[w0, w1, w2, w3] := by
    have hs : args.size = 4 := by simpa [Cond.value, given_1] using g0
    obtain ⟨L⟩ := args
    match L, hs with
    | [w0, w1, w2, w3], _ => exact ⟨w0, w1, w2, w3, rfl⟩
  have hw := fun d (hd : d ∈ tables_1) => atoms_spec (ws := Jvm.Cond.code x code maxLocals ret :: tables_1) hat d (List.mem_cons_of_mem _ hd)
  have hfit : Fit s := fun {y c} hc i hi => by
    obtain ⟨ha, rfl⟩ := Array.getElem?_eq_some_iff.mp hc
    have q := List.all_eq_true.mp ((Array.all_eq_true_iff_forall_mem.mp hF) _ (Array.getElem_mem ha)) i (List.mem_range.mpr hi)
    simpa [Array.getElem?_eq_getElem hi] using q
  obtain ⟨k0, hg2⟩ := and_e hg1
  obtain ⟨i0, j0⟩ := is_v k0
  obtain rfl : w0 = (.int i0) := Option.some.inj j0
  obtain ⟨k1, hg3⟩ := and_e hg2
  obtain ⟨i1, j1⟩ := is_v k1
  obtain rfl : w1 = (.int i1) := Option.some.inj j1
  obtain ⟨k2, hg4⟩ := and_e hg3
  obtain ⟨i2, j2⟩ := is_v k2
  obtain rfl : w2 = (.int i2) := Option.some.inj j2
  obtain ⟨i3, j3⟩ := is_v hg4
  obtain rfl : w3 = (.int i3) := Option.some.inj j3
  obtain ⟨n, o, h1, h2, h3, _, L, rfl, ⟨rfl, N⟩, hq⟩ := rm0 l s _ hw tables_1 i0 i1 i2 i3 s.heap s.heap.size (Nat.le_refl _)  p e ha hc hk s m _ below hf ((Spec.applies_iff_loose hf).mp happ).1 ⟨rfl, State.Warmed39.refl s, rfl⟩ trivial
  refine ⟨n, _, h1, h2, h3, hpost _ _ _ _ _ _ ⟨Cond.after_iff.mpr rfl, Cond.after_iff.mpr (eq_i res_at (Term.int_eval (1)) rfl), trivial⟩ ⟨hq.1, hq.2.1, (hq.2.2.sift fun y hy => Or.inr (N y hy)).mono (by decide) (by decide)⟩⟩
theorem main_1_1 : Claimed_1_1 := comes_1 fun _ _ _ _ _ _ h hF => ⟨h.1, hF⟩
theorem main_1_2 : Claimed_1_2 := comes_1 fun _ _ _ _ _ _ h hF => ⟨h.2.1, hF⟩
end Jvm.Pilot.@@N@@
namespace Jvm.Pilot.@@N@@
open Jvm Jvm.ClassFile Sem Op Lib Jvm.Free Jvm.Stand Jvm.Pilot.@@N@@.Jvm.D
/-! MADE BY PROGRAM (witnessworld.py) out of the Statement's table words and the real class files: 13 classes; the members and pool entries that the words name. The judged class is class 1, her method 1. -/
namespace start1
open Jvm.ClassFile
def u (s : String) : CpInfo := .utf8 (stringToUtf16 s)
/-- a pool by its gaps: so many unusable entries, then the entry; so many at the end -/
def gap : Nat → List CpInfo → List CpInfo
  | 0, r => r
  | n + 1, r => .unusable :: gap n r
def poolList (es : List (Nat × CpInfo)) (last : Nat) : List CpInfo := es.foldr (fun e r => gap e.1 (e.2 :: r)) (gap last [])
def pool (es : List (Nat × CpInfo)) (last : Nat) : Array CpInfo := ⟨poolList es last⟩
def fileOf (pool : Array CpInfo) (this : Nat) (attrs : Array Attribute := #[]) (ms : Array MethodInfo := #[]) (fl : Nat := 33) (sup : Nat := 0) (ifs : Array Nat := #[]) (fds : Array FieldInfo := #[]) : ClassFile where
  minorVersion := 0
  majorVersion := 65
  constantPool := pool
  accessFlags := fl
  thisClass := this
  superClass := sup
  interfaces := ifs
  fields := fds
  methods := ms
  attributes := attrs
def plain (name : String) (sup : Option ClassId) : Class where
  name := name
  kind := .ordinary
  loader := none
  accessFlags := 33
  super := sup
  interfaces := #[]
  cf := none
  fields := #[]
  methods := #[]
  instanceTypes := #[]
  staticTypes := #[]
  resolved := #[]
  callSites := []
  init := .initialized
  statics := none
  mirror := none

def pool0 : Array CpInfo := pool [(5, u "<init>"), (0, u "()V"), (1, .class_ 10), (1, u "java/lang/Object")] 113

def k0c0 : Code := { maxStack := 0, maxLocals := 1, code := object_method_1_code, exceptionTable := #[], attributes := #[] }
def k0m0 : Method := { name := "<init>", desc := "()V", sig := { parameters := [], returnType := none }, accessFlags := 1, code := some k0c0 }
/-- java/lang/Object -/
def k0 : Class := { plain "java/lang/Object" none with
  accessFlags := 33
  interfaces := #[]
  cf := some (fileOf pool0 8 #[] #[{ accessFlags := 1, nameIndex := 5, descriptorIndex := 6, attributes := #[] }] 33 0 #[] #[])
  fields := #[]
  methods := #[k0m0]
  instanceTypes := #[]
  staticTypes := #[]
  resolved := Array.replicate 124 none
  statics := none }

def pool1 : Array CpInfo := pool [(2, .class_ 4), (1, u "java/lang/Object"), (0, u "<init>"), (0, u "()V"), (0, .double 4598175219545276416), (1, .double 4602678819172646912), (1, .class_ 12), (0, u "com/example/swathloom/swathloom/planning/Plan"), (0, .methodref 11 14), (0, .nameAndType 5 15), (0, u "([D[Z[D[D)V"), (0, .methodref 11 17), (0, .nameAndType 18 19), (0, u "rollVelocity"), (0, u "(I)D"), (0, .class_ 21), (0, u "com/example/swathloom/swathloom/planning/PlanRollVelocityPinLaw"), (2, u "law"), (0, u "(IIII)Z")] 7

def k1m0 : Method := { name := "<init>", desc := "()V", sig := { parameters := [], returnType := none }, accessFlags := 1, code := none }
def k1c1 : Code := { maxStack := 6, maxLocals := 23, code := code, exceptionTable := #[], attributes := #[] }
def k1m1 : Method := { name := "law", desc := "(IIII)Z", sig := { parameters := [.int, .int, .int, .int], returnType := some .boolean }, accessFlags := 9, code := some k1c1 }
/-- com/example/swathloom/swathloom/planning/PlanRollVelocityPinLaw -/
def k1 : Class := { plain "com/example/swathloom/swathloom/planning/PlanRollVelocityPinLaw" (some 0) with
  accessFlags := 49
  interfaces := #[]
  cf := some (fileOf pool1 20 #[] #[{ accessFlags := 1, nameIndex := 5, descriptorIndex := 6, attributes := #[] }, { accessFlags := 9, nameIndex := 24, descriptorIndex := 25, attributes := #[] }] 49 2 #[] #[])
  fields := #[]
  methods := #[k1m0, k1m1]
  instanceTypes := #[]
  staticTypes := #[]
  resolved := Array.replicate 33 none
  statics := none }

def pool2 : Array CpInfo := pool [(2, .class_ 4), (1, u "com/example/swathloom/swathloom/planning/Plan"), (0, u "<init>"), (0, u "([D[Z[D[D)V"), (0, .methodref 8 9), (0, .class_ 10), (0, .nameAndType 5 11), (0, u "java/lang/Object"), (0, u "()V"), (12, .fieldref 2 25), (0, .nameAndType 26 27), (0, u "rolls"), (0, u "[D"), (0, .fieldref 2 29), (0, .nameAndType 30 31), (0, u "used"), (0, u "[Z"), (0, .fieldref 2 33), (0, .nameAndType 34 27), (0, u "rollVelocities"), (0, .fieldref 2 36), (0, .nameAndType 37 27), (0, u "selectionVelocities"), (0, .fieldref 2 39), (0, .nameAndType 40 41), (0, u "strips"), (0, u "I"), (14, u "(I)D"), (2, u "rollVelocity")] 22

def k2c0 : Code := { maxStack := 4, maxLocals := 10, code := prog_19_method_2_code, exceptionTable := #[], attributes := #[] }
def k2m0 : Method := { name := "<init>", desc := "([D[Z[D[D)V", sig := { parameters := [(.array .double), (.array .boolean), (.array .double), (.array .double)], returnType := none }, accessFlags := 0, code := some k2c0 }
def k2c1 : Code := { maxStack := 2, maxLocals := 2, code := prog_19_method_6_code, exceptionTable := #[], attributes := #[] }
def k2m1 : Method := { name := "rollVelocity", desc := "(I)D", sig := { parameters := [.int], returnType := some .double }, accessFlags := 0, code := some k2c1 }
/-- com/example/swathloom/swathloom/planning/Plan -/
def k2 : Class := { plain "com/example/swathloom/swathloom/planning/Plan" (some 0) with
  accessFlags := 48
  interfaces := #[]
  cf := some (fileOf pool2 2 #[] #[{ accessFlags := 0, nameIndex := 5, descriptorIndex := 6, attributes := #[] }, { accessFlags := 0, nameIndex := 59, descriptorIndex := 56, attributes := #[] }] 48 8 #[] #[{ accessFlags := 18, nameIndex := 26, descriptorIndex := 27, attributes := #[] }, { accessFlags := 18, nameIndex := 30, descriptorIndex := 31, attributes := #[] }, { accessFlags := 18, nameIndex := 34, descriptorIndex := 27, attributes := #[] }, { accessFlags := 18, nameIndex := 37, descriptorIndex := 27, attributes := #[] }, { accessFlags := 18, nameIndex := 40, descriptorIndex := 41, attributes := #[] }])
  fields := #[{ name := "rolls", type := (.array .double), accessFlags := 18, slot := 0, constantValue := 0 }, { name := "used", type := (.array .boolean), accessFlags := 18, slot := 1, constantValue := 0 }, { name := "rollVelocities", type := (.array .double), accessFlags := 18, slot := 2, constantValue := 0 }, { name := "selectionVelocities", type := (.array .double), accessFlags := 18, slot := 3, constantValue := 0 }, { name := "strips", type := .int, accessFlags := 18, slot := 4, constantValue := 0 }]
  methods := #[k2m0, k2m1]
  instanceTypes := #[(.array .double), (.array .boolean), (.array .double), (.array .double), .int]
  staticTypes := #[]
  resolved := Array.replicate 82 none
  statics := none }

def pool3 : Array CpInfo := pool [(1, u "java/lang/Cloneable"), (0, .class_ 1), (0, u "java/lang/Object"), (0, .class_ 3)] 3

/-- java/lang/Cloneable -/
def k3 : Class := { plain "java/lang/Cloneable" (some 0) with
  accessFlags := 1537
  interfaces := #[]
  cf := some (fileOf pool3 2 #[] #[] 1537 4 #[] #[])
  fields := #[]
  methods := #[]
  instanceTypes := #[]
  staticTypes := #[]
  resolved := Array.replicate 8 none
  statics := none }

def pool4 : Array CpInfo := pool [(1, u "java/io/Serializable"), (0, .class_ 1), (0, u "java/lang/Object"), (0, .class_ 3)] 3

/-- java/io/Serializable -/
def k4 : Class := { plain "java/io/Serializable" (some 0) with
  accessFlags := 1537
  interfaces := #[]
  cf := some (fileOf pool4 2 #[] #[] 1537 4 #[] #[])
  fields := #[]
  methods := #[]
  instanceTypes := #[]
  staticTypes := #[]
  resolved := Array.replicate 8 none
  statics := none }

/-- the primitive boolean -/
def k5 : Class := { plain "boolean" none with kind := .primitive 'Z', accessFlags := 0x411 }
/-- [Z -/
def k6 : Class := { plain "[Z" (some 0) with kind := .array 5 .boolean, interfaces := #[3, 4], accessFlags := 1041 }

/-- the primitive byte -/
def k7 : Class := { plain "byte" none with kind := .primitive 'B', accessFlags := 0x411 }
/-- [B -/
def k8 : Class := { plain "[B" (some 0) with kind := .array 7 .byte, interfaces := #[3, 4], accessFlags := 1041 }

/-- the primitive double -/
def k9 : Class := { plain "double" none with kind := .primitive 'D', accessFlags := 0x411 }
/-- [D -/
def k10 : Class := { plain "[D" (some 0) with kind := .array 9 .double, interfaces := #[3, 4], accessFlags := 1041 }

/-- the primitive int -/
def k11 : Class := { plain "int" none with kind := .primitive 'I', accessFlags := 0x411 }
/-- [I -/
def k12 : Class := { plain "[I" (some 0) with kind := .array 11 .int, interfaces := #[3, 4], accessFlags := 1041 }

def heap : Heap := #[]
def classes : Array Class := #[k0, k1, k2, k3, k4, k5, k6, k7, k8, k9, k10, k11, k12]
def interned : List (Array UInt16 × Addr) := []
def slotsUsed : Nat := 0
def theMethod : MethodId := ⟨1, 1⟩
def args0 : Array Value := #[.int 5, .int 3, .int 1, .int 9]
def aboutOver (below : List Frame) : State where
  vm := { classes := classes, interned := interned.toArray }
  heap := heap
  slotsUsed := slotsUsed
  threads := #[{ frames := .invoking theMethod args0 :: below }]
def below0 : List Frame := [.native { method := ⟨0, 0⟩, args := #[] }]
def about1 : State := aboutOver below0
def p0 : Program := .bare "" "" ""
def e0 : Env := launch0.env 0 0 0
theorem w_frames : about1.frames = Frame.invoking theMethod args0 :: below0 := rfl
set_option maxRecDepth 65536 in
theorem w_args : argsFit about1.vm theMethod args0 = true := by decide +kernel
set_option maxRecDepth 65536 in
theorem w_heap : heapFits about1 = true := by decide +kernel
set_option maxRecDepth 65536 in
theorem w_runnable : about1.curStatus? = some .runnable := by decide +kernel
set_option maxRecDepth 65536 in
theorem w_alone : about1.alone = true := by decide +kernel
set_option maxRecDepth 65536 in
theorem w_named : about1.methodNamed? x = some theMethod := by decide +kernel
set_option maxRecDepth 65536 in
theorem w_hears : about1.hears theMethod below0 = true := by decide +kernel
set_option maxRecDepth 65536 in
theorem w_ripe : about1.ripe theMethod args0 below0 = true := by decide +kernel
theorem w_running : about1.status = .running := rfl
set_option maxRecDepth 65536 in
theorem w_room : about1.hasRoom e0.platform room_1 = true :=
  launch0.hasRoom_least _ room_1 (by decide +kernel) (by decide +kernel) (by decide +kernel) (by decide +kernel) (by decide +kernel) (by decide +kernel)
theorem allAtoms_all (ts : List Jvm.Cond) (a : Array Jvm.Value) (st : Jvm.State) : (allAtoms ts).before a st = ts.all (fun c => c.before a st) := by
  induction ts with
  | nil => rfl
  | cons c t ih =>
    show (Jvm.Cond.and c (allAtoms t)).before a st = _
    rw [Jvm.Cond.before_and, ih, List.all_cons]
def words1 : List Jvm.Cond := Jvm.Cond.code x code maxLocals ret :: tables_1
/-- a 'code' word, met by the world's own term for the bytes: nothing is compared byte by byte -/
theorem code_word {y : MethodName} {bytes : ByteArray} {mx : Nat} {rt : Option FieldType} {a : Array Value} {s : State} {m : MethodId} {meth : Method} {c : Code} (h1 : s.methodNamed? y = some m) (h2 : s.vm.method? m = some meth) (h3 : meth.code = some c) (h4 : c.code = bytes)
    (h5 : (c.maxLocals == mx && c.exceptionTable.isEmpty && decide (c.maxStack ≤ mostOperands) && decide (meth.sig.returnType = rt) && !meth.locks && decide (parseMethodDescriptor y.desc = some meth.sig)) = true) : (Jvm.Cond.code y bytes mx rt).before a s = true := by
  simp only [Bool.and_eq_true, beq_iff_eq, Bool.not_eq_true', decide_eq_true_eq] at h5
  obtain ⟨⟨⟨⟨⟨g1, g2⟩, g3⟩, g4⟩, g5⟩, g6⟩ := h5
  simp [Cond.before, Cond.holds, Cond.value, h1, h2, h3, h4, g1, g2, g3, g4, g5, g6]
def isCode : Jvm.Cond → Bool
  | .code _ _ _ _ => true
  | _ => false
theorem all_split {L : List Jvm.Cond} {P : Jvm.Cond → Bool} (h1 : L.all (fun c => isCode c || P c) = true) (h2 : ∀ c ∈ L.filter isCode, P c = true) : L.all P = true := by
  refine List.all_eq_true.mpr fun c hc => ?_
  have h := List.all_eq_true.mp h1 c hc
  rcases Bool.eq_false_or_eq_true (isCode c) with hi | hi
  · exact h2 c (List.mem_filter.mpr ⟨hc, hi⟩)
  · simpa [hi] using h
set_option maxRecDepth 65536 in
theorem w_c0 : (Jvm.Cond.code x code maxLocals ret).before args0 about1 = true := code_word (m := ⟨1, 1⟩) (meth := k1m1) (c := k1c1) (by decide +kernel) rfl rfl rfl (by decide +kernel)
set_option maxRecDepth 65536 in
theorem w_c1 : (Jvm.Cond.code ({ cls := "com/example/swathloom/swathloom/planning/Plan", name := "<init>", desc := "([D[Z[D[D)V" } : Jvm.MethodName) prog_19_method_2_code (10 : Nat) (Option.none : Option Jvm.ClassFile.FieldType)).before args0 about1 = true := code_word (m := ⟨2, 0⟩) (meth := k2m0) (c := k2c0) (by decide +kernel) rfl rfl rfl (by decide +kernel)
set_option maxRecDepth 65536 in
theorem w_c2 : (Jvm.Cond.code ({ cls := "java/lang/Object", name := "<init>", desc := "()V" } : Jvm.MethodName) object_method_1_code (1 : Nat) (Option.none : Option Jvm.ClassFile.FieldType)).before args0 about1 = true := code_word (m := ⟨0, 0⟩) (meth := k0m0) (c := k0c0) (by decide +kernel) rfl rfl rfl (by decide +kernel)
set_option maxRecDepth 65536 in
theorem w_c3 : (Jvm.Cond.code ({ cls := "com/example/swathloom/swathloom/planning/Plan", name := "rollVelocity", desc := "(I)D" } : Jvm.MethodName) prog_19_method_6_code (2 : Nat) (Option.some Jvm.ClassFile.FieldType.double)).before args0 about1 = true := code_word (m := ⟨2, 1⟩) (meth := k2m1) (c := k2c1) (by decide +kernel) rfl rfl rfl (by decide +kernel)
def codes1 : List Jvm.Cond := [Jvm.Cond.code x code maxLocals ret, Jvm.Cond.code ({ cls := "com/example/swathloom/swathloom/planning/Plan", name := "<init>", desc := "([D[Z[D[D)V" } : Jvm.MethodName) prog_19_method_2_code (10 : Nat) (Option.none : Option Jvm.ClassFile.FieldType), Jvm.Cond.code ({ cls := "java/lang/Object", name := "<init>", desc := "()V" } : Jvm.MethodName) object_method_1_code (1 : Nat) (Option.none : Option Jvm.ClassFile.FieldType), Jvm.Cond.code ({ cls := "com/example/swathloom/swathloom/planning/Plan", name := "rollVelocity", desc := "(I)D" } : Jvm.MethodName) prog_19_method_6_code (2 : Nat) (Option.some Jvm.ClassFile.FieldType.double)]
set_option maxRecDepth 65536 in
theorem codes_eq : words1.filter isCode = codes1 := rfl
theorem w_codes : ∀ c ∈ words1.filter isCode, c.before args0 about1 = true := by
  rw [codes_eq]
  intro c hc
  simp only [codes1, List.mem_cons, List.not_mem_nil, or_false] at hc
  rcases hc with rfl | rfl | rfl | rfl
  · exact w_c0
  · exact w_c1
  · exact w_c2
  · exact w_c3
set_option maxRecDepth 65536 in
theorem w_t1 : (words1.take 24).all (fun c => isCode c || c.before args0 about1) = true := by decide +kernel
set_option maxRecDepth 65536 in
theorem w_t2 : (words1.drop 24).all (fun c => isCode c || c.before args0 about1) = true := by decide +kernel
theorem w_tables : (allAtoms (Jvm.Cond.code x code maxLocals ret :: tables_1)).before args0 about1 = true := by
  rw [allAtoms_all]
  show words1.all (fun c => c.before args0 about1) = true
  refine all_split ?_ w_codes
  rw [← List.take_append_drop 24 words1, List.all_append, w_t1, w_t2]
  rfl
set_option maxRecDepth 65536 in
theorem w_case : (Jvm.Cond.and given_1 narrow_1).before args0 about1 = true := by decide +kernel
theorem w_applies : (headSpec (Jvm.Cond.code x code maxLocals ret :: tables_1) room_1).applies x e0.platform about1 = true :=
  (Spec.applies_iff w_frames).mpr ⟨w_running, w_runnable, w_alone, w_named, w_hears, w_ripe, w_room, w_tables⟩
theorem atStart : AtStart classFile x code maxLocals ret World_1 tables_1 room_1 Calls_1 rest_1 Pre_1 launch0 p0 e0 about1 theMethod args0 below0 :=
  ⟨lists_1, trivial, launch0.admits_env _ _ _, launch0.least_env, fairChoices_fair.cas, fairChoices_fair.clock, w_frames, w_args, w_heap, w_applies, trivial, trivial, w_case⟩
end start1
theorem witness_1 : WitnessClaimed_1 := ⟨start1.p0, start1.e0, start1.about1, start1.theMethod, start1.args0, start1.below0, start1.atStart⟩
end Jvm.Pilot.@@N@@
