import JvmDerived
import JvmDerived.Pilot.@@N@@Statement
import JvmDerived.Pilot.@@N@@Code
set_option linter.unusedVariables false
set_option linter.unusedSimpArgs false
namespace Jvm.Pilot.@@N@@
open Jvm Jvm.ClassFile Sem Op Lib Jvm.Free Jvm.Free.Fl Jvm.Stand Jvm.LawKit Jvm.RoadKit Bundle Jvm.Pilot.@@N@@.Jvm.D
section own_go
/-- where the walk stands, with the two facts that every step asks -/
def Ax (p : Program) (l : Launch) (e : Env) (R : Room) (s : State) (m : MethodId) (args : Array Value) (below : List Frame) (meth : Method) (c : Code) (T : State) (locs : List Loc) (cells slots : Nat) (B : ByteArray) : Prop := Stand p l e R s m args below meth c T locs cells slots ∧ p.tables.exec = Jvm.exec ∧ c.code = B
/-- from this frame the run ends, and P holds of its end -/
def Go (p : Program) (e : Env) (below : List Frame) (P : State → Outcome → Prop) (T : State) (g : JFrame) : Prop := ∃ U o, Steps p.tables e below (T.setTop g) U ∧ U.status = .running ∧ Ended U below o ∧ P U o
variable {p : Program} {l : Launch} {e : Env} {R : Room} {s : State} {m : MethodId} {args : Array Value} {below : List Frame} {meth : Method} {c : Code} {T : State} {locs : List Loc} {cells slots : Nat} {P : State → Outcome → Prop} {B : ByteArray} {pc pc' : Nat} {ls ls' : Array Slot} {st : List Value}
theorem Go.of {T' : State} {g g' : JFrame} (k : ∀ t, Steps p.tables e below (T'.setTop g') t → Steps p.tables e below (T.setTop g) t) (h : Go p e below P T' g') : Go p e below P T g := by
  obtain ⟨U, o, h1, h2⟩ := h
  exact ⟨U, o, k _ h1, h2⟩
theorem Go.tr {T' : State} {g g' : JFrame} (k : Steps p.tables e below (T.setTop g) (T'.setTop g')) (h : Go p e below P T' g') : Go p e below P T g := Go.of (fun _ h => k.trans h) h
theorem Go.cast {g g' : JFrame} (q : g = g') (h : Go p e below P T g') : Go p e below P T g := q ▸ h

theorem g_iadd (A : Ax p l e R s m args below meth c T locs cells slots B) {x : Int32} {y : Int32} (hd : decode B pc = .ok (.iadd, 1)) (hp : pc + 1 = pc') (k : Go p e below P T (mkF m pc' ls (.int (x + y) :: st))) : Go p e below P T (mkF m pc ls (.int y :: .int x :: st)) := by
  subst hp; exact Go.of (fun _ k' => XS.iadd A.1.here A.2.1 rfl (hb A.2.2 hd) rfl k') k
theorem g_isub (A : Ax p l e R s m args below meth c T locs cells slots B) {x : Int32} {y : Int32} (hd : decode B pc = .ok (.isub, 1)) (hp : pc + 1 = pc') (k : Go p e below P T (mkF m pc' ls (.int (x - y) :: st))) : Go p e below P T (mkF m pc ls (.int y :: .int x :: st)) := by
  subst hp; exact Go.of (fun _ k' => XS.isub A.1.here A.2.1 rfl (hb A.2.2 hd) rfl k') k
theorem g_iand (A : Ax p l e R s m args below meth c T locs cells slots B) {x : Int32} {y : Int32} (hd : decode B pc = .ok (.iand, 1)) (hp : pc + 1 = pc') (k : Go p e below P T (mkF m pc' ls (.int (x &&& y) :: st))) : Go p e below P T (mkF m pc ls (.int y :: .int x :: st)) := by
  subst hp; exact Go.of (fun _ k' => XS.iand A.1.here A.2.1 rfl (hb A.2.2 hd) rfl k') k
theorem g_imul (A : Ax p l e R s m args below meth c T locs cells slots B) {x : Int32} {y : Int32} (hd : decode B pc = .ok (.imul, 1)) (hp : pc + 1 = pc') (k : Go p e below P T (mkF m pc' ls (.int (x * y) :: st))) : Go p e below P T (mkF m pc ls (.int y :: .int x :: st)) := by
  subst hp; exact Go.of (fun _ k' => XS.imul A.1.here A.2.1 rfl (hb A.2.2 hd) rfl k') k
theorem g_ixor (A : Ax p l e R s m args below meth c T locs cells slots B) {x : Int32} {y : Int32} (hd : decode B pc = .ok (.ixor, 1)) (hp : pc + 1 = pc') (k : Go p e below P T (mkF m pc' ls (.int (x ^^^ y) :: st))) : Go p e below P T (mkF m pc ls (.int y :: .int x :: st)) := by
  subst hp; exact Go.of (fun _ k' => XT.ixor A.1.here A.2.1 rfl (hb A.2.2 hd) rfl k') k
theorem g_ior (A : Ax p l e R s m args below meth c T locs cells slots B) {x : Int32} {y : Int32} (hd : decode B pc = .ok (.ior, 1)) (hp : pc + 1 = pc') (k : Go p e below P T (mkF m pc' ls (.int (x ||| y) :: st))) : Go p e below P T (mkF m pc ls (.int y :: .int x :: st)) := by
  subst hp; exact Go.of (fun _ k' => XT.ior A.1.here A.2.1 rfl (hb A.2.2 hd) rfl k') k
theorem g_ishl (A : Ax p l e R s m args below meth c T locs cells slots B) {x : Int32} {y : Int32} (hd : decode B pc = .ok (.ishl, 1)) (hp : pc + 1 = pc') (k : Go p e below P T (mkF m pc' ls (.int (x <<< (y &&& 31)) :: st))) : Go p e below P T (mkF m pc ls (.int y :: .int x :: st)) := by
  subst hp; exact Go.of (fun _ k' => XT.ishl A.1.here A.2.1 rfl (hb A.2.2 hd) rfl k') k
theorem g_ishr (A : Ax p l e R s m args below meth c T locs cells slots B) {x : Int32} {y : Int32} (hd : decode B pc = .ok (.ishr, 1)) (hp : pc + 1 = pc') (k : Go p e below P T (mkF m pc' ls (.int (x >>> (y &&& 31)) :: st))) : Go p e below P T (mkF m pc ls (.int y :: .int x :: st)) := by
  subst hp; exact Go.of (fun _ k' => XT.ishr A.1.here A.2.1 rfl (hb A.2.2 hd) rfl k') k
theorem g_iushr (A : Ax p l e R s m args below meth c T locs cells slots B) {x : Int32} {y : Int32} (hd : decode B pc = .ok (.iushr, 1)) (hp : pc + 1 = pc') (k : Go p e below P T (mkF m pc' ls (.int (XT.ushr x y) :: st))) : Go p e below P T (mkF m pc ls (.int y :: .int x :: st)) := by
  subst hp; exact Go.of (fun _ k' => XT.iushr A.1.here A.2.1 rfl (hb A.2.2 hd) rfl k') k
theorem g_idiv (A : Ax p l e R s m args below meth c T locs cells slots B) {x : Int32} {y : Int32} (hd : decode B pc = .ok (.idiv, 1)) (hy : y ≠ 0) (hp : pc + 1 = pc') (k : Go p e below P T (mkF m pc' ls (.int (x / y) :: st))) : Go p e below P T (mkF m pc ls (.int y :: .int x :: st)) := by
  subst hp; exact Go.of (fun _ k' => XS.idiv A.1.here A.2.1 rfl (hb A.2.2 hd) rfl hy k') k
theorem g_ladd (A : Ax p l e R s m args below meth c T locs cells slots B) {x : Int64} {y : Int64} (hd : decode B pc = .ok (.ladd, 1)) (hp : pc + 1 = pc') (k : Go p e below P T (mkF m pc' ls (.long (x + y) :: st))) : Go p e below P T (mkF m pc ls (.long y :: .long x :: st)) := by
  subst hp; exact Go.of (fun _ k' => XT.ladd A.1.here A.2.1 rfl (hb A.2.2 hd) rfl k') k
theorem g_lsub (A : Ax p l e R s m args below meth c T locs cells slots B) {x : Int64} {y : Int64} (hd : decode B pc = .ok (.lsub, 1)) (hp : pc + 1 = pc') (k : Go p e below P T (mkF m pc' ls (.long (x - y) :: st))) : Go p e below P T (mkF m pc ls (.long y :: .long x :: st)) := by
  subst hp; exact Go.of (fun _ k' => XT.lsub A.1.here A.2.1 rfl (hb A.2.2 hd) rfl k') k
theorem g_lmul (A : Ax p l e R s m args below meth c T locs cells slots B) {x : Int64} {y : Int64} (hd : decode B pc = .ok (.lmul, 1)) (hp : pc + 1 = pc') (k : Go p e below P T (mkF m pc' ls (.long (x * y) :: st))) : Go p e below P T (mkF m pc ls (.long y :: .long x :: st)) := by
  subst hp; exact Go.of (fun _ k' => XT.lmul A.1.here A.2.1 rfl (hb A.2.2 hd) rfl k') k
theorem g_land (A : Ax p l e R s m args below meth c T locs cells slots B) {x : Int64} {y : Int64} (hd : decode B pc = .ok (.land, 1)) (hp : pc + 1 = pc') (k : Go p e below P T (mkF m pc' ls (.long (x &&& y) :: st))) : Go p e below P T (mkF m pc ls (.long y :: .long x :: st)) := by
  subst hp; exact Go.of (fun _ k' => XT.land A.1.here A.2.1 rfl (hb A.2.2 hd) rfl k') k
theorem g_lor (A : Ax p l e R s m args below meth c T locs cells slots B) {x : Int64} {y : Int64} (hd : decode B pc = .ok (.lor, 1)) (hp : pc + 1 = pc') (k : Go p e below P T (mkF m pc' ls (.long (x ||| y) :: st))) : Go p e below P T (mkF m pc ls (.long y :: .long x :: st)) := by
  subst hp; exact Go.of (fun _ k' => XT.lor A.1.here A.2.1 rfl (hb A.2.2 hd) rfl k') k
theorem g_lxor (A : Ax p l e R s m args below meth c T locs cells slots B) {x : Int64} {y : Int64} (hd : decode B pc = .ok (.lxor, 1)) (hp : pc + 1 = pc') (k : Go p e below P T (mkF m pc' ls (.long (x ^^^ y) :: st))) : Go p e below P T (mkF m pc ls (.long y :: .long x :: st)) := by
  subst hp; exact Go.of (fun _ k' => XT.lxor A.1.here A.2.1 rfl (hb A.2.2 hd) rfl k') k
theorem g_lshl (A : Ax p l e R s m args below meth c T locs cells slots B) {x : Int64} {y : Int32} (hd : decode B pc = .ok (.lshl, 1)) (hp : pc + 1 = pc') (k : Go p e below P T (mkF m pc' ls (.long (x <<< (y.toInt64 &&& 63)) :: st))) : Go p e below P T (mkF m pc ls (.int y :: .long x :: st)) := by
  subst hp; exact Go.of (fun _ k' => XT.lshl A.1.here A.2.1 rfl (hb A.2.2 hd) rfl k') k
theorem g_lshr (A : Ax p l e R s m args below meth c T locs cells slots B) {x : Int64} {y : Int32} (hd : decode B pc = .ok (.lshr, 1)) (hp : pc + 1 = pc') (k : Go p e below P T (mkF m pc' ls (.long (x >>> (y.toInt64 &&& 63)) :: st))) : Go p e below P T (mkF m pc ls (.int y :: .long x :: st)) := by
  subst hp; exact Go.of (fun _ k' => XT.lshr A.1.here A.2.1 rfl (hb A.2.2 hd) rfl k') k
theorem g_lushr (A : Ax p l e R s m args below meth c T locs cells slots B) {x : Int64} {y : Int32} (hd : decode B pc = .ok (.lushr, 1)) (hp : pc + 1 = pc') (k : Go p e below P T (mkF m pc' ls (.long (XT.ushrL x y) :: st))) : Go p e below P T (mkF m pc ls (.int y :: .long x :: st)) := by
  subst hp; exact Go.of (fun _ k' => XT.lushr A.1.here A.2.1 rfl (hb A.2.2 hd) rfl k') k
theorem g_ldiv (A : Ax p l e R s m args below meth c T locs cells slots B) {x : Int64} {y : Int64} (hd : decode B pc = .ok (.ldiv, 1)) (hy : y ≠ 0) (hp : pc + 1 = pc') (k : Go p e below P T (mkF m pc' ls (.long (x / y) :: st))) : Go p e below P T (mkF m pc ls (.long y :: .long x :: st)) := by
  subst hp; exact Go.of (fun _ k' => XT.ldiv A.1.here A.2.1 rfl (hb A.2.2 hd) rfl hy k') k
theorem g_lrem (A : Ax p l e R s m args below meth c T locs cells slots B) {x y : Int64} (hd : decode B pc = .ok (.lrem, 1)) (hy : y ≠ 0) (hp : pc + 1 = pc') (k : Go p e below P T (mkF m pc' ls (.long (x % y) :: st))) : Go p e below P T (mkF m pc ls (.long y :: .long x :: st)) := by
  subst hp; rw [← lrem_mod] at k; exact Go.of (fun _ k' => XT.lrem A.1.here A.2.1 rfl (hb A.2.2 hd) rfl hy k') k
theorem g_i2s (A : Ax p l e R s m args below meth c T locs cells slots B) {x : Int32} (hd : decode B pc = .ok (.i2s, 1)) (hp : pc + 1 = pc') (k : Go p e below P T (mkF m pc' ls (.int (x.toInt16.toInt32) :: st))) : Go p e below P T (mkF m pc ls (.int x :: st)) := by
  subst hp; exact Go.of (fun _ k' => XT.i2s A.1.here A.2.1 rfl (hb A.2.2 hd) rfl k') k
theorem g_i2b (A : Ax p l e R s m args below meth c T locs cells slots B) {x : Int32} (hd : decode B pc = .ok (.i2b, 1)) (hp : pc + 1 = pc') (k : Go p e below P T (mkF m pc' ls (.int (x.toInt8.toInt32) :: st))) : Go p e below P T (mkF m pc ls (.int x :: st)) := by
  subst hp; exact Go.of (fun _ k' => XT.i2b A.1.here A.2.1 rfl (hb A.2.2 hd) rfl k') k
theorem g_i2c (A : Ax p l e R s m args below meth c T locs cells slots B) {x : Int32} (hd : decode B pc = .ok (.i2c, 1)) (hp : pc + 1 = pc') (k : Go p e below P T (mkF m pc' ls (.int (x.toUInt32.toUInt16.toUInt32.toInt32) :: st))) : Go p e below P T (mkF m pc ls (.int x :: st)) := by
  subst hp; exact Go.of (fun _ k' => XT.i2c A.1.here A.2.1 rfl (hb A.2.2 hd) rfl k') k
theorem g_ineg (A : Ax p l e R s m args below meth c T locs cells slots B) {x : Int32} (hd : decode B pc = .ok (.ineg, 1)) (hp : pc + 1 = pc') (k : Go p e below P T (mkF m pc' ls (.int (-x) :: st))) : Go p e below P T (mkF m pc ls (.int x :: st)) := by
  subst hp; exact Go.of (fun _ k' => XS.ineg A.1.here A.2.1 rfl (hb A.2.2 hd) rfl k') k
theorem g_lneg (A : Ax p l e R s m args below meth c T locs cells slots B) {x : Int64} (hd : decode B pc = .ok (.lneg, 1)) (hp : pc + 1 = pc') (k : Go p e below P T (mkF m pc' ls (.long (-x) :: st))) : Go p e below P T (mkF m pc ls (.long x :: st)) := by
  subst hp; exact Go.of (fun _ k' => XT.lneg A.1.here A.2.1 rfl (hb A.2.2 hd) rfl k') k
theorem g_i2l (A : Ax p l e R s m args below meth c T locs cells slots B) {x : Int32} (hd : decode B pc = .ok (.i2l, 1)) (hp : pc + 1 = pc') (k : Go p e below P T (mkF m pc' ls (.long (x.toInt64) :: st))) : Go p e below P T (mkF m pc ls (.int x :: st)) := by
  subst hp; exact Go.of (fun _ k' => XT.i2l A.1.here A.2.1 rfl (hb A.2.2 hd) rfl k') k
theorem g_l2i (A : Ax p l e R s m args below meth c T locs cells slots B) {x : Int64} (hd : decode B pc = .ok (.l2i, 1)) (hp : pc + 1 = pc') (k : Go p e below P T (mkF m pc' ls (.int (x.toInt32) :: st))) : Go p e below P T (mkF m pc ls (.long x :: st)) := by
  subst hp; exact Go.of (fun _ k' => XT.l2i A.1.here A.2.1 rfl (hb A.2.2 hd) rfl k') k
theorem g_irem (A : Ax p l e R s m args below meth c T locs cells slots B) {x y : Int32} (hd : decode B pc = .ok (.irem, 1)) (hy : y ≠ 0) (hp : pc + 1 = pc') (k : Go p e below P T (mkF m pc' ls (.int (x % y) :: st))) : Go p e below P T (mkF m pc ls (.int y :: .int x :: st)) := by
  subst hp; exact Go.of (fun _ k' => iremM A.1 A.2.1 rfl (hb A.2.2 hd) rfl hy k') k
theorem g_iloadN (A : Ax p l e R s m args below meth c T locs cells slots B) {k : Fin 4} {v : Int32} (hd : decode B pc = .ok (.iload_n k, 1)) (hl : ls[k.val]? = some (.val (.int v))) (hp : pc + 1 = pc') (k : Go p e below P T (mkF m pc' ls (.int v :: st))) : Go p e below P T (mkF m pc ls st) := by
  subst hp; exact Go.of (fun _ k' => XS.iloadN A.1.here A.2.1 rfl (hb A.2.2 hd) hl k') k
theorem g_iload (A : Ax p l e R s m args below meth c T locs cells slots B) {k : Nat} {v : Int32} (hd : decode B pc = .ok (.iload k, 2)) (hl : ls[k]? = some (.val (.int v))) (hp : pc + 2 = pc') (k : Go p e below P T (mkF m pc' ls (.int v :: st))) : Go p e below P T (mkF m pc ls st) := by
  subst hp; exact Go.of (fun _ k' => XS.iload A.1.here A.2.1 rfl (hb A.2.2 hd) hl k') k
theorem g_lloadN (A : Ax p l e R s m args below meth c T locs cells slots B) {k : Fin 4} {v : Int64} (hd : decode B pc = .ok (.lload_n k, 1)) (hl : ls[k.val]? = some (.val (.long v))) (hp : pc + 1 = pc') (k : Go p e below P T (mkF m pc' ls (.long v :: st))) : Go p e below P T (mkF m pc ls st) := by
  subst hp; exact Go.of (fun _ k' => XT.lloadN A.1.here A.2.1 rfl (hb A.2.2 hd) hl k') k
theorem g_lload (A : Ax p l e R s m args below meth c T locs cells slots B) {k : Nat} {v : Int64} (hd : decode B pc = .ok (.lload k, 2)) (hl : ls[k]? = some (.val (.long v))) (hp : pc + 2 = pc') (k : Go p e below P T (mkF m pc' ls (.long v :: st))) : Go p e below P T (mkF m pc ls st) := by
  subst hp; exact Go.of (fun _ k' => XT.lload A.1.here A.2.1 rfl (hb A.2.2 hd) hl k') k
theorem g_aloadN (A : Ax p l e R s m args below meth c T locs cells slots B) {k : Fin 4} {v : Value} (hd : decode B pc = .ok (.aload_n k, 1)) (hl : ls[k.val]? = some (.val v)) (hv : v.isRef = true) (hp : pc + 1 = pc') (k : Go p e below P T (mkF m pc' ls (v :: st))) : Go p e below P T (mkF m pc ls st) := by
  subst hp; exact Go.of (fun _ k' => XS.aloadN A.1.here A.2.1 rfl (hb A.2.2 hd) hl hv k') k
theorem g_aload (A : Ax p l e R s m args below meth c T locs cells slots B) {k : Nat} {v : Value} (hd : decode B pc = .ok (.aload k, 2)) (hl : ls[k]? = some (.val v)) (hv : v.isRef = true) (hp : pc + 2 = pc') (k : Go p e below P T (mkF m pc' ls (v :: st))) : Go p e below P T (mkF m pc ls st) := by
  subst hp; exact Go.of (fun _ k' => XS.aload A.1.here A.2.1 rfl (hb A.2.2 hd) hl hv k') k
theorem g_dloadN (A : Ax p l e R s m args below meth c T locs cells slots B) {k : Fin 4} {v : UInt64} (hd : decode B pc = .ok (.dload_n k, 1)) (hl : ls[k.val]? = some (.val (.double v))) (hp : pc + 1 = pc') (k : Go p e below P T (mkF m pc' ls (.double v :: st))) : Go p e below P T (mkF m pc ls st) := by
  subst hp
  refine Go.of (fun t k' => ?_) k
  have h := A.1.here
  have hx := A.2.1
  have hd' := hb A.2.2 hd
  show Steps p.tables e below (T.setTop { method := m, pc := pc, locals := ls, stack := st, locked := none }) _
  jvm_step h [h.top, hx, hd', hl]
  exact k'
theorem g_dload (A : Ax p l e R s m args below meth c T locs cells slots B) {k : Nat} {v : UInt64} (hd : decode B pc = .ok (.dload k, 2)) (hl : ls[k]? = some (.val (.double v))) (hp : pc + 2 = pc') (k : Go p e below P T (mkF m pc' ls (.double v :: st))) : Go p e below P T (mkF m pc ls st) := by
  subst hp
  refine Go.of (fun t k' => ?_) k
  have h := A.1.here
  have hx := A.2.1
  have hd' := hb A.2.2 hd
  show Steps p.tables e below (T.setTop { method := m, pc := pc, locals := ls, stack := st, locked := none }) _
  jvm_step h [h.top, hx, hd', hl]
  exact k'
theorem g_istoreN (A : Ax p l e R s m args below meth c T locs cells slots B) {k : Fin 4} {x : Int32} (hd : decode B pc = .ok (.istore_n k, 1)) (hl : storeLocals ls k.val (.int x) = some ls') (hp : pc + 1 = pc') (k : Go p e below P T (mkF m pc' ls' st)) : Go p e below P T (mkF m pc ls (.int x :: st)) := by
  subst hp; exact Go.of (fun _ k' => XS.istoreN A.1.here A.2.1 rfl (hb A.2.2 hd) rfl hl k') k
theorem g_istore (A : Ax p l e R s m args below meth c T locs cells slots B) {k : Nat} {x : Int32} (hd : decode B pc = .ok (.istore k, 2)) (hl : storeLocals ls k (.int x) = some ls') (hp : pc + 2 = pc') (k : Go p e below P T (mkF m pc' ls' st)) : Go p e below P T (mkF m pc ls (.int x :: st)) := by
  subst hp; exact Go.of (fun _ k' => XS.istore A.1.here A.2.1 rfl (hb A.2.2 hd) rfl hl k') k
theorem g_lstoreN (A : Ax p l e R s m args below meth c T locs cells slots B) {k : Fin 4} {x : Int64} (hd : decode B pc = .ok (.lstore_n k, 1)) (hl : storeLocals ls k.val (.long x) = some ls') (hp : pc + 1 = pc') (k : Go p e below P T (mkF m pc' ls' st)) : Go p e below P T (mkF m pc ls (.long x :: st)) := by
  subst hp; exact Go.of (fun _ k' => XT.lstoreN A.1.here A.2.1 rfl (hb A.2.2 hd) rfl hl k') k
theorem g_lstore (A : Ax p l e R s m args below meth c T locs cells slots B) {k : Nat} {x : Int64} (hd : decode B pc = .ok (.lstore k, 2)) (hl : storeLocals ls k (.long x) = some ls') (hp : pc + 2 = pc') (k : Go p e below P T (mkF m pc' ls' st)) : Go p e below P T (mkF m pc ls (.long x :: st)) := by
  subst hp; exact Go.of (fun _ k' => XT.lstore A.1.here A.2.1 rfl (hb A.2.2 hd) rfl hl k') k
theorem g_astoreN (A : Ax p l e R s m args below meth c T locs cells slots B) {k : Fin 4} {x : Value} (hd : decode B pc = .ok (.astore_n k, 1)) (hv : x.isRef = true) (hl : storeLocals ls k.val x = some ls') (hp : pc + 1 = pc') (k : Go p e below P T (mkF m pc' ls' st)) : Go p e below P T (mkF m pc ls (x :: st)) := by
  subst hp; exact Go.of (fun _ k' => XS.astoreN A.1.here A.2.1 rfl (hb A.2.2 hd) rfl hv hl k') k
theorem g_astore (A : Ax p l e R s m args below meth c T locs cells slots B) {k : Nat} {x : Value} (hd : decode B pc = .ok (.astore k, 2)) (hv : x.isRef = true) (hl : storeLocals ls k x = some ls') (hp : pc + 2 = pc') (k : Go p e below P T (mkF m pc' ls' st)) : Go p e below P T (mkF m pc ls (x :: st)) := by
  subst hp; exact Go.of (fun _ k' => XS.astore A.1.here A.2.1 rfl (hb A.2.2 hd) rfl hv hl k') k
theorem g_dstoreN (A : Ax p l e R s m args below meth c T locs cells slots B) {k : Fin 4} {x : UInt64} (hd : decode B pc = .ok (.dstore_n k, 1)) (hl : storeLocals ls k.val (.double x) = some ls') (hp : pc + 1 = pc') (k : Go p e below P T (mkF m pc' ls' st)) : Go p e below P T (mkF m pc ls (.double x :: st)) := by
  subst hp
  refine Go.of (fun t k' => ?_) k
  have h := A.1.here
  have hx := A.2.1
  have hd' := hb A.2.2 hd
  show Steps p.tables e below (T.setTop { method := m, pc := pc, locals := ls, stack := .double x :: st, locked := none }) _
  jvm_step h [h.top, hx, hd']
  exact ⟨ls', hl, k'⟩
theorem g_dstore (A : Ax p l e R s m args below meth c T locs cells slots B) {k : Nat} {x : UInt64} (hd : decode B pc = .ok (.dstore k, 2)) (hl : storeLocals ls k (.double x) = some ls') (hp : pc + 2 = pc') (k : Go p e below P T (mkF m pc' ls' st)) : Go p e below P T (mkF m pc ls (.double x :: st)) := by
  subst hp
  refine Go.of (fun t k' => ?_) k
  have h := A.1.here
  have hx := A.2.1
  have hd' := hb A.2.2 hd
  show Steps p.tables e below (T.setTop { method := m, pc := pc, locals := ls, stack := .double x :: st, locked := none }) _
  jvm_step h [h.top, hx, hd']
  exact ⟨ls', hl, k'⟩
theorem g_iconst (A : Ax p l e R s m args below meth c T locs cells slots B) {i : Int} {v : Int32} (hd : decode B pc = .ok (.iconst i, 1)) (hv : Int32.ofInt i = v) (hp : pc + 1 = pc') (k : Go p e below P T (mkF m pc' ls (.int v :: st))) : Go p e below P T (mkF m pc ls st) := by
  subst hp hv; exact Go.of (fun _ k' => XS.iconst A.1.here A.2.1 rfl (hb A.2.2 hd) k') k
theorem g_bipush (A : Ax p l e R s m args below meth c T locs cells slots B) {i : Int} {v : Int32} (hd : decode B pc = .ok (.bipush i, 2)) (hv : (Int8.ofInt i).toInt32 = v) (hp : pc + 2 = pc') (k : Go p e below P T (mkF m pc' ls (.int v :: st))) : Go p e below P T (mkF m pc ls st) := by
  subst hp hv; exact Go.of (fun _ k' => XS.bipush A.1.here A.2.1 rfl (hb A.2.2 hd) k') k
theorem g_sipush (A : Ax p l e R s m args below meth c T locs cells slots B) {i : Int} {v : Int32} (hd : decode B pc = .ok (.sipush i, 3)) (hv : (Int16.ofInt i).toInt32 = v) (hp : pc + 3 = pc') (k : Go p e below P T (mkF m pc' ls (.int v :: st))) : Go p e below P T (mkF m pc ls st) := by
  subst hp hv; exact Go.of (fun _ k' => XS.sipush A.1.here A.2.1 rfl (hb A.2.2 hd) k') k
theorem g_aconst (A : Ax p l e R s m args below meth c T locs cells slots B) (hd : decode B pc = .ok (.aconst_null, 1)) (hp : pc + 1 = pc') (k : Go p e below P T (mkF m pc' ls (.null :: st))) : Go p e below P T (mkF m pc ls st) := by
  subst hp; exact Go.of (fun _ k' => XS.aconstNull A.1.here A.2.1 rfl (hb A.2.2 hd) k') k
theorem g_lconst (A : Ax p l e R s m args below meth c T locs cells slots B) {i : Fin 2} {v : Int64} (hd : decode B pc = .ok (.lconst i, 1)) (hv : Int64.ofNat i = v) (hp : pc + 1 = pc') (k : Go p e below P T (mkF m pc' ls (.long v :: st))) : Go p e below P T (mkF m pc ls st) := by
  subst hp hv; exact Go.of (fun _ k' => XT.lconst A.1.here A.2.1 rfl (hb A.2.2 hd) k') k
theorem g_dconst0 (A : Ax p l e R s m args below meth c T locs cells slots B) (hd : decode B pc = .ok (.dconst 0, 1)) (hp : pc + 1 = pc') (k : Go p e below P T (mkF m pc' ls (.double (0 : UInt64) :: st))) : Go p e below P T (mkF m pc ls st) := by
  subst hp
  refine Go.of (fun t k' => ?_) k
  have h := A.1.here
  have hx := A.2.1
  have hd' := hb A.2.2 hd
  show Steps p.tables e below (T.setTop { method := m, pc := pc, locals := ls, stack := st, locked := none }) _
  jvm_step h [h.top, hx, hd']
  exact k'
theorem g_dconst1 (A : Ax p l e R s m args below meth c T locs cells slots B) (hd : decode B pc = .ok (.dconst 1, 1)) (hp : pc + 1 = pc') (k : Go p e below P T (mkF m pc' ls (.double (4607182418800017408 : UInt64) :: st))) : Go p e below P T (mkF m pc ls st) := by
  subst hp
  refine Go.of (fun t k' => ?_) k
  have h := A.1.here
  have hx := A.2.1
  have hd' := hb A.2.2 hd
  show Steps p.tables e below (T.setTop { method := m, pc := pc, locals := ls, stack := st, locked := none }) _
  jvm_step h [h.top, hx, hd']
  exact k'
theorem g_dadd (A : Ax p l e R s m args below meth c T locs cells slots B) {x y : UInt64} (hd : decode B pc = .ok (.dadd, 1)) (hn : NoNaN64 (FP.dadd x y)) (hp : pc + 1 = pc') (k : Go p e below P T (mkF m pc' ls (.double (FP.dadd x y) :: st))) : Go p e below P T (mkF m pc ls (.double y :: .double x :: st)) := by
  subst hp
  refine Go.of (fun t k' => ?_) k
  have h := A.1.here
  have hx := A.2.1
  have hd' := hb A.2.2 hd
  show Steps p.tables e below (T.setTop { method := m, pc := pc, locals := ls, stack := .double y :: .double x :: st, locked := none }) _
  jvm_step h [h.top, hx, hd', Op.dadd.at_number h.top hn]
  exact k'
theorem g_dsub (A : Ax p l e R s m args below meth c T locs cells slots B) {x y : UInt64} (hd : decode B pc = .ok (.dsub, 1)) (hn : NoNaN64 (FP.dsub x y)) (hp : pc + 1 = pc') (k : Go p e below P T (mkF m pc' ls (.double (FP.dsub x y) :: st))) : Go p e below P T (mkF m pc ls (.double y :: .double x :: st)) := by
  subst hp
  refine Go.of (fun t k' => ?_) k
  have h := A.1.here
  have hx := A.2.1
  have hd' := hb A.2.2 hd
  show Steps p.tables e below (T.setTop { method := m, pc := pc, locals := ls, stack := .double y :: .double x :: st, locked := none }) _
  jvm_step h [h.top, hx, hd', Op.dsub.at_number h.top hn]
  exact k'
theorem g_dmul (A : Ax p l e R s m args below meth c T locs cells slots B) {x y : UInt64} (hd : decode B pc = .ok (.dmul, 1)) (hn : NoNaN64 (FP.dmul x y)) (hp : pc + 1 = pc') (k : Go p e below P T (mkF m pc' ls (.double (FP.dmul x y) :: st))) : Go p e below P T (mkF m pc ls (.double y :: .double x :: st)) := by
  subst hp
  refine Go.of (fun t k' => ?_) k
  have h := A.1.here
  have hx := A.2.1
  have hd' := hb A.2.2 hd
  show Steps p.tables e below (T.setTop { method := m, pc := pc, locals := ls, stack := .double y :: .double x :: st, locked := none }) _
  jvm_step h [h.top, hx, hd', Op.dmul.at_number h.top hn]
  exact k'
theorem g_ddiv (A : Ax p l e R s m args below meth c T locs cells slots B) {x y : UInt64} (hd : decode B pc = .ok (.ddiv, 1)) (hn : NoNaN64 (FP.ddiv x y)) (hp : pc + 1 = pc') (k : Go p e below P T (mkF m pc' ls (.double (FP.ddiv x y) :: st))) : Go p e below P T (mkF m pc ls (.double y :: .double x :: st)) := by
  subst hp
  refine Go.of (fun t k' => ?_) k
  have h := A.1.here
  have hx := A.2.1
  have hd' := hb A.2.2 hd
  show Steps p.tables e below (T.setTop { method := m, pc := pc, locals := ls, stack := .double y :: .double x :: st, locked := none }) _
  jvm_step h [h.top, hx, hd', Op.ddiv.at_number h.top hn]
  exact k'
theorem g_dneg (A : Ax p l e R s m args below meth c T locs cells slots B) {x : UInt64} (hd : decode B pc = .ok (.dneg, 1)) (hp : pc + 1 = pc') (k : Go p e below P T (mkF m pc' ls (.double (FP.dneg x) :: st))) : Go p e below P T (mkF m pc ls (.double x :: st)) := by
  subst hp
  refine Go.of (fun t k' => ?_) k
  have h := A.1.here
  have hx := A.2.1
  have hd' := hb A.2.2 hd
  show Steps p.tables e below (T.setTop { method := m, pc := pc, locals := ls, stack := .double x :: st, locked := none }) _
  jvm_step h [h.top, hx, hd']
  exact k'
theorem g_i2d (A : Ax p l e R s m args below meth c T locs cells slots B) {x : Int32} (hd : decode B pc = .ok (.i2d, 1)) (hp : pc + 1 = pc') (k : Go p e below P T (mkF m pc' ls (.double (FP.i2d x) :: st))) : Go p e below P T (mkF m pc ls (.int x :: st)) := by
  subst hp
  refine Go.of (fun t k' => ?_) k
  have h := A.1.here
  have hx := A.2.1
  have hd' := hb A.2.2 hd
  show Steps p.tables e below (T.setTop { method := m, pc := pc, locals := ls, stack := .int x :: st, locked := none }) _
  jvm_step h [h.top, hx, hd']
  exact k'
theorem g_l2d (A : Ax p l e R s m args below meth c T locs cells slots B) {x : Int64} (hd : decode B pc = .ok (.l2d, 1)) (hp : pc + 1 = pc') (k : Go p e below P T (mkF m pc' ls (.double (FP.l2d x) :: st))) : Go p e below P T (mkF m pc ls (.long x :: st)) := by
  subst hp
  refine Go.of (fun t k' => ?_) k
  have h := A.1.here
  have hx := A.2.1
  have hd' := hb A.2.2 hd
  show Steps p.tables e below (T.setTop { method := m, pc := pc, locals := ls, stack := .long x :: st, locked := none }) _
  jvm_step h [h.top, hx, hd']
  exact k'
theorem g_dcmp (A : Ax p l e R s m args below meth c T locs cells slots B) {x y : UInt64} {op : CmpOp} (hd : decode B pc = .ok (.dcmp op, 1)) (hp : pc + 1 = pc') (k : Go p e below P T (mkF m pc' ls (.int (cmpValue (FP.dcmp x y) op) :: st))) : Go p e below P T (mkF m pc ls (.double y :: .double x :: st)) := by
  subst hp
  refine Go.of (fun t k' => ?_) k
  have h := A.1.here
  have hx := A.2.1
  have hd' := hb A.2.2 hd
  show Steps p.tables e below (T.setTop { method := m, pc := pc, locals := ls, stack := .double y :: .double x :: st, locked := none }) _
  jvm_step h [h.top, hx, hd']
  exact k'
theorem g_lcmp (A : Ax p l e R s m args below meth c T locs cells slots B) {x y : Int64} (hd : decode B pc = .ok (.lcmp, 1)) (hp : pc + 1 = pc') (k : Go p e below P T (mkF m pc' ls (.int (XT.cmpL x y) :: st))) : Go p e below P T (mkF m pc ls (.long y :: .long x :: st)) := by
  subst hp; exact Go.of (fun _ k' => XT.lcmp A.1.here A.2.1 rfl (hb A.2.2 hd) rfl k') k
theorem g_dup (A : Ax p l e R s m args below meth c T locs cells slots B) {x : Value} (hd : decode B pc = .ok (.dup, 1)) (hc : x.category = 1) (hp : pc + 1 = pc') (k : Go p e below P T (mkF m pc' ls (x :: x :: st))) : Go p e below P T (mkF m pc ls (x :: st)) := by
  subst hp; exact Go.of (fun _ k' => XS.dup A.1.here A.2.1 rfl (hb A.2.2 hd) rfl hc k') k
theorem g_pop (A : Ax p l e R s m args below meth c T locs cells slots B) {x : Value} (hd : decode B pc = .ok (.pop, 1)) (hc : x.category = 1) (hp : pc + 1 = pc') (k : Go p e below P T (mkF m pc' ls st)) : Go p e below P T (mkF m pc ls (x :: st)) := by
  subst hp; exact Go.of (fun _ k' => XT.pop A.1.here A.2.1 rfl (hb A.2.2 hd) rfl hc k') k
theorem g_iinc (A : Ax p l e R s m args below meth c T locs cells slots B) {k : Nat} {i : Int} {x y : Int32} (hd : decode B pc = .ok (.iinc k i, 3)) (hl : ls[k]? = some (.val (.int x))) (hy : x + Int32.ofInt i = y) (hl' : storeLocals ls k (.int y) = some ls') (hp : pc + 3 = pc') (k : Go p e below P T (mkF m pc' ls' st)) : Go p e below P T (mkF m pc ls st) := by
  subst hp hy; exact Go.of (fun _ k' => XS.iinc A.1.here A.2.1 rfl (hb A.2.2 hd) hl hl' k') k
theorem own_off {pc pc' : Nat} {o : Int} (h : (pc : Int) + o = (pc' : Int)) : 0 ≤ (pc : Int) + o ∧ ((pc : Int) + o).toNat = pc' := by omega
theorem g_goto (A : Ax p l e R s m args below meth c T locs cells slots B) {o : Int} (hd : decode B pc = .ok (.goto o, 3)) (hp : (pc : Int) + o = (pc' : Int)) (k : Go p e below P T (mkF m pc' ls st)) : Go p e below P T (mkF m pc ls st) := Go.of (fun _ k' => XS.goto A.1.here A.2.1 rfl rfl (hb A.2.2 hd) (own_off hp).1 (own_off hp).2 k') k
theorem g_ifY (A : Ax p l e R s m args below meth c T locs cells slots B) {o : Int} {cd : ClassFile.Cond} {x : Int32} (hd : decode B pc = .ok (.ifCond cd o, 3)) (hc : ifCond.holds cd x = true) (hp : (pc : Int) + o = (pc' : Int)) (k : Go p e below P T (mkF m pc' ls st)) : Go p e below P T (mkF m pc ls (.int x :: st)) := Go.of (fun _ k' => XS.ifYes A.1.here A.2.1 rfl rfl (hb A.2.2 hd) rfl hc (own_off hp).1 (own_off hp).2 k') k
theorem g_ifN (A : Ax p l e R s m args below meth c T locs cells slots B) {o : Int} {cd : ClassFile.Cond} {x : Int32} (hd : decode B pc = .ok (.ifCond cd o, 3)) (hc : ifCond.holds cd x = false) (hp : pc + 3 = pc') (k : Go p e below P T (mkF m pc' ls st)) : Go p e below P T (mkF m pc ls (.int x :: st)) := by
  subst hp; exact Go.of (fun _ k' => XS.ifNo A.1.here A.2.1 rfl (hb A.2.2 hd) rfl hc k') k
theorem g_icY (A : Ax p l e R s m args below meth c T locs cells slots B) {o : Int} {cd : ClassFile.Cond} {x y : Int32} (hd : decode B pc = .ok (.if_icmp cd o, 3)) (hc : if_icmp.holds cd x y = true) (hp : (pc : Int) + o = (pc' : Int)) (k : Go p e below P T (mkF m pc' ls st)) : Go p e below P T (mkF m pc ls (.int y :: .int x :: st)) := Go.of (fun _ k' => XS.icmpYes A.1.here A.2.1 rfl rfl (hb A.2.2 hd) rfl hc (own_off hp).1 (own_off hp).2 k') k
theorem g_icN (A : Ax p l e R s m args below meth c T locs cells slots B) {o : Int} {cd : ClassFile.Cond} {x y : Int32} (hd : decode B pc = .ok (.if_icmp cd o, 3)) (hc : if_icmp.holds cd x y = false) (hp : pc + 3 = pc') (k : Go p e below P T (mkF m pc' ls st)) : Go p e below P T (mkF m pc ls (.int y :: .int x :: st)) := by
  subst hp; exact Go.of (fun _ k' => XS.icmpNo A.1.here A.2.1 rfl (hb A.2.2 hd) rfl hc k') k
theorem c0_eq_t {x : Int32} (h : x = 0) : ifCond.holds .eq x = true := (if0 _ _).trans (teq h).1
theorem c0_eq_f {x : Int32} (h : ¬ x = 0) : ifCond.holds .eq x = false := (if0 _ _).trans (feq h).1
theorem c0_ne_t {x : Int32} (h : ¬ x = 0) : ifCond.holds .ne x = true := (if0 _ _).trans (feq h).2
theorem c0_ne_f {x : Int32} (h : x = 0) : ifCond.holds .ne x = false := (if0 _ _).trans (teq h).2
theorem c0_lt_t {x : Int32} (h : x < 0) : ifCond.holds .lt x = true := (if0 _ _).trans (tlt h).1
theorem c0_lt_f {x : Int32} (h : ¬ x < 0) : ifCond.holds .lt x = false := (if0 _ _).trans (flt h).1
theorem c0_ge_t {x : Int32} (h : ¬ x < 0) : ifCond.holds .ge x = true := (if0 _ _).trans (flt h).2.1
theorem c0_ge_f {x : Int32} (h : x < 0) : ifCond.holds .ge x = false := (if0 _ _).trans (tlt h).2.1
theorem c0_gt_t {x : Int32} (h : 0 < x) : ifCond.holds .gt x = true := (if0 _ _).trans (tlt h).2.2.1
theorem c0_gt_f {x : Int32} (h : ¬ 0 < x) : ifCond.holds .gt x = false := (if0 _ _).trans (flt h).2.2.1
theorem c0_le_t {x : Int32} (h : ¬ 0 < x) : ifCond.holds .le x = true := (if0 _ _).trans (flt h).2.2.2
theorem c0_le_f {x : Int32} (h : 0 < x) : ifCond.holds .le x = false := (if0 _ _).trans (tlt h).2.2.2
theorem c2_eq_t {x y : Int32} (h : x = y) : if_icmp.holds .eq x y = true := (teq h).1
theorem c2_eq_f {x y : Int32} (h : ¬ x = y) : if_icmp.holds .eq x y = false := (feq h).1
theorem c2_ne_t {x y : Int32} (h : ¬ x = y) : if_icmp.holds .ne x y = true := (feq h).2
theorem c2_ne_f {x y : Int32} (h : x = y) : if_icmp.holds .ne x y = false := (teq h).2
theorem c2_lt_t {x y : Int32} (h : x < y) : if_icmp.holds .lt x y = true := (tlt h).1
theorem c2_lt_f {x y : Int32} (h : ¬ x < y) : if_icmp.holds .lt x y = false := (flt h).1
theorem c2_ge_t {x y : Int32} (h : ¬ x < y) : if_icmp.holds .ge x y = true := (flt h).2.1
theorem c2_ge_f {x y : Int32} (h : x < y) : if_icmp.holds .ge x y = false := (tlt h).2.1
theorem c2_gt_t {x y : Int32} (h : y < x) : if_icmp.holds .gt x y = true := (tlt h).2.2.1
theorem c2_gt_f {x y : Int32} (h : ¬ y < x) : if_icmp.holds .gt x y = false := (flt h).2.2.1
theorem c2_le_t {x y : Int32} (h : ¬ y < x) : if_icmp.holds .le x y = true := (flt h).2.2.2
theorem c2_le_f {x y : Int32} (h : y < x) : if_icmp.holds .le x y = false := (tlt h).2.2.2
theorem b0_eq_t {C : Prop} [Decidable C] {v : Int32} (e : v = if C then 1 else 0) (h : ¬ C) : ifCond.holds .eq v = true := c0_eq_t (by rw [e, if_neg h])
theorem b0_eq_f {C : Prop} [Decidable C] {v : Int32} (e : v = if C then 1 else 0) (h : C) : ifCond.holds .eq v = false := c0_eq_f (by rw [e, if_pos h]; decide)
theorem b0_ne_t {C : Prop} [Decidable C] {v : Int32} (e : v = if C then 1 else 0) (h : C) : ifCond.holds .ne v = true := c0_ne_t (by rw [e, if_pos h]; decide)
theorem b0_ne_f {C : Prop} [Decidable C] {v : Int32} (e : v = if C then 1 else 0) (h : ¬ C) : ifCond.holds .ne v = false := c0_ne_f (by rw [e, if_neg h])
theorem own_b01 {C : Prop} [Decidable C] {v : Int32} (e : v = if C then 1 else 0) : narrow .boolean (.int v) = .int v := by
  subst e; by_cases h : C
  · rw [if_pos h]; rfl
  · rw [if_neg h]; rfl
theorem own_fb {C : Prop} [Decidable C] {v : Int32} (e : v = if C then 1 else 0) : fits .boolean (.int v) = true := by
  subst e; by_cases h : C
  · rw [if_pos h]; rfl
  · rw [if_neg h]; rfl
theorem own_ndadd {x y : UInt64} (h1 : Fin64 x) (h2 : Fin64 y) : NoNaN64 (FP.dadd x y) := dadd_out h1.noNaN h2
theorem own_ndsub {x y : UInt64} (h1 : Fin64 x) (h2 : Fin64 y) : NoNaN64 (FP.dsub x y) := dsub_out h1.noNaN h2
theorem own_ndmul {x y : UInt64} (h1 : Fin64 x) (h2 : Fin64 y) : NoNaN64 (FP.dmul x y) := dmul_out h1 h2
theorem own_fin {x : UInt64} : Fin64 x ↔ FP.Core.DFin x := fin64_core
theorem own_fneg {x : UInt64} (h : Fin64 x) : Fin64 (FP.dneg x) := by
  obtain ⟨s, c, q, e⟩ := fin64_core.mp h
  exact fin64_core.mpr ⟨!s, c, q, (FP.val64_dneg x).trans (by rw [e]; rfl)⟩
theorem own_self {x : UInt64} (h : Fin64 x) : FP.dcmp x x = some .eq := FP.Core.dcmp_self (fin64_core.mp h).ne_nan
theorem own_sgt {x : UInt64} (h : Fin64 x) : ¬ FP.dcmp x x = some .gt := by rw [own_self h]; decide
theorem own_slt {x : UInt64} (h : Fin64 x) : ¬ FP.dcmp x x = some .lt := by rw [own_self h]; decide
theorem own_and {c d : Jvm.Cond} {a : Array Value} {s : State} (h1 : c.before a s = true) (h2 : d.before a s = true) : (Jvm.Cond.and c d).before a s = true := by rw [Cond.before_and, h1, h2]; rfl
theorem own_isfin {x : UInt64} (h : Fin64 x) : some (Value.int (if Jvm.Free.Fl.relLe (FP.dcmp (x &&& 0x7fffffffffffffff) Jvm.Free.Fl.maxD) = true then (1 : Int32) else 0)) = some (.int (1 : Int32)) := by rw [if_pos ((le_max_iff h.noNaN).mpr h)]
theorem own_isinf {x : UInt64} (h : Fin64 x) : some (Value.int (if Jvm.Free.Fl.relGt (FP.dcmp (x &&& 0x7fffffffffffffff) Jvm.Free.Fl.maxD) = true then (1 : Int32) else 0)) = some (.int (0 : Int32)) := by rw [if_neg (fun h4 => (gt_max_iff h.noNaN).mp h4 h)]
theorem own_dfin {i : Int} {x : UInt64} (h : FP.Core.DInt i x) : Fin64 x := by
  refine fin64_core.mpr ?_
  have q : FP.Core.Whole i (FP.Core.val64 x) := h
  cases e : FP.Core.val64 x with
  | nan => rw [e] at q; exact q.elim
  | inf s => rw [e] at q; exact q.elim
  | fin s c q => exact ⟨s, c, q, e⟩
theorem own_fn {v : Int32} (h : narrow .boolean (.int v) = .int v) : fits .boolean (.int v) = true := by
  have q : v &&& 1 = v := Value.int.inj h
  rcases and_one v with z | z <;> rw [z] at q <;> subst q <;> rfl
/-- a double less than, equal to .. another, as the code asks it -/
abbrev oGe (o : Option Ordering) : Prop := o = some .gt ∨ o = some .eq
abbrev oLe (o : Option Ordering) : Prop := o = some .lt ∨ o = some .eq
theorem d_l_eq_t {o : Option Ordering} (h : o = some .eq) : ifCond.holds .eq (cmpValue o .l) = true := by
  rcases o with _ | _ | _ | _ <;> first | rfl | decide | (exfalso; revert h; decide)
theorem d_l_eq_f {o : Option Ordering} (h : ¬ o = some .eq) : ifCond.holds .eq (cmpValue o .l) = false := by
  rcases o with _ | _ | _ | _ <;> first | rfl | decide | (exfalso; revert h; decide)
theorem d_l_ne_t {o : Option Ordering} (h : ¬ o = some .eq) : ifCond.holds .ne (cmpValue o .l) = true := by
  rcases o with _ | _ | _ | _ <;> first | rfl | decide | (exfalso; revert h; decide)
theorem d_l_ne_f {o : Option Ordering} (h : o = some .eq) : ifCond.holds .ne (cmpValue o .l) = false := by
  rcases o with _ | _ | _ | _ <;> first | rfl | decide | (exfalso; revert h; decide)
theorem d_g_eq_t {o : Option Ordering} (h : o = some .eq) : ifCond.holds .eq (cmpValue o .g) = true := by
  rcases o with _ | _ | _ | _ <;> first | rfl | decide | (exfalso; revert h; decide)
theorem d_g_eq_f {o : Option Ordering} (h : ¬ o = some .eq) : ifCond.holds .eq (cmpValue o .g) = false := by
  rcases o with _ | _ | _ | _ <;> first | rfl | decide | (exfalso; revert h; decide)
theorem d_g_ne_t {o : Option Ordering} (h : ¬ o = some .eq) : ifCond.holds .ne (cmpValue o .g) = true := by
  rcases o with _ | _ | _ | _ <;> first | rfl | decide | (exfalso; revert h; decide)
theorem d_g_ne_f {o : Option Ordering} (h : o = some .eq) : ifCond.holds .ne (cmpValue o .g) = false := by
  rcases o with _ | _ | _ | _ <;> first | rfl | decide | (exfalso; revert h; decide)
theorem d_l_lt_t {o : Option Ordering} (h : ¬ oGe o) : ifCond.holds .lt (cmpValue o .l) = true := by
  rcases o with _ | _ | _ | _ <;> first | rfl | decide | (exfalso; revert h; decide)
theorem d_l_lt_f {o : Option Ordering} (h : oGe o) : ifCond.holds .lt (cmpValue o .l) = false := by
  rcases o with _ | _ | _ | _ <;> first | rfl | decide | (exfalso; revert h; decide)
theorem d_l_ge_t {o : Option Ordering} (h : oGe o) : ifCond.holds .ge (cmpValue o .l) = true := by
  rcases o with _ | _ | _ | _ <;> first | rfl | decide | (exfalso; revert h; decide)
theorem d_l_ge_f {o : Option Ordering} (h : ¬ oGe o) : ifCond.holds .ge (cmpValue o .l) = false := by
  rcases o with _ | _ | _ | _ <;> first | rfl | decide | (exfalso; revert h; decide)
theorem d_l_gt_t {o : Option Ordering} (h : o = some .gt) : ifCond.holds .gt (cmpValue o .l) = true := by
  rcases o with _ | _ | _ | _ <;> first | rfl | decide | (exfalso; revert h; decide)
theorem d_l_gt_f {o : Option Ordering} (h : ¬ o = some .gt) : ifCond.holds .gt (cmpValue o .l) = false := by
  rcases o with _ | _ | _ | _ <;> first | rfl | decide | (exfalso; revert h; decide)
theorem d_l_le_t {o : Option Ordering} (h : ¬ o = some .gt) : ifCond.holds .le (cmpValue o .l) = true := by
  rcases o with _ | _ | _ | _ <;> first | rfl | decide | (exfalso; revert h; decide)
theorem d_l_le_f {o : Option Ordering} (h : o = some .gt) : ifCond.holds .le (cmpValue o .l) = false := by
  rcases o with _ | _ | _ | _ <;> first | rfl | decide | (exfalso; revert h; decide)
theorem d_g_lt_t {o : Option Ordering} (h : o = some .lt) : ifCond.holds .lt (cmpValue o .g) = true := by
  rcases o with _ | _ | _ | _ <;> first | rfl | decide | (exfalso; revert h; decide)
theorem d_g_lt_f {o : Option Ordering} (h : ¬ o = some .lt) : ifCond.holds .lt (cmpValue o .g) = false := by
  rcases o with _ | _ | _ | _ <;> first | rfl | decide | (exfalso; revert h; decide)
theorem d_g_ge_t {o : Option Ordering} (h : ¬ o = some .lt) : ifCond.holds .ge (cmpValue o .g) = true := by
  rcases o with _ | _ | _ | _ <;> first | rfl | decide | (exfalso; revert h; decide)
theorem d_g_ge_f {o : Option Ordering} (h : o = some .lt) : ifCond.holds .ge (cmpValue o .g) = false := by
  rcases o with _ | _ | _ | _ <;> first | rfl | decide | (exfalso; revert h; decide)
theorem d_g_gt_t {o : Option Ordering} (h : ¬ oLe o) : ifCond.holds .gt (cmpValue o .g) = true := by
  rcases o with _ | _ | _ | _ <;> first | rfl | decide | (exfalso; revert h; decide)
theorem d_g_gt_f {o : Option Ordering} (h : oLe o) : ifCond.holds .gt (cmpValue o .g) = false := by
  rcases o with _ | _ | _ | _ <;> first | rfl | decide | (exfalso; revert h; decide)
theorem d_g_le_t {o : Option Ordering} (h : oLe o) : ifCond.holds .le (cmpValue o .g) = true := by
  rcases o with _ | _ | _ | _ <;> first | rfl | decide | (exfalso; revert h; decide)
theorem d_g_le_f {o : Option Ordering} (h : ¬ oLe o) : ifCond.holds .le (cmpValue o .g) = false := by
  rcases o with _ | _ | _ | _ <;> first | rfl | decide | (exfalso; revert h; decide)
theorem l_eq (x y : Int64) : XT.cmpL x y = 0 ↔ x = y := lw_eq x y
theorem l_lt (x y : Int64) : XT.cmpL x y < 0 ↔ x < y := lw_lt x y
theorem l_gt (x y : Int64) : 0 < XT.cmpL x y ↔ y < x := lw_gt x y
theorem g_ret (A : Ax p l e R s m args below meth c T locs cells slots B) {w : Value} {t : FieldType} {i : Instr} {Q : Option Value → Heap → List Loc → Prop} {K S : Nat} (hd : decode B pc = .ok (i, 1)) (hlk : meth.locks = false) (hret : meth.sig.returnType = some t) (hn : narrow t w = w)
    (hi : (i = .ireturn ∧ (t = .int ∨ t = .boolean ∨ t = .byte ∨ t = .char ∨ t = .short) ∧ ∃ z, w = .int z) ∨ (i = .lreturn ∧ t = .long ∧ ∃ z, w = .long z) ∨ (i = .dreturn ∧ t = .double ∧ ∃ z, w = .double z) ∨ (i = .freturn ∧ t = .float ∧ ∃ z, w = .float z) ∨ (i = .areturn ∧ t.isReference = true ∧ w.isRef = true))
    (hK : cells ≤ K) (hS : slots ≤ S) (hQ : Q (some w) T.heap locs) : Go p e below (fun U o => ∃ v L, o = .returned v ∧ Q v U.heap L ∧ FrameEnd s o U L K S) T (mkF m pc ls (w :: st)) := by
  obtain ⟨fs, hr, hrun, hended, hW, hsame⟩ := A.1.leave (v := some w) (fun h => by rw [hret] at h; cases h) hlk
  exact ⟨_, _, retOut A.1 A.2.1 hret hn hi (hb A.2.2 hd) hr, hrun, hended, _, _, rfl, hQ, ⟨_, rfl⟩, hW, hsame.mono hK hS⟩
theorem g_retV (A : Ax p l e R s m args below meth c T locs cells slots B) {Q : Option Value → Heap → List Loc → Prop} {K S : Nat} (hd : decode B pc = .ok (.return_, 1)) (hlk : meth.locks = false) (hret : meth.sig.returnType = none)
    (hK : cells ≤ K) (hS : slots ≤ S) (hQ : Q none T.heap locs) : Go p e below (fun U o => ∃ v L, o = .returned v ∧ Q v U.heap L ∧ FrameEnd s o U L K S) T (mkF m pc ls []) := by
  obtain ⟨fs, hr, hrun, hended, hW, hsame⟩ := A.1.leave (v := none) (fun _ => rfl) hlk
  exact ⟨_, _, A.1.returnOut A.2.1 hret (hb A.2.2 hd) hr, hrun, hended, _, _, rfl, hQ, ⟨_, rfl⟩, hW, hsame.mono hK hS⟩
theorem g_ldcI (A : Ax p l e R s m args below meth c T locs cells slots B) {Z : State} {a0 : Array Value} {own : String} {i : Nat} {v : Int32} (hZ : Z.Warmed39 s.vm) (hown : s.vm.findClass own = some m.cls) (w : (Jvm.Cond.constant own i v).before a0 Z = true) (hd : decode B pc = .ok (.ldc i, 2)) (hp : pc + 2 = pc') (k : Go p e below P T (mkF m pc' ls (.int v :: st))) : Go p e below P T (mkF m pc ls st) := by
  subst hp; exact Go.of (A.1.ldcInt A.2.1 hown (mvT hZ w) (g := mkF m pc ls st) rfl (hb A.2.2 hd)) k
theorem g_ldcD (A : Ax p l e R s m args below meth c T locs cells slots B) {Z : State} {a0 : Array Value} {own : String} {i : Nat} {v : UInt64} (hZ : Z.Warmed39 s.vm) (hown : s.vm.findClass own = some m.cls) (w : (Jvm.Cond.constantDouble own i v).before a0 Z = true) (hd : decode B pc = .ok (.ldc2_w i, 3)) (hp : pc + 3 = pc') (k : Go p e below P T (mkF m pc' ls (.double v :: st))) : Go p e below P T (mkF m pc ls st) := by
  subst hp; exact Go.of (A.1.ldc2DoubleC A.2.1 hown (mvT hZ w) (g := mkF m pc ls st) rfl (hb A.2.2 hd)) k
theorem g_ldcL (A : Ax p l e R s m args below meth c T locs cells slots B) {Z : State} {a0 : Array Value} {own : String} {i : Nat} {v : Int64} (hZ : Z.Warmed39 s.vm) (hown : s.vm.findClass own = some m.cls) (w : (Jvm.Cond.constantLong own i v).before a0 Z = true) (hd : decode B pc = .ok (.ldc2_w i, 3)) (hp : pc + 3 = pc') (k : Go p e below P T (mkF m pc' ls (.long v :: st))) : Go p e below P T (mkF m pc ls st) := by
  subst hp; exact Go.of (A.1.ldc2Long A.2.1 hown (mvT hZ w) (g := mkF m pc ls st) rfl (hb A.2.2 hd)) k
theorem g_nnY (A : Ax p l e R s m args below meth c T locs cells slots B) {o : Int} {b : Addr} (hd : decode B pc = .ok (.ifnonnull o, 3)) (hp : (pc : Int) + o = (pc' : Int)) (k : Go p e below P T (mkF m pc' ls st)) : Go p e below P T (mkF m pc ls (.ref b :: st)) := Go.of (fun _ k' => XT.ifnonnullYes A.1.here A.2.1 rfl rfl (hb A.2.2 hd) rfl (own_off hp).1 (own_off hp).2 k') k
theorem g_nnN (A : Ax p l e R s m args below meth c T locs cells slots B) {o : Int} (hd : decode B pc = .ok (.ifnonnull o, 3)) (hp : pc + 3 = pc') (k : Go p e below P T (mkF m pc' ls st)) : Go p e below P T (mkF m pc ls (.null :: st)) := by
  subst hp; exact Go.of (fun _ k' => XT.ifnonnullNo A.1.here A.2.1 rfl (hb A.2.2 hd) rfl k') k
theorem g_nuY (A : Ax p l e R s m args below meth c T locs cells slots B) {o : Int} (hd : decode B pc = .ok (.ifnull o, 3)) (hp : (pc : Int) + o = (pc' : Int)) (k : Go p e below P T (mkF m pc' ls st)) : Go p e below P T (mkF m pc ls (.null :: st)) := Go.of (fun _ k' => XS.ifnullYes A.1.here A.2.1 rfl rfl (hb A.2.2 hd) rfl (own_off hp).1 (own_off hp).2 k') k
theorem g_nuN (A : Ax p l e R s m args below meth c T locs cells slots B) {o : Int} {b : Addr} (hd : decode B pc = .ok (.ifnull o, 3)) (hp : pc + 3 = pc') (k : Go p e below P T (mkF m pc' ls st)) : Go p e below P T (mkF m pc ls (.ref b :: st)) := by
  subst hp; exact Go.of (fun _ k' => XS.ifnullNo A.1.here A.2.1 rfl (hb A.2.2 hd) rfl k') k
theorem g_acY (A : Ax p l e R s m args below meth c T locs cells slots B) {o : Int} {cd : ClassFile.ACond} {x y : Value} (hd : decode B pc = .ok (.if_acmp cd o, 3)) (h1 : x.isRef = true) (h2 : y.isRef = true) (hc : XT.acmp cd x y = true) (hp : (pc : Int) + o = (pc' : Int)) (k : Go p e below P T (mkF m pc' ls st)) : Go p e below P T (mkF m pc ls (y :: x :: st)) := Go.of (fun _ k' => XT.acmpYes A.1.here A.2.1 rfl rfl (hb A.2.2 hd) rfl h1 h2 hc (own_off hp).1 (own_off hp).2 k') k
theorem g_acN (A : Ax p l e R s m args below meth c T locs cells slots B) {o : Int} {cd : ClassFile.ACond} {x y : Value} (hd : decode B pc = .ok (.if_acmp cd o, 3)) (h1 : x.isRef = true) (h2 : y.isRef = true) (hc : XT.acmp cd x y = false) (hp : pc + 3 = pc') (k : Go p e below P T (mkF m pc' ls st)) : Go p e below P T (mkF m pc ls (y :: x :: st)) := by
  subst hp; exact Go.of (fun _ k' => XT.acmpNo A.1.here A.2.1 rfl (hb A.2.2 hd) rfl h1 h2 hc k') k
/-- an array of n places: its i-th holds f i -/
def Dar (Z : State) (h : Heap) (a : Addr) (ty : FieldType) (n : Nat) (f : Nat → Value) : Prop := ∃ cl : Cell, RoadKit.Arr Z h a cl ty ∧ cl.slots.size = n ∧ n < 2147483648 ∧ ∀ i, i < n → cl.slots[i]? = some (f i)
variable {Z : State} {h h' : Heap} {a b : Addr} {ty : FieldType} {n : Nat} {f g : Nat → Value} {sl : Nat} {v : Value} {ws : List Addr}
theorem Dar.lt (F : Dar Z h a ty n f) : a < h.size := by obtain ⟨cl, A, -⟩ := F; exact A.lt
theorem Dar.ext (E : Ext h h') (F : Dar Z h a ty n f) : Dar Z h' a ty n f := by obtain ⟨cl, A, r⟩ := F; exact ⟨cl, A.ext E, r⟩
theorem Dar.other (W : Wr h h' b sl v) (F : Dar Z h a ty n f) (q : a ≠ b) : Dar Z h' a ty n f := by obtain ⟨cl, A, r⟩ := F; exact ⟨cl, A.other W q, r⟩
theorem Dar.keep (F : Dar Z h a ty n f) (K : Keep h h' ws) (q : a ∉ ws) : Dar Z h' a ty n f := by obtain ⟨cl, A, r⟩ := F; exact ⟨cl, ⟨K.2.1 a cl A.1 q, A.2⟩, r⟩
theorem Dar.congr (F : Dar Z h a ty n f) (q : ∀ i, i < n → f i = g i) : Dar Z h a ty n g := by obtain ⟨cl, A, r1, r2, r3⟩ := F; exact ⟨cl, A, r1, r2, fun i hi => by rw [← q i hi]; exact r3 i hi⟩
theorem Dar.new {cA : ClassId} {z : Int32} (A : RoadKit.Arr Z h a (newA cA ty z) ty) (hz : z.toNatClampNeg = n) : Dar Z h a ty n (fun _ => defaultValue ty) := by
  refine ⟨_, A, (sz_new _ _ _).trans hz, ?_, fun i hi => by subst hz; simp [newA, hi]⟩
  have := z.toInt_lt
  rw [← hz, Int32.toNatClampNeg]; omega
theorem Dar.ne_exa {a0 : Array Value} {k : Nat} {C : String} (F : Dar Z h a ty n f) (E : Exa Z h b C) (wi : (Jvm.Cond.instantiable C k).before a0 Z = true) : a ≠ b := by obtain ⟨cl, A, -⟩ := F; exact fun q => ne_arr E wi A q.symm
theorem own_ne {a b : Nat} {h : Heap} (g : a = h.size) (q : b < h.size) : b ≠ a := by rw [g]; exact Nat.ne_of_lt q
theorem own_clamp {i : Nat} (hi : i < 2147483648) : (Int32.ofNat i).toNatClampNeg = i ∧ ¬ Int32.ofNat i < 0 := by
  have e : (Int32.ofNat i).toInt = i := Int32.toInt_ofNat_of_lt hi
  refine ⟨by rw [Int32.toNatClampNeg, e]; omega, fun q => ?_⟩
  rw [Int32.lt_iff_toInt_lt, e] at q
  have : (0 : Int32).toInt = 0 := rfl
  omega
theorem Dar.set {i : Nat} (F : Dar Z h a ty n f) (W : Wr h h' a i v) (q : ∀ j, j < n → g j = if j = i then v else f j) : Dar Z h' a ty n g := by
  obtain ⟨cl, A, r1, r2, r3⟩ := F
  refine ⟨_, A.same W, (sz_set _ _ _).trans r1, r2, fun j hj => ?_⟩
  rw [q j hj]
  by_cases e : j = i
  · subst e; rw [if_pos rfl]; simp [Cell.setSlot, r1, hj]
  · rw [if_neg e]; exact (Array.getElem?_setIfInBounds_ne (Ne.symm e)).trans (r3 j hj)
theorem own_in {cl : Cell} {i : Nat} (S : cl.slots.size = n) (hn : n < 2147483648) (hi : i < n) : ¬ (Int32.ofNat i < 0 ∨ cl.slots.size ≤ (Int32.ofNat i).toNatClampNeg) := by
  obtain ⟨q1, q2⟩ := own_clamp (i := i) (by omega)
  rw [q1, S]; exact fun z => z.elim q2 (by omega)
theorem g_daload (A : Ax p l e R s m args below meth c T locs cells slots B) (hZ : Z.Warmed39 s.vm) (eT : T.heap = h) {j : Int32} {i : Nat} {x : UInt64} (F : Dar Z h a .double n f) (hi : i < n) (hj : j = Int32.ofNat i) (hv : f i = .double x) (hd : decode B pc = .ok (.daload, 1)) (hp : pc + 1 = pc') (k : Go p e below P T (mkF m pc' ls (.double x :: st))) : Go p e below P T (mkF m pc ls (.int j :: .ref a :: st)) := by
  subst hp hj
  obtain ⟨cl, A2, r1, r2, r3⟩ := F
  have q := (own_clamp (i := i) (by omega)).1
  exact Go.of (fun t k' => A.1.daload A.2.1 (j := Int32.ofNat i) (v := .double x) (by rw [eT]; exact A2.1) (State.isArrayOf_alike hZ.alike A2.2.1) A2.2.2 (own_in r1 r2 hi) (by rw [q, ← hv]; exact r3 i hi) (g := mkF m pc ls (.int (Int32.ofNat i) :: .ref a :: st)) rfl rfl (hb A.2.2 hd) t k') k
theorem g_iaload (A : Ax p l e R s m args below meth c T locs cells slots B) (hZ : Z.Warmed39 s.vm) (eT : T.heap = h) {j : Int32} {i : Nat} {x : Int32} (F : Dar Z h a .int n f) (hi : i < n) (hj : j = Int32.ofNat i) (hv : f i = .int x) (hd : decode B pc = .ok (.iaload, 1)) (hp : pc + 1 = pc') (k : Go p e below P T (mkF m pc' ls (.int x :: st))) : Go p e below P T (mkF m pc ls (.int j :: .ref a :: st)) := by
  subst hp hj
  obtain ⟨cl, A2, r1, r2, r3⟩ := F
  have q := (own_clamp (i := i) (by omega)).1
  exact Go.of (fun t k' => A.1.iaload A.2.1 (j := Int32.ofNat i) (v := .int x) (by rw [eT]; exact A2.1) (State.isArrayOf_alike hZ.alike A2.2.1) A2.2.2 (own_in r1 r2 hi) (by rw [q, ← hv]; exact r3 i hi) (g := mkF m pc ls (.int (Int32.ofNat i) :: .ref a :: st)) rfl rfl (hb A.2.2 hd) t k') k
theorem g_baload (A : Ax p l e R s m args below meth c T locs cells slots B) (hZ : Z.Warmed39 s.vm) (eT : T.heap = h) {j : Int32} {i : Nat} {x : Int32} (F : Dar Z h a .boolean n f) (hi : i < n) (hj : j = Int32.ofNat i) (hv : f i = .int x) (hd : decode B pc = .ok (.baload, 1)) (hp : pc + 1 = pc') (k : Go p e below P T (mkF m pc' ls (.int x :: st))) : Go p e below P T (mkF m pc ls (.int j :: .ref a :: st)) := by
  subst hp hj
  obtain ⟨cl, A2, r1, r2, r3⟩ := F
  have q := (own_clamp (i := i) (by omega)).1
  exact Go.of (fun t k' => A.1.baloadBooleans A.2.1 (j := Int32.ofNat i) (v := .int x) (by rw [eT]; exact A2.1) (State.isArrayOf_alike hZ.alike A2.2.1) A2.2.2 (own_in r1 r2 hi) (by rw [q, ← hv]; exact r3 i hi) (g := mkF m pc ls (.int (Int32.ofNat i) :: .ref a :: st)) rfl rfl (hb A.2.2 hd) t k') k
theorem g_alen (A : Ax p l e R s m args below meth c T locs cells slots B) (hZ : Z.Warmed39 s.vm) (eT : T.heap = h) (F : Dar Z h a ty n f) (hd : decode B pc = .ok (.arraylength, 1)) {z : Int32} (hz : Int32.ofNat n = z) (hp : pc + 1 = pc') (k : Go p e below P T (mkF m pc' ls (.int z :: st))) : Go p e below P T (mkF m pc ls (.ref a :: st)) := by
  subst hp hz
  obtain ⟨cl, A2, r1, r2, r3⟩ := F
  exact Go.of (fun t k' => A.1.arraylength A.2.1 (cell := cl) (by rw [eT]; exact A2.1) (State.isArrayOf_alike hZ.alike A2.2.1) (g := mkF m pc ls (.ref a :: st)) rfl (rest := st) rfl (hb A.2.2 hd) t (by rw [r1]; exact k')) k
theorem s_dastore (A : Ax p l e R s m args below meth c T locs cells slots B) (hZ : Z.Warmed39 s.vm) (eT : T.heap = h) {j : Int32} {i : Nat} {x : UInt64} (F : Dar Z h a .double n f) (hi : i < n) (hj : j = Int32.ofNat i) (hd : decode B pc = .ok (.dastore, 1)) (hp : pc + 1 = pc') :
    ∃ T' h', Ax p l e R s m args below meth c T' (locs ++ [⟨a, i⟩]) cells slots B ∧ T'.heap = h' ∧ Wr h h' a i (.double x) ∧ ∀ {P : State → Outcome → Prop}, Go p e below P T' (mkF m pc' ls st) → Go p e below P T (mkF m pc ls (.double x :: .int j :: .ref a :: st)) := by
  subst hp hj
  obtain ⟨cl, A2, r1, r2, r3⟩ := F
  have q := (own_clamp (i := i) (by omega)).1
  obtain ⟨X', st'⟩ := A.1.dastore A.2.1 (by rw [eT]; exact A2.1) (State.isArrayOf_alike hZ.alike A2.2.1) A2.2.2 (own_in r1 r2 hi) (x := x) (g := mkF m pc ls (.double x :: .int (Int32.ofNat i) :: .ref a :: st)) rfl rfl (hb A.2.2 hd)
  rw [q] at X' st'
  exact ⟨_, _, ⟨X', A.2⟩, rfl, ⟨cl, A2.1, A2.plain, by rw [r1]; exact hi, by rw [← eT]; rfl⟩, fun k => Go.of st' k⟩
theorem s_iastore (A : Ax p l e R s m args below meth c T locs cells slots B) (hZ : Z.Warmed39 s.vm) (eT : T.heap = h) {j : Int32} {i : Nat} {x : Int32} (F : Dar Z h a .int n f) (hi : i < n) (hj : j = Int32.ofNat i) (hd : decode B pc = .ok (.iastore, 1)) (hp : pc + 1 = pc') :
    ∃ T' h', Ax p l e R s m args below meth c T' (locs ++ [⟨a, i⟩]) cells slots B ∧ T'.heap = h' ∧ Wr h h' a i (.int x) ∧ ∀ {P : State → Outcome → Prop}, Go p e below P T' (mkF m pc' ls st) → Go p e below P T (mkF m pc ls (.int x :: .int j :: .ref a :: st)) := by
  subst hp hj
  obtain ⟨cl, A2, r1, r2, r3⟩ := F
  have q := (own_clamp (i := i) (by omega)).1
  obtain ⟨T', h', X', e', W, st'⟩ := stI A.1 A.2.1 hZ eT A2 (own_in r1 r2 hi) (x := x) (g := mkF m pc ls (.int x :: .int (Int32.ofNat i) :: .ref a :: st)) rfl rfl (hb A.2.2 hd)
  rw [q] at X' W
  exact ⟨_, _, ⟨X', A.2⟩, e', W, fun k => Go.of st' k⟩
theorem s_zastore (A : Ax p l e R s m args below meth c T locs cells slots B) (hZ : Z.Warmed39 s.vm) (eT : T.heap = h) {j : Int32} {i : Nat} {x : Int32} (F : Dar Z h a .boolean n f) (hi : i < n) (hj : j = Int32.ofNat i) (hx1 : narrow .boolean (.int x) = .int x) (hd : decode B pc = .ok (.bastore, 1)) (hp : pc + 1 = pc') :
    ∃ T' h', Ax p l e R s m args below meth c T' (locs ++ [⟨a, i⟩]) cells slots B ∧ T'.heap = h' ∧ Wr h h' a i (.int x) ∧ ∀ {P : State → Outcome → Prop}, Go p e below P T' (mkF m pc' ls st) → Go p e below P T (mkF m pc ls (.int x :: .int j :: .ref a :: st)) := by
  subst hp hj
  obtain ⟨cl, A2, r1, r2, r3⟩ := F
  have q := (own_clamp (i := i) (by omega)).1
  obtain ⟨T', h', X', e', W, st'⟩ := stZ A.1 A.2.1 hZ eT A2 (own_in r1 r2 hi) (x := x) (g := mkF m pc ls (.int x :: .int (Int32.ofNat i) :: .ref a :: st)) rfl rfl (hb A.2.2 hd)
  have q2 : nar .boolean x = x := Value.int.inj hx1
  rw [q] at X' W; rw [q2] at W
  exact ⟨_, _, ⟨X', A.2⟩, e', W, fun k => Go.of st' k⟩
end own_go
theorem d1_0 : decode prog_19_method_2_code 0 = .ok (.aload_n 0, 1) := by decide +kernel
theorem d1_1 : decode prog_19_method_2_code 1 = .ok (.invokespecial 7, 3) := by decide +kernel
theorem d1_4 : decode prog_19_method_2_code 4 = .ok (.aload_n 1, 1) := by decide +kernel
theorem d1_5 : decode prog_19_method_2_code 5 = .ok (.arraylength, 1) := by decide +kernel
theorem d1_6 : decode prog_19_method_2_code 6 = .ok (.aload_n 2, 1) := by decide +kernel
theorem d1_7 : decode prog_19_method_2_code 7 = .ok (.arraylength, 1) := by decide +kernel
theorem d1_8 : decode prog_19_method_2_code 8 = .ok (.if_icmp .eq 20, 3) := by decide +kernel
theorem d1_11 : decode prog_19_method_2_code 11 = .ok (.new 12, 3) := by decide +kernel
theorem d1_14 : decode prog_19_method_2_code 14 = .ok (.dup, 1) := by decide +kernel
theorem d1_15 : decode prog_19_method_2_code 15 = .ok (.aload_n 1, 1) := by decide +kernel
theorem d1_16 : decode prog_19_method_2_code 16 = .ok (.arraylength, 1) := by decide +kernel
theorem d1_17 : decode prog_19_method_2_code 17 = .ok (.aload_n 2, 1) := by decide +kernel
theorem d1_18 : decode prog_19_method_2_code 18 = .ok (.arraylength, 1) := by decide +kernel
theorem d1_19 : decode prog_19_method_2_code 19 = .ok (.invokedynamic 14, 5) := by decide +kernel
theorem d1_24 : decode prog_19_method_2_code 24 = .ok (.invokespecial 18, 3) := by decide +kernel
theorem d1_27 : decode prog_19_method_2_code 27 = .ok (.athrow, 1) := by decide +kernel
theorem d1_28 : decode prog_19_method_2_code 28 = .ok (.aload_n 3, 1) := by decide +kernel
theorem d1_29 : decode prog_19_method_2_code 29 = .ok (.ifnull 10, 3) := by decide +kernel
theorem d1_32 : decode prog_19_method_2_code 32 = .ok (.aload_n 3, 1) := by decide +kernel
theorem d1_33 : decode prog_19_method_2_code 33 = .ok (.arraylength, 1) := by decide +kernel
theorem d1_34 : decode prog_19_method_2_code 34 = .ok (.aload_n 1, 1) := by decide +kernel
theorem d1_35 : decode prog_19_method_2_code 35 = .ok (.arraylength, 1) := by decide +kernel
theorem d1_36 : decode prog_19_method_2_code 36 = .ok (.if_icmp .ne 16, 3) := by decide +kernel
theorem d1_39 : decode prog_19_method_2_code 39 = .ok (.aload 4, 2) := by decide +kernel
theorem d1_41 : decode prog_19_method_2_code 41 = .ok (.ifnull 26, 3) := by decide +kernel
theorem d1_44 : decode prog_19_method_2_code 44 = .ok (.aload 4, 2) := by decide +kernel
theorem d1_46 : decode prog_19_method_2_code 46 = .ok (.arraylength, 1) := by decide +kernel
theorem d1_47 : decode prog_19_method_2_code 47 = .ok (.aload_n 1, 1) := by decide +kernel
theorem d1_48 : decode prog_19_method_2_code 48 = .ok (.arraylength, 1) := by decide +kernel
theorem d1_49 : decode prog_19_method_2_code 49 = .ok (.if_icmp .eq 18, 3) := by decide +kernel
theorem d1_52 : decode prog_19_method_2_code 52 = .ok (.new 12, 3) := by decide +kernel
theorem d1_55 : decode prog_19_method_2_code 55 = .ok (.dup, 1) := by decide +kernel
theorem d1_56 : decode prog_19_method_2_code 56 = .ok (.aload_n 1, 1) := by decide +kernel
theorem d1_57 : decode prog_19_method_2_code 57 = .ok (.arraylength, 1) := by decide +kernel
theorem d1_58 : decode prog_19_method_2_code 58 = .ok (.invokedynamic 21, 5) := by decide +kernel
theorem d1_63 : decode prog_19_method_2_code 63 = .ok (.invokespecial 18, 3) := by decide +kernel
theorem d1_66 : decode prog_19_method_2_code 66 = .ok (.athrow, 1) := by decide +kernel
theorem d1_67 : decode prog_19_method_2_code 67 = .ok (.aload_n 0, 1) := by decide +kernel
theorem d1_68 : decode prog_19_method_2_code 68 = .ok (.aload_n 1, 1) := by decide +kernel
theorem d1_69 : decode prog_19_method_2_code 69 = .ok (.putfield 24, 3) := by decide +kernel
theorem d1_72 : decode prog_19_method_2_code 72 = .ok (.aload_n 0, 1) := by decide +kernel
theorem d1_73 : decode prog_19_method_2_code 73 = .ok (.aload_n 2, 1) := by decide +kernel
theorem d1_74 : decode prog_19_method_2_code 74 = .ok (.putfield 28, 3) := by decide +kernel
theorem d1_77 : decode prog_19_method_2_code 77 = .ok (.aload_n 0, 1) := by decide +kernel
theorem d1_78 : decode prog_19_method_2_code 78 = .ok (.aload_n 3, 1) := by decide +kernel
theorem d1_79 : decode prog_19_method_2_code 79 = .ok (.putfield 32, 3) := by decide +kernel
theorem d1_82 : decode prog_19_method_2_code 82 = .ok (.aload_n 0, 1) := by decide +kernel
theorem d1_83 : decode prog_19_method_2_code 83 = .ok (.aload 4, 2) := by decide +kernel
theorem d1_85 : decode prog_19_method_2_code 85 = .ok (.putfield 35, 3) := by decide +kernel
theorem d1_88 : decode prog_19_method_2_code 88 = .ok (.iconst 0, 1) := by decide +kernel
theorem d1_89 : decode prog_19_method_2_code 89 = .ok (.istore 5, 2) := by decide +kernel
theorem d1_91 : decode prog_19_method_2_code 91 = .ok (.aload_n 2, 1) := by decide +kernel
theorem d1_92 : decode prog_19_method_2_code 92 = .ok (.astore 6, 2) := by decide +kernel
theorem d1_94 : decode prog_19_method_2_code 94 = .ok (.aload 6, 2) := by decide +kernel
theorem d1_96 : decode prog_19_method_2_code 96 = .ok (.arraylength, 1) := by decide +kernel
theorem d1_97 : decode prog_19_method_2_code 97 = .ok (.istore 7, 2) := by decide +kernel
theorem d1_99 : decode prog_19_method_2_code 99 = .ok (.iconst 0, 1) := by decide +kernel
theorem d1_100 : decode prog_19_method_2_code 100 = .ok (.istore 8, 2) := by decide +kernel
theorem d1_102 : decode prog_19_method_2_code 102 = .ok (.iload 8, 2) := by decide +kernel
theorem d1_104 : decode prog_19_method_2_code 104 = .ok (.iload 7, 2) := by decide +kernel
theorem d1_106 : decode prog_19_method_2_code 106 = .ok (.if_icmp .ge 24, 3) := by decide +kernel
theorem d1_109 : decode prog_19_method_2_code 109 = .ok (.aload 6, 2) := by decide +kernel
theorem d1_111 : decode prog_19_method_2_code 111 = .ok (.iload 8, 2) := by decide +kernel
theorem d1_113 : decode prog_19_method_2_code 113 = .ok (.baload, 1) := by decide +kernel
theorem d1_114 : decode prog_19_method_2_code 114 = .ok (.istore 9, 2) := by decide +kernel
theorem d1_116 : decode prog_19_method_2_code 116 = .ok (.iload 9, 2) := by decide +kernel
theorem d1_118 : decode prog_19_method_2_code 118 = .ok (.ifCond .eq 6, 3) := by decide +kernel
theorem d1_121 : decode prog_19_method_2_code 121 = .ok (.iinc 5 1, 3) := by decide +kernel
theorem d1_124 : decode prog_19_method_2_code 124 = .ok (.iinc 8 1, 3) := by decide +kernel
theorem d1_127 : decode prog_19_method_2_code 127 = .ok (.goto (-25), 3) := by decide +kernel
theorem d1_130 : decode prog_19_method_2_code 130 = .ok (.aload_n 0, 1) := by decide +kernel
theorem d1_131 : decode prog_19_method_2_code 131 = .ok (.iload 5, 2) := by decide +kernel
theorem d1_133 : decode prog_19_method_2_code 133 = .ok (.putfield 38, 3) := by decide +kernel
theorem d1_136 : decode prog_19_method_2_code 136 = .ok (.return_, 1) := by decide +kernel
theorem pn_0 : plainName "com/example/swathloom/swathloom/planning/Plan" = true := by first | (simp [plainName, overriddenIn]; done) | decide +kernel
theorem ef1 (m : MethodId) (a1 : Addr) (a2 : Addr) (a3 : Addr) (a4 : Addr) (f4 : Nat → Value) (a5 : Addr) (f5 : Nat → Value) (f2 : Nat → Value) (f3 : Nat → Value) (w0 : Int32) (w1 : Int32) (w2 : Int32) (u0 : Value) (u1 : Value) (u2 : Value) (u3 : Value) (u4 : Value) : entryFrame m #[(.ref a1), (.ref a2), (.ref a3), (.ref a4), (.ref a5)] 10 = mkF m 0 #[.val (.ref a1), .val (.ref a2), .val (.ref a3), .val (.ref a4), .val (.ref a5), .unset, .unset, .unset, .unset, .unset] [] := by first | (simp [entryFrame, mkF, argsToLocals, Value.category]; done) | rfl
def Q1_00 (Z : State) (a1 : Addr) (a2 : Addr) (a3 : Addr) (a4 : Addr) (f4 : Nat → Value) (a5 : Addr) (f5 : Nat → Value) (f2 : Nat → Value) (f3 : Nat → Value) (w0 : Int32) (w1 : Int32) (w2 : Int32) (u0 : Value) (u1 : Value) (u2 : Value) (u3 : Value) (u4 : Value) (h0 : Heap) (n0 : Nat) (v : Option Value) (h : Heap) (L : List Loc) : Prop := v = none ∧ Fr n0 L ∧ Keep h0 h [a1] ∧ Fld Z h a1 "com/example/swathloom/swathloom/planning/Plan" "used" "[Z" (.ref a3) ∧ Fld Z h a1 "com/example/swathloom/swathloom/planning/Plan" "rollVelocities" "[D" (.ref a4) ∧ Fld Z h a1 "com/example/swathloom/swathloom/planning/Plan" "selectionVelocities" "[D" (.ref a5)
set_option maxRecDepth 65536 in
set_option maxHeartbeats 40000000 in
theorem rm1_00 (l : Launch) (Z : State) (a0 : Array Value) (hw : ∀ d ∈ tables_1, d.before a0 Z = true) (ws : List Jvm.Cond) (a1 : Addr) (a2 : Addr) (a3 : Addr) (a4 : Addr) (f4 : Nat → Value) (a5 : Addr) (f5 : Nat → Value) (f2 : Nat → Value) (f3 : Nat → Value) (w0 : Int32) (w1 : Int32) (w2 : Int32) (u0 : Value) (u1 : Value) (u2 : Value) (u3 : Value) (u4 : Value) (h0 : Heap) (n0 : Nat) (Z0 : n0 ≤ h0.size) (E2 : Exa Z h0 a1 "com/example/swathloom/swathloom/planning/Plan") (F3 : Fld Z h0 a1 "com/example/swathloom/swathloom/planning/Plan" "rolls" "[D" u0) (F4 : Fld Z h0 a1 "com/example/swathloom/swathloom/planning/Plan" "used" "[Z" u1) (F5 : Fld Z h0 a1 "com/example/swathloom/swathloom/planning/Plan" "rollVelocities" "[D" u2) (F6 : Fld Z h0 a1 "com/example/swathloom/swathloom/planning/Plan" "selectionVelocities" "[D" u3) (F7 : Fld Z h0 a1 "com/example/swathloom/swathloom/planning/Plan" "strips" "I" u4) (g8 : n0 ≤ a1) (V9 : Dar Z h0 a2 .double 3 f2) (V10 : Dar Z h0 a3 .boolean 3 f3) (ne11 : a2 ≠ a1) (ne12 : a3 ≠ a1) (hw0 : f3 0 = .int w0) (hw1 : f3 1 = .int w1) (hw2 : f3 2 = .int w2) (V13 : Dar Z h0 a4 .double 3 f4) (ne14 : a4 ≠ a1) (V15 : Dar Z h0 a5 .double 3 f5) (ne16 : a5 ≠ a1) :
    MetFree l (⟨"com/example/swathloom/swathloom/planning/Plan", "<init>", "([D[Z[D[D)V"⟩ : MethodName) (head1 (Jvm.Cond.code (⟨"com/example/swathloom/swathloom/planning/Plan", "<init>", "([D[Z[D[D)V"⟩ : MethodName) prog_19_method_2_code 10 none :: ws) ({ frames := 1, cells := 0, slots := 0, locals := 12 } : Room)) (fun a U => a = #[(.ref a1), (.ref a2), (.ref a3), (.ref a4), (.ref a5)] ∧ Z.Warmed39 U.vm ∧ U.heap = h0) (fun _ _ _ _ _ => True) (fun _ U o U' => ∃ v L, o = .returned v ∧ Q1_00 Z a1 a2 a3 a4 f4 a5 f5 f2 f3 w0 w1 w2 u0 u1 u2 u3 u4 h0 n0 v U'.heap L ∧ FrameEnd U o U' L 0 0) := by
  refine MetFree.of_bodySF (plainFor_of_name pn_0) hisR ?_
  intro p e s m args below meth c s₁ Bd hml0 hP hK
  obtain ⟨rfl, hZ, hh⟩ := hP
  have hx := Bd.exec
  have hby := Bd.bytes
  have hml : c.maxLocals = 10 := hml0
  have hown : s.vm.findClass "com/example/swathloom/swathloom/planning/Plan" = some m.cls := findClass_of_methodNamed Bd.named
  have hnm := (name_of_methodNamed Bd.named Bd.method).1
  have X0 : Stand p l e ({ frames := 1, cells := 0, slots := 0, locals := 12 } : Room) s m #[(.ref a1), (.ref a2), (.ref a3), (.ref a4), (.ref a5)] below meth c s₁ [] 0 0 := Stand.of_body Bd
  have e0 : s₁.heap = h0 := by rw [← hh, Bd.state]; rfl
  have N0 := Fr.nil n0
  have A0 := (⟨X0, hx, hby⟩ : Ax _ _ _ _ _ _ _ _ _ _ _ _ _ _ _)
  show Go p e below (fun U o => ∃ v L, o = .returned v ∧ Q1_00 Z a1 a2 a3 a4 f4 a5 f5 f2 f3 w0 w1 w2 u0 u1 u2 u3 u4 h0 n0 v U.heap L ∧ FrameEnd s o U L 0 0) s₁ (entryFrame m #[(.ref a1), (.ref a2), (.ref a3), (.ref a4), (.ref a5)] 10)
  refine Go.cast (ef1 m a1 a2 a3 a4 f4 a5 f5 f2 f3 w0 w1 w2 u0 u1 u2 u3 u4) ?_
  refine g_aloadN A0 d1_0 rfl rfl (pc' := 1) rfl ?_
  obtain ⟨T17, X17, e17, st17⟩ := initO X0 hx hZ hown (hw _ (List.mem_of_getElem? (i := 9) rfl)) (hw _ (List.mem_of_getElem? (i := 10) rfl)) (hw _ (List.mem_of_getElem? (i := 11) rfl)) e0 (g := (mkF m 1 #[.val (.ref a1), .val (.ref a2), .val (.ref a3), .val (.ref a4), .val (.ref a5), .unset, .unset, .unset, .unset, .unset] [(.ref a1)])) rfl (by rw [hml]; rfl) rfl (hb hby d1_1) (by decide) (W := 0) (by show 2 * 0 + _ ≤ _; exact Nat.le_of_eq rfl) (by decide)
  refine Go.of (g' := (mkF m 4 #[.val (.ref a1), .val (.ref a2), .val (.ref a3), .val (.ref a4), .val (.ref a5), .unset, .unset, .unset, .unset, .unset] [])) st17 ?_
  have A18 := (⟨X17, hx, hby⟩ : Ax _ _ _ _ _ _ _ _ _ _ _ _ _ _ _)
  refine g_aloadN A18 d1_4 rfl rfl (pc' := 5) rfl ?_
  refine g_alen A18 hZ e17 V9 d1_5 (z := (3 : Int32)) rfl (pc' := 6) rfl ?_
  refine g_aloadN A18 d1_6 rfl rfl (pc' := 7) rfl ?_
  refine g_alen A18 hZ e17 V10 d1_7 (z := (3 : Int32)) rfl (pc' := 8) rfl ?_
  refine g_icY A18 d1_8 (c2_eq_t rfl) (pc' := 28) rfl ?_
  refine g_aloadN A18 d1_28 rfl rfl (pc' := 29) rfl ?_
  refine g_nuN A18 d1_29 (pc' := 32) rfl ?_
  refine g_aloadN A18 d1_32 rfl rfl (pc' := 33) rfl ?_
  refine g_alen A18 hZ e17 V13 d1_33 (z := (3 : Int32)) rfl (pc' := 34) rfl ?_
  refine g_aloadN A18 d1_34 rfl rfl (pc' := 35) rfl ?_
  refine g_alen A18 hZ e17 V9 d1_35 (z := (3 : Int32)) rfl (pc' := 36) rfl ?_
  refine g_icN A18 d1_36 (c2_ne_f rfl) (pc' := 39) rfl ?_
  refine g_aload A18 d1_39 rfl rfl (pc' := 41) rfl ?_
  refine g_nuN A18 d1_41 (pc' := 44) rfl ?_
  refine g_aload A18 d1_44 rfl rfl (pc' := 46) rfl ?_
  refine g_alen A18 hZ e17 V15 d1_46 (z := (3 : Int32)) rfl (pc' := 47) rfl ?_
  refine g_aloadN A18 d1_47 rfl rfl (pc' := 48) rfl ?_
  refine g_alen A18 hZ e17 V9 d1_48 (z := (3 : Int32)) rfl (pc' := 49) rfl ?_
  refine g_icY A18 d1_49 (c2_eq_t rfl) (pc' := 67) rfl ?_
  refine g_aloadN A18 d1_67 rfl rfl (pc' := 68) rfl ?_
  refine g_aloadN A18 d1_68 rfl rfl (pc' := 69) rfl ?_
  obtain ⟨T19, h19, X19, e19, W19, st19⟩ := putF X17 hx hZ hown (host := "") (Or.inl (hw _ (List.mem_of_getElem? (i := 12) rfl))) Via.refl e17 F3 E2 (Or.inr ⟨(hw _ (List.mem_of_getElem? (i := 13) rfl)), rfl, hnm⟩) (hw _ (List.mem_of_getElem? (i := 4) rfl)) (ty := (.array .double)) (by decide) rfl rfl (g := (mkF m 69 #[.val (.ref a1), .val (.ref a2), .val (.ref a3), .val (.ref a4), .val (.ref a5), .unset, .unset, .unset, .unset, .unset] [(.ref a2), (.ref a1)])) rfl rfl (hb hby d1_69)
  have N20 := Fr.snoc X19 N0 g8
  have K21 : Keep h0 h19 [a1] := (Keep.refl h0 [a1]).wr W19 (Or.inl (List.mem_of_getElem? (i := 0) rfl))
  have E22 : Exa Z h19 a1 "com/example/swathloom/swathloom/planning/Plan" := Exa.wr W19 E2
  have F23 : Fld Z h19 a1 "com/example/swathloom/swathloom/planning/Plan" "used" "[Z" u1 := Fld.other W19 F4 (Or.inr (slot_ne (Or.inr (hw _ (List.mem_of_getElem? (i := 15) rfl))) (Or.inr (hw _ (List.mem_of_getElem? (i := 13) rfl))) (by decide) (t := (.array .boolean)) (t' := (.array .double)) (by decide) (by decide)))
  have F24 : Fld Z h19 a1 "com/example/swathloom/swathloom/planning/Plan" "rollVelocities" "[D" u2 := Fld.other W19 F5 (Or.inr (slot_ne (Or.inr (hw _ (List.mem_of_getElem? (i := 17) rfl))) (Or.inr (hw _ (List.mem_of_getElem? (i := 13) rfl))) (by decide) (t := (.array .double)) (t' := (.array .double)) (by decide) (by decide)))
  have F25 : Fld Z h19 a1 "com/example/swathloom/swathloom/planning/Plan" "selectionVelocities" "[D" u3 := Fld.other W19 F6 (Or.inr (slot_ne (Or.inr (hw _ (List.mem_of_getElem? (i := 19) rfl))) (Or.inr (hw _ (List.mem_of_getElem? (i := 13) rfl))) (by decide) (t := (.array .double)) (t' := (.array .double)) (by decide) (by decide)))
  have F26 : Fld Z h19 a1 "com/example/swathloom/swathloom/planning/Plan" "strips" "I" u4 := Fld.other W19 F7 (Or.inr (slot_ne (Or.inr (hw _ (List.mem_of_getElem? (i := 21) rfl))) (Or.inr (hw _ (List.mem_of_getElem? (i := 13) rfl))) (by decide) (t := .int) (t' := (.array .double)) (by decide) (by decide)))
  have V27 : Dar Z h19 a2 .double 3 f2 := Dar.other W19 V9 ne11
  have V28 : Dar Z h19 a3 .boolean 3 f3 := Dar.other W19 V10 ne12
  have V29 : Dar Z h19 a4 .double 3 f4 := Dar.other W19 V13 ne14
  have V30 : Dar Z h19 a5 .double 3 f5 := Dar.other W19 V15 ne16
  have F31 : Fld Z h19 a1 "com/example/swathloom/swathloom/planning/Plan" "rolls" "[D" (.ref a2) := Fld.same W19 F3
  have Z32 : n0 ≤ h19.size := by rw [W19.size]; exact Z0
  refine Go.of (g' := (mkF m 72 #[.val (.ref a1), .val (.ref a2), .val (.ref a3), .val (.ref a4), .val (.ref a5), .unset, .unset, .unset, .unset, .unset] [])) st19 ?_
  have A33 := (⟨X19, hx, hby⟩ : Ax _ _ _ _ _ _ _ _ _ _ _ _ _ _ _)
  refine g_aloadN A33 d1_72 rfl rfl (pc' := 73) rfl ?_
  refine g_aloadN A33 d1_73 rfl rfl (pc' := 74) rfl ?_
  obtain ⟨T34, h34, X34, e34, W34, st34⟩ := putF X19 hx hZ hown (host := "") (Or.inl (hw _ (List.mem_of_getElem? (i := 14) rfl))) Via.refl e19 F23 E22 (Or.inr ⟨(hw _ (List.mem_of_getElem? (i := 15) rfl)), rfl, hnm⟩) (hw _ (List.mem_of_getElem? (i := 4) rfl)) (ty := (.array .boolean)) (by decide) rfl rfl (g := (mkF m 74 #[.val (.ref a1), .val (.ref a2), .val (.ref a3), .val (.ref a4), .val (.ref a5), .unset, .unset, .unset, .unset, .unset] [(.ref a3), (.ref a1)])) rfl rfl (hb hby d1_74)
  have N35 := Fr.snoc X34 N20 g8
  have K36 : Keep h0 h34 [a1] := K21.wr W34 (Or.inl (List.mem_of_getElem? (i := 0) rfl))
  have E37 : Exa Z h34 a1 "com/example/swathloom/swathloom/planning/Plan" := Exa.wr W34 E22
  have F38 : Fld Z h34 a1 "com/example/swathloom/swathloom/planning/Plan" "rollVelocities" "[D" u2 := Fld.other W34 F24 (Or.inr (slot_ne (Or.inr (hw _ (List.mem_of_getElem? (i := 17) rfl))) (Or.inr (hw _ (List.mem_of_getElem? (i := 15) rfl))) (by decide) (t := (.array .double)) (t' := (.array .boolean)) (by decide) (by decide)))
  have F39 : Fld Z h34 a1 "com/example/swathloom/swathloom/planning/Plan" "selectionVelocities" "[D" u3 := Fld.other W34 F25 (Or.inr (slot_ne (Or.inr (hw _ (List.mem_of_getElem? (i := 19) rfl))) (Or.inr (hw _ (List.mem_of_getElem? (i := 15) rfl))) (by decide) (t := (.array .double)) (t' := (.array .boolean)) (by decide) (by decide)))
  have F40 : Fld Z h34 a1 "com/example/swathloom/swathloom/planning/Plan" "strips" "I" u4 := Fld.other W34 F26 (Or.inr (slot_ne (Or.inr (hw _ (List.mem_of_getElem? (i := 21) rfl))) (Or.inr (hw _ (List.mem_of_getElem? (i := 15) rfl))) (by decide) (t := .int) (t' := (.array .boolean)) (by decide) (by decide)))
  have V41 : Dar Z h34 a2 .double 3 f2 := Dar.other W34 V27 ne11
  have V42 : Dar Z h34 a3 .boolean 3 f3 := Dar.other W34 V28 ne12
  have V43 : Dar Z h34 a4 .double 3 f4 := Dar.other W34 V29 ne14
  have V44 : Dar Z h34 a5 .double 3 f5 := Dar.other W34 V30 ne16
  have F45 : Fld Z h34 a1 "com/example/swathloom/swathloom/planning/Plan" "rolls" "[D" (.ref a2) := Fld.other W34 F31 (Or.inr (slot_ne (Or.inr (hw _ (List.mem_of_getElem? (i := 13) rfl))) (Or.inr (hw _ (List.mem_of_getElem? (i := 15) rfl))) (by decide) (t := (.array .double)) (t' := (.array .boolean)) (by decide) (by decide)))
  have F46 : Fld Z h34 a1 "com/example/swathloom/swathloom/planning/Plan" "used" "[Z" (.ref a3) := Fld.same W34 F23
  have Z47 : n0 ≤ h34.size := by rw [W34.size]; exact Z32
  refine Go.of (g' := (mkF m 77 #[.val (.ref a1), .val (.ref a2), .val (.ref a3), .val (.ref a4), .val (.ref a5), .unset, .unset, .unset, .unset, .unset] [])) st34 ?_
  have A48 := (⟨X34, hx, hby⟩ : Ax _ _ _ _ _ _ _ _ _ _ _ _ _ _ _)
  refine g_aloadN A48 d1_77 rfl rfl (pc' := 78) rfl ?_
  refine g_aloadN A48 d1_78 rfl rfl (pc' := 79) rfl ?_
  obtain ⟨T49, h49, X49, e49, W49, st49⟩ := putF X34 hx hZ hown (host := "") (Or.inl (hw _ (List.mem_of_getElem? (i := 16) rfl))) Via.refl e34 F38 E37 (Or.inr ⟨(hw _ (List.mem_of_getElem? (i := 17) rfl)), rfl, hnm⟩) (hw _ (List.mem_of_getElem? (i := 4) rfl)) (ty := (.array .double)) (by decide) rfl rfl (g := (mkF m 79 #[.val (.ref a1), .val (.ref a2), .val (.ref a3), .val (.ref a4), .val (.ref a5), .unset, .unset, .unset, .unset, .unset] [(.ref a4), (.ref a1)])) rfl rfl (hb hby d1_79)
  have N50 := Fr.snoc X49 N35 g8
  have K51 : Keep h0 h49 [a1] := K36.wr W49 (Or.inl (List.mem_of_getElem? (i := 0) rfl))
  have E52 : Exa Z h49 a1 "com/example/swathloom/swathloom/planning/Plan" := Exa.wr W49 E37
  have F53 : Fld Z h49 a1 "com/example/swathloom/swathloom/planning/Plan" "selectionVelocities" "[D" u3 := Fld.other W49 F39 (Or.inr (slot_ne (Or.inr (hw _ (List.mem_of_getElem? (i := 19) rfl))) (Or.inr (hw _ (List.mem_of_getElem? (i := 17) rfl))) (by decide) (t := (.array .double)) (t' := (.array .double)) (by decide) (by decide)))
  have F54 : Fld Z h49 a1 "com/example/swathloom/swathloom/planning/Plan" "strips" "I" u4 := Fld.other W49 F40 (Or.inr (slot_ne (Or.inr (hw _ (List.mem_of_getElem? (i := 21) rfl))) (Or.inr (hw _ (List.mem_of_getElem? (i := 17) rfl))) (by decide) (t := .int) (t' := (.array .double)) (by decide) (by decide)))
  have V55 : Dar Z h49 a2 .double 3 f2 := Dar.other W49 V41 ne11
  have V56 : Dar Z h49 a3 .boolean 3 f3 := Dar.other W49 V42 ne12
  have V57 : Dar Z h49 a4 .double 3 f4 := Dar.other W49 V43 ne14
  have V58 : Dar Z h49 a5 .double 3 f5 := Dar.other W49 V44 ne16
  have F59 : Fld Z h49 a1 "com/example/swathloom/swathloom/planning/Plan" "rolls" "[D" (.ref a2) := Fld.other W49 F45 (Or.inr (slot_ne (Or.inr (hw _ (List.mem_of_getElem? (i := 13) rfl))) (Or.inr (hw _ (List.mem_of_getElem? (i := 17) rfl))) (by decide) (t := (.array .double)) (t' := (.array .double)) (by decide) (by decide)))
  have F60 : Fld Z h49 a1 "com/example/swathloom/swathloom/planning/Plan" "used" "[Z" (.ref a3) := Fld.other W49 F46 (Or.inr (slot_ne (Or.inr (hw _ (List.mem_of_getElem? (i := 15) rfl))) (Or.inr (hw _ (List.mem_of_getElem? (i := 17) rfl))) (by decide) (t := (.array .boolean)) (t' := (.array .double)) (by decide) (by decide)))
  have F61 : Fld Z h49 a1 "com/example/swathloom/swathloom/planning/Plan" "rollVelocities" "[D" (.ref a4) := Fld.same W49 F38
  have Z62 : n0 ≤ h49.size := by rw [W49.size]; exact Z47
  refine Go.of (g' := (mkF m 82 #[.val (.ref a1), .val (.ref a2), .val (.ref a3), .val (.ref a4), .val (.ref a5), .unset, .unset, .unset, .unset, .unset] [])) st49 ?_
  have A63 := (⟨X49, hx, hby⟩ : Ax _ _ _ _ _ _ _ _ _ _ _ _ _ _ _)
  refine g_aloadN A63 d1_82 rfl rfl (pc' := 83) rfl ?_
  refine g_aload A63 d1_83 rfl rfl (pc' := 85) rfl ?_
  obtain ⟨T64, h64, X64, e64, W64, st64⟩ := putF X49 hx hZ hown (host := "") (Or.inl (hw _ (List.mem_of_getElem? (i := 18) rfl))) Via.refl e49 F53 E52 (Or.inr ⟨(hw _ (List.mem_of_getElem? (i := 19) rfl)), rfl, hnm⟩) (hw _ (List.mem_of_getElem? (i := 4) rfl)) (ty := (.array .double)) (by decide) rfl rfl (g := (mkF m 85 #[.val (.ref a1), .val (.ref a2), .val (.ref a3), .val (.ref a4), .val (.ref a5), .unset, .unset, .unset, .unset, .unset] [(.ref a5), (.ref a1)])) rfl rfl (hb hby d1_85)
  have N65 := Fr.snoc X64 N50 g8
  have K66 : Keep h0 h64 [a1] := K51.wr W64 (Or.inl (List.mem_of_getElem? (i := 0) rfl))
  have E67 : Exa Z h64 a1 "com/example/swathloom/swathloom/planning/Plan" := Exa.wr W64 E52
  have F68 : Fld Z h64 a1 "com/example/swathloom/swathloom/planning/Plan" "strips" "I" u4 := Fld.other W64 F54 (Or.inr (slot_ne (Or.inr (hw _ (List.mem_of_getElem? (i := 21) rfl))) (Or.inr (hw _ (List.mem_of_getElem? (i := 19) rfl))) (by decide) (t := .int) (t' := (.array .double)) (by decide) (by decide)))
  have V69 : Dar Z h64 a2 .double 3 f2 := Dar.other W64 V55 ne11
  have V70 : Dar Z h64 a3 .boolean 3 f3 := Dar.other W64 V56 ne12
  have V71 : Dar Z h64 a4 .double 3 f4 := Dar.other W64 V57 ne14
  have V72 : Dar Z h64 a5 .double 3 f5 := Dar.other W64 V58 ne16
  have F73 : Fld Z h64 a1 "com/example/swathloom/swathloom/planning/Plan" "rolls" "[D" (.ref a2) := Fld.other W64 F59 (Or.inr (slot_ne (Or.inr (hw _ (List.mem_of_getElem? (i := 13) rfl))) (Or.inr (hw _ (List.mem_of_getElem? (i := 19) rfl))) (by decide) (t := (.array .double)) (t' := (.array .double)) (by decide) (by decide)))
  have F74 : Fld Z h64 a1 "com/example/swathloom/swathloom/planning/Plan" "used" "[Z" (.ref a3) := Fld.other W64 F60 (Or.inr (slot_ne (Or.inr (hw _ (List.mem_of_getElem? (i := 15) rfl))) (Or.inr (hw _ (List.mem_of_getElem? (i := 19) rfl))) (by decide) (t := (.array .boolean)) (t' := (.array .double)) (by decide) (by decide)))
  have F75 : Fld Z h64 a1 "com/example/swathloom/swathloom/planning/Plan" "rollVelocities" "[D" (.ref a4) := Fld.other W64 F61 (Or.inr (slot_ne (Or.inr (hw _ (List.mem_of_getElem? (i := 17) rfl))) (Or.inr (hw _ (List.mem_of_getElem? (i := 19) rfl))) (by decide) (t := (.array .double)) (t' := (.array .double)) (by decide) (by decide)))
  have F76 : Fld Z h64 a1 "com/example/swathloom/swathloom/planning/Plan" "selectionVelocities" "[D" (.ref a5) := Fld.same W64 F53
  have Z77 : n0 ≤ h64.size := by rw [W64.size]; exact Z62
  refine Go.of (g' := (mkF m 88 #[.val (.ref a1), .val (.ref a2), .val (.ref a3), .val (.ref a4), .val (.ref a5), .unset, .unset, .unset, .unset, .unset] [])) st64 ?_
  have A78 := (⟨X64, hx, hby⟩ : Ax _ _ _ _ _ _ _ _ _ _ _ _ _ _ _)
  refine g_iconst A78 d1_88 (v := (0 : Int32)) rfl (pc' := 89) rfl ?_
  refine g_istore A78 d1_89 (ls' := #[.val (.ref a1), .val (.ref a2), .val (.ref a3), .val (.ref a4), .val (.ref a5), .val (.int (0 : Int32)), .unset, .unset, .unset, .unset]) rfl (pc' := 91) rfl ?_
  refine g_aloadN A78 d1_91 rfl rfl (pc' := 92) rfl ?_
  refine g_astore A78 d1_92 rfl (ls' := #[.val (.ref a1), .val (.ref a2), .val (.ref a3), .val (.ref a4), .val (.ref a5), .val (.int (0 : Int32)), .val (.ref a3), .unset, .unset, .unset]) rfl (pc' := 94) rfl ?_
  refine g_aload A78 d1_94 rfl rfl (pc' := 96) rfl ?_
  refine g_alen A78 hZ e64 V70 d1_96 (z := (3 : Int32)) rfl (pc' := 97) rfl ?_
  refine g_istore A78 d1_97 (ls' := #[.val (.ref a1), .val (.ref a2), .val (.ref a3), .val (.ref a4), .val (.ref a5), .val (.int (0 : Int32)), .val (.ref a3), .val (.int (3 : Int32)), .unset, .unset]) rfl (pc' := 99) rfl ?_
  refine g_iconst A78 d1_99 (v := (0 : Int32)) rfl (pc' := 100) rfl ?_
  refine g_istore A78 d1_100 (ls' := #[.val (.ref a1), .val (.ref a2), .val (.ref a3), .val (.ref a4), .val (.ref a5), .val (.int (0 : Int32)), .val (.ref a3), .val (.int (3 : Int32)), .val (.int (0 : Int32)), .unset]) rfl (pc' := 102) rfl ?_
  refine g_iload A78 d1_102 rfl (pc' := 104) rfl ?_
  refine g_iload A78 d1_104 rfl (pc' := 106) rfl ?_
  refine g_icN A78 d1_106 (c2_ge_f (by decide)) (pc' := 109) rfl ?_
  refine g_aload A78 d1_109 rfl rfl (pc' := 111) rfl ?_
  refine g_iload A78 d1_111 rfl (pc' := 113) rfl ?_
  refine g_baload A78 hZ e64 V70 (i := 0) (by decide) rfl (x := w0) hw0 d1_113 (pc' := 114) rfl ?_
  refine g_istore A78 d1_114 (ls' := #[.val (.ref a1), .val (.ref a2), .val (.ref a3), .val (.ref a4), .val (.ref a5), .val (.int (0 : Int32)), .val (.ref a3), .val (.int (3 : Int32)), .val (.int (0 : Int32)), .val (.int w0)]) rfl (pc' := 116) rfl ?_
  refine g_iload A78 d1_116 rfl (pc' := 118) rfl ?_
  obtain ⟨v79, hv79⟩ : ∃ z : Int32, z = if ¬ (w0 = 0) then (1 : Int32) else 0 := ⟨_, rfl⟩
  have sg80 : ∀ {P : State → Outcome → Prop}, Go p e below P T64 (mkF m 124 #[.val (.ref a1), .val (.ref a2), .val (.ref a3), .val (.ref a4), .val (.ref a5), .val (.int v79), .val (.ref a3), .val (.int (3 : Int32)), .val (.int (0 : Int32)), .val (.int w0)] []) → Go p e below P T64 (mkF m 118 #[.val (.ref a1), .val (.ref a2), .val (.ref a3), .val (.ref a4), .val (.ref a5), .val (.int (0 : Int32)), .val (.ref a3), .val (.int (3 : Int32)), .val (.int (0 : Int32)), .val (.int w0)] [(.int w0)]) := by
    intro P hr
    by_cases c81 : w0 = 0
    · skip
      refine g_ifY A78 d1_118 (c0_eq_t c81) (pc' := 124) rfl ?_
      obtain rfl : v79 = (0 : Int32) := hv79.trans (if_neg (fun q => q c81))
      exact hr
    · skip
      refine g_ifN A78 d1_118 (c0_eq_f c81) (pc' := 121) rfl ?_
      refine g_iinc A78 d1_121 rfl (y := (1 : Int32)) (by decide) (ls' := #[.val (.ref a1), .val (.ref a2), .val (.ref a3), .val (.ref a4), .val (.ref a5), .val (.int (1 : Int32)), .val (.ref a3), .val (.int (3 : Int32)), .val (.int (0 : Int32)), .val (.int w0)]) rfl (pc' := 124) rfl ?_
      obtain rfl : v79 = (1 : Int32) := hv79.trans (if_pos c81)
      exact hr
  refine sg80 ?_
  refine g_iinc A78 d1_124 rfl (y := (1 : Int32)) (by decide) (ls' := #[.val (.ref a1), .val (.ref a2), .val (.ref a3), .val (.ref a4), .val (.ref a5), .val (.int v79), .val (.ref a3), .val (.int (3 : Int32)), .val (.int (1 : Int32)), .val (.int w0)]) rfl (pc' := 127) rfl ?_
  refine g_goto A78 d1_127 (pc' := 102) rfl ?_
  refine g_iload A78 d1_102 rfl (pc' := 104) rfl ?_
  refine g_iload A78 d1_104 rfl (pc' := 106) rfl ?_
  refine g_icN A78 d1_106 (c2_ge_f (by decide)) (pc' := 109) rfl ?_
  refine g_aload A78 d1_109 rfl rfl (pc' := 111) rfl ?_
  refine g_iload A78 d1_111 rfl (pc' := 113) rfl ?_
  refine g_baload A78 hZ e64 V70 (i := 1) (by decide) rfl (x := w1) hw1 d1_113 (pc' := 114) rfl ?_
  refine g_istore A78 d1_114 (ls' := #[.val (.ref a1), .val (.ref a2), .val (.ref a3), .val (.ref a4), .val (.ref a5), .val (.int v79), .val (.ref a3), .val (.int (3 : Int32)), .val (.int (1 : Int32)), .val (.int w1)]) rfl (pc' := 116) rfl ?_
  refine g_iload A78 d1_116 rfl (pc' := 118) rfl ?_
  obtain ⟨v82, hv82⟩ : ∃ z : Int32, z = (if w1 = 0 then v79 else (v79 + (1 : Int32))) := ⟨_, rfl⟩
  have sg83 : ∀ {P : State → Outcome → Prop}, Go p e below P T64 (mkF m 124 #[.val (.ref a1), .val (.ref a2), .val (.ref a3), .val (.ref a4), .val (.ref a5), .val (.int v82), .val (.ref a3), .val (.int (3 : Int32)), .val (.int (1 : Int32)), .val (.int w1)] []) → Go p e below P T64 (mkF m 118 #[.val (.ref a1), .val (.ref a2), .val (.ref a3), .val (.ref a4), .val (.ref a5), .val (.int v79), .val (.ref a3), .val (.int (3 : Int32)), .val (.int (1 : Int32)), .val (.int w1)] [(.int w1)]) := by
    intro P hr
    by_cases c84 : w1 = 0
    · skip
      refine g_ifY A78 d1_118 (c0_eq_t c84) (pc' := 124) rfl ?_
      obtain rfl : v82 = v79 := hv82.trans ((if_pos c84).trans rfl)
      exact hr
    · skip
      refine g_ifN A78 d1_118 (c0_eq_f c84) (pc' := 121) rfl ?_
      refine g_iinc A78 d1_121 rfl (y := (v79 + (1 : Int32))) rfl (ls' := #[.val (.ref a1), .val (.ref a2), .val (.ref a3), .val (.ref a4), .val (.ref a5), .val (.int (v79 + (1 : Int32))), .val (.ref a3), .val (.int (3 : Int32)), .val (.int (1 : Int32)), .val (.int w1)]) rfl (pc' := 124) rfl ?_
      obtain rfl : v82 = (v79 + (1 : Int32)) := hv82.trans ((if_neg c84).trans rfl)
      exact hr
  refine sg83 ?_
  refine g_iinc A78 d1_124 rfl (y := (2 : Int32)) (by decide) (ls' := #[.val (.ref a1), .val (.ref a2), .val (.ref a3), .val (.ref a4), .val (.ref a5), .val (.int v82), .val (.ref a3), .val (.int (3 : Int32)), .val (.int (2 : Int32)), .val (.int w1)]) rfl (pc' := 127) rfl ?_
  refine g_goto A78 d1_127 (pc' := 102) rfl ?_
  refine g_iload A78 d1_102 rfl (pc' := 104) rfl ?_
  refine g_iload A78 d1_104 rfl (pc' := 106) rfl ?_
  refine g_icN A78 d1_106 (c2_ge_f (by decide)) (pc' := 109) rfl ?_
  refine g_aload A78 d1_109 rfl rfl (pc' := 111) rfl ?_
  refine g_iload A78 d1_111 rfl (pc' := 113) rfl ?_
  refine g_baload A78 hZ e64 V70 (i := 2) (by decide) rfl (x := w2) hw2 d1_113 (pc' := 114) rfl ?_
  refine g_istore A78 d1_114 (ls' := #[.val (.ref a1), .val (.ref a2), .val (.ref a3), .val (.ref a4), .val (.ref a5), .val (.int v82), .val (.ref a3), .val (.int (3 : Int32)), .val (.int (2 : Int32)), .val (.int w2)]) rfl (pc' := 116) rfl ?_
  refine g_iload A78 d1_116 rfl (pc' := 118) rfl ?_
  obtain ⟨v85, hv85⟩ : ∃ z : Int32, z = (if w2 = 0 then v82 else (v82 + (1 : Int32))) := ⟨_, rfl⟩
  have sg86 : ∀ {P : State → Outcome → Prop}, Go p e below P T64 (mkF m 124 #[.val (.ref a1), .val (.ref a2), .val (.ref a3), .val (.ref a4), .val (.ref a5), .val (.int v85), .val (.ref a3), .val (.int (3 : Int32)), .val (.int (2 : Int32)), .val (.int w2)] []) → Go p e below P T64 (mkF m 118 #[.val (.ref a1), .val (.ref a2), .val (.ref a3), .val (.ref a4), .val (.ref a5), .val (.int v82), .val (.ref a3), .val (.int (3 : Int32)), .val (.int (2 : Int32)), .val (.int w2)] [(.int w2)]) := by
    intro P hr
    by_cases c87 : w2 = 0
    · skip
      refine g_ifY A78 d1_118 (c0_eq_t c87) (pc' := 124) rfl ?_
      obtain rfl : v85 = v82 := hv85.trans ((if_pos c87).trans rfl)
      exact hr
    · skip
      refine g_ifN A78 d1_118 (c0_eq_f c87) (pc' := 121) rfl ?_
      refine g_iinc A78 d1_121 rfl (y := (v82 + (1 : Int32))) rfl (ls' := #[.val (.ref a1), .val (.ref a2), .val (.ref a3), .val (.ref a4), .val (.ref a5), .val (.int (v82 + (1 : Int32))), .val (.ref a3), .val (.int (3 : Int32)), .val (.int (2 : Int32)), .val (.int w2)]) rfl (pc' := 124) rfl ?_
      obtain rfl : v85 = (v82 + (1 : Int32)) := hv85.trans ((if_neg c87).trans rfl)
      exact hr
  refine sg86 ?_
  refine g_iinc A78 d1_124 rfl (y := (3 : Int32)) (by decide) (ls' := #[.val (.ref a1), .val (.ref a2), .val (.ref a3), .val (.ref a4), .val (.ref a5), .val (.int v85), .val (.ref a3), .val (.int (3 : Int32)), .val (.int (3 : Int32)), .val (.int w2)]) rfl (pc' := 127) rfl ?_
  refine g_goto A78 d1_127 (pc' := 102) rfl ?_
  refine g_iload A78 d1_102 rfl (pc' := 104) rfl ?_
  refine g_iload A78 d1_104 rfl (pc' := 106) rfl ?_
  refine g_icY A78 d1_106 (c2_ge_t (by decide)) (pc' := 130) rfl ?_
  refine g_aloadN A78 d1_130 rfl rfl (pc' := 131) rfl ?_
  refine g_iload A78 d1_131 rfl (pc' := 133) rfl ?_
  obtain ⟨T88, h88, X88, e88, W88, st88⟩ := putF X64 hx hZ hown (host := "") (Or.inl (hw _ (List.mem_of_getElem? (i := 20) rfl))) Via.refl e64 F68 E67 (Or.inr ⟨(hw _ (List.mem_of_getElem? (i := 21) rfl)), rfl, hnm⟩) (hw _ (List.mem_of_getElem? (i := 4) rfl)) (ty := .int) (by decide) rfl rfl (g := (mkF m 133 #[.val (.ref a1), .val (.ref a2), .val (.ref a3), .val (.ref a4), .val (.ref a5), .val (.int v85), .val (.ref a3), .val (.int (3 : Int32)), .val (.int (3 : Int32)), .val (.int w2)] [(.int v85), (.ref a1)])) rfl rfl (hb hby d1_133)
  have N89 := Fr.snoc X88 N65 g8
  have K90 : Keep h0 h88 [a1] := K66.wr W88 (Or.inl (List.mem_of_getElem? (i := 0) rfl))
  have E91 : Exa Z h88 a1 "com/example/swathloom/swathloom/planning/Plan" := Exa.wr W88 E67
  have V92 : Dar Z h88 a2 .double 3 f2 := Dar.other W88 V69 ne11
  have V93 : Dar Z h88 a3 .boolean 3 f3 := Dar.other W88 V70 ne12
  have V94 : Dar Z h88 a4 .double 3 f4 := Dar.other W88 V71 ne14
  have V95 : Dar Z h88 a5 .double 3 f5 := Dar.other W88 V72 ne16
  have F96 : Fld Z h88 a1 "com/example/swathloom/swathloom/planning/Plan" "rolls" "[D" (.ref a2) := Fld.other W88 F73 (Or.inr (slot_ne (Or.inr (hw _ (List.mem_of_getElem? (i := 13) rfl))) (Or.inr (hw _ (List.mem_of_getElem? (i := 21) rfl))) (by decide) (t := (.array .double)) (t' := .int) (by decide) (by decide)))
  have F97 : Fld Z h88 a1 "com/example/swathloom/swathloom/planning/Plan" "used" "[Z" (.ref a3) := Fld.other W88 F74 (Or.inr (slot_ne (Or.inr (hw _ (List.mem_of_getElem? (i := 15) rfl))) (Or.inr (hw _ (List.mem_of_getElem? (i := 21) rfl))) (by decide) (t := (.array .boolean)) (t' := .int) (by decide) (by decide)))
  have F98 : Fld Z h88 a1 "com/example/swathloom/swathloom/planning/Plan" "rollVelocities" "[D" (.ref a4) := Fld.other W88 F75 (Or.inr (slot_ne (Or.inr (hw _ (List.mem_of_getElem? (i := 17) rfl))) (Or.inr (hw _ (List.mem_of_getElem? (i := 21) rfl))) (by decide) (t := (.array .double)) (t' := .int) (by decide) (by decide)))
  have F99 : Fld Z h88 a1 "com/example/swathloom/swathloom/planning/Plan" "selectionVelocities" "[D" (.ref a5) := Fld.other W88 F76 (Or.inr (slot_ne (Or.inr (hw _ (List.mem_of_getElem? (i := 19) rfl))) (Or.inr (hw _ (List.mem_of_getElem? (i := 21) rfl))) (by decide) (t := (.array .double)) (t' := .int) (by decide) (by decide)))
  have F100 : Fld Z h88 a1 "com/example/swathloom/swathloom/planning/Plan" "strips" "I" (.int v85) := Fld.same W88 F68
  have Z101 : n0 ≤ h88.size := by rw [W88.size]; exact Z77
  refine Go.of (g' := (mkF m 136 #[.val (.ref a1), .val (.ref a2), .val (.ref a3), .val (.ref a4), .val (.ref a5), .val (.int v85), .val (.ref a3), .val (.int (3 : Int32)), .val (.int (3 : Int32)), .val (.int w2)] [])) st88 ?_
  have A102 := (⟨X88, hx, hby⟩ : Ax _ _ _ _ _ _ _ _ _ _ _ _ _ _ _)
  exact g_retV (Q := Q1_00 Z a1 a2 a3 a4 f4 a5 f5 f2 f3 w0 w1 w2 u0 u1 u2 u3 u4 h0 n0) A102 d1_136 Bd.notSynchronized Bd.returns (by decide) (by decide) (by rw [e88]; exact ⟨rfl, N89, K90, F97, F98, F99⟩)
theorem ef103 (m : MethodId) (a1 : Addr) (a2 : Addr) (a3 : Addr) (a4 : Addr) (f4 : Nat → Value) (f2 : Nat → Value) (f3 : Nat → Value) (w0 : Int32) (w1 : Int32) (w2 : Int32) (u0 : Value) (u1 : Value) (u2 : Value) (u3 : Value) (u4 : Value) : entryFrame m #[(.ref a1), (.ref a2), (.ref a3), (.ref a4), .null] 10 = mkF m 0 #[.val (.ref a1), .val (.ref a2), .val (.ref a3), .val (.ref a4), .val .null, .unset, .unset, .unset, .unset, .unset] [] := by first | (simp [entryFrame, mkF, argsToLocals, Value.category]; done) | rfl
def Q1_01 (Z : State) (a1 : Addr) (a2 : Addr) (a3 : Addr) (a4 : Addr) (f4 : Nat → Value) (f2 : Nat → Value) (f3 : Nat → Value) (w0 : Int32) (w1 : Int32) (w2 : Int32) (u0 : Value) (u1 : Value) (u2 : Value) (u3 : Value) (u4 : Value) (h0 : Heap) (n0 : Nat) (v : Option Value) (h : Heap) (L : List Loc) : Prop := v = none ∧ Fr n0 L ∧ Keep h0 h [a1] ∧ Fld Z h a1 "com/example/swathloom/swathloom/planning/Plan" "used" "[Z" (.ref a3) ∧ Fld Z h a1 "com/example/swathloom/swathloom/planning/Plan" "rollVelocities" "[D" (.ref a4) ∧ Fld Z h a1 "com/example/swathloom/swathloom/planning/Plan" "selectionVelocities" "[D" .null
set_option maxRecDepth 65536 in
set_option maxHeartbeats 40000000 in
theorem rm1_01 (l : Launch) (Z : State) (a0 : Array Value) (hw : ∀ d ∈ tables_1, d.before a0 Z = true) (ws : List Jvm.Cond) (a1 : Addr) (a2 : Addr) (a3 : Addr) (a4 : Addr) (f4 : Nat → Value) (f2 : Nat → Value) (f3 : Nat → Value) (w0 : Int32) (w1 : Int32) (w2 : Int32) (u0 : Value) (u1 : Value) (u2 : Value) (u3 : Value) (u4 : Value) (h0 : Heap) (n0 : Nat) (Z0 : n0 ≤ h0.size) (E104 : Exa Z h0 a1 "com/example/swathloom/swathloom/planning/Plan") (F105 : Fld Z h0 a1 "com/example/swathloom/swathloom/planning/Plan" "rolls" "[D" u0) (F106 : Fld Z h0 a1 "com/example/swathloom/swathloom/planning/Plan" "used" "[Z" u1) (F107 : Fld Z h0 a1 "com/example/swathloom/swathloom/planning/Plan" "rollVelocities" "[D" u2) (F108 : Fld Z h0 a1 "com/example/swathloom/swathloom/planning/Plan" "selectionVelocities" "[D" u3) (F109 : Fld Z h0 a1 "com/example/swathloom/swathloom/planning/Plan" "strips" "I" u4) (g110 : n0 ≤ a1) (V111 : Dar Z h0 a2 .double 3 f2) (V112 : Dar Z h0 a3 .boolean 3 f3) (ne113 : a2 ≠ a1) (ne114 : a3 ≠ a1) (hw0 : f3 0 = .int w0) (hw1 : f3 1 = .int w1) (hw2 : f3 2 = .int w2) (V115 : Dar Z h0 a4 .double 3 f4) (ne116 : a4 ≠ a1) :
    MetFree l (⟨"com/example/swathloom/swathloom/planning/Plan", "<init>", "([D[Z[D[D)V"⟩ : MethodName) (head1 (Jvm.Cond.code (⟨"com/example/swathloom/swathloom/planning/Plan", "<init>", "([D[Z[D[D)V"⟩ : MethodName) prog_19_method_2_code 10 none :: ws) ({ frames := 1, cells := 0, slots := 0, locals := 12 } : Room)) (fun a U => a = #[(.ref a1), (.ref a2), (.ref a3), (.ref a4), .null] ∧ Z.Warmed39 U.vm ∧ U.heap = h0) (fun _ _ _ _ _ => True) (fun _ U o U' => ∃ v L, o = .returned v ∧ Q1_01 Z a1 a2 a3 a4 f4 f2 f3 w0 w1 w2 u0 u1 u2 u3 u4 h0 n0 v U'.heap L ∧ FrameEnd U o U' L 0 0) := by
  refine MetFree.of_bodySF (plainFor_of_name pn_0) hisR ?_
  intro p e s m args below meth c s₁ Bd hml0 hP hK
  obtain ⟨rfl, hZ, hh⟩ := hP
  have hx := Bd.exec
  have hby := Bd.bytes
  have hml : c.maxLocals = 10 := hml0
  have hown : s.vm.findClass "com/example/swathloom/swathloom/planning/Plan" = some m.cls := findClass_of_methodNamed Bd.named
  have hnm := (name_of_methodNamed Bd.named Bd.method).1
  have X0 : Stand p l e ({ frames := 1, cells := 0, slots := 0, locals := 12 } : Room) s m #[(.ref a1), (.ref a2), (.ref a3), (.ref a4), .null] below meth c s₁ [] 0 0 := Stand.of_body Bd
  have e0 : s₁.heap = h0 := by rw [← hh, Bd.state]; rfl
  have N0 := Fr.nil n0
  have A0 := (⟨X0, hx, hby⟩ : Ax _ _ _ _ _ _ _ _ _ _ _ _ _ _ _)
  show Go p e below (fun U o => ∃ v L, o = .returned v ∧ Q1_01 Z a1 a2 a3 a4 f4 f2 f3 w0 w1 w2 u0 u1 u2 u3 u4 h0 n0 v U.heap L ∧ FrameEnd s o U L 0 0) s₁ (entryFrame m #[(.ref a1), (.ref a2), (.ref a3), (.ref a4), .null] 10)
  refine Go.cast (ef103 m a1 a2 a3 a4 f4 f2 f3 w0 w1 w2 u0 u1 u2 u3 u4) ?_
  refine g_aloadN A0 d1_0 rfl rfl (pc' := 1) rfl ?_
  obtain ⟨T117, X117, e117, st117⟩ := initO X0 hx hZ hown (hw _ (List.mem_of_getElem? (i := 9) rfl)) (hw _ (List.mem_of_getElem? (i := 10) rfl)) (hw _ (List.mem_of_getElem? (i := 11) rfl)) e0 (g := (mkF m 1 #[.val (.ref a1), .val (.ref a2), .val (.ref a3), .val (.ref a4), .val .null, .unset, .unset, .unset, .unset, .unset] [(.ref a1)])) rfl (by rw [hml]; rfl) rfl (hb hby d1_1) (by decide) (W := 0) (by show 2 * 0 + _ ≤ _; exact Nat.le_of_eq rfl) (by decide)
  refine Go.of (g' := (mkF m 4 #[.val (.ref a1), .val (.ref a2), .val (.ref a3), .val (.ref a4), .val .null, .unset, .unset, .unset, .unset, .unset] [])) st117 ?_
  have A118 := (⟨X117, hx, hby⟩ : Ax _ _ _ _ _ _ _ _ _ _ _ _ _ _ _)
  refine g_aloadN A118 d1_4 rfl rfl (pc' := 5) rfl ?_
  refine g_alen A118 hZ e117 V111 d1_5 (z := (3 : Int32)) rfl (pc' := 6) rfl ?_
  refine g_aloadN A118 d1_6 rfl rfl (pc' := 7) rfl ?_
  refine g_alen A118 hZ e117 V112 d1_7 (z := (3 : Int32)) rfl (pc' := 8) rfl ?_
  refine g_icY A118 d1_8 (c2_eq_t rfl) (pc' := 28) rfl ?_
  refine g_aloadN A118 d1_28 rfl rfl (pc' := 29) rfl ?_
  refine g_nuN A118 d1_29 (pc' := 32) rfl ?_
  refine g_aloadN A118 d1_32 rfl rfl (pc' := 33) rfl ?_
  refine g_alen A118 hZ e117 V115 d1_33 (z := (3 : Int32)) rfl (pc' := 34) rfl ?_
  refine g_aloadN A118 d1_34 rfl rfl (pc' := 35) rfl ?_
  refine g_alen A118 hZ e117 V111 d1_35 (z := (3 : Int32)) rfl (pc' := 36) rfl ?_
  refine g_icN A118 d1_36 (c2_ne_f rfl) (pc' := 39) rfl ?_
  refine g_aload A118 d1_39 rfl rfl (pc' := 41) rfl ?_
  refine g_nuY A118 d1_41 (pc' := 67) rfl ?_
  refine g_aloadN A118 d1_67 rfl rfl (pc' := 68) rfl ?_
  refine g_aloadN A118 d1_68 rfl rfl (pc' := 69) rfl ?_
  obtain ⟨T119, h119, X119, e119, W119, st119⟩ := putF X117 hx hZ hown (host := "") (Or.inl (hw _ (List.mem_of_getElem? (i := 12) rfl))) Via.refl e117 F105 E104 (Or.inr ⟨(hw _ (List.mem_of_getElem? (i := 13) rfl)), rfl, hnm⟩) (hw _ (List.mem_of_getElem? (i := 4) rfl)) (ty := (.array .double)) (by decide) rfl rfl (g := (mkF m 69 #[.val (.ref a1), .val (.ref a2), .val (.ref a3), .val (.ref a4), .val .null, .unset, .unset, .unset, .unset, .unset] [(.ref a2), (.ref a1)])) rfl rfl (hb hby d1_69)
  have N120 := Fr.snoc X119 N0 g110
  have K121 : Keep h0 h119 [a1] := (Keep.refl h0 [a1]).wr W119 (Or.inl (List.mem_of_getElem? (i := 0) rfl))
  have E122 : Exa Z h119 a1 "com/example/swathloom/swathloom/planning/Plan" := Exa.wr W119 E104
  have F123 : Fld Z h119 a1 "com/example/swathloom/swathloom/planning/Plan" "used" "[Z" u1 := Fld.other W119 F106 (Or.inr (slot_ne (Or.inr (hw _ (List.mem_of_getElem? (i := 15) rfl))) (Or.inr (hw _ (List.mem_of_getElem? (i := 13) rfl))) (by decide) (t := (.array .boolean)) (t' := (.array .double)) (by decide) (by decide)))
  have F124 : Fld Z h119 a1 "com/example/swathloom/swathloom/planning/Plan" "rollVelocities" "[D" u2 := Fld.other W119 F107 (Or.inr (slot_ne (Or.inr (hw _ (List.mem_of_getElem? (i := 17) rfl))) (Or.inr (hw _ (List.mem_of_getElem? (i := 13) rfl))) (by decide) (t := (.array .double)) (t' := (.array .double)) (by decide) (by decide)))
  have F125 : Fld Z h119 a1 "com/example/swathloom/swathloom/planning/Plan" "selectionVelocities" "[D" u3 := Fld.other W119 F108 (Or.inr (slot_ne (Or.inr (hw _ (List.mem_of_getElem? (i := 19) rfl))) (Or.inr (hw _ (List.mem_of_getElem? (i := 13) rfl))) (by decide) (t := (.array .double)) (t' := (.array .double)) (by decide) (by decide)))
  have F126 : Fld Z h119 a1 "com/example/swathloom/swathloom/planning/Plan" "strips" "I" u4 := Fld.other W119 F109 (Or.inr (slot_ne (Or.inr (hw _ (List.mem_of_getElem? (i := 21) rfl))) (Or.inr (hw _ (List.mem_of_getElem? (i := 13) rfl))) (by decide) (t := .int) (t' := (.array .double)) (by decide) (by decide)))
  have V127 : Dar Z h119 a2 .double 3 f2 := Dar.other W119 V111 ne113
  have V128 : Dar Z h119 a3 .boolean 3 f3 := Dar.other W119 V112 ne114
  have V129 : Dar Z h119 a4 .double 3 f4 := Dar.other W119 V115 ne116
  have F130 : Fld Z h119 a1 "com/example/swathloom/swathloom/planning/Plan" "rolls" "[D" (.ref a2) := Fld.same W119 F105
  have Z131 : n0 ≤ h119.size := by rw [W119.size]; exact Z0
  refine Go.of (g' := (mkF m 72 #[.val (.ref a1), .val (.ref a2), .val (.ref a3), .val (.ref a4), .val .null, .unset, .unset, .unset, .unset, .unset] [])) st119 ?_
  have A132 := (⟨X119, hx, hby⟩ : Ax _ _ _ _ _ _ _ _ _ _ _ _ _ _ _)
  refine g_aloadN A132 d1_72 rfl rfl (pc' := 73) rfl ?_
  refine g_aloadN A132 d1_73 rfl rfl (pc' := 74) rfl ?_
  obtain ⟨T133, h133, X133, e133, W133, st133⟩ := putF X119 hx hZ hown (host := "") (Or.inl (hw _ (List.mem_of_getElem? (i := 14) rfl))) Via.refl e119 F123 E122 (Or.inr ⟨(hw _ (List.mem_of_getElem? (i := 15) rfl)), rfl, hnm⟩) (hw _ (List.mem_of_getElem? (i := 4) rfl)) (ty := (.array .boolean)) (by decide) rfl rfl (g := (mkF m 74 #[.val (.ref a1), .val (.ref a2), .val (.ref a3), .val (.ref a4), .val .null, .unset, .unset, .unset, .unset, .unset] [(.ref a3), (.ref a1)])) rfl rfl (hb hby d1_74)
  have N134 := Fr.snoc X133 N120 g110
  have K135 : Keep h0 h133 [a1] := K121.wr W133 (Or.inl (List.mem_of_getElem? (i := 0) rfl))
  have E136 : Exa Z h133 a1 "com/example/swathloom/swathloom/planning/Plan" := Exa.wr W133 E122
  have F137 : Fld Z h133 a1 "com/example/swathloom/swathloom/planning/Plan" "rollVelocities" "[D" u2 := Fld.other W133 F124 (Or.inr (slot_ne (Or.inr (hw _ (List.mem_of_getElem? (i := 17) rfl))) (Or.inr (hw _ (List.mem_of_getElem? (i := 15) rfl))) (by decide) (t := (.array .double)) (t' := (.array .boolean)) (by decide) (by decide)))
  have F138 : Fld Z h133 a1 "com/example/swathloom/swathloom/planning/Plan" "selectionVelocities" "[D" u3 := Fld.other W133 F125 (Or.inr (slot_ne (Or.inr (hw _ (List.mem_of_getElem? (i := 19) rfl))) (Or.inr (hw _ (List.mem_of_getElem? (i := 15) rfl))) (by decide) (t := (.array .double)) (t' := (.array .boolean)) (by decide) (by decide)))
  have F139 : Fld Z h133 a1 "com/example/swathloom/swathloom/planning/Plan" "strips" "I" u4 := Fld.other W133 F126 (Or.inr (slot_ne (Or.inr (hw _ (List.mem_of_getElem? (i := 21) rfl))) (Or.inr (hw _ (List.mem_of_getElem? (i := 15) rfl))) (by decide) (t := .int) (t' := (.array .boolean)) (by decide) (by decide)))
  have V140 : Dar Z h133 a2 .double 3 f2 := Dar.other W133 V127 ne113
  have V141 : Dar Z h133 a3 .boolean 3 f3 := Dar.other W133 V128 ne114
  have V142 : Dar Z h133 a4 .double 3 f4 := Dar.other W133 V129 ne116
  have F143 : Fld Z h133 a1 "com/example/swathloom/swathloom/planning/Plan" "rolls" "[D" (.ref a2) := Fld.other W133 F130 (Or.inr (slot_ne (Or.inr (hw _ (List.mem_of_getElem? (i := 13) rfl))) (Or.inr (hw _ (List.mem_of_getElem? (i := 15) rfl))) (by decide) (t := (.array .double)) (t' := (.array .boolean)) (by decide) (by decide)))
  have F144 : Fld Z h133 a1 "com/example/swathloom/swathloom/planning/Plan" "used" "[Z" (.ref a3) := Fld.same W133 F123
  have Z145 : n0 ≤ h133.size := by rw [W133.size]; exact Z131
  refine Go.of (g' := (mkF m 77 #[.val (.ref a1), .val (.ref a2), .val (.ref a3), .val (.ref a4), .val .null, .unset, .unset, .unset, .unset, .unset] [])) st133 ?_
  have A146 := (⟨X133, hx, hby⟩ : Ax _ _ _ _ _ _ _ _ _ _ _ _ _ _ _)
  refine g_aloadN A146 d1_77 rfl rfl (pc' := 78) rfl ?_
  refine g_aloadN A146 d1_78 rfl rfl (pc' := 79) rfl ?_
  obtain ⟨T147, h147, X147, e147, W147, st147⟩ := putF X133 hx hZ hown (host := "") (Or.inl (hw _ (List.mem_of_getElem? (i := 16) rfl))) Via.refl e133 F137 E136 (Or.inr ⟨(hw _ (List.mem_of_getElem? (i := 17) rfl)), rfl, hnm⟩) (hw _ (List.mem_of_getElem? (i := 4) rfl)) (ty := (.array .double)) (by decide) rfl rfl (g := (mkF m 79 #[.val (.ref a1), .val (.ref a2), .val (.ref a3), .val (.ref a4), .val .null, .unset, .unset, .unset, .unset, .unset] [(.ref a4), (.ref a1)])) rfl rfl (hb hby d1_79)
  have N148 := Fr.snoc X147 N134 g110
  have K149 : Keep h0 h147 [a1] := K135.wr W147 (Or.inl (List.mem_of_getElem? (i := 0) rfl))
  have E150 : Exa Z h147 a1 "com/example/swathloom/swathloom/planning/Plan" := Exa.wr W147 E136
  have F151 : Fld Z h147 a1 "com/example/swathloom/swathloom/planning/Plan" "selectionVelocities" "[D" u3 := Fld.other W147 F138 (Or.inr (slot_ne (Or.inr (hw _ (List.mem_of_getElem? (i := 19) rfl))) (Or.inr (hw _ (List.mem_of_getElem? (i := 17) rfl))) (by decide) (t := (.array .double)) (t' := (.array .double)) (by decide) (by decide)))
  have F152 : Fld Z h147 a1 "com/example/swathloom/swathloom/planning/Plan" "strips" "I" u4 := Fld.other W147 F139 (Or.inr (slot_ne (Or.inr (hw _ (List.mem_of_getElem? (i := 21) rfl))) (Or.inr (hw _ (List.mem_of_getElem? (i := 17) rfl))) (by decide) (t := .int) (t' := (.array .double)) (by decide) (by decide)))
  have V153 : Dar Z h147 a2 .double 3 f2 := Dar.other W147 V140 ne113
  have V154 : Dar Z h147 a3 .boolean 3 f3 := Dar.other W147 V141 ne114
  have V155 : Dar Z h147 a4 .double 3 f4 := Dar.other W147 V142 ne116
  have F156 : Fld Z h147 a1 "com/example/swathloom/swathloom/planning/Plan" "rolls" "[D" (.ref a2) := Fld.other W147 F143 (Or.inr (slot_ne (Or.inr (hw _ (List.mem_of_getElem? (i := 13) rfl))) (Or.inr (hw _ (List.mem_of_getElem? (i := 17) rfl))) (by decide) (t := (.array .double)) (t' := (.array .double)) (by decide) (by decide)))
  have F157 : Fld Z h147 a1 "com/example/swathloom/swathloom/planning/Plan" "used" "[Z" (.ref a3) := Fld.other W147 F144 (Or.inr (slot_ne (Or.inr (hw _ (List.mem_of_getElem? (i := 15) rfl))) (Or.inr (hw _ (List.mem_of_getElem? (i := 17) rfl))) (by decide) (t := (.array .boolean)) (t' := (.array .double)) (by decide) (by decide)))
  have F158 : Fld Z h147 a1 "com/example/swathloom/swathloom/planning/Plan" "rollVelocities" "[D" (.ref a4) := Fld.same W147 F137
  have Z159 : n0 ≤ h147.size := by rw [W147.size]; exact Z145
  refine Go.of (g' := (mkF m 82 #[.val (.ref a1), .val (.ref a2), .val (.ref a3), .val (.ref a4), .val .null, .unset, .unset, .unset, .unset, .unset] [])) st147 ?_
  have A160 := (⟨X147, hx, hby⟩ : Ax _ _ _ _ _ _ _ _ _ _ _ _ _ _ _)
  refine g_aloadN A160 d1_82 rfl rfl (pc' := 83) rfl ?_
  refine g_aload A160 d1_83 rfl rfl (pc' := 85) rfl ?_
  obtain ⟨T161, h161, X161, e161, W161, st161⟩ := putF X147 hx hZ hown (host := "") (Or.inl (hw _ (List.mem_of_getElem? (i := 18) rfl))) Via.refl e147 F151 E150 (Or.inr ⟨(hw _ (List.mem_of_getElem? (i := 19) rfl)), rfl, hnm⟩) (hw _ (List.mem_of_getElem? (i := 4) rfl)) (ty := (.array .double)) (by decide) rfl rfl (g := (mkF m 85 #[.val (.ref a1), .val (.ref a2), .val (.ref a3), .val (.ref a4), .val .null, .unset, .unset, .unset, .unset, .unset] [.null, (.ref a1)])) rfl rfl (hb hby d1_85)
  have N162 := Fr.snoc X161 N148 g110
  have K163 : Keep h0 h161 [a1] := K149.wr W161 (Or.inl (List.mem_of_getElem? (i := 0) rfl))
  have E164 : Exa Z h161 a1 "com/example/swathloom/swathloom/planning/Plan" := Exa.wr W161 E150
  have F165 : Fld Z h161 a1 "com/example/swathloom/swathloom/planning/Plan" "strips" "I" u4 := Fld.other W161 F152 (Or.inr (slot_ne (Or.inr (hw _ (List.mem_of_getElem? (i := 21) rfl))) (Or.inr (hw _ (List.mem_of_getElem? (i := 19) rfl))) (by decide) (t := .int) (t' := (.array .double)) (by decide) (by decide)))
  have V166 : Dar Z h161 a2 .double 3 f2 := Dar.other W161 V153 ne113
  have V167 : Dar Z h161 a3 .boolean 3 f3 := Dar.other W161 V154 ne114
  have V168 : Dar Z h161 a4 .double 3 f4 := Dar.other W161 V155 ne116
  have F169 : Fld Z h161 a1 "com/example/swathloom/swathloom/planning/Plan" "rolls" "[D" (.ref a2) := Fld.other W161 F156 (Or.inr (slot_ne (Or.inr (hw _ (List.mem_of_getElem? (i := 13) rfl))) (Or.inr (hw _ (List.mem_of_getElem? (i := 19) rfl))) (by decide) (t := (.array .double)) (t' := (.array .double)) (by decide) (by decide)))
  have F170 : Fld Z h161 a1 "com/example/swathloom/swathloom/planning/Plan" "used" "[Z" (.ref a3) := Fld.other W161 F157 (Or.inr (slot_ne (Or.inr (hw _ (List.mem_of_getElem? (i := 15) rfl))) (Or.inr (hw _ (List.mem_of_getElem? (i := 19) rfl))) (by decide) (t := (.array .boolean)) (t' := (.array .double)) (by decide) (by decide)))
  have F171 : Fld Z h161 a1 "com/example/swathloom/swathloom/planning/Plan" "rollVelocities" "[D" (.ref a4) := Fld.other W161 F158 (Or.inr (slot_ne (Or.inr (hw _ (List.mem_of_getElem? (i := 17) rfl))) (Or.inr (hw _ (List.mem_of_getElem? (i := 19) rfl))) (by decide) (t := (.array .double)) (t' := (.array .double)) (by decide) (by decide)))
  have F172 : Fld Z h161 a1 "com/example/swathloom/swathloom/planning/Plan" "selectionVelocities" "[D" .null := Fld.same W161 F151
  have Z173 : n0 ≤ h161.size := by rw [W161.size]; exact Z159
  refine Go.of (g' := (mkF m 88 #[.val (.ref a1), .val (.ref a2), .val (.ref a3), .val (.ref a4), .val .null, .unset, .unset, .unset, .unset, .unset] [])) st161 ?_
  have A174 := (⟨X161, hx, hby⟩ : Ax _ _ _ _ _ _ _ _ _ _ _ _ _ _ _)
  refine g_iconst A174 d1_88 (v := (0 : Int32)) rfl (pc' := 89) rfl ?_
  refine g_istore A174 d1_89 (ls' := #[.val (.ref a1), .val (.ref a2), .val (.ref a3), .val (.ref a4), .val .null, .val (.int (0 : Int32)), .unset, .unset, .unset, .unset]) rfl (pc' := 91) rfl ?_
  refine g_aloadN A174 d1_91 rfl rfl (pc' := 92) rfl ?_
  refine g_astore A174 d1_92 rfl (ls' := #[.val (.ref a1), .val (.ref a2), .val (.ref a3), .val (.ref a4), .val .null, .val (.int (0 : Int32)), .val (.ref a3), .unset, .unset, .unset]) rfl (pc' := 94) rfl ?_
  refine g_aload A174 d1_94 rfl rfl (pc' := 96) rfl ?_
  refine g_alen A174 hZ e161 V167 d1_96 (z := (3 : Int32)) rfl (pc' := 97) rfl ?_
  refine g_istore A174 d1_97 (ls' := #[.val (.ref a1), .val (.ref a2), .val (.ref a3), .val (.ref a4), .val .null, .val (.int (0 : Int32)), .val (.ref a3), .val (.int (3 : Int32)), .unset, .unset]) rfl (pc' := 99) rfl ?_
  refine g_iconst A174 d1_99 (v := (0 : Int32)) rfl (pc' := 100) rfl ?_
  refine g_istore A174 d1_100 (ls' := #[.val (.ref a1), .val (.ref a2), .val (.ref a3), .val (.ref a4), .val .null, .val (.int (0 : Int32)), .val (.ref a3), .val (.int (3 : Int32)), .val (.int (0 : Int32)), .unset]) rfl (pc' := 102) rfl ?_
  refine g_iload A174 d1_102 rfl (pc' := 104) rfl ?_
  refine g_iload A174 d1_104 rfl (pc' := 106) rfl ?_
  refine g_icN A174 d1_106 (c2_ge_f (by decide)) (pc' := 109) rfl ?_
  refine g_aload A174 d1_109 rfl rfl (pc' := 111) rfl ?_
  refine g_iload A174 d1_111 rfl (pc' := 113) rfl ?_
  refine g_baload A174 hZ e161 V167 (i := 0) (by decide) rfl (x := w0) hw0 d1_113 (pc' := 114) rfl ?_
  refine g_istore A174 d1_114 (ls' := #[.val (.ref a1), .val (.ref a2), .val (.ref a3), .val (.ref a4), .val .null, .val (.int (0 : Int32)), .val (.ref a3), .val (.int (3 : Int32)), .val (.int (0 : Int32)), .val (.int w0)]) rfl (pc' := 116) rfl ?_
  refine g_iload A174 d1_116 rfl (pc' := 118) rfl ?_
  obtain ⟨v175, hv175⟩ : ∃ z : Int32, z = if ¬ (w0 = 0) then (1 : Int32) else 0 := ⟨_, rfl⟩
  have sg176 : ∀ {P : State → Outcome → Prop}, Go p e below P T161 (mkF m 124 #[.val (.ref a1), .val (.ref a2), .val (.ref a3), .val (.ref a4), .val .null, .val (.int v175), .val (.ref a3), .val (.int (3 : Int32)), .val (.int (0 : Int32)), .val (.int w0)] []) → Go p e below P T161 (mkF m 118 #[.val (.ref a1), .val (.ref a2), .val (.ref a3), .val (.ref a4), .val .null, .val (.int (0 : Int32)), .val (.ref a3), .val (.int (3 : Int32)), .val (.int (0 : Int32)), .val (.int w0)] [(.int w0)]) := by
    intro P hr
    by_cases c177 : w0 = 0
    · skip
      refine g_ifY A174 d1_118 (c0_eq_t c177) (pc' := 124) rfl ?_
      obtain rfl : v175 = (0 : Int32) := hv175.trans (if_neg (fun q => q c177))
      exact hr
    · skip
      refine g_ifN A174 d1_118 (c0_eq_f c177) (pc' := 121) rfl ?_
      refine g_iinc A174 d1_121 rfl (y := (1 : Int32)) (by decide) (ls' := #[.val (.ref a1), .val (.ref a2), .val (.ref a3), .val (.ref a4), .val .null, .val (.int (1 : Int32)), .val (.ref a3), .val (.int (3 : Int32)), .val (.int (0 : Int32)), .val (.int w0)]) rfl (pc' := 124) rfl ?_
      obtain rfl : v175 = (1 : Int32) := hv175.trans (if_pos c177)
      exact hr
  refine sg176 ?_
  refine g_iinc A174 d1_124 rfl (y := (1 : Int32)) (by decide) (ls' := #[.val (.ref a1), .val (.ref a2), .val (.ref a3), .val (.ref a4), .val .null, .val (.int v175), .val (.ref a3), .val (.int (3 : Int32)), .val (.int (1 : Int32)), .val (.int w0)]) rfl (pc' := 127) rfl ?_
  refine g_goto A174 d1_127 (pc' := 102) rfl ?_
  refine g_iload A174 d1_102 rfl (pc' := 104) rfl ?_
  refine g_iload A174 d1_104 rfl (pc' := 106) rfl ?_
  refine g_icN A174 d1_106 (c2_ge_f (by decide)) (pc' := 109) rfl ?_
  refine g_aload A174 d1_109 rfl rfl (pc' := 111) rfl ?_
  refine g_iload A174 d1_111 rfl (pc' := 113) rfl ?_
  refine g_baload A174 hZ e161 V167 (i := 1) (by decide) rfl (x := w1) hw1 d1_113 (pc' := 114) rfl ?_
  refine g_istore A174 d1_114 (ls' := #[.val (.ref a1), .val (.ref a2), .val (.ref a3), .val (.ref a4), .val .null, .val (.int v175), .val (.ref a3), .val (.int (3 : Int32)), .val (.int (1 : Int32)), .val (.int w1)]) rfl (pc' := 116) rfl ?_
  refine g_iload A174 d1_116 rfl (pc' := 118) rfl ?_
  obtain ⟨v178, hv178⟩ : ∃ z : Int32, z = (if w1 = 0 then v175 else (v175 + (1 : Int32))) := ⟨_, rfl⟩
  have sg179 : ∀ {P : State → Outcome → Prop}, Go p e below P T161 (mkF m 124 #[.val (.ref a1), .val (.ref a2), .val (.ref a3), .val (.ref a4), .val .null, .val (.int v178), .val (.ref a3), .val (.int (3 : Int32)), .val (.int (1 : Int32)), .val (.int w1)] []) → Go p e below P T161 (mkF m 118 #[.val (.ref a1), .val (.ref a2), .val (.ref a3), .val (.ref a4), .val .null, .val (.int v175), .val (.ref a3), .val (.int (3 : Int32)), .val (.int (1 : Int32)), .val (.int w1)] [(.int w1)]) := by
    intro P hr
    by_cases c180 : w1 = 0
    · skip
      refine g_ifY A174 d1_118 (c0_eq_t c180) (pc' := 124) rfl ?_
      obtain rfl : v178 = v175 := hv178.trans ((if_pos c180).trans rfl)
      exact hr
    · skip
      refine g_ifN A174 d1_118 (c0_eq_f c180) (pc' := 121) rfl ?_
      refine g_iinc A174 d1_121 rfl (y := (v175 + (1 : Int32))) rfl (ls' := #[.val (.ref a1), .val (.ref a2), .val (.ref a3), .val (.ref a4), .val .null, .val (.int (v175 + (1 : Int32))), .val (.ref a3), .val (.int (3 : Int32)), .val (.int (1 : Int32)), .val (.int w1)]) rfl (pc' := 124) rfl ?_
      obtain rfl : v178 = (v175 + (1 : Int32)) := hv178.trans ((if_neg c180).trans rfl)
      exact hr
  refine sg179 ?_
  refine g_iinc A174 d1_124 rfl (y := (2 : Int32)) (by decide) (ls' := #[.val (.ref a1), .val (.ref a2), .val (.ref a3), .val (.ref a4), .val .null, .val (.int v178), .val (.ref a3), .val (.int (3 : Int32)), .val (.int (2 : Int32)), .val (.int w1)]) rfl (pc' := 127) rfl ?_
  refine g_goto A174 d1_127 (pc' := 102) rfl ?_
  refine g_iload A174 d1_102 rfl (pc' := 104) rfl ?_
  refine g_iload A174 d1_104 rfl (pc' := 106) rfl ?_
  refine g_icN A174 d1_106 (c2_ge_f (by decide)) (pc' := 109) rfl ?_
  refine g_aload A174 d1_109 rfl rfl (pc' := 111) rfl ?_
  refine g_iload A174 d1_111 rfl (pc' := 113) rfl ?_
  refine g_baload A174 hZ e161 V167 (i := 2) (by decide) rfl (x := w2) hw2 d1_113 (pc' := 114) rfl ?_
  refine g_istore A174 d1_114 (ls' := #[.val (.ref a1), .val (.ref a2), .val (.ref a3), .val (.ref a4), .val .null, .val (.int v178), .val (.ref a3), .val (.int (3 : Int32)), .val (.int (2 : Int32)), .val (.int w2)]) rfl (pc' := 116) rfl ?_
  refine g_iload A174 d1_116 rfl (pc' := 118) rfl ?_
  obtain ⟨v181, hv181⟩ : ∃ z : Int32, z = (if w2 = 0 then v178 else (v178 + (1 : Int32))) := ⟨_, rfl⟩
  have sg182 : ∀ {P : State → Outcome → Prop}, Go p e below P T161 (mkF m 124 #[.val (.ref a1), .val (.ref a2), .val (.ref a3), .val (.ref a4), .val .null, .val (.int v181), .val (.ref a3), .val (.int (3 : Int32)), .val (.int (2 : Int32)), .val (.int w2)] []) → Go p e below P T161 (mkF m 118 #[.val (.ref a1), .val (.ref a2), .val (.ref a3), .val (.ref a4), .val .null, .val (.int v178), .val (.ref a3), .val (.int (3 : Int32)), .val (.int (2 : Int32)), .val (.int w2)] [(.int w2)]) := by
    intro P hr
    by_cases c183 : w2 = 0
    · skip
      refine g_ifY A174 d1_118 (c0_eq_t c183) (pc' := 124) rfl ?_
      obtain rfl : v181 = v178 := hv181.trans ((if_pos c183).trans rfl)
      exact hr
    · skip
      refine g_ifN A174 d1_118 (c0_eq_f c183) (pc' := 121) rfl ?_
      refine g_iinc A174 d1_121 rfl (y := (v178 + (1 : Int32))) rfl (ls' := #[.val (.ref a1), .val (.ref a2), .val (.ref a3), .val (.ref a4), .val .null, .val (.int (v178 + (1 : Int32))), .val (.ref a3), .val (.int (3 : Int32)), .val (.int (2 : Int32)), .val (.int w2)]) rfl (pc' := 124) rfl ?_
      obtain rfl : v181 = (v178 + (1 : Int32)) := hv181.trans ((if_neg c183).trans rfl)
      exact hr
  refine sg182 ?_
  refine g_iinc A174 d1_124 rfl (y := (3 : Int32)) (by decide) (ls' := #[.val (.ref a1), .val (.ref a2), .val (.ref a3), .val (.ref a4), .val .null, .val (.int v181), .val (.ref a3), .val (.int (3 : Int32)), .val (.int (3 : Int32)), .val (.int w2)]) rfl (pc' := 127) rfl ?_
  refine g_goto A174 d1_127 (pc' := 102) rfl ?_
  refine g_iload A174 d1_102 rfl (pc' := 104) rfl ?_
  refine g_iload A174 d1_104 rfl (pc' := 106) rfl ?_
  refine g_icY A174 d1_106 (c2_ge_t (by decide)) (pc' := 130) rfl ?_
  refine g_aloadN A174 d1_130 rfl rfl (pc' := 131) rfl ?_
  refine g_iload A174 d1_131 rfl (pc' := 133) rfl ?_
  obtain ⟨T184, h184, X184, e184, W184, st184⟩ := putF X161 hx hZ hown (host := "") (Or.inl (hw _ (List.mem_of_getElem? (i := 20) rfl))) Via.refl e161 F165 E164 (Or.inr ⟨(hw _ (List.mem_of_getElem? (i := 21) rfl)), rfl, hnm⟩) (hw _ (List.mem_of_getElem? (i := 4) rfl)) (ty := .int) (by decide) rfl rfl (g := (mkF m 133 #[.val (.ref a1), .val (.ref a2), .val (.ref a3), .val (.ref a4), .val .null, .val (.int v181), .val (.ref a3), .val (.int (3 : Int32)), .val (.int (3 : Int32)), .val (.int w2)] [(.int v181), (.ref a1)])) rfl rfl (hb hby d1_133)
  have N185 := Fr.snoc X184 N162 g110
  have K186 : Keep h0 h184 [a1] := K163.wr W184 (Or.inl (List.mem_of_getElem? (i := 0) rfl))
  have E187 : Exa Z h184 a1 "com/example/swathloom/swathloom/planning/Plan" := Exa.wr W184 E164
  have V188 : Dar Z h184 a2 .double 3 f2 := Dar.other W184 V166 ne113
  have V189 : Dar Z h184 a3 .boolean 3 f3 := Dar.other W184 V167 ne114
  have V190 : Dar Z h184 a4 .double 3 f4 := Dar.other W184 V168 ne116
  have F191 : Fld Z h184 a1 "com/example/swathloom/swathloom/planning/Plan" "rolls" "[D" (.ref a2) := Fld.other W184 F169 (Or.inr (slot_ne (Or.inr (hw _ (List.mem_of_getElem? (i := 13) rfl))) (Or.inr (hw _ (List.mem_of_getElem? (i := 21) rfl))) (by decide) (t := (.array .double)) (t' := .int) (by decide) (by decide)))
  have F192 : Fld Z h184 a1 "com/example/swathloom/swathloom/planning/Plan" "used" "[Z" (.ref a3) := Fld.other W184 F170 (Or.inr (slot_ne (Or.inr (hw _ (List.mem_of_getElem? (i := 15) rfl))) (Or.inr (hw _ (List.mem_of_getElem? (i := 21) rfl))) (by decide) (t := (.array .boolean)) (t' := .int) (by decide) (by decide)))
  have F193 : Fld Z h184 a1 "com/example/swathloom/swathloom/planning/Plan" "rollVelocities" "[D" (.ref a4) := Fld.other W184 F171 (Or.inr (slot_ne (Or.inr (hw _ (List.mem_of_getElem? (i := 17) rfl))) (Or.inr (hw _ (List.mem_of_getElem? (i := 21) rfl))) (by decide) (t := (.array .double)) (t' := .int) (by decide) (by decide)))
  have F194 : Fld Z h184 a1 "com/example/swathloom/swathloom/planning/Plan" "selectionVelocities" "[D" .null := Fld.other W184 F172 (Or.inr (slot_ne (Or.inr (hw _ (List.mem_of_getElem? (i := 19) rfl))) (Or.inr (hw _ (List.mem_of_getElem? (i := 21) rfl))) (by decide) (t := (.array .double)) (t' := .int) (by decide) (by decide)))
  have F195 : Fld Z h184 a1 "com/example/swathloom/swathloom/planning/Plan" "strips" "I" (.int v181) := Fld.same W184 F165
  have Z196 : n0 ≤ h184.size := by rw [W184.size]; exact Z173
  refine Go.of (g' := (mkF m 136 #[.val (.ref a1), .val (.ref a2), .val (.ref a3), .val (.ref a4), .val .null, .val (.int v181), .val (.ref a3), .val (.int (3 : Int32)), .val (.int (3 : Int32)), .val (.int w2)] [])) st184 ?_
  have A197 := (⟨X184, hx, hby⟩ : Ax _ _ _ _ _ _ _ _ _ _ _ _ _ _ _)
  exact g_retV (Q := Q1_01 Z a1 a2 a3 a4 f4 f2 f3 w0 w1 w2 u0 u1 u2 u3 u4 h0 n0) A197 d1_136 Bd.notSynchronized Bd.returns (by decide) (by decide) (by rw [e184]; exact ⟨rfl, N185, K186, F192, F193, F194⟩)
theorem ef198 (m : MethodId) (a1 : Addr) (a2 : Addr) (a3 : Addr) (a5 : Addr) (f5 : Nat → Value) (f2 : Nat → Value) (f3 : Nat → Value) (w0 : Int32) (w1 : Int32) (w2 : Int32) (u0 : Value) (u1 : Value) (u2 : Value) (u3 : Value) (u4 : Value) : entryFrame m #[(.ref a1), (.ref a2), (.ref a3), .null, (.ref a5)] 10 = mkF m 0 #[.val (.ref a1), .val (.ref a2), .val (.ref a3), .val .null, .val (.ref a5), .unset, .unset, .unset, .unset, .unset] [] := by first | (simp [entryFrame, mkF, argsToLocals, Value.category]; done) | rfl
def Q1_10 (Z : State) (a1 : Addr) (a2 : Addr) (a3 : Addr) (a5 : Addr) (f5 : Nat → Value) (f2 : Nat → Value) (f3 : Nat → Value) (w0 : Int32) (w1 : Int32) (w2 : Int32) (u0 : Value) (u1 : Value) (u2 : Value) (u3 : Value) (u4 : Value) (h0 : Heap) (n0 : Nat) (v : Option Value) (h : Heap) (L : List Loc) : Prop := v = none ∧ Fr n0 L ∧ Keep h0 h [a1] ∧ Fld Z h a1 "com/example/swathloom/swathloom/planning/Plan" "used" "[Z" (.ref a3) ∧ Fld Z h a1 "com/example/swathloom/swathloom/planning/Plan" "rollVelocities" "[D" .null ∧ Fld Z h a1 "com/example/swathloom/swathloom/planning/Plan" "selectionVelocities" "[D" (.ref a5)
set_option maxRecDepth 65536 in
set_option maxHeartbeats 40000000 in
theorem rm1_10 (l : Launch) (Z : State) (a0 : Array Value) (hw : ∀ d ∈ tables_1, d.before a0 Z = true) (ws : List Jvm.Cond) (a1 : Addr) (a2 : Addr) (a3 : Addr) (a5 : Addr) (f5 : Nat → Value) (f2 : Nat → Value) (f3 : Nat → Value) (w0 : Int32) (w1 : Int32) (w2 : Int32) (u0 : Value) (u1 : Value) (u2 : Value) (u3 : Value) (u4 : Value) (h0 : Heap) (n0 : Nat) (Z0 : n0 ≤ h0.size) (E199 : Exa Z h0 a1 "com/example/swathloom/swathloom/planning/Plan") (F200 : Fld Z h0 a1 "com/example/swathloom/swathloom/planning/Plan" "rolls" "[D" u0) (F201 : Fld Z h0 a1 "com/example/swathloom/swathloom/planning/Plan" "used" "[Z" u1) (F202 : Fld Z h0 a1 "com/example/swathloom/swathloom/planning/Plan" "rollVelocities" "[D" u2) (F203 : Fld Z h0 a1 "com/example/swathloom/swathloom/planning/Plan" "selectionVelocities" "[D" u3) (F204 : Fld Z h0 a1 "com/example/swathloom/swathloom/planning/Plan" "strips" "I" u4) (g205 : n0 ≤ a1) (V206 : Dar Z h0 a2 .double 3 f2) (V207 : Dar Z h0 a3 .boolean 3 f3) (ne208 : a2 ≠ a1) (ne209 : a3 ≠ a1) (hw0 : f3 0 = .int w0) (hw1 : f3 1 = .int w1) (hw2 : f3 2 = .int w2) (V210 : Dar Z h0 a5 .double 3 f5) (ne211 : a5 ≠ a1) :
    MetFree l (⟨"com/example/swathloom/swathloom/planning/Plan", "<init>", "([D[Z[D[D)V"⟩ : MethodName) (head1 (Jvm.Cond.code (⟨"com/example/swathloom/swathloom/planning/Plan", "<init>", "([D[Z[D[D)V"⟩ : MethodName) prog_19_method_2_code 10 none :: ws) ({ frames := 1, cells := 0, slots := 0, locals := 12 } : Room)) (fun a U => a = #[(.ref a1), (.ref a2), (.ref a3), .null, (.ref a5)] ∧ Z.Warmed39 U.vm ∧ U.heap = h0) (fun _ _ _ _ _ => True) (fun _ U o U' => ∃ v L, o = .returned v ∧ Q1_10 Z a1 a2 a3 a5 f5 f2 f3 w0 w1 w2 u0 u1 u2 u3 u4 h0 n0 v U'.heap L ∧ FrameEnd U o U' L 0 0) := by
  refine MetFree.of_bodySF (plainFor_of_name pn_0) hisR ?_
  intro p e s m args below meth c s₁ Bd hml0 hP hK
  obtain ⟨rfl, hZ, hh⟩ := hP
  have hx := Bd.exec
  have hby := Bd.bytes
  have hml : c.maxLocals = 10 := hml0
  have hown : s.vm.findClass "com/example/swathloom/swathloom/planning/Plan" = some m.cls := findClass_of_methodNamed Bd.named
  have hnm := (name_of_methodNamed Bd.named Bd.method).1
  have X0 : Stand p l e ({ frames := 1, cells := 0, slots := 0, locals := 12 } : Room) s m #[(.ref a1), (.ref a2), (.ref a3), .null, (.ref a5)] below meth c s₁ [] 0 0 := Stand.of_body Bd
  have e0 : s₁.heap = h0 := by rw [← hh, Bd.state]; rfl
  have N0 := Fr.nil n0
  have A0 := (⟨X0, hx, hby⟩ : Ax _ _ _ _ _ _ _ _ _ _ _ _ _ _ _)
  show Go p e below (fun U o => ∃ v L, o = .returned v ∧ Q1_10 Z a1 a2 a3 a5 f5 f2 f3 w0 w1 w2 u0 u1 u2 u3 u4 h0 n0 v U.heap L ∧ FrameEnd s o U L 0 0) s₁ (entryFrame m #[(.ref a1), (.ref a2), (.ref a3), .null, (.ref a5)] 10)
  refine Go.cast (ef198 m a1 a2 a3 a5 f5 f2 f3 w0 w1 w2 u0 u1 u2 u3 u4) ?_
  refine g_aloadN A0 d1_0 rfl rfl (pc' := 1) rfl ?_
  obtain ⟨T212, X212, e212, st212⟩ := initO X0 hx hZ hown (hw _ (List.mem_of_getElem? (i := 9) rfl)) (hw _ (List.mem_of_getElem? (i := 10) rfl)) (hw _ (List.mem_of_getElem? (i := 11) rfl)) e0 (g := (mkF m 1 #[.val (.ref a1), .val (.ref a2), .val (.ref a3), .val .null, .val (.ref a5), .unset, .unset, .unset, .unset, .unset] [(.ref a1)])) rfl (by rw [hml]; rfl) rfl (hb hby d1_1) (by decide) (W := 0) (by show 2 * 0 + _ ≤ _; exact Nat.le_of_eq rfl) (by decide)
  refine Go.of (g' := (mkF m 4 #[.val (.ref a1), .val (.ref a2), .val (.ref a3), .val .null, .val (.ref a5), .unset, .unset, .unset, .unset, .unset] [])) st212 ?_
  have A213 := (⟨X212, hx, hby⟩ : Ax _ _ _ _ _ _ _ _ _ _ _ _ _ _ _)
  refine g_aloadN A213 d1_4 rfl rfl (pc' := 5) rfl ?_
  refine g_alen A213 hZ e212 V206 d1_5 (z := (3 : Int32)) rfl (pc' := 6) rfl ?_
  refine g_aloadN A213 d1_6 rfl rfl (pc' := 7) rfl ?_
  refine g_alen A213 hZ e212 V207 d1_7 (z := (3 : Int32)) rfl (pc' := 8) rfl ?_
  refine g_icY A213 d1_8 (c2_eq_t rfl) (pc' := 28) rfl ?_
  refine g_aloadN A213 d1_28 rfl rfl (pc' := 29) rfl ?_
  refine g_nuY A213 d1_29 (pc' := 39) rfl ?_
  refine g_aload A213 d1_39 rfl rfl (pc' := 41) rfl ?_
  refine g_nuN A213 d1_41 (pc' := 44) rfl ?_
  refine g_aload A213 d1_44 rfl rfl (pc' := 46) rfl ?_
  refine g_alen A213 hZ e212 V210 d1_46 (z := (3 : Int32)) rfl (pc' := 47) rfl ?_
  refine g_aloadN A213 d1_47 rfl rfl (pc' := 48) rfl ?_
  refine g_alen A213 hZ e212 V206 d1_48 (z := (3 : Int32)) rfl (pc' := 49) rfl ?_
  refine g_icY A213 d1_49 (c2_eq_t rfl) (pc' := 67) rfl ?_
  refine g_aloadN A213 d1_67 rfl rfl (pc' := 68) rfl ?_
  refine g_aloadN A213 d1_68 rfl rfl (pc' := 69) rfl ?_
  obtain ⟨T214, h214, X214, e214, W214, st214⟩ := putF X212 hx hZ hown (host := "") (Or.inl (hw _ (List.mem_of_getElem? (i := 12) rfl))) Via.refl e212 F200 E199 (Or.inr ⟨(hw _ (List.mem_of_getElem? (i := 13) rfl)), rfl, hnm⟩) (hw _ (List.mem_of_getElem? (i := 4) rfl)) (ty := (.array .double)) (by decide) rfl rfl (g := (mkF m 69 #[.val (.ref a1), .val (.ref a2), .val (.ref a3), .val .null, .val (.ref a5), .unset, .unset, .unset, .unset, .unset] [(.ref a2), (.ref a1)])) rfl rfl (hb hby d1_69)
  have N215 := Fr.snoc X214 N0 g205
  have K216 : Keep h0 h214 [a1] := (Keep.refl h0 [a1]).wr W214 (Or.inl (List.mem_of_getElem? (i := 0) rfl))
  have E217 : Exa Z h214 a1 "com/example/swathloom/swathloom/planning/Plan" := Exa.wr W214 E199
  have F218 : Fld Z h214 a1 "com/example/swathloom/swathloom/planning/Plan" "used" "[Z" u1 := Fld.other W214 F201 (Or.inr (slot_ne (Or.inr (hw _ (List.mem_of_getElem? (i := 15) rfl))) (Or.inr (hw _ (List.mem_of_getElem? (i := 13) rfl))) (by decide) (t := (.array .boolean)) (t' := (.array .double)) (by decide) (by decide)))
  have F219 : Fld Z h214 a1 "com/example/swathloom/swathloom/planning/Plan" "rollVelocities" "[D" u2 := Fld.other W214 F202 (Or.inr (slot_ne (Or.inr (hw _ (List.mem_of_getElem? (i := 17) rfl))) (Or.inr (hw _ (List.mem_of_getElem? (i := 13) rfl))) (by decide) (t := (.array .double)) (t' := (.array .double)) (by decide) (by decide)))
  have F220 : Fld Z h214 a1 "com/example/swathloom/swathloom/planning/Plan" "selectionVelocities" "[D" u3 := Fld.other W214 F203 (Or.inr (slot_ne (Or.inr (hw _ (List.mem_of_getElem? (i := 19) rfl))) (Or.inr (hw _ (List.mem_of_getElem? (i := 13) rfl))) (by decide) (t := (.array .double)) (t' := (.array .double)) (by decide) (by decide)))
  have F221 : Fld Z h214 a1 "com/example/swathloom/swathloom/planning/Plan" "strips" "I" u4 := Fld.other W214 F204 (Or.inr (slot_ne (Or.inr (hw _ (List.mem_of_getElem? (i := 21) rfl))) (Or.inr (hw _ (List.mem_of_getElem? (i := 13) rfl))) (by decide) (t := .int) (t' := (.array .double)) (by decide) (by decide)))
  have V222 : Dar Z h214 a2 .double 3 f2 := Dar.other W214 V206 ne208
  have V223 : Dar Z h214 a3 .boolean 3 f3 := Dar.other W214 V207 ne209
  have V224 : Dar Z h214 a5 .double 3 f5 := Dar.other W214 V210 ne211
  have F225 : Fld Z h214 a1 "com/example/swathloom/swathloom/planning/Plan" "rolls" "[D" (.ref a2) := Fld.same W214 F200
  have Z226 : n0 ≤ h214.size := by rw [W214.size]; exact Z0
  refine Go.of (g' := (mkF m 72 #[.val (.ref a1), .val (.ref a2), .val (.ref a3), .val .null, .val (.ref a5), .unset, .unset, .unset, .unset, .unset] [])) st214 ?_
  have A227 := (⟨X214, hx, hby⟩ : Ax _ _ _ _ _ _ _ _ _ _ _ _ _ _ _)
  refine g_aloadN A227 d1_72 rfl rfl (pc' := 73) rfl ?_
  refine g_aloadN A227 d1_73 rfl rfl (pc' := 74) rfl ?_
  obtain ⟨T228, h228, X228, e228, W228, st228⟩ := putF X214 hx hZ hown (host := "") (Or.inl (hw _ (List.mem_of_getElem? (i := 14) rfl))) Via.refl e214 F218 E217 (Or.inr ⟨(hw _ (List.mem_of_getElem? (i := 15) rfl)), rfl, hnm⟩) (hw _ (List.mem_of_getElem? (i := 4) rfl)) (ty := (.array .boolean)) (by decide) rfl rfl (g := (mkF m 74 #[.val (.ref a1), .val (.ref a2), .val (.ref a3), .val .null, .val (.ref a5), .unset, .unset, .unset, .unset, .unset] [(.ref a3), (.ref a1)])) rfl rfl (hb hby d1_74)
  have N229 := Fr.snoc X228 N215 g205
  have K230 : Keep h0 h228 [a1] := K216.wr W228 (Or.inl (List.mem_of_getElem? (i := 0) rfl))
  have E231 : Exa Z h228 a1 "com/example/swathloom/swathloom/planning/Plan" := Exa.wr W228 E217
  have F232 : Fld Z h228 a1 "com/example/swathloom/swathloom/planning/Plan" "rollVelocities" "[D" u2 := Fld.other W228 F219 (Or.inr (slot_ne (Or.inr (hw _ (List.mem_of_getElem? (i := 17) rfl))) (Or.inr (hw _ (List.mem_of_getElem? (i := 15) rfl))) (by decide) (t := (.array .double)) (t' := (.array .boolean)) (by decide) (by decide)))
  have F233 : Fld Z h228 a1 "com/example/swathloom/swathloom/planning/Plan" "selectionVelocities" "[D" u3 := Fld.other W228 F220 (Or.inr (slot_ne (Or.inr (hw _ (List.mem_of_getElem? (i := 19) rfl))) (Or.inr (hw _ (List.mem_of_getElem? (i := 15) rfl))) (by decide) (t := (.array .double)) (t' := (.array .boolean)) (by decide) (by decide)))
  have F234 : Fld Z h228 a1 "com/example/swathloom/swathloom/planning/Plan" "strips" "I" u4 := Fld.other W228 F221 (Or.inr (slot_ne (Or.inr (hw _ (List.mem_of_getElem? (i := 21) rfl))) (Or.inr (hw _ (List.mem_of_getElem? (i := 15) rfl))) (by decide) (t := .int) (t' := (.array .boolean)) (by decide) (by decide)))
  have V235 : Dar Z h228 a2 .double 3 f2 := Dar.other W228 V222 ne208
  have V236 : Dar Z h228 a3 .boolean 3 f3 := Dar.other W228 V223 ne209
  have V237 : Dar Z h228 a5 .double 3 f5 := Dar.other W228 V224 ne211
  have F238 : Fld Z h228 a1 "com/example/swathloom/swathloom/planning/Plan" "rolls" "[D" (.ref a2) := Fld.other W228 F225 (Or.inr (slot_ne (Or.inr (hw _ (List.mem_of_getElem? (i := 13) rfl))) (Or.inr (hw _ (List.mem_of_getElem? (i := 15) rfl))) (by decide) (t := (.array .double)) (t' := (.array .boolean)) (by decide) (by decide)))
  have F239 : Fld Z h228 a1 "com/example/swathloom/swathloom/planning/Plan" "used" "[Z" (.ref a3) := Fld.same W228 F218
  have Z240 : n0 ≤ h228.size := by rw [W228.size]; exact Z226
  refine Go.of (g' := (mkF m 77 #[.val (.ref a1), .val (.ref a2), .val (.ref a3), .val .null, .val (.ref a5), .unset, .unset, .unset, .unset, .unset] [])) st228 ?_
  have A241 := (⟨X228, hx, hby⟩ : Ax _ _ _ _ _ _ _ _ _ _ _ _ _ _ _)
  refine g_aloadN A241 d1_77 rfl rfl (pc' := 78) rfl ?_
  refine g_aloadN A241 d1_78 rfl rfl (pc' := 79) rfl ?_
  obtain ⟨T242, h242, X242, e242, W242, st242⟩ := putF X228 hx hZ hown (host := "") (Or.inl (hw _ (List.mem_of_getElem? (i := 16) rfl))) Via.refl e228 F232 E231 (Or.inr ⟨(hw _ (List.mem_of_getElem? (i := 17) rfl)), rfl, hnm⟩) (hw _ (List.mem_of_getElem? (i := 4) rfl)) (ty := (.array .double)) (by decide) rfl rfl (g := (mkF m 79 #[.val (.ref a1), .val (.ref a2), .val (.ref a3), .val .null, .val (.ref a5), .unset, .unset, .unset, .unset, .unset] [.null, (.ref a1)])) rfl rfl (hb hby d1_79)
  have N243 := Fr.snoc X242 N229 g205
  have K244 : Keep h0 h242 [a1] := K230.wr W242 (Or.inl (List.mem_of_getElem? (i := 0) rfl))
  have E245 : Exa Z h242 a1 "com/example/swathloom/swathloom/planning/Plan" := Exa.wr W242 E231
  have F246 : Fld Z h242 a1 "com/example/swathloom/swathloom/planning/Plan" "selectionVelocities" "[D" u3 := Fld.other W242 F233 (Or.inr (slot_ne (Or.inr (hw _ (List.mem_of_getElem? (i := 19) rfl))) (Or.inr (hw _ (List.mem_of_getElem? (i := 17) rfl))) (by decide) (t := (.array .double)) (t' := (.array .double)) (by decide) (by decide)))
  have F247 : Fld Z h242 a1 "com/example/swathloom/swathloom/planning/Plan" "strips" "I" u4 := Fld.other W242 F234 (Or.inr (slot_ne (Or.inr (hw _ (List.mem_of_getElem? (i := 21) rfl))) (Or.inr (hw _ (List.mem_of_getElem? (i := 17) rfl))) (by decide) (t := .int) (t' := (.array .double)) (by decide) (by decide)))
  have V248 : Dar Z h242 a2 .double 3 f2 := Dar.other W242 V235 ne208
  have V249 : Dar Z h242 a3 .boolean 3 f3 := Dar.other W242 V236 ne209
  have V250 : Dar Z h242 a5 .double 3 f5 := Dar.other W242 V237 ne211
  have F251 : Fld Z h242 a1 "com/example/swathloom/swathloom/planning/Plan" "rolls" "[D" (.ref a2) := Fld.other W242 F238 (Or.inr (slot_ne (Or.inr (hw _ (List.mem_of_getElem? (i := 13) rfl))) (Or.inr (hw _ (List.mem_of_getElem? (i := 17) rfl))) (by decide) (t := (.array .double)) (t' := (.array .double)) (by decide) (by decide)))
  have F252 : Fld Z h242 a1 "com/example/swathloom/swathloom/planning/Plan" "used" "[Z" (.ref a3) := Fld.other W242 F239 (Or.inr (slot_ne (Or.inr (hw _ (List.mem_of_getElem? (i := 15) rfl))) (Or.inr (hw _ (List.mem_of_getElem? (i := 17) rfl))) (by decide) (t := (.array .boolean)) (t' := (.array .double)) (by decide) (by decide)))
  have F253 : Fld Z h242 a1 "com/example/swathloom/swathloom/planning/Plan" "rollVelocities" "[D" .null := Fld.same W242 F232
  have Z254 : n0 ≤ h242.size := by rw [W242.size]; exact Z240
  refine Go.of (g' := (mkF m 82 #[.val (.ref a1), .val (.ref a2), .val (.ref a3), .val .null, .val (.ref a5), .unset, .unset, .unset, .unset, .unset] [])) st242 ?_
  have A255 := (⟨X242, hx, hby⟩ : Ax _ _ _ _ _ _ _ _ _ _ _ _ _ _ _)
  refine g_aloadN A255 d1_82 rfl rfl (pc' := 83) rfl ?_
  refine g_aload A255 d1_83 rfl rfl (pc' := 85) rfl ?_
  obtain ⟨T256, h256, X256, e256, W256, st256⟩ := putF X242 hx hZ hown (host := "") (Or.inl (hw _ (List.mem_of_getElem? (i := 18) rfl))) Via.refl e242 F246 E245 (Or.inr ⟨(hw _ (List.mem_of_getElem? (i := 19) rfl)), rfl, hnm⟩) (hw _ (List.mem_of_getElem? (i := 4) rfl)) (ty := (.array .double)) (by decide) rfl rfl (g := (mkF m 85 #[.val (.ref a1), .val (.ref a2), .val (.ref a3), .val .null, .val (.ref a5), .unset, .unset, .unset, .unset, .unset] [(.ref a5), (.ref a1)])) rfl rfl (hb hby d1_85)
  have N257 := Fr.snoc X256 N243 g205
  have K258 : Keep h0 h256 [a1] := K244.wr W256 (Or.inl (List.mem_of_getElem? (i := 0) rfl))
  have E259 : Exa Z h256 a1 "com/example/swathloom/swathloom/planning/Plan" := Exa.wr W256 E245
  have F260 : Fld Z h256 a1 "com/example/swathloom/swathloom/planning/Plan" "strips" "I" u4 := Fld.other W256 F247 (Or.inr (slot_ne (Or.inr (hw _ (List.mem_of_getElem? (i := 21) rfl))) (Or.inr (hw _ (List.mem_of_getElem? (i := 19) rfl))) (by decide) (t := .int) (t' := (.array .double)) (by decide) (by decide)))
  have V261 : Dar Z h256 a2 .double 3 f2 := Dar.other W256 V248 ne208
  have V262 : Dar Z h256 a3 .boolean 3 f3 := Dar.other W256 V249 ne209
  have V263 : Dar Z h256 a5 .double 3 f5 := Dar.other W256 V250 ne211
  have F264 : Fld Z h256 a1 "com/example/swathloom/swathloom/planning/Plan" "rolls" "[D" (.ref a2) := Fld.other W256 F251 (Or.inr (slot_ne (Or.inr (hw _ (List.mem_of_getElem? (i := 13) rfl))) (Or.inr (hw _ (List.mem_of_getElem? (i := 19) rfl))) (by decide) (t := (.array .double)) (t' := (.array .double)) (by decide) (by decide)))
  have F265 : Fld Z h256 a1 "com/example/swathloom/swathloom/planning/Plan" "used" "[Z" (.ref a3) := Fld.other W256 F252 (Or.inr (slot_ne (Or.inr (hw _ (List.mem_of_getElem? (i := 15) rfl))) (Or.inr (hw _ (List.mem_of_getElem? (i := 19) rfl))) (by decide) (t := (.array .boolean)) (t' := (.array .double)) (by decide) (by decide)))
  have F266 : Fld Z h256 a1 "com/example/swathloom/swathloom/planning/Plan" "rollVelocities" "[D" .null := Fld.other W256 F253 (Or.inr (slot_ne (Or.inr (hw _ (List.mem_of_getElem? (i := 17) rfl))) (Or.inr (hw _ (List.mem_of_getElem? (i := 19) rfl))) (by decide) (t := (.array .double)) (t' := (.array .double)) (by decide) (by decide)))
  have F267 : Fld Z h256 a1 "com/example/swathloom/swathloom/planning/Plan" "selectionVelocities" "[D" (.ref a5) := Fld.same W256 F246
  have Z268 : n0 ≤ h256.size := by rw [W256.size]; exact Z254
  refine Go.of (g' := (mkF m 88 #[.val (.ref a1), .val (.ref a2), .val (.ref a3), .val .null, .val (.ref a5), .unset, .unset, .unset, .unset, .unset] [])) st256 ?_
  have A269 := (⟨X256, hx, hby⟩ : Ax _ _ _ _ _ _ _ _ _ _ _ _ _ _ _)
  refine g_iconst A269 d1_88 (v := (0 : Int32)) rfl (pc' := 89) rfl ?_
  refine g_istore A269 d1_89 (ls' := #[.val (.ref a1), .val (.ref a2), .val (.ref a3), .val .null, .val (.ref a5), .val (.int (0 : Int32)), .unset, .unset, .unset, .unset]) rfl (pc' := 91) rfl ?_
  refine g_aloadN A269 d1_91 rfl rfl (pc' := 92) rfl ?_
  refine g_astore A269 d1_92 rfl (ls' := #[.val (.ref a1), .val (.ref a2), .val (.ref a3), .val .null, .val (.ref a5), .val (.int (0 : Int32)), .val (.ref a3), .unset, .unset, .unset]) rfl (pc' := 94) rfl ?_
  refine g_aload A269 d1_94 rfl rfl (pc' := 96) rfl ?_
  refine g_alen A269 hZ e256 V262 d1_96 (z := (3 : Int32)) rfl (pc' := 97) rfl ?_
  refine g_istore A269 d1_97 (ls' := #[.val (.ref a1), .val (.ref a2), .val (.ref a3), .val .null, .val (.ref a5), .val (.int (0 : Int32)), .val (.ref a3), .val (.int (3 : Int32)), .unset, .unset]) rfl (pc' := 99) rfl ?_
  refine g_iconst A269 d1_99 (v := (0 : Int32)) rfl (pc' := 100) rfl ?_
  refine g_istore A269 d1_100 (ls' := #[.val (.ref a1), .val (.ref a2), .val (.ref a3), .val .null, .val (.ref a5), .val (.int (0 : Int32)), .val (.ref a3), .val (.int (3 : Int32)), .val (.int (0 : Int32)), .unset]) rfl (pc' := 102) rfl ?_
  refine g_iload A269 d1_102 rfl (pc' := 104) rfl ?_
  refine g_iload A269 d1_104 rfl (pc' := 106) rfl ?_
  refine g_icN A269 d1_106 (c2_ge_f (by decide)) (pc' := 109) rfl ?_
  refine g_aload A269 d1_109 rfl rfl (pc' := 111) rfl ?_
  refine g_iload A269 d1_111 rfl (pc' := 113) rfl ?_
  refine g_baload A269 hZ e256 V262 (i := 0) (by decide) rfl (x := w0) hw0 d1_113 (pc' := 114) rfl ?_
  refine g_istore A269 d1_114 (ls' := #[.val (.ref a1), .val (.ref a2), .val (.ref a3), .val .null, .val (.ref a5), .val (.int (0 : Int32)), .val (.ref a3), .val (.int (3 : Int32)), .val (.int (0 : Int32)), .val (.int w0)]) rfl (pc' := 116) rfl ?_
  refine g_iload A269 d1_116 rfl (pc' := 118) rfl ?_
  obtain ⟨v270, hv270⟩ : ∃ z : Int32, z = if ¬ (w0 = 0) then (1 : Int32) else 0 := ⟨_, rfl⟩
  have sg271 : ∀ {P : State → Outcome → Prop}, Go p e below P T256 (mkF m 124 #[.val (.ref a1), .val (.ref a2), .val (.ref a3), .val .null, .val (.ref a5), .val (.int v270), .val (.ref a3), .val (.int (3 : Int32)), .val (.int (0 : Int32)), .val (.int w0)] []) → Go p e below P T256 (mkF m 118 #[.val (.ref a1), .val (.ref a2), .val (.ref a3), .val .null, .val (.ref a5), .val (.int (0 : Int32)), .val (.ref a3), .val (.int (3 : Int32)), .val (.int (0 : Int32)), .val (.int w0)] [(.int w0)]) := by
    intro P hr
    by_cases c272 : w0 = 0
    · skip
      refine g_ifY A269 d1_118 (c0_eq_t c272) (pc' := 124) rfl ?_
      obtain rfl : v270 = (0 : Int32) := hv270.trans (if_neg (fun q => q c272))
      exact hr
    · skip
      refine g_ifN A269 d1_118 (c0_eq_f c272) (pc' := 121) rfl ?_
      refine g_iinc A269 d1_121 rfl (y := (1 : Int32)) (by decide) (ls' := #[.val (.ref a1), .val (.ref a2), .val (.ref a3), .val .null, .val (.ref a5), .val (.int (1 : Int32)), .val (.ref a3), .val (.int (3 : Int32)), .val (.int (0 : Int32)), .val (.int w0)]) rfl (pc' := 124) rfl ?_
      obtain rfl : v270 = (1 : Int32) := hv270.trans (if_pos c272)
      exact hr
  refine sg271 ?_
  refine g_iinc A269 d1_124 rfl (y := (1 : Int32)) (by decide) (ls' := #[.val (.ref a1), .val (.ref a2), .val (.ref a3), .val .null, .val (.ref a5), .val (.int v270), .val (.ref a3), .val (.int (3 : Int32)), .val (.int (1 : Int32)), .val (.int w0)]) rfl (pc' := 127) rfl ?_
  refine g_goto A269 d1_127 (pc' := 102) rfl ?_
  refine g_iload A269 d1_102 rfl (pc' := 104) rfl ?_
  refine g_iload A269 d1_104 rfl (pc' := 106) rfl ?_
  refine g_icN A269 d1_106 (c2_ge_f (by decide)) (pc' := 109) rfl ?_
  refine g_aload A269 d1_109 rfl rfl (pc' := 111) rfl ?_
  refine g_iload A269 d1_111 rfl (pc' := 113) rfl ?_
  refine g_baload A269 hZ e256 V262 (i := 1) (by decide) rfl (x := w1) hw1 d1_113 (pc' := 114) rfl ?_
  refine g_istore A269 d1_114 (ls' := #[.val (.ref a1), .val (.ref a2), .val (.ref a3), .val .null, .val (.ref a5), .val (.int v270), .val (.ref a3), .val (.int (3 : Int32)), .val (.int (1 : Int32)), .val (.int w1)]) rfl (pc' := 116) rfl ?_
  refine g_iload A269 d1_116 rfl (pc' := 118) rfl ?_
  obtain ⟨v273, hv273⟩ : ∃ z : Int32, z = (if w1 = 0 then v270 else (v270 + (1 : Int32))) := ⟨_, rfl⟩
  have sg274 : ∀ {P : State → Outcome → Prop}, Go p e below P T256 (mkF m 124 #[.val (.ref a1), .val (.ref a2), .val (.ref a3), .val .null, .val (.ref a5), .val (.int v273), .val (.ref a3), .val (.int (3 : Int32)), .val (.int (1 : Int32)), .val (.int w1)] []) → Go p e below P T256 (mkF m 118 #[.val (.ref a1), .val (.ref a2), .val (.ref a3), .val .null, .val (.ref a5), .val (.int v270), .val (.ref a3), .val (.int (3 : Int32)), .val (.int (1 : Int32)), .val (.int w1)] [(.int w1)]) := by
    intro P hr
    by_cases c275 : w1 = 0
    · skip
      refine g_ifY A269 d1_118 (c0_eq_t c275) (pc' := 124) rfl ?_
      obtain rfl : v273 = v270 := hv273.trans ((if_pos c275).trans rfl)
      exact hr
    · skip
      refine g_ifN A269 d1_118 (c0_eq_f c275) (pc' := 121) rfl ?_
      refine g_iinc A269 d1_121 rfl (y := (v270 + (1 : Int32))) rfl (ls' := #[.val (.ref a1), .val (.ref a2), .val (.ref a3), .val .null, .val (.ref a5), .val (.int (v270 + (1 : Int32))), .val (.ref a3), .val (.int (3 : Int32)), .val (.int (1 : Int32)), .val (.int w1)]) rfl (pc' := 124) rfl ?_
      obtain rfl : v273 = (v270 + (1 : Int32)) := hv273.trans ((if_neg c275).trans rfl)
      exact hr
  refine sg274 ?_
  refine g_iinc A269 d1_124 rfl (y := (2 : Int32)) (by decide) (ls' := #[.val (.ref a1), .val (.ref a2), .val (.ref a3), .val .null, .val (.ref a5), .val (.int v273), .val (.ref a3), .val (.int (3 : Int32)), .val (.int (2 : Int32)), .val (.int w1)]) rfl (pc' := 127) rfl ?_
  refine g_goto A269 d1_127 (pc' := 102) rfl ?_
  refine g_iload A269 d1_102 rfl (pc' := 104) rfl ?_
  refine g_iload A269 d1_104 rfl (pc' := 106) rfl ?_
  refine g_icN A269 d1_106 (c2_ge_f (by decide)) (pc' := 109) rfl ?_
  refine g_aload A269 d1_109 rfl rfl (pc' := 111) rfl ?_
  refine g_iload A269 d1_111 rfl (pc' := 113) rfl ?_
  refine g_baload A269 hZ e256 V262 (i := 2) (by decide) rfl (x := w2) hw2 d1_113 (pc' := 114) rfl ?_
  refine g_istore A269 d1_114 (ls' := #[.val (.ref a1), .val (.ref a2), .val (.ref a3), .val .null, .val (.ref a5), .val (.int v273), .val (.ref a3), .val (.int (3 : Int32)), .val (.int (2 : Int32)), .val (.int w2)]) rfl (pc' := 116) rfl ?_
  refine g_iload A269 d1_116 rfl (pc' := 118) rfl ?_
  obtain ⟨v276, hv276⟩ : ∃ z : Int32, z = (if w2 = 0 then v273 else (v273 + (1 : Int32))) := ⟨_, rfl⟩
  have sg277 : ∀ {P : State → Outcome → Prop}, Go p e below P T256 (mkF m 124 #[.val (.ref a1), .val (.ref a2), .val (.ref a3), .val .null, .val (.ref a5), .val (.int v276), .val (.ref a3), .val (.int (3 : Int32)), .val (.int (2 : Int32)), .val (.int w2)] []) → Go p e below P T256 (mkF m 118 #[.val (.ref a1), .val (.ref a2), .val (.ref a3), .val .null, .val (.ref a5), .val (.int v273), .val (.ref a3), .val (.int (3 : Int32)), .val (.int (2 : Int32)), .val (.int w2)] [(.int w2)]) := by
    intro P hr
    by_cases c278 : w2 = 0
    · skip
      refine g_ifY A269 d1_118 (c0_eq_t c278) (pc' := 124) rfl ?_
      obtain rfl : v276 = v273 := hv276.trans ((if_pos c278).trans rfl)
      exact hr
    · skip
      refine g_ifN A269 d1_118 (c0_eq_f c278) (pc' := 121) rfl ?_
      refine g_iinc A269 d1_121 rfl (y := (v273 + (1 : Int32))) rfl (ls' := #[.val (.ref a1), .val (.ref a2), .val (.ref a3), .val .null, .val (.ref a5), .val (.int (v273 + (1 : Int32))), .val (.ref a3), .val (.int (3 : Int32)), .val (.int (2 : Int32)), .val (.int w2)]) rfl (pc' := 124) rfl ?_
      obtain rfl : v276 = (v273 + (1 : Int32)) := hv276.trans ((if_neg c278).trans rfl)
      exact hr
  refine sg277 ?_
  refine g_iinc A269 d1_124 rfl (y := (3 : Int32)) (by decide) (ls' := #[.val (.ref a1), .val (.ref a2), .val (.ref a3), .val .null, .val (.ref a5), .val (.int v276), .val (.ref a3), .val (.int (3 : Int32)), .val (.int (3 : Int32)), .val (.int w2)]) rfl (pc' := 127) rfl ?_
  refine g_goto A269 d1_127 (pc' := 102) rfl ?_
  refine g_iload A269 d1_102 rfl (pc' := 104) rfl ?_
  refine g_iload A269 d1_104 rfl (pc' := 106) rfl ?_
  refine g_icY A269 d1_106 (c2_ge_t (by decide)) (pc' := 130) rfl ?_
  refine g_aloadN A269 d1_130 rfl rfl (pc' := 131) rfl ?_
  refine g_iload A269 d1_131 rfl (pc' := 133) rfl ?_
  obtain ⟨T279, h279, X279, e279, W279, st279⟩ := putF X256 hx hZ hown (host := "") (Or.inl (hw _ (List.mem_of_getElem? (i := 20) rfl))) Via.refl e256 F260 E259 (Or.inr ⟨(hw _ (List.mem_of_getElem? (i := 21) rfl)), rfl, hnm⟩) (hw _ (List.mem_of_getElem? (i := 4) rfl)) (ty := .int) (by decide) rfl rfl (g := (mkF m 133 #[.val (.ref a1), .val (.ref a2), .val (.ref a3), .val .null, .val (.ref a5), .val (.int v276), .val (.ref a3), .val (.int (3 : Int32)), .val (.int (3 : Int32)), .val (.int w2)] [(.int v276), (.ref a1)])) rfl rfl (hb hby d1_133)
  have N280 := Fr.snoc X279 N257 g205
  have K281 : Keep h0 h279 [a1] := K258.wr W279 (Or.inl (List.mem_of_getElem? (i := 0) rfl))
  have E282 : Exa Z h279 a1 "com/example/swathloom/swathloom/planning/Plan" := Exa.wr W279 E259
  have V283 : Dar Z h279 a2 .double 3 f2 := Dar.other W279 V261 ne208
  have V284 : Dar Z h279 a3 .boolean 3 f3 := Dar.other W279 V262 ne209
  have V285 : Dar Z h279 a5 .double 3 f5 := Dar.other W279 V263 ne211
  have F286 : Fld Z h279 a1 "com/example/swathloom/swathloom/planning/Plan" "rolls" "[D" (.ref a2) := Fld.other W279 F264 (Or.inr (slot_ne (Or.inr (hw _ (List.mem_of_getElem? (i := 13) rfl))) (Or.inr (hw _ (List.mem_of_getElem? (i := 21) rfl))) (by decide) (t := (.array .double)) (t' := .int) (by decide) (by decide)))
  have F287 : Fld Z h279 a1 "com/example/swathloom/swathloom/planning/Plan" "used" "[Z" (.ref a3) := Fld.other W279 F265 (Or.inr (slot_ne (Or.inr (hw _ (List.mem_of_getElem? (i := 15) rfl))) (Or.inr (hw _ (List.mem_of_getElem? (i := 21) rfl))) (by decide) (t := (.array .boolean)) (t' := .int) (by decide) (by decide)))
  have F288 : Fld Z h279 a1 "com/example/swathloom/swathloom/planning/Plan" "rollVelocities" "[D" .null := Fld.other W279 F266 (Or.inr (slot_ne (Or.inr (hw _ (List.mem_of_getElem? (i := 17) rfl))) (Or.inr (hw _ (List.mem_of_getElem? (i := 21) rfl))) (by decide) (t := (.array .double)) (t' := .int) (by decide) (by decide)))
  have F289 : Fld Z h279 a1 "com/example/swathloom/swathloom/planning/Plan" "selectionVelocities" "[D" (.ref a5) := Fld.other W279 F267 (Or.inr (slot_ne (Or.inr (hw _ (List.mem_of_getElem? (i := 19) rfl))) (Or.inr (hw _ (List.mem_of_getElem? (i := 21) rfl))) (by decide) (t := (.array .double)) (t' := .int) (by decide) (by decide)))
  have F290 : Fld Z h279 a1 "com/example/swathloom/swathloom/planning/Plan" "strips" "I" (.int v276) := Fld.same W279 F260
  have Z291 : n0 ≤ h279.size := by rw [W279.size]; exact Z268
  refine Go.of (g' := (mkF m 136 #[.val (.ref a1), .val (.ref a2), .val (.ref a3), .val .null, .val (.ref a5), .val (.int v276), .val (.ref a3), .val (.int (3 : Int32)), .val (.int (3 : Int32)), .val (.int w2)] [])) st279 ?_
  have A292 := (⟨X279, hx, hby⟩ : Ax _ _ _ _ _ _ _ _ _ _ _ _ _ _ _)
  exact g_retV (Q := Q1_10 Z a1 a2 a3 a5 f5 f2 f3 w0 w1 w2 u0 u1 u2 u3 u4 h0 n0) A292 d1_136 Bd.notSynchronized Bd.returns (by decide) (by decide) (by rw [e279]; exact ⟨rfl, N280, K281, F287, F288, F289⟩)
theorem ef293 (m : MethodId) (a1 : Addr) (a2 : Addr) (a3 : Addr) (f2 : Nat → Value) (f3 : Nat → Value) (w0 : Int32) (w1 : Int32) (w2 : Int32) (u0 : Value) (u1 : Value) (u2 : Value) (u3 : Value) (u4 : Value) : entryFrame m #[(.ref a1), (.ref a2), (.ref a3), .null, .null] 10 = mkF m 0 #[.val (.ref a1), .val (.ref a2), .val (.ref a3), .val .null, .val .null, .unset, .unset, .unset, .unset, .unset] [] := by first | (simp [entryFrame, mkF, argsToLocals, Value.category]; done) | rfl
def Q1_11 (Z : State) (a1 : Addr) (a2 : Addr) (a3 : Addr) (f2 : Nat → Value) (f3 : Nat → Value) (w0 : Int32) (w1 : Int32) (w2 : Int32) (u0 : Value) (u1 : Value) (u2 : Value) (u3 : Value) (u4 : Value) (h0 : Heap) (n0 : Nat) (v : Option Value) (h : Heap) (L : List Loc) : Prop := v = none ∧ Fr n0 L ∧ Keep h0 h [a1] ∧ Fld Z h a1 "com/example/swathloom/swathloom/planning/Plan" "used" "[Z" (.ref a3) ∧ Fld Z h a1 "com/example/swathloom/swathloom/planning/Plan" "rollVelocities" "[D" .null ∧ Fld Z h a1 "com/example/swathloom/swathloom/planning/Plan" "selectionVelocities" "[D" .null
set_option maxRecDepth 65536 in
set_option maxHeartbeats 40000000 in
theorem rm1_11 (l : Launch) (Z : State) (a0 : Array Value) (hw : ∀ d ∈ tables_1, d.before a0 Z = true) (ws : List Jvm.Cond) (a1 : Addr) (a2 : Addr) (a3 : Addr) (f2 : Nat → Value) (f3 : Nat → Value) (w0 : Int32) (w1 : Int32) (w2 : Int32) (u0 : Value) (u1 : Value) (u2 : Value) (u3 : Value) (u4 : Value) (h0 : Heap) (n0 : Nat) (Z0 : n0 ≤ h0.size) (E294 : Exa Z h0 a1 "com/example/swathloom/swathloom/planning/Plan") (F295 : Fld Z h0 a1 "com/example/swathloom/swathloom/planning/Plan" "rolls" "[D" u0) (F296 : Fld Z h0 a1 "com/example/swathloom/swathloom/planning/Plan" "used" "[Z" u1) (F297 : Fld Z h0 a1 "com/example/swathloom/swathloom/planning/Plan" "rollVelocities" "[D" u2) (F298 : Fld Z h0 a1 "com/example/swathloom/swathloom/planning/Plan" "selectionVelocities" "[D" u3) (F299 : Fld Z h0 a1 "com/example/swathloom/swathloom/planning/Plan" "strips" "I" u4) (g300 : n0 ≤ a1) (V301 : Dar Z h0 a2 .double 3 f2) (V302 : Dar Z h0 a3 .boolean 3 f3) (ne303 : a2 ≠ a1) (ne304 : a3 ≠ a1) (hw0 : f3 0 = .int w0) (hw1 : f3 1 = .int w1) (hw2 : f3 2 = .int w2) :
    MetFree l (⟨"com/example/swathloom/swathloom/planning/Plan", "<init>", "([D[Z[D[D)V"⟩ : MethodName) (head1 (Jvm.Cond.code (⟨"com/example/swathloom/swathloom/planning/Plan", "<init>", "([D[Z[D[D)V"⟩ : MethodName) prog_19_method_2_code 10 none :: ws) ({ frames := 1, cells := 0, slots := 0, locals := 12 } : Room)) (fun a U => a = #[(.ref a1), (.ref a2), (.ref a3), .null, .null] ∧ Z.Warmed39 U.vm ∧ U.heap = h0) (fun _ _ _ _ _ => True) (fun _ U o U' => ∃ v L, o = .returned v ∧ Q1_11 Z a1 a2 a3 f2 f3 w0 w1 w2 u0 u1 u2 u3 u4 h0 n0 v U'.heap L ∧ FrameEnd U o U' L 0 0) := by
  refine MetFree.of_bodySF (plainFor_of_name pn_0) hisR ?_
  intro p e s m args below meth c s₁ Bd hml0 hP hK
  obtain ⟨rfl, hZ, hh⟩ := hP
  have hx := Bd.exec
  have hby := Bd.bytes
  have hml : c.maxLocals = 10 := hml0
  have hown : s.vm.findClass "com/example/swathloom/swathloom/planning/Plan" = some m.cls := findClass_of_methodNamed Bd.named
  have hnm := (name_of_methodNamed Bd.named Bd.method).1
  have X0 : Stand p l e ({ frames := 1, cells := 0, slots := 0, locals := 12 } : Room) s m #[(.ref a1), (.ref a2), (.ref a3), .null, .null] below meth c s₁ [] 0 0 := Stand.of_body Bd
  have e0 : s₁.heap = h0 := by rw [← hh, Bd.state]; rfl
  have N0 := Fr.nil n0
  have A0 := (⟨X0, hx, hby⟩ : Ax _ _ _ _ _ _ _ _ _ _ _ _ _ _ _)
  show Go p e below (fun U o => ∃ v L, o = .returned v ∧ Q1_11 Z a1 a2 a3 f2 f3 w0 w1 w2 u0 u1 u2 u3 u4 h0 n0 v U.heap L ∧ FrameEnd s o U L 0 0) s₁ (entryFrame m #[(.ref a1), (.ref a2), (.ref a3), .null, .null] 10)
  refine Go.cast (ef293 m a1 a2 a3 f2 f3 w0 w1 w2 u0 u1 u2 u3 u4) ?_
  refine g_aloadN A0 d1_0 rfl rfl (pc' := 1) rfl ?_
  obtain ⟨T305, X305, e305, st305⟩ := initO X0 hx hZ hown (hw _ (List.mem_of_getElem? (i := 9) rfl)) (hw _ (List.mem_of_getElem? (i := 10) rfl)) (hw _ (List.mem_of_getElem? (i := 11) rfl)) e0 (g := (mkF m 1 #[.val (.ref a1), .val (.ref a2), .val (.ref a3), .val .null, .val .null, .unset, .unset, .unset, .unset, .unset] [(.ref a1)])) rfl (by rw [hml]; rfl) rfl (hb hby d1_1) (by decide) (W := 0) (by show 2 * 0 + _ ≤ _; exact Nat.le_of_eq rfl) (by decide)
  refine Go.of (g' := (mkF m 4 #[.val (.ref a1), .val (.ref a2), .val (.ref a3), .val .null, .val .null, .unset, .unset, .unset, .unset, .unset] [])) st305 ?_
  have A306 := (⟨X305, hx, hby⟩ : Ax _ _ _ _ _ _ _ _ _ _ _ _ _ _ _)
  refine g_aloadN A306 d1_4 rfl rfl (pc' := 5) rfl ?_
  refine g_alen A306 hZ e305 V301 d1_5 (z := (3 : Int32)) rfl (pc' := 6) rfl ?_
  refine g_aloadN A306 d1_6 rfl rfl (pc' := 7) rfl ?_
  refine g_alen A306 hZ e305 V302 d1_7 (z := (3 : Int32)) rfl (pc' := 8) rfl ?_
  refine g_icY A306 d1_8 (c2_eq_t rfl) (pc' := 28) rfl ?_
  refine g_aloadN A306 d1_28 rfl rfl (pc' := 29) rfl ?_
  refine g_nuY A306 d1_29 (pc' := 39) rfl ?_
  refine g_aload A306 d1_39 rfl rfl (pc' := 41) rfl ?_
  refine g_nuY A306 d1_41 (pc' := 67) rfl ?_
  refine g_aloadN A306 d1_67 rfl rfl (pc' := 68) rfl ?_
  refine g_aloadN A306 d1_68 rfl rfl (pc' := 69) rfl ?_
  obtain ⟨T307, h307, X307, e307, W307, st307⟩ := putF X305 hx hZ hown (host := "") (Or.inl (hw _ (List.mem_of_getElem? (i := 12) rfl))) Via.refl e305 F295 E294 (Or.inr ⟨(hw _ (List.mem_of_getElem? (i := 13) rfl)), rfl, hnm⟩) (hw _ (List.mem_of_getElem? (i := 4) rfl)) (ty := (.array .double)) (by decide) rfl rfl (g := (mkF m 69 #[.val (.ref a1), .val (.ref a2), .val (.ref a3), .val .null, .val .null, .unset, .unset, .unset, .unset, .unset] [(.ref a2), (.ref a1)])) rfl rfl (hb hby d1_69)
  have N308 := Fr.snoc X307 N0 g300
  have K309 : Keep h0 h307 [a1] := (Keep.refl h0 [a1]).wr W307 (Or.inl (List.mem_of_getElem? (i := 0) rfl))
  have E310 : Exa Z h307 a1 "com/example/swathloom/swathloom/planning/Plan" := Exa.wr W307 E294
  have F311 : Fld Z h307 a1 "com/example/swathloom/swathloom/planning/Plan" "used" "[Z" u1 := Fld.other W307 F296 (Or.inr (slot_ne (Or.inr (hw _ (List.mem_of_getElem? (i := 15) rfl))) (Or.inr (hw _ (List.mem_of_getElem? (i := 13) rfl))) (by decide) (t := (.array .boolean)) (t' := (.array .double)) (by decide) (by decide)))
  have F312 : Fld Z h307 a1 "com/example/swathloom/swathloom/planning/Plan" "rollVelocities" "[D" u2 := Fld.other W307 F297 (Or.inr (slot_ne (Or.inr (hw _ (List.mem_of_getElem? (i := 17) rfl))) (Or.inr (hw _ (List.mem_of_getElem? (i := 13) rfl))) (by decide) (t := (.array .double)) (t' := (.array .double)) (by decide) (by decide)))
  have F313 : Fld Z h307 a1 "com/example/swathloom/swathloom/planning/Plan" "selectionVelocities" "[D" u3 := Fld.other W307 F298 (Or.inr (slot_ne (Or.inr (hw _ (List.mem_of_getElem? (i := 19) rfl))) (Or.inr (hw _ (List.mem_of_getElem? (i := 13) rfl))) (by decide) (t := (.array .double)) (t' := (.array .double)) (by decide) (by decide)))
  have F314 : Fld Z h307 a1 "com/example/swathloom/swathloom/planning/Plan" "strips" "I" u4 := Fld.other W307 F299 (Or.inr (slot_ne (Or.inr (hw _ (List.mem_of_getElem? (i := 21) rfl))) (Or.inr (hw _ (List.mem_of_getElem? (i := 13) rfl))) (by decide) (t := .int) (t' := (.array .double)) (by decide) (by decide)))
  have V315 : Dar Z h307 a2 .double 3 f2 := Dar.other W307 V301 ne303
  have V316 : Dar Z h307 a3 .boolean 3 f3 := Dar.other W307 V302 ne304
  have F317 : Fld Z h307 a1 "com/example/swathloom/swathloom/planning/Plan" "rolls" "[D" (.ref a2) := Fld.same W307 F295
  have Z318 : n0 ≤ h307.size := by rw [W307.size]; exact Z0
  refine Go.of (g' := (mkF m 72 #[.val (.ref a1), .val (.ref a2), .val (.ref a3), .val .null, .val .null, .unset, .unset, .unset, .unset, .unset] [])) st307 ?_
  have A319 := (⟨X307, hx, hby⟩ : Ax _ _ _ _ _ _ _ _ _ _ _ _ _ _ _)
  refine g_aloadN A319 d1_72 rfl rfl (pc' := 73) rfl ?_
  refine g_aloadN A319 d1_73 rfl rfl (pc' := 74) rfl ?_
  obtain ⟨T320, h320, X320, e320, W320, st320⟩ := putF X307 hx hZ hown (host := "") (Or.inl (hw _ (List.mem_of_getElem? (i := 14) rfl))) Via.refl e307 F311 E310 (Or.inr ⟨(hw _ (List.mem_of_getElem? (i := 15) rfl)), rfl, hnm⟩) (hw _ (List.mem_of_getElem? (i := 4) rfl)) (ty := (.array .boolean)) (by decide) rfl rfl (g := (mkF m 74 #[.val (.ref a1), .val (.ref a2), .val (.ref a3), .val .null, .val .null, .unset, .unset, .unset, .unset, .unset] [(.ref a3), (.ref a1)])) rfl rfl (hb hby d1_74)
  have N321 := Fr.snoc X320 N308 g300
  have K322 : Keep h0 h320 [a1] := K309.wr W320 (Or.inl (List.mem_of_getElem? (i := 0) rfl))
  have E323 : Exa Z h320 a1 "com/example/swathloom/swathloom/planning/Plan" := Exa.wr W320 E310
  have F324 : Fld Z h320 a1 "com/example/swathloom/swathloom/planning/Plan" "rollVelocities" "[D" u2 := Fld.other W320 F312 (Or.inr (slot_ne (Or.inr (hw _ (List.mem_of_getElem? (i := 17) rfl))) (Or.inr (hw _ (List.mem_of_getElem? (i := 15) rfl))) (by decide) (t := (.array .double)) (t' := (.array .boolean)) (by decide) (by decide)))
  have F325 : Fld Z h320 a1 "com/example/swathloom/swathloom/planning/Plan" "selectionVelocities" "[D" u3 := Fld.other W320 F313 (Or.inr (slot_ne (Or.inr (hw _ (List.mem_of_getElem? (i := 19) rfl))) (Or.inr (hw _ (List.mem_of_getElem? (i := 15) rfl))) (by decide) (t := (.array .double)) (t' := (.array .boolean)) (by decide) (by decide)))
  have F326 : Fld Z h320 a1 "com/example/swathloom/swathloom/planning/Plan" "strips" "I" u4 := Fld.other W320 F314 (Or.inr (slot_ne (Or.inr (hw _ (List.mem_of_getElem? (i := 21) rfl))) (Or.inr (hw _ (List.mem_of_getElem? (i := 15) rfl))) (by decide) (t := .int) (t' := (.array .boolean)) (by decide) (by decide)))
  have V327 : Dar Z h320 a2 .double 3 f2 := Dar.other W320 V315 ne303
  have V328 : Dar Z h320 a3 .boolean 3 f3 := Dar.other W320 V316 ne304
  have F329 : Fld Z h320 a1 "com/example/swathloom/swathloom/planning/Plan" "rolls" "[D" (.ref a2) := Fld.other W320 F317 (Or.inr (slot_ne (Or.inr (hw _ (List.mem_of_getElem? (i := 13) rfl))) (Or.inr (hw _ (List.mem_of_getElem? (i := 15) rfl))) (by decide) (t := (.array .double)) (t' := (.array .boolean)) (by decide) (by decide)))
  have F330 : Fld Z h320 a1 "com/example/swathloom/swathloom/planning/Plan" "used" "[Z" (.ref a3) := Fld.same W320 F311
  have Z331 : n0 ≤ h320.size := by rw [W320.size]; exact Z318
  refine Go.of (g' := (mkF m 77 #[.val (.ref a1), .val (.ref a2), .val (.ref a3), .val .null, .val .null, .unset, .unset, .unset, .unset, .unset] [])) st320 ?_
  have A332 := (⟨X320, hx, hby⟩ : Ax _ _ _ _ _ _ _ _ _ _ _ _ _ _ _)
  refine g_aloadN A332 d1_77 rfl rfl (pc' := 78) rfl ?_
  refine g_aloadN A332 d1_78 rfl rfl (pc' := 79) rfl ?_
  obtain ⟨T333, h333, X333, e333, W333, st333⟩ := putF X320 hx hZ hown (host := "") (Or.inl (hw _ (List.mem_of_getElem? (i := 16) rfl))) Via.refl e320 F324 E323 (Or.inr ⟨(hw _ (List.mem_of_getElem? (i := 17) rfl)), rfl, hnm⟩) (hw _ (List.mem_of_getElem? (i := 4) rfl)) (ty := (.array .double)) (by decide) rfl rfl (g := (mkF m 79 #[.val (.ref a1), .val (.ref a2), .val (.ref a3), .val .null, .val .null, .unset, .unset, .unset, .unset, .unset] [.null, (.ref a1)])) rfl rfl (hb hby d1_79)
  have N334 := Fr.snoc X333 N321 g300
  have K335 : Keep h0 h333 [a1] := K322.wr W333 (Or.inl (List.mem_of_getElem? (i := 0) rfl))
  have E336 : Exa Z h333 a1 "com/example/swathloom/swathloom/planning/Plan" := Exa.wr W333 E323
  have F337 : Fld Z h333 a1 "com/example/swathloom/swathloom/planning/Plan" "selectionVelocities" "[D" u3 := Fld.other W333 F325 (Or.inr (slot_ne (Or.inr (hw _ (List.mem_of_getElem? (i := 19) rfl))) (Or.inr (hw _ (List.mem_of_getElem? (i := 17) rfl))) (by decide) (t := (.array .double)) (t' := (.array .double)) (by decide) (by decide)))
  have F338 : Fld Z h333 a1 "com/example/swathloom/swathloom/planning/Plan" "strips" "I" u4 := Fld.other W333 F326 (Or.inr (slot_ne (Or.inr (hw _ (List.mem_of_getElem? (i := 21) rfl))) (Or.inr (hw _ (List.mem_of_getElem? (i := 17) rfl))) (by decide) (t := .int) (t' := (.array .double)) (by decide) (by decide)))
  have V339 : Dar Z h333 a2 .double 3 f2 := Dar.other W333 V327 ne303
  have V340 : Dar Z h333 a3 .boolean 3 f3 := Dar.other W333 V328 ne304
  have F341 : Fld Z h333 a1 "com/example/swathloom/swathloom/planning/Plan" "rolls" "[D" (.ref a2) := Fld.other W333 F329 (Or.inr (slot_ne (Or.inr (hw _ (List.mem_of_getElem? (i := 13) rfl))) (Or.inr (hw _ (List.mem_of_getElem? (i := 17) rfl))) (by decide) (t := (.array .double)) (t' := (.array .double)) (by decide) (by decide)))
  have F342 : Fld Z h333 a1 "com/example/swathloom/swathloom/planning/Plan" "used" "[Z" (.ref a3) := Fld.other W333 F330 (Or.inr (slot_ne (Or.inr (hw _ (List.mem_of_getElem? (i := 15) rfl))) (Or.inr (hw _ (List.mem_of_getElem? (i := 17) rfl))) (by decide) (t := (.array .boolean)) (t' := (.array .double)) (by decide) (by decide)))
  have F343 : Fld Z h333 a1 "com/example/swathloom/swathloom/planning/Plan" "rollVelocities" "[D" .null := Fld.same W333 F324
  have Z344 : n0 ≤ h333.size := by rw [W333.size]; exact Z331
  refine Go.of (g' := (mkF m 82 #[.val (.ref a1), .val (.ref a2), .val (.ref a3), .val .null, .val .null, .unset, .unset, .unset, .unset, .unset] [])) st333 ?_
  have A345 := (⟨X333, hx, hby⟩ : Ax _ _ _ _ _ _ _ _ _ _ _ _ _ _ _)
  refine g_aloadN A345 d1_82 rfl rfl (pc' := 83) rfl ?_
  refine g_aload A345 d1_83 rfl rfl (pc' := 85) rfl ?_
  obtain ⟨T346, h346, X346, e346, W346, st346⟩ := putF X333 hx hZ hown (host := "") (Or.inl (hw _ (List.mem_of_getElem? (i := 18) rfl))) Via.refl e333 F337 E336 (Or.inr ⟨(hw _ (List.mem_of_getElem? (i := 19) rfl)), rfl, hnm⟩) (hw _ (List.mem_of_getElem? (i := 4) rfl)) (ty := (.array .double)) (by decide) rfl rfl (g := (mkF m 85 #[.val (.ref a1), .val (.ref a2), .val (.ref a3), .val .null, .val .null, .unset, .unset, .unset, .unset, .unset] [.null, (.ref a1)])) rfl rfl (hb hby d1_85)
  have N347 := Fr.snoc X346 N334 g300
  have K348 : Keep h0 h346 [a1] := K335.wr W346 (Or.inl (List.mem_of_getElem? (i := 0) rfl))
  have E349 : Exa Z h346 a1 "com/example/swathloom/swathloom/planning/Plan" := Exa.wr W346 E336
  have F350 : Fld Z h346 a1 "com/example/swathloom/swathloom/planning/Plan" "strips" "I" u4 := Fld.other W346 F338 (Or.inr (slot_ne (Or.inr (hw _ (List.mem_of_getElem? (i := 21) rfl))) (Or.inr (hw _ (List.mem_of_getElem? (i := 19) rfl))) (by decide) (t := .int) (t' := (.array .double)) (by decide) (by decide)))
  have V351 : Dar Z h346 a2 .double 3 f2 := Dar.other W346 V339 ne303
  have V352 : Dar Z h346 a3 .boolean 3 f3 := Dar.other W346 V340 ne304
  have F353 : Fld Z h346 a1 "com/example/swathloom/swathloom/planning/Plan" "rolls" "[D" (.ref a2) := Fld.other W346 F341 (Or.inr (slot_ne (Or.inr (hw _ (List.mem_of_getElem? (i := 13) rfl))) (Or.inr (hw _ (List.mem_of_getElem? (i := 19) rfl))) (by decide) (t := (.array .double)) (t' := (.array .double)) (by decide) (by decide)))
  have F354 : Fld Z h346 a1 "com/example/swathloom/swathloom/planning/Plan" "used" "[Z" (.ref a3) := Fld.other W346 F342 (Or.inr (slot_ne (Or.inr (hw _ (List.mem_of_getElem? (i := 15) rfl))) (Or.inr (hw _ (List.mem_of_getElem? (i := 19) rfl))) (by decide) (t := (.array .boolean)) (t' := (.array .double)) (by decide) (by decide)))
  have F355 : Fld Z h346 a1 "com/example/swathloom/swathloom/planning/Plan" "rollVelocities" "[D" .null := Fld.other W346 F343 (Or.inr (slot_ne (Or.inr (hw _ (List.mem_of_getElem? (i := 17) rfl))) (Or.inr (hw _ (List.mem_of_getElem? (i := 19) rfl))) (by decide) (t := (.array .double)) (t' := (.array .double)) (by decide) (by decide)))
  have F356 : Fld Z h346 a1 "com/example/swathloom/swathloom/planning/Plan" "selectionVelocities" "[D" .null := Fld.same W346 F337
  have Z357 : n0 ≤ h346.size := by rw [W346.size]; exact Z344
  refine Go.of (g' := (mkF m 88 #[.val (.ref a1), .val (.ref a2), .val (.ref a3), .val .null, .val .null, .unset, .unset, .unset, .unset, .unset] [])) st346 ?_
  have A358 := (⟨X346, hx, hby⟩ : Ax _ _ _ _ _ _ _ _ _ _ _ _ _ _ _)
  refine g_iconst A358 d1_88 (v := (0 : Int32)) rfl (pc' := 89) rfl ?_
  refine g_istore A358 d1_89 (ls' := #[.val (.ref a1), .val (.ref a2), .val (.ref a3), .val .null, .val .null, .val (.int (0 : Int32)), .unset, .unset, .unset, .unset]) rfl (pc' := 91) rfl ?_
  refine g_aloadN A358 d1_91 rfl rfl (pc' := 92) rfl ?_
  refine g_astore A358 d1_92 rfl (ls' := #[.val (.ref a1), .val (.ref a2), .val (.ref a3), .val .null, .val .null, .val (.int (0 : Int32)), .val (.ref a3), .unset, .unset, .unset]) rfl (pc' := 94) rfl ?_
  refine g_aload A358 d1_94 rfl rfl (pc' := 96) rfl ?_
  refine g_alen A358 hZ e346 V352 d1_96 (z := (3 : Int32)) rfl (pc' := 97) rfl ?_
  refine g_istore A358 d1_97 (ls' := #[.val (.ref a1), .val (.ref a2), .val (.ref a3), .val .null, .val .null, .val (.int (0 : Int32)), .val (.ref a3), .val (.int (3 : Int32)), .unset, .unset]) rfl (pc' := 99) rfl ?_
  refine g_iconst A358 d1_99 (v := (0 : Int32)) rfl (pc' := 100) rfl ?_
  refine g_istore A358 d1_100 (ls' := #[.val (.ref a1), .val (.ref a2), .val (.ref a3), .val .null, .val .null, .val (.int (0 : Int32)), .val (.ref a3), .val (.int (3 : Int32)), .val (.int (0 : Int32)), .unset]) rfl (pc' := 102) rfl ?_
  refine g_iload A358 d1_102 rfl (pc' := 104) rfl ?_
  refine g_iload A358 d1_104 rfl (pc' := 106) rfl ?_
  refine g_icN A358 d1_106 (c2_ge_f (by decide)) (pc' := 109) rfl ?_
  refine g_aload A358 d1_109 rfl rfl (pc' := 111) rfl ?_
  refine g_iload A358 d1_111 rfl (pc' := 113) rfl ?_
  refine g_baload A358 hZ e346 V352 (i := 0) (by decide) rfl (x := w0) hw0 d1_113 (pc' := 114) rfl ?_
  refine g_istore A358 d1_114 (ls' := #[.val (.ref a1), .val (.ref a2), .val (.ref a3), .val .null, .val .null, .val (.int (0 : Int32)), .val (.ref a3), .val (.int (3 : Int32)), .val (.int (0 : Int32)), .val (.int w0)]) rfl (pc' := 116) rfl ?_
  refine g_iload A358 d1_116 rfl (pc' := 118) rfl ?_
  obtain ⟨v359, hv359⟩ : ∃ z : Int32, z = if ¬ (w0 = 0) then (1 : Int32) else 0 := ⟨_, rfl⟩
  have sg360 : ∀ {P : State → Outcome → Prop}, Go p e below P T346 (mkF m 124 #[.val (.ref a1), .val (.ref a2), .val (.ref a3), .val .null, .val .null, .val (.int v359), .val (.ref a3), .val (.int (3 : Int32)), .val (.int (0 : Int32)), .val (.int w0)] []) → Go p e below P T346 (mkF m 118 #[.val (.ref a1), .val (.ref a2), .val (.ref a3), .val .null, .val .null, .val (.int (0 : Int32)), .val (.ref a3), .val (.int (3 : Int32)), .val (.int (0 : Int32)), .val (.int w0)] [(.int w0)]) := by
    intro P hr
    by_cases c361 : w0 = 0
    · skip
      refine g_ifY A358 d1_118 (c0_eq_t c361) (pc' := 124) rfl ?_
      obtain rfl : v359 = (0 : Int32) := hv359.trans (if_neg (fun q => q c361))
      exact hr
    · skip
      refine g_ifN A358 d1_118 (c0_eq_f c361) (pc' := 121) rfl ?_
      refine g_iinc A358 d1_121 rfl (y := (1 : Int32)) (by decide) (ls' := #[.val (.ref a1), .val (.ref a2), .val (.ref a3), .val .null, .val .null, .val (.int (1 : Int32)), .val (.ref a3), .val (.int (3 : Int32)), .val (.int (0 : Int32)), .val (.int w0)]) rfl (pc' := 124) rfl ?_
      obtain rfl : v359 = (1 : Int32) := hv359.trans (if_pos c361)
      exact hr
  refine sg360 ?_
  refine g_iinc A358 d1_124 rfl (y := (1 : Int32)) (by decide) (ls' := #[.val (.ref a1), .val (.ref a2), .val (.ref a3), .val .null, .val .null, .val (.int v359), .val (.ref a3), .val (.int (3 : Int32)), .val (.int (1 : Int32)), .val (.int w0)]) rfl (pc' := 127) rfl ?_
  refine g_goto A358 d1_127 (pc' := 102) rfl ?_
  refine g_iload A358 d1_102 rfl (pc' := 104) rfl ?_
  refine g_iload A358 d1_104 rfl (pc' := 106) rfl ?_
  refine g_icN A358 d1_106 (c2_ge_f (by decide)) (pc' := 109) rfl ?_
  refine g_aload A358 d1_109 rfl rfl (pc' := 111) rfl ?_
  refine g_iload A358 d1_111 rfl (pc' := 113) rfl ?_
  refine g_baload A358 hZ e346 V352 (i := 1) (by decide) rfl (x := w1) hw1 d1_113 (pc' := 114) rfl ?_
  refine g_istore A358 d1_114 (ls' := #[.val (.ref a1), .val (.ref a2), .val (.ref a3), .val .null, .val .null, .val (.int v359), .val (.ref a3), .val (.int (3 : Int32)), .val (.int (1 : Int32)), .val (.int w1)]) rfl (pc' := 116) rfl ?_
  refine g_iload A358 d1_116 rfl (pc' := 118) rfl ?_
  obtain ⟨v362, hv362⟩ : ∃ z : Int32, z = (if w1 = 0 then v359 else (v359 + (1 : Int32))) := ⟨_, rfl⟩
  have sg363 : ∀ {P : State → Outcome → Prop}, Go p e below P T346 (mkF m 124 #[.val (.ref a1), .val (.ref a2), .val (.ref a3), .val .null, .val .null, .val (.int v362), .val (.ref a3), .val (.int (3 : Int32)), .val (.int (1 : Int32)), .val (.int w1)] []) → Go p e below P T346 (mkF m 118 #[.val (.ref a1), .val (.ref a2), .val (.ref a3), .val .null, .val .null, .val (.int v359), .val (.ref a3), .val (.int (3 : Int32)), .val (.int (1 : Int32)), .val (.int w1)] [(.int w1)]) := by
    intro P hr
    by_cases c364 : w1 = 0
    · skip
      refine g_ifY A358 d1_118 (c0_eq_t c364) (pc' := 124) rfl ?_
      obtain rfl : v362 = v359 := hv362.trans ((if_pos c364).trans rfl)
      exact hr
    · skip
      refine g_ifN A358 d1_118 (c0_eq_f c364) (pc' := 121) rfl ?_
      refine g_iinc A358 d1_121 rfl (y := (v359 + (1 : Int32))) rfl (ls' := #[.val (.ref a1), .val (.ref a2), .val (.ref a3), .val .null, .val .null, .val (.int (v359 + (1 : Int32))), .val (.ref a3), .val (.int (3 : Int32)), .val (.int (1 : Int32)), .val (.int w1)]) rfl (pc' := 124) rfl ?_
      obtain rfl : v362 = (v359 + (1 : Int32)) := hv362.trans ((if_neg c364).trans rfl)
      exact hr
  refine sg363 ?_
  refine g_iinc A358 d1_124 rfl (y := (2 : Int32)) (by decide) (ls' := #[.val (.ref a1), .val (.ref a2), .val (.ref a3), .val .null, .val .null, .val (.int v362), .val (.ref a3), .val (.int (3 : Int32)), .val (.int (2 : Int32)), .val (.int w1)]) rfl (pc' := 127) rfl ?_
  refine g_goto A358 d1_127 (pc' := 102) rfl ?_
  refine g_iload A358 d1_102 rfl (pc' := 104) rfl ?_
  refine g_iload A358 d1_104 rfl (pc' := 106) rfl ?_
  refine g_icN A358 d1_106 (c2_ge_f (by decide)) (pc' := 109) rfl ?_
  refine g_aload A358 d1_109 rfl rfl (pc' := 111) rfl ?_
  refine g_iload A358 d1_111 rfl (pc' := 113) rfl ?_
  refine g_baload A358 hZ e346 V352 (i := 2) (by decide) rfl (x := w2) hw2 d1_113 (pc' := 114) rfl ?_
  refine g_istore A358 d1_114 (ls' := #[.val (.ref a1), .val (.ref a2), .val (.ref a3), .val .null, .val .null, .val (.int v362), .val (.ref a3), .val (.int (3 : Int32)), .val (.int (2 : Int32)), .val (.int w2)]) rfl (pc' := 116) rfl ?_
  refine g_iload A358 d1_116 rfl (pc' := 118) rfl ?_
  obtain ⟨v365, hv365⟩ : ∃ z : Int32, z = (if w2 = 0 then v362 else (v362 + (1 : Int32))) := ⟨_, rfl⟩
  have sg366 : ∀ {P : State → Outcome → Prop}, Go p e below P T346 (mkF m 124 #[.val (.ref a1), .val (.ref a2), .val (.ref a3), .val .null, .val .null, .val (.int v365), .val (.ref a3), .val (.int (3 : Int32)), .val (.int (2 : Int32)), .val (.int w2)] []) → Go p e below P T346 (mkF m 118 #[.val (.ref a1), .val (.ref a2), .val (.ref a3), .val .null, .val .null, .val (.int v362), .val (.ref a3), .val (.int (3 : Int32)), .val (.int (2 : Int32)), .val (.int w2)] [(.int w2)]) := by
    intro P hr
    by_cases c367 : w2 = 0
    · skip
      refine g_ifY A358 d1_118 (c0_eq_t c367) (pc' := 124) rfl ?_
      obtain rfl : v365 = v362 := hv365.trans ((if_pos c367).trans rfl)
      exact hr
    · skip
      refine g_ifN A358 d1_118 (c0_eq_f c367) (pc' := 121) rfl ?_
      refine g_iinc A358 d1_121 rfl (y := (v362 + (1 : Int32))) rfl (ls' := #[.val (.ref a1), .val (.ref a2), .val (.ref a3), .val .null, .val .null, .val (.int (v362 + (1 : Int32))), .val (.ref a3), .val (.int (3 : Int32)), .val (.int (2 : Int32)), .val (.int w2)]) rfl (pc' := 124) rfl ?_
      obtain rfl : v365 = (v362 + (1 : Int32)) := hv365.trans ((if_neg c367).trans rfl)
      exact hr
  refine sg366 ?_
  refine g_iinc A358 d1_124 rfl (y := (3 : Int32)) (by decide) (ls' := #[.val (.ref a1), .val (.ref a2), .val (.ref a3), .val .null, .val .null, .val (.int v365), .val (.ref a3), .val (.int (3 : Int32)), .val (.int (3 : Int32)), .val (.int w2)]) rfl (pc' := 127) rfl ?_
  refine g_goto A358 d1_127 (pc' := 102) rfl ?_
  refine g_iload A358 d1_102 rfl (pc' := 104) rfl ?_
  refine g_iload A358 d1_104 rfl (pc' := 106) rfl ?_
  refine g_icY A358 d1_106 (c2_ge_t (by decide)) (pc' := 130) rfl ?_
  refine g_aloadN A358 d1_130 rfl rfl (pc' := 131) rfl ?_
  refine g_iload A358 d1_131 rfl (pc' := 133) rfl ?_
  obtain ⟨T368, h368, X368, e368, W368, st368⟩ := putF X346 hx hZ hown (host := "") (Or.inl (hw _ (List.mem_of_getElem? (i := 20) rfl))) Via.refl e346 F350 E349 (Or.inr ⟨(hw _ (List.mem_of_getElem? (i := 21) rfl)), rfl, hnm⟩) (hw _ (List.mem_of_getElem? (i := 4) rfl)) (ty := .int) (by decide) rfl rfl (g := (mkF m 133 #[.val (.ref a1), .val (.ref a2), .val (.ref a3), .val .null, .val .null, .val (.int v365), .val (.ref a3), .val (.int (3 : Int32)), .val (.int (3 : Int32)), .val (.int w2)] [(.int v365), (.ref a1)])) rfl rfl (hb hby d1_133)
  have N369 := Fr.snoc X368 N347 g300
  have K370 : Keep h0 h368 [a1] := K348.wr W368 (Or.inl (List.mem_of_getElem? (i := 0) rfl))
  have E371 : Exa Z h368 a1 "com/example/swathloom/swathloom/planning/Plan" := Exa.wr W368 E349
  have V372 : Dar Z h368 a2 .double 3 f2 := Dar.other W368 V351 ne303
  have V373 : Dar Z h368 a3 .boolean 3 f3 := Dar.other W368 V352 ne304
  have F374 : Fld Z h368 a1 "com/example/swathloom/swathloom/planning/Plan" "rolls" "[D" (.ref a2) := Fld.other W368 F353 (Or.inr (slot_ne (Or.inr (hw _ (List.mem_of_getElem? (i := 13) rfl))) (Or.inr (hw _ (List.mem_of_getElem? (i := 21) rfl))) (by decide) (t := (.array .double)) (t' := .int) (by decide) (by decide)))
  have F375 : Fld Z h368 a1 "com/example/swathloom/swathloom/planning/Plan" "used" "[Z" (.ref a3) := Fld.other W368 F354 (Or.inr (slot_ne (Or.inr (hw _ (List.mem_of_getElem? (i := 15) rfl))) (Or.inr (hw _ (List.mem_of_getElem? (i := 21) rfl))) (by decide) (t := (.array .boolean)) (t' := .int) (by decide) (by decide)))
  have F376 : Fld Z h368 a1 "com/example/swathloom/swathloom/planning/Plan" "rollVelocities" "[D" .null := Fld.other W368 F355 (Or.inr (slot_ne (Or.inr (hw _ (List.mem_of_getElem? (i := 17) rfl))) (Or.inr (hw _ (List.mem_of_getElem? (i := 21) rfl))) (by decide) (t := (.array .double)) (t' := .int) (by decide) (by decide)))
  have F377 : Fld Z h368 a1 "com/example/swathloom/swathloom/planning/Plan" "selectionVelocities" "[D" .null := Fld.other W368 F356 (Or.inr (slot_ne (Or.inr (hw _ (List.mem_of_getElem? (i := 19) rfl))) (Or.inr (hw _ (List.mem_of_getElem? (i := 21) rfl))) (by decide) (t := (.array .double)) (t' := .int) (by decide) (by decide)))
  have F378 : Fld Z h368 a1 "com/example/swathloom/swathloom/planning/Plan" "strips" "I" (.int v365) := Fld.same W368 F350
  have Z379 : n0 ≤ h368.size := by rw [W368.size]; exact Z357
  refine Go.of (g' := (mkF m 136 #[.val (.ref a1), .val (.ref a2), .val (.ref a3), .val .null, .val .null, .val (.int v365), .val (.ref a3), .val (.int (3 : Int32)), .val (.int (3 : Int32)), .val (.int w2)] [])) st368 ?_
  have A380 := (⟨X368, hx, hby⟩ : Ax _ _ _ _ _ _ _ _ _ _ _ _ _ _ _)
  exact g_retV (Q := Q1_11 Z a1 a2 a3 f2 f3 w0 w1 w2 u0 u1 u2 u3 u4 h0 n0) A380 d1_136 Bd.notSynchronized Bd.returns (by decide) (by decide) (by rw [e368]; exact ⟨rfl, N369, K370, F375, F376, F377⟩)
theorem d4_0 : decode prog_19_method_7_code 0 = .ok (.aload_n 0, 1) := by decide +kernel
theorem d4_1 : decode prog_19_method_7_code 1 = .ok (.getfield 35, 3) := by decide +kernel
theorem d4_4 : decode prog_19_method_7_code 4 = .ok (.ifnonnull 7, 3) := by decide +kernel
theorem d4_7 : decode prog_19_method_7_code 7 = .ok (.dconst 0, 1) := by decide +kernel
theorem d4_8 : decode prog_19_method_7_code 8 = .ok (.goto 9, 3) := by decide +kernel
theorem d4_11 : decode prog_19_method_7_code 11 = .ok (.aload_n 0, 1) := by decide +kernel
theorem d4_12 : decode prog_19_method_7_code 12 = .ok (.getfield 35, 3) := by decide +kernel
theorem d4_15 : decode prog_19_method_7_code 15 = .ok (.iload_n 1, 1) := by decide +kernel
theorem d4_16 : decode prog_19_method_7_code 16 = .ok (.daload, 1) := by decide +kernel
theorem d4_17 : decode prog_19_method_7_code 17 = .ok (.dreturn, 1) := by decide +kernel
theorem ef381 (m : MethodId) (a1 : Addr) (i1 : Int32) : entryFrame m #[(.ref a1), (.int i1)] 2 = mkF m 0 #[.val (.ref a1), .val (.int i1)] [] := by first | (simp [entryFrame, mkF, argsToLocals, Value.category]; done) | rfl
def QVn (Z : State) (a1 : Addr) (i1 : Int32) (h0 : Heap) (n0 : Nat) (v : Option Value) (h : Heap) (L : List Loc) : Prop := v = some (.double (0 : UInt64)) ∧ Fr n0 L ∧ h = h0
set_option maxRecDepth 65536 in
set_option maxHeartbeats 40000000 in
theorem rmVn (l : Launch) (Z : State) (a0 : Array Value) (hw : ∀ d ∈ tables_1, d.before a0 Z = true) (ws : List Jvm.Cond) (a1 : Addr) (i1 : Int32) (h0 : Heap) (n0 : Nat) (Z0 : n0 ≤ h0.size) (F382 : Fld Z h0 a1 "com/example/swathloom/swathloom/planning/Plan" "selectionVelocities" "[D" .null) :
    MetFree l (⟨"com/example/swathloom/swathloom/planning/Plan", "selectionVelocity", "(I)D"⟩ : MethodName) (head1 (Jvm.Cond.code (⟨"com/example/swathloom/swathloom/planning/Plan", "selectionVelocity", "(I)D"⟩ : MethodName) prog_19_method_7_code 2 (some .double) :: ws) ({ frames := 0, cells := 0, slots := 0, locals := 0 } : Room)) (fun a U => a = #[(.ref a1), (.int i1)] ∧ Z.Warmed39 U.vm ∧ U.heap = h0) (fun _ _ _ _ _ => True) (fun _ U o U' => ∃ v L, o = .returned v ∧ QVn Z a1 i1 h0 n0 v U'.heap L ∧ FrameEnd U o U' L 0 0) := by
  refine MetFree.of_bodySF (plainFor_of_name pn_0) hisR ?_
  intro p e s m args below meth c s₁ Bd hml0 hP hK
  obtain ⟨rfl, hZ, hh⟩ := hP
  have hx := Bd.exec
  have hby := Bd.bytes
  have hml : c.maxLocals = 2 := hml0
  have hown : s.vm.findClass "com/example/swathloom/swathloom/planning/Plan" = some m.cls := findClass_of_methodNamed Bd.named
  have hnm := (name_of_methodNamed Bd.named Bd.method).1
  have X0 : Stand p l e ({ frames := 0, cells := 0, slots := 0, locals := 0 } : Room) s m #[(.ref a1), (.int i1)] below meth c s₁ [] 0 0 := Stand.of_body Bd
  have e0 : s₁.heap = h0 := by rw [← hh, Bd.state]; rfl
  have N0 := Fr.nil n0
  have A0 := (⟨X0, hx, hby⟩ : Ax _ _ _ _ _ _ _ _ _ _ _ _ _ _ _)
  show Go p e below (fun U o => ∃ v L, o = .returned v ∧ QVn Z a1 i1 h0 n0 v U.heap L ∧ FrameEnd s o U L 0 0) s₁ (entryFrame m #[(.ref a1), (.int i1)] 2)
  refine Go.cast (ef381 m a1 i1) ?_
  refine g_aloadN A0 d4_0 rfl rfl (pc' := 1) rfl ?_
  obtain ⟨T383, X383, e383, st383⟩ := getF X0 hx hZ hown (host := "") (Or.inl (hw _ (List.mem_of_getElem? (i := 18) rfl))) Via.refl e0 F382 (g := (mkF m 1 #[.val (.ref a1), .val (.int i1)] [(.ref a1)])) rfl rfl (hb hby d4_1)
  refine Go.of (g' := (mkF m 4 #[.val (.ref a1), .val (.int i1)] [.null])) st383 ?_
  have A384 := (⟨X383, hx, hby⟩ : Ax _ _ _ _ _ _ _ _ _ _ _ _ _ _ _)
  refine g_nnN A384 d4_4 (pc' := 7) rfl ?_
  refine g_dconst0 A384 d4_7 (pc' := 8) rfl ?_
  refine g_goto A384 d4_8 (pc' := 17) rfl ?_
  exact g_ret (Q := QVn Z a1 i1 h0 n0) A384 d4_17 Bd.notSynchronized Bd.returns rfl (Or.inr (Or.inr (Or.inl ⟨rfl, rfl, _, rfl⟩))) (by decide) (by decide) (by rw [e383]; exact ⟨rfl, N0, rfl⟩)
theorem ef385 (m : MethodId) (a1 : Addr) (i1 : Int32) (a4 : Addr) (f : Nat → Value) (k : Nat) (x : UInt64) : entryFrame m #[(.ref a1), (.int i1)] 2 = mkF m 0 #[.val (.ref a1), .val (.int i1)] [] := by first | (simp [entryFrame, mkF, argsToLocals, Value.category]; done) | rfl
def QVr (Z : State) (a1 : Addr) (i1 : Int32) (a4 : Addr) (f : Nat → Value) (k : Nat) (x : UInt64) (h0 : Heap) (n0 : Nat) (v : Option Value) (h : Heap) (L : List Loc) : Prop := v = some (.double x) ∧ Fr n0 L ∧ h = h0
set_option maxRecDepth 65536 in
set_option maxHeartbeats 40000000 in
theorem rmVr (l : Launch) (Z : State) (a0 : Array Value) (hw : ∀ d ∈ tables_1, d.before a0 Z = true) (ws : List Jvm.Cond) (a1 : Addr) (i1 : Int32) (a4 : Addr) (f : Nat → Value) (k : Nat) (x : UInt64) (h0 : Heap) (n0 : Nat) (Z0 : n0 ≤ h0.size) (F386 : Fld Z h0 a1 "com/example/swathloom/swathloom/planning/Plan" "selectionVelocities" "[D" (.ref a4)) (V387 : Dar Z h0 a4 .double 3 f) (hk : k < 3) (hj : i1 = Int32.ofNat k) (hv : f k = .double x) :
    MetFree l (⟨"com/example/swathloom/swathloom/planning/Plan", "selectionVelocity", "(I)D"⟩ : MethodName) (head1 (Jvm.Cond.code (⟨"com/example/swathloom/swathloom/planning/Plan", "selectionVelocity", "(I)D"⟩ : MethodName) prog_19_method_7_code 2 (some .double) :: ws) ({ frames := 0, cells := 0, slots := 0, locals := 0 } : Room)) (fun a U => a = #[(.ref a1), (.int i1)] ∧ Z.Warmed39 U.vm ∧ U.heap = h0) (fun _ _ _ _ _ => True) (fun _ U o U' => ∃ v L, o = .returned v ∧ QVr Z a1 i1 a4 f k x h0 n0 v U'.heap L ∧ FrameEnd U o U' L 0 0) := by
  refine MetFree.of_bodySF (plainFor_of_name pn_0) hisR ?_
  intro p e s m args below meth c s₁ Bd hml0 hP hK
  obtain ⟨rfl, hZ, hh⟩ := hP
  have hx := Bd.exec
  have hby := Bd.bytes
  have hml : c.maxLocals = 2 := hml0
  have hown : s.vm.findClass "com/example/swathloom/swathloom/planning/Plan" = some m.cls := findClass_of_methodNamed Bd.named
  have hnm := (name_of_methodNamed Bd.named Bd.method).1
  have X0 : Stand p l e ({ frames := 0, cells := 0, slots := 0, locals := 0 } : Room) s m #[(.ref a1), (.int i1)] below meth c s₁ [] 0 0 := Stand.of_body Bd
  have e0 : s₁.heap = h0 := by rw [← hh, Bd.state]; rfl
  have N0 := Fr.nil n0
  have A0 := (⟨X0, hx, hby⟩ : Ax _ _ _ _ _ _ _ _ _ _ _ _ _ _ _)
  show Go p e below (fun U o => ∃ v L, o = .returned v ∧ QVr Z a1 i1 a4 f k x h0 n0 v U.heap L ∧ FrameEnd s o U L 0 0) s₁ (entryFrame m #[(.ref a1), (.int i1)] 2)
  refine Go.cast (ef385 m a1 i1 a4 f k x) ?_
  refine g_aloadN A0 d4_0 rfl rfl (pc' := 1) rfl ?_
  obtain ⟨T388, X388, e388, st388⟩ := getF X0 hx hZ hown (host := "") (Or.inl (hw _ (List.mem_of_getElem? (i := 18) rfl))) Via.refl e0 F386 (g := (mkF m 1 #[.val (.ref a1), .val (.int i1)] [(.ref a1)])) rfl rfl (hb hby d4_1)
  refine Go.of (g' := (mkF m 4 #[.val (.ref a1), .val (.int i1)] [(.ref a4)])) st388 ?_
  have A389 := (⟨X388, hx, hby⟩ : Ax _ _ _ _ _ _ _ _ _ _ _ _ _ _ _)
  refine g_nnY A389 d4_4 (pc' := 11) rfl ?_
  refine g_aloadN A389 d4_11 rfl rfl (pc' := 12) rfl ?_
  obtain ⟨T390, X390, e390, st390⟩ := getF X388 hx hZ hown (host := "") (Or.inl (hw _ (List.mem_of_getElem? (i := 18) rfl))) Via.refl e388 F386 (g := (mkF m 12 #[.val (.ref a1), .val (.int i1)] [(.ref a1)])) rfl rfl (hb hby d4_12)
  refine Go.of (g' := (mkF m 15 #[.val (.ref a1), .val (.int i1)] [(.ref a4)])) st390 ?_
  have A391 := (⟨X390, hx, hby⟩ : Ax _ _ _ _ _ _ _ _ _ _ _ _ _ _ _)
  refine g_iloadN A391 d4_15 rfl (pc' := 16) rfl ?_
  refine g_daload A391 hZ e390 V387 (i := k) hk hj (x := x) hv d4_16 (pc' := 17) rfl ?_
  exact g_ret (Q := QVr Z a1 i1 a4 f k x h0 n0) A391 d4_17 Bd.notSynchronized Bd.returns rfl (Or.inr (Or.inr (Or.inl ⟨rfl, rfl, _, rfl⟩))) (by decide) (by decide) (by rw [e390]; exact ⟨rfl, N0, rfl⟩)
theorem d3_0 : decode method_3_code 0 = .ok (.aload_n 0, 1) := by decide +kernel
theorem d3_1 : decode method_3_code 1 = .ok (.iload_n 1, 1) := by decide +kernel
theorem d3_2 : decode method_3_code 2 = .ok (.invokevirtual 20, 3) := by decide +kernel
theorem d3_5 : decode method_3_code 5 = .ok (.dstore 4, 2) := by decide +kernel
theorem d3_7 : decode method_3_code 7 = .ok (.iload_n 2, 1) := by decide +kernel
theorem d3_8 : decode method_3_code 8 = .ok (.ifCond .eq 16, 3) := by decide +kernel
theorem d3_11 : decode method_3_code 11 = .ok (.dload 4, 2) := by decide +kernel
theorem d3_13 : decode method_3_code 13 = .ok (.dconst 0, 1) := by decide +kernel
theorem d3_14 : decode method_3_code 14 = .ok (.dcmp .l, 1) := by decide +kernel
theorem d3_15 : decode method_3_code 15 = .ok (.ifCond .ne 7, 3) := by decide +kernel
theorem d3_18 : decode method_3_code 18 = .ok (.iconst 1, 1) := by decide +kernel
theorem d3_19 : decode method_3_code 19 = .ok (.goto 4, 3) := by decide +kernel
theorem d3_22 : decode method_3_code 22 = .ok (.iconst 0, 1) := by decide +kernel
theorem d3_23 : decode method_3_code 23 = .ok (.ireturn, 1) := by decide +kernel
theorem d3_24 : decode method_3_code 24 = .ok (.dload 4, 2) := by decide +kernel
theorem d3_26 : decode method_3_code 26 = .ok (.iload_n 3, 1) := by decide +kernel
theorem d3_27 : decode method_3_code 27 = .ok (.i2d, 1) := by decide +kernel
theorem d3_28 : decode method_3_code 28 = .ok (.dcmp .l, 1) := by decide +kernel
theorem d3_29 : decode method_3_code 29 = .ok (.ifCond .ne 7, 3) := by decide +kernel
theorem d3_32 : decode method_3_code 32 = .ok (.iconst 1, 1) := by decide +kernel
theorem d3_33 : decode method_3_code 33 = .ok (.goto 4, 3) := by decide +kernel
theorem d3_36 : decode method_3_code 36 = .ok (.iconst 0, 1) := by decide +kernel
theorem d3_37 : decode method_3_code 37 = .ok (.ireturn, 1) := by decide +kernel
theorem pn_1 : plainName "com/example/swathloom/swathloom/planning/PlanSelectionVelocityPinLaw" = true := by first | (simp [plainName, overriddenIn]; done) | decide +kernel
theorem ef392 (m : MethodId) (a1 : Addr) (i1 : Int32) (b2 : Int32) (i3 : Int32) : entryFrame m #[(.ref a1), (.int i1), (.int b2), (.int i3)] 6 = mkF m 0 #[.val (.ref a1), .val (.int i1), .val (.int b2), .val (.int i3), .unset, .unset] [] := by first | (simp [entryFrame, mkF, argsToLocals, Value.category]; done) | rfl
def Q3n (Z : State) (a1 : Addr) (i1 : Int32) (b2 : Int32) (i3 : Int32) (h0 : Heap) (n0 : Nat) (v : Option Value) (h : Heap) (L : List Loc) : Prop := v = some (.int (1 : Int32)) ∧ Fr n0 L ∧ h = h0
theorem pd_0 : parseMethodDescriptor "(I)D" = some ⟨[.int], some .double⟩ := by decide +kernel
set_option maxRecDepth 65536 in
set_option maxHeartbeats 40000000 in
theorem rm3n (l : Launch) (Z : State) (a0 : Array Value) (hw : ∀ d ∈ tables_1, d.before a0 Z = true) (ws : List Jvm.Cond) (a1 : Addr) (i1 : Int32) (b2 : Int32) (i3 : Int32) (h0 : Heap) (n0 : Nat) (Z0 : n0 ≤ h0.size) (E393 : Exa Z h0 a1 "com/example/swathloom/swathloom/planning/Plan") (F394 : Fld Z h0 a1 "com/example/swathloom/swathloom/planning/Plan" "selectionVelocities" "[D" .null) (hbo : ¬ b2 = 0) :
    MetFree l (⟨"com/example/swathloom/swathloom/planning/PlanSelectionVelocityPinLaw", "check", "(Lcom/example/swathloom/swathloom/planning/Plan;IZI)Z"⟩ : MethodName) (head1 (Jvm.Cond.code (⟨"com/example/swathloom/swathloom/planning/PlanSelectionVelocityPinLaw", "check", "(Lcom/example/swathloom/swathloom/planning/Plan;IZI)Z"⟩ : MethodName) method_3_code 6 (some .boolean) :: ws) ({ frames := 1, cells := 0, slots := 0, locals := 13 } : Room)) (fun a U => a = #[(.ref a1), (.int i1), (.int b2), (.int i3)] ∧ Z.Warmed39 U.vm ∧ U.heap = h0) (fun _ _ _ _ _ => True) (fun _ U o U' => ∃ v L, o = .returned v ∧ Q3n Z a1 i1 b2 i3 h0 n0 v U'.heap L ∧ FrameEnd U o U' L 0 0) := by
  refine MetFree.of_bodySF (plainFor_of_name pn_1) hisR ?_
  intro p e s m args below meth c s₁ Bd hml0 hP hK
  obtain ⟨rfl, hZ, hh⟩ := hP
  have hx := Bd.exec
  have hby := Bd.bytes
  have hml : c.maxLocals = 6 := hml0
  have hown : s.vm.findClass "com/example/swathloom/swathloom/planning/PlanSelectionVelocityPinLaw" = some m.cls := findClass_of_methodNamed Bd.named
  have hnm := (name_of_methodNamed Bd.named Bd.method).1
  have X0 : Stand p l e ({ frames := 1, cells := 0, slots := 0, locals := 13 } : Room) s m #[(.ref a1), (.int i1), (.int b2), (.int i3)] below meth c s₁ [] 0 0 := Stand.of_body Bd
  have e0 : s₁.heap = h0 := by rw [← hh, Bd.state]; rfl
  have N0 := Fr.nil n0
  have A0 := (⟨X0, hx, hby⟩ : Ax _ _ _ _ _ _ _ _ _ _ _ _ _ _ _)
  show Go p e below (fun U o => ∃ v L, o = .returned v ∧ Q3n Z a1 i1 b2 i3 h0 n0 v U.heap L ∧ FrameEnd s o U L 0 0) s₁ (entryFrame m #[(.ref a1), (.int i1), (.int b2), (.int i3)] 6)
  refine Go.cast (ef392 m a1 i1 b2 i3) ?_
  refine g_aloadN A0 d3_0 rfl rfl (pc' := 1) rfl ?_
  refine g_iloadN A0 d3_1 rfl (pc' := 2) rfl ?_
  obtain ⟨cq396, kq396, q396a, q396b, q396c⟩ := isOf hZ e0 E393
  obtain ⟨_, _, ⟨T395, L395, k395, n395⟩, -, X395, ⟨L395c, hQ395, l395, y395, z395⟩, st395⟩ := X0.virtualBack hx (y := (⟨"com/example/swathloom/swathloom/planning/Plan", "selectionVelocity", "(I)D"⟩ : MethodName)) (z := (⟨"com/example/swathloom/swathloom/planning/Plan", "selectionVelocity", "(I)D"⟩ : MethodName)) hown (mvT hZ (hw _ (List.mem_of_getElem? (i := 26) rfl))) (mvT hZ (hw _ (List.mem_of_getElem? (i := 27) rfl))) (notFace_of_selects (args := #[]) (mvT hZ (hw _ (List.mem_of_getElem? (i := 29) rfl)))) (mvT hZ (hw _ (List.mem_of_getElem? (i := 29) rfl))) (mvT hZ (hw _ (List.mem_of_getElem? (i := 28) rfl))) (by decide) (backOf (W := 0) (rmVn l Z a0 hw [] a1 i1 h0 n0 Z0 F394) hZ (hw _ (List.mem_of_getElem? (i := 30) rfl)) (hw _ (List.mem_of_getElem? (i := 5) rfl)) (by decide) (by decide)) q396a q396c (g := (mkF m 2 #[.val (.ref a1), .val (.int i1), .val (.int b2), .val (.int i3), .unset, .unset] [(.int i1), (.ref a1)])) rfl (by rw [hml]; rfl) (Steps.refl _) (argsL := [(.int i1)]) (rest := []) (lenOf pd_0 rfl) rfl (by show 2 * 0 + _ ≤ _; exact Nat.le_of_eq rfl) (hb hby d3_2) (fun _ _ => ⟨rfl, e0, (by decide : 0 + 0 ≤ _), (by decide : 0 + 0 ≤ _)⟩)
  dsimp only [Pt.U, Pt.locs, Pt.cells, Pt.slots] at X395 l395 y395 z395 st395 hQ395
  subst l395 y395 z395
  obtain ⟨rfl, Nq397, Kq398⟩ := hQ395
  have N399 := Fr.app N0 Nq397
  refine Go.tr (g' := (mkF m 5 #[.val (.ref a1), .val (.int i1), .val (.int b2), .val (.int i3), .unset, .unset] [(.double (0 : UInt64))])) st395 ?_
  have e400 : T395.heap = h0 := Kq398
  have A401 := (⟨X395, hx, hby⟩ : Ax _ _ _ _ _ _ _ _ _ _ _ _ _ _ _)
  refine g_dstore A401 d3_5 (ls' := #[.val (.ref a1), .val (.int i1), .val (.int b2), .val (.int i3), .val (.double (0 : UInt64)), .second]) rfl (pc' := 7) rfl ?_
  refine g_iloadN A401 d3_7 rfl (pc' := 8) rfl ?_
  refine g_ifN A401 d3_8 (c0_eq_f hbo) (pc' := 11) rfl ?_
  refine g_dload A401 d3_11 rfl (pc' := 13) rfl ?_
  refine g_dconst0 A401 d3_13 (pc' := 14) rfl ?_
  refine g_dcmp A401 d3_14 (pc' := 15) rfl ?_
  refine g_ifN A401 d3_15 (d_l_ne_f (own_self (by unfold Fin64; decide : Fin64 (0 : UInt64)))) (pc' := 18) rfl ?_
  refine g_iconst A401 d3_18 (v := (1 : Int32)) rfl (pc' := 19) rfl ?_
  refine g_goto A401 d3_19 (pc' := 23) rfl ?_
  exact g_ret (Q := Q3n Z a1 i1 b2 i3 h0 n0) A401 d3_23 Bd.notSynchronized Bd.returns rfl (Or.inl ⟨rfl, by simp, _, rfl⟩) (by decide) (by decide) (by rw [e400]; exact ⟨rfl, N399, rfl⟩)
theorem ef402 (m : MethodId) (a1 : Addr) (i1 : Int32) (b2 : Int32) (i3 : Int32) (a4 : Addr) (f : Nat → Value) (k : Nat) : entryFrame m #[(.ref a1), (.int i1), (.int b2), (.int i3)] 6 = mkF m 0 #[.val (.ref a1), .val (.int i1), .val (.int b2), .val (.int i3), .unset, .unset] [] := by first | (simp [entryFrame, mkF, argsToLocals, Value.category]; done) | rfl
def Q3r (Z : State) (a1 : Addr) (i1 : Int32) (b2 : Int32) (i3 : Int32) (a4 : Addr) (f : Nat → Value) (k : Nat) (h0 : Heap) (n0 : Nat) (v : Option Value) (h : Heap) (L : List Loc) : Prop := v = some (.int (1 : Int32)) ∧ Fr n0 L ∧ h = h0
set_option maxRecDepth 65536 in
set_option maxHeartbeats 40000000 in
theorem rm3r (l : Launch) (Z : State) (a0 : Array Value) (hw : ∀ d ∈ tables_1, d.before a0 Z = true) (ws : List Jvm.Cond) (a1 : Addr) (i1 : Int32) (b2 : Int32) (i3 : Int32) (a4 : Addr) (f : Nat → Value) (k : Nat) (h0 : Heap) (n0 : Nat) (Z0 : n0 ≤ h0.size) (E403 : Exa Z h0 a1 "com/example/swathloom/swathloom/planning/Plan") (F404 : Fld Z h0 a1 "com/example/swathloom/swathloom/planning/Plan" "selectionVelocities" "[D" (.ref a4)) (V405 : Dar Z h0 a4 .double 3 f) (hk : k < 3) (hj : i1 = Int32.ofNat k) (hv : f k = .double (FP.i2d i3)) (hbo : b2 = 0) :
    MetFree l (⟨"com/example/swathloom/swathloom/planning/PlanSelectionVelocityPinLaw", "check", "(Lcom/example/swathloom/swathloom/planning/Plan;IZI)Z"⟩ : MethodName) (head1 (Jvm.Cond.code (⟨"com/example/swathloom/swathloom/planning/PlanSelectionVelocityPinLaw", "check", "(Lcom/example/swathloom/swathloom/planning/Plan;IZI)Z"⟩ : MethodName) method_3_code 6 (some .boolean) :: ws) ({ frames := 1, cells := 0, slots := 0, locals := 13 } : Room)) (fun a U => a = #[(.ref a1), (.int i1), (.int b2), (.int i3)] ∧ Z.Warmed39 U.vm ∧ U.heap = h0) (fun _ _ _ _ _ => True) (fun _ U o U' => ∃ v L, o = .returned v ∧ Q3r Z a1 i1 b2 i3 a4 f k h0 n0 v U'.heap L ∧ FrameEnd U o U' L 0 0) := by
  refine MetFree.of_bodySF (plainFor_of_name pn_1) hisR ?_
  intro p e s m args below meth c s₁ Bd hml0 hP hK
  obtain ⟨rfl, hZ, hh⟩ := hP
  have hx := Bd.exec
  have hby := Bd.bytes
  have hml : c.maxLocals = 6 := hml0
  have hown : s.vm.findClass "com/example/swathloom/swathloom/planning/PlanSelectionVelocityPinLaw" = some m.cls := findClass_of_methodNamed Bd.named
  have hnm := (name_of_methodNamed Bd.named Bd.method).1
  have X0 : Stand p l e ({ frames := 1, cells := 0, slots := 0, locals := 13 } : Room) s m #[(.ref a1), (.int i1), (.int b2), (.int i3)] below meth c s₁ [] 0 0 := Stand.of_body Bd
  have e0 : s₁.heap = h0 := by rw [← hh, Bd.state]; rfl
  have N0 := Fr.nil n0
  have A0 := (⟨X0, hx, hby⟩ : Ax _ _ _ _ _ _ _ _ _ _ _ _ _ _ _)
  show Go p e below (fun U o => ∃ v L, o = .returned v ∧ Q3r Z a1 i1 b2 i3 a4 f k h0 n0 v U.heap L ∧ FrameEnd s o U L 0 0) s₁ (entryFrame m #[(.ref a1), (.int i1), (.int b2), (.int i3)] 6)
  refine Go.cast (ef402 m a1 i1 b2 i3 a4 f k) ?_
  refine g_aloadN A0 d3_0 rfl rfl (pc' := 1) rfl ?_
  refine g_iloadN A0 d3_1 rfl (pc' := 2) rfl ?_
  obtain ⟨cq407, kq407, q407a, q407b, q407c⟩ := isOf hZ e0 E403
  obtain ⟨_, _, ⟨T406, L406, k406, n406⟩, -, X406, ⟨L406c, hQ406, l406, y406, z406⟩, st406⟩ := X0.virtualBack hx (y := (⟨"com/example/swathloom/swathloom/planning/Plan", "selectionVelocity", "(I)D"⟩ : MethodName)) (z := (⟨"com/example/swathloom/swathloom/planning/Plan", "selectionVelocity", "(I)D"⟩ : MethodName)) hown (mvT hZ (hw _ (List.mem_of_getElem? (i := 26) rfl))) (mvT hZ (hw _ (List.mem_of_getElem? (i := 27) rfl))) (notFace_of_selects (args := #[]) (mvT hZ (hw _ (List.mem_of_getElem? (i := 29) rfl)))) (mvT hZ (hw _ (List.mem_of_getElem? (i := 29) rfl))) (mvT hZ (hw _ (List.mem_of_getElem? (i := 28) rfl))) (by decide) (backOf (W := 0) (rmVr l Z a0 hw [] a1 i1 a4 f k (FP.i2d i3) h0 n0 Z0 F404 V405 hk hj hv) hZ (hw _ (List.mem_of_getElem? (i := 30) rfl)) (hw _ (List.mem_of_getElem? (i := 5) rfl)) (by decide) (by decide)) q407a q407c (g := (mkF m 2 #[.val (.ref a1), .val (.int i1), .val (.int b2), .val (.int i3), .unset, .unset] [(.int i1), (.ref a1)])) rfl (by rw [hml]; rfl) (Steps.refl _) (argsL := [(.int i1)]) (rest := []) (lenOf pd_0 rfl) rfl (by show 2 * 0 + _ ≤ _; exact Nat.le_of_eq rfl) (hb hby d3_2) (fun _ _ => ⟨rfl, e0, (by decide : 0 + 0 ≤ _), (by decide : 0 + 0 ≤ _)⟩)
  dsimp only [Pt.U, Pt.locs, Pt.cells, Pt.slots] at X406 l406 y406 z406 st406 hQ406
  subst l406 y406 z406
  obtain ⟨rfl, Nq408, Kq409⟩ := hQ406
  have N410 := Fr.app N0 Nq408
  refine Go.tr (g' := (mkF m 5 #[.val (.ref a1), .val (.int i1), .val (.int b2), .val (.int i3), .unset, .unset] [(.double (FP.i2d i3))])) st406 ?_
  have e411 : T406.heap = h0 := Kq409
  have A412 := (⟨X406, hx, hby⟩ : Ax _ _ _ _ _ _ _ _ _ _ _ _ _ _ _)
  refine g_dstore A412 d3_5 (ls' := #[.val (.ref a1), .val (.int i1), .val (.int b2), .val (.int i3), .val (.double (FP.i2d i3)), .second]) rfl (pc' := 7) rfl ?_
  refine g_iloadN A412 d3_7 rfl (pc' := 8) rfl ?_
  refine g_ifY A412 d3_8 (c0_eq_t hbo) (pc' := 24) rfl ?_
  refine g_dload A412 d3_24 rfl (pc' := 26) rfl ?_
  refine g_iloadN A412 d3_26 rfl (pc' := 27) rfl ?_
  refine g_i2d A412 d3_27 (pc' := 28) rfl ?_
  refine g_dcmp A412 d3_28 (pc' := 29) rfl ?_
  refine g_ifN A412 d3_29 (d_l_ne_f (own_self (i2d_fin i3))) (pc' := 32) rfl ?_
  refine g_iconst A412 d3_32 (v := (1 : Int32)) rfl (pc' := 33) rfl ?_
  refine g_goto A412 d3_33 (pc' := 37) rfl ?_
  exact g_ret (Q := Q3r Z a1 i1 b2 i3 a4 f k h0 n0) A412 d3_37 Bd.notSynchronized Bd.returns rfl (Or.inl ⟨rfl, by simp, _, rfl⟩) (by decide) (by decide) (by rw [e411]; exact ⟨rfl, N410, rfl⟩)
theorem ef413 (m : MethodId) (p0 : Int32) (p1 : Int32) (p2 : Int32) (p3 : Int32) : entryFrame m #[(.int p0), (.int p1), (.int p2), (.int p3)] maxLocals = mkF m 0 #[.val (.int p0), .val (.int p1), .val (.int p2), .val (.int p3), .unset, .unset, .unset, .unset, .unset, .unset, .unset] [] := by first | (simp [entryFrame, mkF, argsToLocals, Value.category, maxLocals]; done) | rfl
def Q0 (Z : State) (p0 : Int32) (p1 : Int32) (p2 : Int32) (p3 : Int32) (h0 : Heap) (n0 : Nat) (v : Option Value) (h : Heap) (L : List Loc) : Prop := v = some (.int 1) ∧ Fr n0 L
theorem pd_1 : parseMethodDescriptor "([D[Z[D[D)V" = some ⟨[(.array .double), (.array .boolean), (.array .double), (.array .double)], none⟩ := by decide +kernel
theorem pd_2 : parseMethodDescriptor "(Lcom/example/swathloom/swathloom/planning/Plan;IZI)Z" = some ⟨[(.object "com/example/swathloom/swathloom/planning/Plan"), .int, .boolean, .int], some .boolean⟩ := by decide +kernel
set_option maxRecDepth 65536 in
set_option maxHeartbeats 40000000 in
theorem rm0 (l : Launch) (Z : State) (a0 : Array Value) (hw : ∀ d ∈ tables_1, d.before a0 Z = true) (ws : List Jvm.Cond) (p0 : Int32) (p1 : Int32) (p2 : Int32) (p3 : Int32) (h0 : Heap) (n0 : Nat) (Z0 : n0 ≤ h0.size)  :
    MetFree l x (head1 (Jvm.Cond.code x code maxLocals ret :: ws) room_1) (fun a U => a = #[(.int p0), (.int p1), (.int p2), (.int p3)] ∧ Z.Warmed39 U.vm ∧ U.heap = h0) (fun _ _ _ _ _ => True) (fun _ U o U' => ∃ v L, o = .returned v ∧ Q0 Z p0 p1 p2 p3 h0 n0 v U'.heap L ∧ FrameEnd U o U' L 5 17) := by
  refine MetFree.of_bodySF (plainFor_of_name pn_1) hisR ?_
  intro p e s m args below meth c s₁ Bd hml0 hP hK
  obtain ⟨rfl, hZ, hh⟩ := hP
  have hx := Bd.exec
  have hby := Bd.bytes
  have hml : c.maxLocals = 11 := hml0
  have hown : s.vm.findClass "com/example/swathloom/swathloom/planning/PlanSelectionVelocityPinLaw" = some m.cls := findClass_of_methodNamed Bd.named
  have hnm := (name_of_methodNamed Bd.named Bd.method).1
  have X0 : Stand p l e room_1 s m #[(.int p0), (.int p1), (.int p2), (.int p3)] below meth c s₁ [] 0 0 := Stand.of_body Bd
  have e0 : s₁.heap = h0 := by rw [← hh, Bd.state]; rfl
  have N0 := Fr.nil n0
  have A0 := (⟨X0, hx, hby⟩ : Ax _ _ _ _ _ _ _ _ _ _ _ _ _ _ _)
  show Go p e below (fun U o => ∃ v L, o = .returned v ∧ Q0 Z p0 p1 p2 p3 h0 n0 v U.heap L ∧ FrameEnd s o U L 5 17) s₁ (entryFrame m #[(.int p0), (.int p1), (.int p2), (.int p3)] maxLocals)
  refine Go.cast (ef413 m p0 p1 p2 p3) ?_
  refine g_iloadN A0 at_0 rfl (pc' := 1) rfl ?_
  refine g_iconst A0 at_1 (v := (1 : Int32)) rfl (pc' := 2) rfl ?_
  refine g_iand A0 at_2 (pc' := 3) rfl ?_
  obtain ⟨v414, hv414⟩ : ∃ z : Int32, z = if ¬ ((p3 &&& (1 : Int32)) = 0) then (1 : Int32) else 0 := ⟨_, rfl⟩
  have sg415 : ∀ {P : State → Outcome → Prop}, Go p e below P s₁ (mkF m 11 #[.val (.int p0), .val (.int p1), .val (.int p2), .val (.int p3), .unset, .unset, .unset, .unset, .unset, .unset, .unset] [(.int v414)]) → Go p e below P s₁ (mkF m 3 #[.val (.int p0), .val (.int p1), .val (.int p2), .val (.int p3), .unset, .unset, .unset, .unset, .unset, .unset, .unset] [(.int (p3 &&& (1 : Int32)))]) := by
    intro P hr
    by_cases c416 : (p3 &&& (1 : Int32)) = 0
    · skip
      refine g_ifY A0 at_3 (c0_eq_t c416) (pc' := 10) rfl ?_
      refine g_iconst A0 at_10 (v := (0 : Int32)) rfl (pc' := 11) rfl ?_
      obtain rfl : v414 = (0 : Int32) := hv414.trans (if_neg (fun q => q c416))
      exact hr
    · skip
      refine g_ifN A0 at_3 (c0_eq_f c416) (pc' := 6) rfl ?_
      refine g_iconst A0 at_6 (v := (1 : Int32)) rfl (pc' := 7) rfl ?_
      refine g_goto A0 at_7 (pc' := 11) rfl ?_
      obtain rfl : v414 = (1 : Int32) := hv414.trans (if_pos c416)
      exact hr
  refine sg415 ?_
  refine g_istore A0 at_11 (ls' := #[.val (.int p0), .val (.int p1), .val (.int p2), .val (.int p3), .val (.int v414), .unset, .unset, .unset, .unset, .unset, .unset]) rfl (pc' := 13) rfl ?_
  refine g_iloadN A0 at_13 rfl (pc' := 14) rfl ?_
  refine g_iconst A0 at_14 (v := (2 : Int32)) rfl (pc' := 15) rfl ?_
  refine g_iand A0 at_15 (pc' := 16) rfl ?_
  obtain ⟨v417, hv417⟩ : ∃ z : Int32, z = if ¬ ((p3 &&& (2 : Int32)) = 0) then (1 : Int32) else 0 := ⟨_, rfl⟩
  have sg418 : ∀ {P : State → Outcome → Prop}, Go p e below P s₁ (mkF m 24 #[.val (.int p0), .val (.int p1), .val (.int p2), .val (.int p3), .val (.int v414), .unset, .unset, .unset, .unset, .unset, .unset] [(.int v417)]) → Go p e below P s₁ (mkF m 16 #[.val (.int p0), .val (.int p1), .val (.int p2), .val (.int p3), .val (.int v414), .unset, .unset, .unset, .unset, .unset, .unset] [(.int (p3 &&& (2 : Int32)))]) := by
    intro P hr
    by_cases c419 : (p3 &&& (2 : Int32)) = 0
    · skip
      refine g_ifY A0 at_16 (c0_eq_t c419) (pc' := 23) rfl ?_
      refine g_iconst A0 at_23 (v := (0 : Int32)) rfl (pc' := 24) rfl ?_
      obtain rfl : v417 = (0 : Int32) := hv417.trans (if_neg (fun q => q c419))
      exact hr
    · skip
      refine g_ifN A0 at_16 (c0_eq_f c419) (pc' := 19) rfl ?_
      refine g_iconst A0 at_19 (v := (1 : Int32)) rfl (pc' := 20) rfl ?_
      refine g_goto A0 at_20 (pc' := 24) rfl ?_
      obtain rfl : v417 = (1 : Int32) := hv417.trans (if_pos c419)
      exact hr
  refine sg418 ?_
  refine g_istore A0 at_24 (ls' := #[.val (.int p0), .val (.int p1), .val (.int p2), .val (.int p3), .val (.int v414), .val (.int v417), .unset, .unset, .unset, .unset, .unset]) rfl (pc' := 26) rfl ?_
  refine g_iconst A0 at_26 (v := (3 : Int32)) rfl (pc' := 27) rfl ?_
  obtain ⟨T420, h420, k420, X420, e420, E420, Ar420, st420⟩ := newP X0 hx hZ (hw _ (List.mem_of_getElem? (i := 0) rfl)) e0 (g := (mkF m 27 #[.val (.int p0), .val (.int p1), .val (.int p2), .val (.int p3), .val (.int v414), .val (.int v417), .unset, .unset, .unset, .unset, .unset] [(.int (3 : Int32))])) rfl (hb hby at_27) rfl (by decide) (cap := 3) (by decide) (by decide) (by decide) (by decide)
  obtain ⟨b421, eb421⟩ : ∃ z, z = h0.size := ⟨_, rfl⟩
  rw [← eb421] at Ar420 st420
  have g422 : n0 ≤ b421 := by rw [eb421]; exact Z0
  have gh423 : h0.size ≤ b421 := by rw [eb421]; exact (Keep.refl h0 []).1
  have K424 : Keep h0 h420 [] := (Keep.refl h0 []).ext E420
  have Z425 : n0 ≤ h420.size := Nat.le_trans Z0 E420.1
  have V426 : Dar Z h420 b421 .double 3 (fun _ => .double (0 : UInt64)) := Dar.new Ar420 (by decide)
  refine Go.of (g' := (mkF m 29 #[.val (.int p0), .val (.int p1), .val (.int p2), .val (.int p3), .val (.int v414), .val (.int v417), .unset, .unset, .unset, .unset, .unset] [(.ref b421)])) st420 ?_
  have A427 := (⟨X420, hx, hby⟩ : Ax _ _ _ _ _ _ _ _ _ _ _ _ _ _ _)
  refine g_dup A427 at_29 rfl (pc' := 30) rfl ?_
  refine g_iconst A427 at_30 (v := (0 : Int32)) rfl (pc' := 31) rfl ?_
  refine g_iloadN A427 at_31 rfl (pc' := 32) rfl ?_
  refine g_i2d A427 at_32 (pc' := 33) rfl ?_
  obtain ⟨T428, h428, A428, e428, W428, st428⟩ := s_dastore A427 hZ e420 (ls := #[.val (.int p0), .val (.int p1), .val (.int p2), .val (.int p3), .val (.int v414), .val (.int v417), .unset, .unset, .unset, .unset, .unset]) (st := [(.ref b421)]) (x := (FP.i2d p0)) V426 (i := 0) (by decide) (j := (0 : Int32)) rfl at_33 (pc' := 34) rfl
  have N429 := Fr.snoc A428.1 N0 g422
  have K430 : Keep h0 h428 [] := K424.wr W428 (Or.inr gh423)
  have V431 : Dar Z h428 b421 .double 3 (fun j => if j = 0 then .double (FP.i2d p0) else (fun _ => .double (0 : UInt64)) j) := Dar.set V426 W428 (fun _ _ => rfl)
  have Z432 : n0 ≤ h428.size := by rw [W428.size]; exact Z425
  refine st428 ?_
  refine g_dup A428 at_34 rfl (pc' := 35) rfl ?_
  refine g_iconst A428 at_35 (v := (1 : Int32)) rfl (pc' := 36) rfl ?_
  refine g_iloadN A428 at_36 rfl (pc' := 37) rfl ?_
  refine g_i2d A428 at_37 (pc' := 38) rfl ?_
  obtain ⟨T433, h433, A433, e433, W433, st433⟩ := s_dastore A428 hZ e428 (ls := #[.val (.int p0), .val (.int p1), .val (.int p2), .val (.int p3), .val (.int v414), .val (.int v417), .unset, .unset, .unset, .unset, .unset]) (st := [(.ref b421)]) (x := (FP.i2d p1)) V431 (i := 1) (by decide) (j := (1 : Int32)) rfl at_38 (pc' := 39) rfl
  have N434 := Fr.snoc A433.1 N429 g422
  have K435 : Keep h0 h433 [] := K430.wr W433 (Or.inr gh423)
  have V436 : Dar Z h433 b421 .double 3 (fun j => if j = 1 then .double (FP.i2d p1) else (fun j => if j = 0 then .double (FP.i2d p0) else (fun _ => .double (0 : UInt64)) j) j) := Dar.set V431 W433 (fun _ _ => rfl)
  have Z437 : n0 ≤ h433.size := by rw [W433.size]; exact Z432
  refine st433 ?_
  refine g_dup A433 at_39 rfl (pc' := 40) rfl ?_
  refine g_iconst A433 at_40 (v := (2 : Int32)) rfl (pc' := 41) rfl ?_
  refine g_iloadN A433 at_41 rfl (pc' := 42) rfl ?_
  refine g_i2d A433 at_42 (pc' := 43) rfl ?_
  obtain ⟨T438, h438, A438, e438, W438, st438⟩ := s_dastore A433 hZ e433 (ls := #[.val (.int p0), .val (.int p1), .val (.int p2), .val (.int p3), .val (.int v414), .val (.int v417), .unset, .unset, .unset, .unset, .unset]) (st := [(.ref b421)]) (x := (FP.i2d p2)) V436 (i := 2) (by decide) (j := (2 : Int32)) rfl at_43 (pc' := 44) rfl
  have N439 := Fr.snoc A438.1 N434 g422
  have K440 : Keep h0 h438 [] := K435.wr W438 (Or.inr gh423)
  have V441 : Dar Z h438 b421 .double 3 (fun j => if j = 2 then .double (FP.i2d p2) else (fun j => if j = 1 then .double (FP.i2d p1) else (fun j => if j = 0 then .double (FP.i2d p0) else (fun _ => .double (0 : UInt64)) j) j) j) := Dar.set V436 W438 (fun _ _ => rfl)
  have Z442 : n0 ≤ h438.size := by rw [W438.size]; exact Z437
  refine st438 ?_
  refine g_astore A438 at_44 rfl (ls' := #[.val (.int p0), .val (.int p1), .val (.int p2), .val (.int p3), .val (.int v414), .val (.int v417), .val (.ref b421), .unset, .unset, .unset, .unset]) rfl (pc' := 46) rfl ?_
  refine g_iconst A438 at_46 (v := (3 : Int32)) rfl (pc' := 47) rfl ?_
  obtain ⟨T443, h443, k443, X443, e443, E443, Ar443, st443⟩ := newP A438.1 hx hZ (hw _ (List.mem_of_getElem? (i := 0) rfl)) e438 (g := (mkF m 47 #[.val (.int p0), .val (.int p1), .val (.int p2), .val (.int p3), .val (.int v414), .val (.int v417), .val (.ref b421), .unset, .unset, .unset, .unset] [(.int (3 : Int32))])) rfl (hb hby at_47) rfl (by decide) (cap := 3) (by decide) (by decide) (by decide) (by decide)
  obtain ⟨b444, eb444⟩ : ∃ z, z = h438.size := ⟨_, rfl⟩
  rw [← eb444] at Ar443 st443
  have ne445 : b421 ≠ b444 := own_ne eb444 V441.lt
  have g446 : n0 ≤ b444 := by rw [eb444]; exact Z442
  have gh447 : h0.size ≤ b444 := by rw [eb444]; exact K440.1
  have K448 : Keep h0 h443 [] := K440.ext E443
  have V449 : Dar Z h443 b421 .double 3 (fun j => if j = 2 then .double (FP.i2d p2) else (fun j => if j = 1 then .double (FP.i2d p1) else (fun j => if j = 0 then .double (FP.i2d p0) else (fun _ => .double (0 : UInt64)) j) j) j) := Dar.ext E443 V441
  have Z450 : n0 ≤ h443.size := Nat.le_trans Z442 E443.1
  have V451 : Dar Z h443 b444 .double 3 (fun _ => .double (0 : UInt64)) := Dar.new Ar443 (by decide)
  refine Go.of (g' := (mkF m 49 #[.val (.int p0), .val (.int p1), .val (.int p2), .val (.int p3), .val (.int v414), .val (.int v417), .val (.ref b421), .unset, .unset, .unset, .unset] [(.ref b444)])) st443 ?_
  have A452 := (⟨X443, hx, hby⟩ : Ax _ _ _ _ _ _ _ _ _ _ _ _ _ _ _)
  refine g_dup A452 at_49 rfl (pc' := 50) rfl ?_
  refine g_iconst A452 at_50 (v := (0 : Int32)) rfl (pc' := 51) rfl ?_
  refine g_iloadN A452 at_51 rfl (pc' := 52) rfl ?_
  refine g_i2d A452 at_52 (pc' := 53) rfl ?_
  refine g_dneg A452 at_53 (pc' := 54) rfl ?_
  refine g_dconst1 A452 at_54 (pc' := 55) rfl ?_
  refine g_dsub A452 at_55 (own_ndsub (own_fneg (i2d_fin p0)) (by unfold Fin64; decide : Fin64 (4607182418800017408 : UInt64))) (pc' := 56) rfl ?_
  obtain ⟨T453, h453, A453, e453, W453, st453⟩ := s_dastore A452 hZ e443 (ls := #[.val (.int p0), .val (.int p1), .val (.int p2), .val (.int p3), .val (.int v414), .val (.int v417), .val (.ref b421), .unset, .unset, .unset, .unset]) (st := [(.ref b444)]) (x := (FP.dsub (FP.dneg (FP.i2d p0)) (4607182418800017408 : UInt64))) V451 (i := 0) (by decide) (j := (0 : Int32)) rfl at_56 (pc' := 57) rfl
  have N454 := Fr.snoc A453.1 N439 g446
  have K455 : Keep h0 h453 [] := K448.wr W453 (Or.inr gh447)
  have V456 : Dar Z h453 b421 .double 3 (fun j => if j = 2 then .double (FP.i2d p2) else (fun j => if j = 1 then .double (FP.i2d p1) else (fun j => if j = 0 then .double (FP.i2d p0) else (fun _ => .double (0 : UInt64)) j) j) j) := Dar.other W453 V449 ne445
  have V457 : Dar Z h453 b444 .double 3 (fun j => if j = 0 then .double (FP.dsub (FP.dneg (FP.i2d p0)) (4607182418800017408 : UInt64)) else (fun _ => .double (0 : UInt64)) j) := Dar.set V451 W453 (fun _ _ => rfl)
  have Z458 : n0 ≤ h453.size := by rw [W453.size]; exact Z450
  refine st453 ?_
  refine g_dup A453 at_57 rfl (pc' := 58) rfl ?_
  refine g_iconst A453 at_58 (v := (1 : Int32)) rfl (pc' := 59) rfl ?_
  refine g_iloadN A453 at_59 rfl (pc' := 60) rfl ?_
  refine g_i2d A453 at_60 (pc' := 61) rfl ?_
  refine g_dneg A453 at_61 (pc' := 62) rfl ?_
  refine g_dconst1 A453 at_62 (pc' := 63) rfl ?_
  refine g_dsub A453 at_63 (own_ndsub (own_fneg (i2d_fin p1)) (by unfold Fin64; decide : Fin64 (4607182418800017408 : UInt64))) (pc' := 64) rfl ?_
  obtain ⟨T459, h459, A459, e459, W459, st459⟩ := s_dastore A453 hZ e453 (ls := #[.val (.int p0), .val (.int p1), .val (.int p2), .val (.int p3), .val (.int v414), .val (.int v417), .val (.ref b421), .unset, .unset, .unset, .unset]) (st := [(.ref b444)]) (x := (FP.dsub (FP.dneg (FP.i2d p1)) (4607182418800017408 : UInt64))) V457 (i := 1) (by decide) (j := (1 : Int32)) rfl at_64 (pc' := 65) rfl
  have N460 := Fr.snoc A459.1 N454 g446
  have K461 : Keep h0 h459 [] := K455.wr W459 (Or.inr gh447)
  have V462 : Dar Z h459 b421 .double 3 (fun j => if j = 2 then .double (FP.i2d p2) else (fun j => if j = 1 then .double (FP.i2d p1) else (fun j => if j = 0 then .double (FP.i2d p0) else (fun _ => .double (0 : UInt64)) j) j) j) := Dar.other W459 V456 ne445
  have V463 : Dar Z h459 b444 .double 3 (fun j => if j = 1 then .double (FP.dsub (FP.dneg (FP.i2d p1)) (4607182418800017408 : UInt64)) else (fun j => if j = 0 then .double (FP.dsub (FP.dneg (FP.i2d p0)) (4607182418800017408 : UInt64)) else (fun _ => .double (0 : UInt64)) j) j) := Dar.set V457 W459 (fun _ _ => rfl)
  have Z464 : n0 ≤ h459.size := by rw [W459.size]; exact Z458
  refine st459 ?_
  refine g_dup A459 at_65 rfl (pc' := 66) rfl ?_
  refine g_iconst A459 at_66 (v := (2 : Int32)) rfl (pc' := 67) rfl ?_
  refine g_iloadN A459 at_67 rfl (pc' := 68) rfl ?_
  refine g_i2d A459 at_68 (pc' := 69) rfl ?_
  refine g_dneg A459 at_69 (pc' := 70) rfl ?_
  refine g_dconst1 A459 at_70 (pc' := 71) rfl ?_
  refine g_dsub A459 at_71 (own_ndsub (own_fneg (i2d_fin p2)) (by unfold Fin64; decide : Fin64 (4607182418800017408 : UInt64))) (pc' := 72) rfl ?_
  obtain ⟨T465, h465, A465, e465, W465, st465⟩ := s_dastore A459 hZ e459 (ls := #[.val (.int p0), .val (.int p1), .val (.int p2), .val (.int p3), .val (.int v414), .val (.int v417), .val (.ref b421), .unset, .unset, .unset, .unset]) (st := [(.ref b444)]) (x := (FP.dsub (FP.dneg (FP.i2d p2)) (4607182418800017408 : UInt64))) V463 (i := 2) (by decide) (j := (2 : Int32)) rfl at_72 (pc' := 73) rfl
  have N466 := Fr.snoc A465.1 N460 g446
  have K467 : Keep h0 h465 [] := K461.wr W465 (Or.inr gh447)
  have V468 : Dar Z h465 b421 .double 3 (fun j => if j = 2 then .double (FP.i2d p2) else (fun j => if j = 1 then .double (FP.i2d p1) else (fun j => if j = 0 then .double (FP.i2d p0) else (fun _ => .double (0 : UInt64)) j) j) j) := Dar.other W465 V462 ne445
  have V469 : Dar Z h465 b444 .double 3 (fun j => if j = 2 then .double (FP.dsub (FP.dneg (FP.i2d p2)) (4607182418800017408 : UInt64)) else (fun j => if j = 1 then .double (FP.dsub (FP.dneg (FP.i2d p1)) (4607182418800017408 : UInt64)) else (fun j => if j = 0 then .double (FP.dsub (FP.dneg (FP.i2d p0)) (4607182418800017408 : UInt64)) else (fun _ => .double (0 : UInt64)) j) j) j) := Dar.set V463 W465 (fun _ _ => rfl)
  have Z470 : n0 ≤ h465.size := by rw [W465.size]; exact Z464
  refine st465 ?_
  refine g_astore A465 at_73 rfl (ls' := #[.val (.int p0), .val (.int p1), .val (.int p2), .val (.int p3), .val (.int v414), .val (.int v417), .val (.ref b421), .val (.ref b444), .unset, .unset, .unset]) rfl (pc' := 75) rfl ?_
  refine g_iconst A465 at_75 (v := (3 : Int32)) rfl (pc' := 76) rfl ?_
  obtain ⟨T471, h471, k471, X471, e471, E471, Ar471, st471⟩ := newP A465.1 hx hZ (hw _ (List.mem_of_getElem? (i := 0) rfl)) e465 (g := (mkF m 76 #[.val (.int p0), .val (.int p1), .val (.int p2), .val (.int p3), .val (.int v414), .val (.int v417), .val (.ref b421), .val (.ref b444), .unset, .unset, .unset] [(.int (3 : Int32))])) rfl (hb hby at_76) rfl (by decide) (cap := 3) (by decide) (by decide) (by decide) (by decide)
  obtain ⟨b472, eb472⟩ : ∃ z, z = h465.size := ⟨_, rfl⟩
  rw [← eb472] at Ar471 st471
  have ne473 : b421 ≠ b472 := own_ne eb472 V468.lt
  have ne474 : b444 ≠ b472 := own_ne eb472 V469.lt
  have g475 : n0 ≤ b472 := by rw [eb472]; exact Z470
  have gh476 : h0.size ≤ b472 := by rw [eb472]; exact K467.1
  have K477 : Keep h0 h471 [] := K467.ext E471
  have V478 : Dar Z h471 b421 .double 3 (fun j => if j = 2 then .double (FP.i2d p2) else (fun j => if j = 1 then .double (FP.i2d p1) else (fun j => if j = 0 then .double (FP.i2d p0) else (fun _ => .double (0 : UInt64)) j) j) j) := Dar.ext E471 V468
  have V479 : Dar Z h471 b444 .double 3 (fun j => if j = 2 then .double (FP.dsub (FP.dneg (FP.i2d p2)) (4607182418800017408 : UInt64)) else (fun j => if j = 1 then .double (FP.dsub (FP.dneg (FP.i2d p1)) (4607182418800017408 : UInt64)) else (fun j => if j = 0 then .double (FP.dsub (FP.dneg (FP.i2d p0)) (4607182418800017408 : UInt64)) else (fun _ => .double (0 : UInt64)) j) j) j) := Dar.ext E471 V469
  have Z480 : n0 ≤ h471.size := Nat.le_trans Z470 E471.1
  have V481 : Dar Z h471 b472 .double 3 (fun _ => .double (0 : UInt64)) := Dar.new Ar471 (by decide)
  refine Go.of (g' := (mkF m 78 #[.val (.int p0), .val (.int p1), .val (.int p2), .val (.int p3), .val (.int v414), .val (.int v417), .val (.ref b421), .val (.ref b444), .unset, .unset, .unset] [(.ref b472)])) st471 ?_
  have A482 := (⟨X471, hx, hby⟩ : Ax _ _ _ _ _ _ _ _ _ _ _ _ _ _ _)
  refine g_dup A482 at_78 rfl (pc' := 79) rfl ?_
  refine g_iconst A482 at_79 (v := (0 : Int32)) rfl (pc' := 80) rfl ?_
  refine g_iloadN A482 at_80 rfl (pc' := 81) rfl ?_
  refine g_i2d A482 at_81 (pc' := 82) rfl ?_
  refine g_ldcD A482 hZ hown (hw _ (List.mem_of_getElem? (i := 1) rfl)) at_82 (pc' := 85) rfl ?_
  refine g_dadd A482 at_85 (own_ndadd (i2d_fin p0) (by unfold Fin64; decide : Fin64 (4602678819172646912 : UInt64))) (pc' := 86) rfl ?_
  obtain ⟨T483, h483, A483, e483, W483, st483⟩ := s_dastore A482 hZ e471 (ls := #[.val (.int p0), .val (.int p1), .val (.int p2), .val (.int p3), .val (.int v414), .val (.int v417), .val (.ref b421), .val (.ref b444), .unset, .unset, .unset]) (st := [(.ref b472)]) (x := (FP.dadd (FP.i2d p0) (4602678819172646912 : UInt64))) V481 (i := 0) (by decide) (j := (0 : Int32)) rfl at_86 (pc' := 87) rfl
  have N484 := Fr.snoc A483.1 N466 g475
  have K485 : Keep h0 h483 [] := K477.wr W483 (Or.inr gh476)
  have V486 : Dar Z h483 b421 .double 3 (fun j => if j = 2 then .double (FP.i2d p2) else (fun j => if j = 1 then .double (FP.i2d p1) else (fun j => if j = 0 then .double (FP.i2d p0) else (fun _ => .double (0 : UInt64)) j) j) j) := Dar.other W483 V478 ne473
  have V487 : Dar Z h483 b444 .double 3 (fun j => if j = 2 then .double (FP.dsub (FP.dneg (FP.i2d p2)) (4607182418800017408 : UInt64)) else (fun j => if j = 1 then .double (FP.dsub (FP.dneg (FP.i2d p1)) (4607182418800017408 : UInt64)) else (fun j => if j = 0 then .double (FP.dsub (FP.dneg (FP.i2d p0)) (4607182418800017408 : UInt64)) else (fun _ => .double (0 : UInt64)) j) j) j) := Dar.other W483 V479 ne474
  have V488 : Dar Z h483 b472 .double 3 (fun j => if j = 0 then .double (FP.dadd (FP.i2d p0) (4602678819172646912 : UInt64)) else (fun _ => .double (0 : UInt64)) j) := Dar.set V481 W483 (fun _ _ => rfl)
  have Z489 : n0 ≤ h483.size := by rw [W483.size]; exact Z480
  refine st483 ?_
  refine g_dup A483 at_87 rfl (pc' := 88) rfl ?_
  refine g_iconst A483 at_88 (v := (1 : Int32)) rfl (pc' := 89) rfl ?_
  refine g_iloadN A483 at_89 rfl (pc' := 90) rfl ?_
  refine g_i2d A483 at_90 (pc' := 91) rfl ?_
  refine g_ldcD A483 hZ hown (hw _ (List.mem_of_getElem? (i := 1) rfl)) at_91 (pc' := 94) rfl ?_
  refine g_dadd A483 at_94 (own_ndadd (i2d_fin p1) (by unfold Fin64; decide : Fin64 (4602678819172646912 : UInt64))) (pc' := 95) rfl ?_
  obtain ⟨T490, h490, A490, e490, W490, st490⟩ := s_dastore A483 hZ e483 (ls := #[.val (.int p0), .val (.int p1), .val (.int p2), .val (.int p3), .val (.int v414), .val (.int v417), .val (.ref b421), .val (.ref b444), .unset, .unset, .unset]) (st := [(.ref b472)]) (x := (FP.dadd (FP.i2d p1) (4602678819172646912 : UInt64))) V488 (i := 1) (by decide) (j := (1 : Int32)) rfl at_95 (pc' := 96) rfl
  have N491 := Fr.snoc A490.1 N484 g475
  have K492 : Keep h0 h490 [] := K485.wr W490 (Or.inr gh476)
  have V493 : Dar Z h490 b421 .double 3 (fun j => if j = 2 then .double (FP.i2d p2) else (fun j => if j = 1 then .double (FP.i2d p1) else (fun j => if j = 0 then .double (FP.i2d p0) else (fun _ => .double (0 : UInt64)) j) j) j) := Dar.other W490 V486 ne473
  have V494 : Dar Z h490 b444 .double 3 (fun j => if j = 2 then .double (FP.dsub (FP.dneg (FP.i2d p2)) (4607182418800017408 : UInt64)) else (fun j => if j = 1 then .double (FP.dsub (FP.dneg (FP.i2d p1)) (4607182418800017408 : UInt64)) else (fun j => if j = 0 then .double (FP.dsub (FP.dneg (FP.i2d p0)) (4607182418800017408 : UInt64)) else (fun _ => .double (0 : UInt64)) j) j) j) := Dar.other W490 V487 ne474
  have V495 : Dar Z h490 b472 .double 3 (fun j => if j = 1 then .double (FP.dadd (FP.i2d p1) (4602678819172646912 : UInt64)) else (fun j => if j = 0 then .double (FP.dadd (FP.i2d p0) (4602678819172646912 : UInt64)) else (fun _ => .double (0 : UInt64)) j) j) := Dar.set V488 W490 (fun _ _ => rfl)
  have Z496 : n0 ≤ h490.size := by rw [W490.size]; exact Z489
  refine st490 ?_
  refine g_dup A490 at_96 rfl (pc' := 97) rfl ?_
  refine g_iconst A490 at_97 (v := (2 : Int32)) rfl (pc' := 98) rfl ?_
  refine g_iloadN A490 at_98 rfl (pc' := 99) rfl ?_
  refine g_i2d A490 at_99 (pc' := 100) rfl ?_
  refine g_ldcD A490 hZ hown (hw _ (List.mem_of_getElem? (i := 1) rfl)) at_100 (pc' := 103) rfl ?_
  refine g_dadd A490 at_103 (own_ndadd (i2d_fin p2) (by unfold Fin64; decide : Fin64 (4602678819172646912 : UInt64))) (pc' := 104) rfl ?_
  obtain ⟨T497, h497, A497, e497, W497, st497⟩ := s_dastore A490 hZ e490 (ls := #[.val (.int p0), .val (.int p1), .val (.int p2), .val (.int p3), .val (.int v414), .val (.int v417), .val (.ref b421), .val (.ref b444), .unset, .unset, .unset]) (st := [(.ref b472)]) (x := (FP.dadd (FP.i2d p2) (4602678819172646912 : UInt64))) V495 (i := 2) (by decide) (j := (2 : Int32)) rfl at_104 (pc' := 105) rfl
  have N498 := Fr.snoc A497.1 N491 g475
  have K499 : Keep h0 h497 [] := K492.wr W497 (Or.inr gh476)
  have V500 : Dar Z h497 b421 .double 3 (fun j => if j = 2 then .double (FP.i2d p2) else (fun j => if j = 1 then .double (FP.i2d p1) else (fun j => if j = 0 then .double (FP.i2d p0) else (fun _ => .double (0 : UInt64)) j) j) j) := Dar.other W497 V493 ne473
  have V501 : Dar Z h497 b444 .double 3 (fun j => if j = 2 then .double (FP.dsub (FP.dneg (FP.i2d p2)) (4607182418800017408 : UInt64)) else (fun j => if j = 1 then .double (FP.dsub (FP.dneg (FP.i2d p1)) (4607182418800017408 : UInt64)) else (fun j => if j = 0 then .double (FP.dsub (FP.dneg (FP.i2d p0)) (4607182418800017408 : UInt64)) else (fun _ => .double (0 : UInt64)) j) j) j) := Dar.other W497 V494 ne474
  have V502 : Dar Z h497 b472 .double 3 (fun j => if j = 2 then .double (FP.dadd (FP.i2d p2) (4602678819172646912 : UInt64)) else (fun j => if j = 1 then .double (FP.dadd (FP.i2d p1) (4602678819172646912 : UInt64)) else (fun j => if j = 0 then .double (FP.dadd (FP.i2d p0) (4602678819172646912 : UInt64)) else (fun _ => .double (0 : UInt64)) j) j) j) := Dar.set V495 W497 (fun _ _ => rfl)
  have Z503 : n0 ≤ h497.size := by rw [W497.size]; exact Z496
  refine st497 ?_
  refine g_astore A497 at_105 rfl (ls' := #[.val (.int p0), .val (.int p1), .val (.int p2), .val (.int p3), .val (.int v414), .val (.int v417), .val (.ref b421), .val (.ref b444), .val (.ref b472), .unset, .unset]) rfl (pc' := 107) rfl ?_
  refine g_iconst A497 at_107 (v := (3 : Int32)) rfl (pc' := 108) rfl ?_
  obtain ⟨T504, h504, k504, X504, e504, E504, Ar504, st504⟩ := newP A497.1 hx hZ (hw _ (List.mem_of_getElem? (i := 2) rfl)) e497 (g := (mkF m 108 #[.val (.int p0), .val (.int p1), .val (.int p2), .val (.int p3), .val (.int v414), .val (.int v417), .val (.ref b421), .val (.ref b444), .val (.ref b472), .unset, .unset] [(.int (3 : Int32))])) rfl (hb hby at_108) rfl (by decide) (cap := 3) (by decide) (by decide) (by decide) (by decide)
  obtain ⟨b505, eb505⟩ : ∃ z, z = h497.size := ⟨_, rfl⟩
  rw [← eb505] at Ar504 st504
  have ne506 : b421 ≠ b505 := own_ne eb505 V500.lt
  have ne507 : b444 ≠ b505 := own_ne eb505 V501.lt
  have ne508 : b472 ≠ b505 := own_ne eb505 V502.lt
  have g509 : n0 ≤ b505 := by rw [eb505]; exact Z503
  have gh510 : h0.size ≤ b505 := by rw [eb505]; exact K499.1
  have K511 : Keep h0 h504 [] := K499.ext E504
  have V512 : Dar Z h504 b421 .double 3 (fun j => if j = 2 then .double (FP.i2d p2) else (fun j => if j = 1 then .double (FP.i2d p1) else (fun j => if j = 0 then .double (FP.i2d p0) else (fun _ => .double (0 : UInt64)) j) j) j) := Dar.ext E504 V500
  have V513 : Dar Z h504 b444 .double 3 (fun j => if j = 2 then .double (FP.dsub (FP.dneg (FP.i2d p2)) (4607182418800017408 : UInt64)) else (fun j => if j = 1 then .double (FP.dsub (FP.dneg (FP.i2d p1)) (4607182418800017408 : UInt64)) else (fun j => if j = 0 then .double (FP.dsub (FP.dneg (FP.i2d p0)) (4607182418800017408 : UInt64)) else (fun _ => .double (0 : UInt64)) j) j) j) := Dar.ext E504 V501
  have V514 : Dar Z h504 b472 .double 3 (fun j => if j = 2 then .double (FP.dadd (FP.i2d p2) (4602678819172646912 : UInt64)) else (fun j => if j = 1 then .double (FP.dadd (FP.i2d p1) (4602678819172646912 : UInt64)) else (fun j => if j = 0 then .double (FP.dadd (FP.i2d p0) (4602678819172646912 : UInt64)) else (fun _ => .double (0 : UInt64)) j) j) j) := Dar.ext E504 V502
  have Z515 : n0 ≤ h504.size := Nat.le_trans Z503 E504.1
  have V516 : Dar Z h504 b505 .boolean 3 (fun _ => .int (0 : Int32)) := Dar.new Ar504 (by decide)
  refine Go.of (g' := (mkF m 110 #[.val (.int p0), .val (.int p1), .val (.int p2), .val (.int p3), .val (.int v414), .val (.int v417), .val (.ref b421), .val (.ref b444), .val (.ref b472), .unset, .unset] [(.ref b505)])) st504 ?_
  have A517 := (⟨X504, hx, hby⟩ : Ax _ _ _ _ _ _ _ _ _ _ _ _ _ _ _)
  refine g_dup A517 at_110 rfl (pc' := 111) rfl ?_
  refine g_iconst A517 at_111 (v := (0 : Int32)) rfl (pc' := 112) rfl ?_
  refine g_iloadN A517 at_112 rfl (pc' := 113) rfl ?_
  refine g_iconst A517 at_113 (v := (4 : Int32)) rfl (pc' := 114) rfl ?_
  refine g_iand A517 at_114 (pc' := 115) rfl ?_
  obtain ⟨v518, hv518⟩ : ∃ z : Int32, z = if ¬ ((p3 &&& (4 : Int32)) = 0) then (1 : Int32) else 0 := ⟨_, rfl⟩
  have sg519 : ∀ {P : State → Outcome → Prop}, Go p e below P T504 (mkF m 123 #[.val (.int p0), .val (.int p1), .val (.int p2), .val (.int p3), .val (.int v414), .val (.int v417), .val (.ref b421), .val (.ref b444), .val (.ref b472), .unset, .unset] [(.int v518), (.int (0 : Int32)), (.ref b505), (.ref b505)]) → Go p e below P T504 (mkF m 115 #[.val (.int p0), .val (.int p1), .val (.int p2), .val (.int p3), .val (.int v414), .val (.int v417), .val (.ref b421), .val (.ref b444), .val (.ref b472), .unset, .unset] [(.int (p3 &&& (4 : Int32))), (.int (0 : Int32)), (.ref b505), (.ref b505)]) := by
    intro P hr
    by_cases c520 : (p3 &&& (4 : Int32)) = 0
    · skip
      refine g_ifY A517 at_115 (c0_eq_t c520) (pc' := 122) rfl ?_
      refine g_iconst A517 at_122 (v := (0 : Int32)) rfl (pc' := 123) rfl ?_
      obtain rfl : v518 = (0 : Int32) := hv518.trans (if_neg (fun q => q c520))
      exact hr
    · skip
      refine g_ifN A517 at_115 (c0_eq_f c520) (pc' := 118) rfl ?_
      refine g_iconst A517 at_118 (v := (1 : Int32)) rfl (pc' := 119) rfl ?_
      refine g_goto A517 at_119 (pc' := 123) rfl ?_
      obtain rfl : v518 = (1 : Int32) := hv518.trans (if_pos c520)
      exact hr
  refine sg519 ?_
  obtain ⟨T521, h521, A521, e521, W521, st521⟩ := s_zastore A517 hZ e504 (ls := #[.val (.int p0), .val (.int p1), .val (.int p2), .val (.int p3), .val (.int v414), .val (.int v417), .val (.ref b421), .val (.ref b444), .val (.ref b472), .unset, .unset]) (st := [(.ref b505)]) (x := v518) V516 (i := 0) (by decide) (j := (0 : Int32)) rfl (own_b01 hv518) at_123 (pc' := 124) rfl
  have N522 := Fr.snoc A521.1 N498 g509
  have K523 : Keep h0 h521 [] := K511.wr W521 (Or.inr gh510)
  have V524 : Dar Z h521 b421 .double 3 (fun j => if j = 2 then .double (FP.i2d p2) else (fun j => if j = 1 then .double (FP.i2d p1) else (fun j => if j = 0 then .double (FP.i2d p0) else (fun _ => .double (0 : UInt64)) j) j) j) := Dar.other W521 V512 ne506
  have V525 : Dar Z h521 b444 .double 3 (fun j => if j = 2 then .double (FP.dsub (FP.dneg (FP.i2d p2)) (4607182418800017408 : UInt64)) else (fun j => if j = 1 then .double (FP.dsub (FP.dneg (FP.i2d p1)) (4607182418800017408 : UInt64)) else (fun j => if j = 0 then .double (FP.dsub (FP.dneg (FP.i2d p0)) (4607182418800017408 : UInt64)) else (fun _ => .double (0 : UInt64)) j) j) j) := Dar.other W521 V513 ne507
  have V526 : Dar Z h521 b472 .double 3 (fun j => if j = 2 then .double (FP.dadd (FP.i2d p2) (4602678819172646912 : UInt64)) else (fun j => if j = 1 then .double (FP.dadd (FP.i2d p1) (4602678819172646912 : UInt64)) else (fun j => if j = 0 then .double (FP.dadd (FP.i2d p0) (4602678819172646912 : UInt64)) else (fun _ => .double (0 : UInt64)) j) j) j) := Dar.other W521 V514 ne508
  have V527 : Dar Z h521 b505 .boolean 3 (fun j => if j = 0 then .int v518 else (fun _ => .int (0 : Int32)) j) := Dar.set V516 W521 (fun _ _ => rfl)
  have Z528 : n0 ≤ h521.size := by rw [W521.size]; exact Z515
  refine st521 ?_
  refine g_dup A521 at_124 rfl (pc' := 125) rfl ?_
  refine g_iconst A521 at_125 (v := (1 : Int32)) rfl (pc' := 126) rfl ?_
  refine g_iloadN A521 at_126 rfl (pc' := 127) rfl ?_
  refine g_bipush A521 at_127 (v := (8 : Int32)) rfl (pc' := 129) rfl ?_
  refine g_iand A521 at_129 (pc' := 130) rfl ?_
  obtain ⟨v529, hv529⟩ : ∃ z : Int32, z = if ¬ ((p3 &&& (8 : Int32)) = 0) then (1 : Int32) else 0 := ⟨_, rfl⟩
  have sg530 : ∀ {P : State → Outcome → Prop}, Go p e below P T521 (mkF m 138 #[.val (.int p0), .val (.int p1), .val (.int p2), .val (.int p3), .val (.int v414), .val (.int v417), .val (.ref b421), .val (.ref b444), .val (.ref b472), .unset, .unset] [(.int v529), (.int (1 : Int32)), (.ref b505), (.ref b505)]) → Go p e below P T521 (mkF m 130 #[.val (.int p0), .val (.int p1), .val (.int p2), .val (.int p3), .val (.int v414), .val (.int v417), .val (.ref b421), .val (.ref b444), .val (.ref b472), .unset, .unset] [(.int (p3 &&& (8 : Int32))), (.int (1 : Int32)), (.ref b505), (.ref b505)]) := by
    intro P hr
    by_cases c531 : (p3 &&& (8 : Int32)) = 0
    · skip
      refine g_ifY A521 at_130 (c0_eq_t c531) (pc' := 137) rfl ?_
      refine g_iconst A521 at_137 (v := (0 : Int32)) rfl (pc' := 138) rfl ?_
      obtain rfl : v529 = (0 : Int32) := hv529.trans (if_neg (fun q => q c531))
      exact hr
    · skip
      refine g_ifN A521 at_130 (c0_eq_f c531) (pc' := 133) rfl ?_
      refine g_iconst A521 at_133 (v := (1 : Int32)) rfl (pc' := 134) rfl ?_
      refine g_goto A521 at_134 (pc' := 138) rfl ?_
      obtain rfl : v529 = (1 : Int32) := hv529.trans (if_pos c531)
      exact hr
  refine sg530 ?_
  obtain ⟨T532, h532, A532, e532, W532, st532⟩ := s_zastore A521 hZ e521 (ls := #[.val (.int p0), .val (.int p1), .val (.int p2), .val (.int p3), .val (.int v414), .val (.int v417), .val (.ref b421), .val (.ref b444), .val (.ref b472), .unset, .unset]) (st := [(.ref b505)]) (x := v529) V527 (i := 1) (by decide) (j := (1 : Int32)) rfl (own_b01 hv529) at_138 (pc' := 139) rfl
  have N533 := Fr.snoc A532.1 N522 g509
  have K534 : Keep h0 h532 [] := K523.wr W532 (Or.inr gh510)
  have V535 : Dar Z h532 b421 .double 3 (fun j => if j = 2 then .double (FP.i2d p2) else (fun j => if j = 1 then .double (FP.i2d p1) else (fun j => if j = 0 then .double (FP.i2d p0) else (fun _ => .double (0 : UInt64)) j) j) j) := Dar.other W532 V524 ne506
  have V536 : Dar Z h532 b444 .double 3 (fun j => if j = 2 then .double (FP.dsub (FP.dneg (FP.i2d p2)) (4607182418800017408 : UInt64)) else (fun j => if j = 1 then .double (FP.dsub (FP.dneg (FP.i2d p1)) (4607182418800017408 : UInt64)) else (fun j => if j = 0 then .double (FP.dsub (FP.dneg (FP.i2d p0)) (4607182418800017408 : UInt64)) else (fun _ => .double (0 : UInt64)) j) j) j) := Dar.other W532 V525 ne507
  have V537 : Dar Z h532 b472 .double 3 (fun j => if j = 2 then .double (FP.dadd (FP.i2d p2) (4602678819172646912 : UInt64)) else (fun j => if j = 1 then .double (FP.dadd (FP.i2d p1) (4602678819172646912 : UInt64)) else (fun j => if j = 0 then .double (FP.dadd (FP.i2d p0) (4602678819172646912 : UInt64)) else (fun _ => .double (0 : UInt64)) j) j) j) := Dar.other W532 V526 ne508
  have V538 : Dar Z h532 b505 .boolean 3 (fun j => if j = 1 then .int v529 else (fun j => if j = 0 then .int v518 else (fun _ => .int (0 : Int32)) j) j) := Dar.set V527 W532 (fun _ _ => rfl)
  have Z539 : n0 ≤ h532.size := by rw [W532.size]; exact Z528
  refine st532 ?_
  refine g_dup A532 at_139 rfl (pc' := 140) rfl ?_
  refine g_iconst A532 at_140 (v := (2 : Int32)) rfl (pc' := 141) rfl ?_
  refine g_iloadN A532 at_141 rfl (pc' := 142) rfl ?_
  refine g_bipush A532 at_142 (v := (16 : Int32)) rfl (pc' := 144) rfl ?_
  refine g_iand A532 at_144 (pc' := 145) rfl ?_
  obtain ⟨v540, hv540⟩ : ∃ z : Int32, z = if ¬ ((p3 &&& (16 : Int32)) = 0) then (1 : Int32) else 0 := ⟨_, rfl⟩
  have sg541 : ∀ {P : State → Outcome → Prop}, Go p e below P T532 (mkF m 153 #[.val (.int p0), .val (.int p1), .val (.int p2), .val (.int p3), .val (.int v414), .val (.int v417), .val (.ref b421), .val (.ref b444), .val (.ref b472), .unset, .unset] [(.int v540), (.int (2 : Int32)), (.ref b505), (.ref b505)]) → Go p e below P T532 (mkF m 145 #[.val (.int p0), .val (.int p1), .val (.int p2), .val (.int p3), .val (.int v414), .val (.int v417), .val (.ref b421), .val (.ref b444), .val (.ref b472), .unset, .unset] [(.int (p3 &&& (16 : Int32))), (.int (2 : Int32)), (.ref b505), (.ref b505)]) := by
    intro P hr
    by_cases c542 : (p3 &&& (16 : Int32)) = 0
    · skip
      refine g_ifY A532 at_145 (c0_eq_t c542) (pc' := 152) rfl ?_
      refine g_iconst A532 at_152 (v := (0 : Int32)) rfl (pc' := 153) rfl ?_
      obtain rfl : v540 = (0 : Int32) := hv540.trans (if_neg (fun q => q c542))
      exact hr
    · skip
      refine g_ifN A532 at_145 (c0_eq_f c542) (pc' := 148) rfl ?_
      refine g_iconst A532 at_148 (v := (1 : Int32)) rfl (pc' := 149) rfl ?_
      refine g_goto A532 at_149 (pc' := 153) rfl ?_
      obtain rfl : v540 = (1 : Int32) := hv540.trans (if_pos c542)
      exact hr
  refine sg541 ?_
  obtain ⟨T543, h543, A543, e543, W543, st543⟩ := s_zastore A532 hZ e532 (ls := #[.val (.int p0), .val (.int p1), .val (.int p2), .val (.int p3), .val (.int v414), .val (.int v417), .val (.ref b421), .val (.ref b444), .val (.ref b472), .unset, .unset]) (st := [(.ref b505)]) (x := v540) V538 (i := 2) (by decide) (j := (2 : Int32)) rfl (own_b01 hv540) at_153 (pc' := 154) rfl
  have N544 := Fr.snoc A543.1 N533 g509
  have K545 : Keep h0 h543 [] := K534.wr W543 (Or.inr gh510)
  have V546 : Dar Z h543 b421 .double 3 (fun j => if j = 2 then .double (FP.i2d p2) else (fun j => if j = 1 then .double (FP.i2d p1) else (fun j => if j = 0 then .double (FP.i2d p0) else (fun _ => .double (0 : UInt64)) j) j) j) := Dar.other W543 V535 ne506
  have V547 : Dar Z h543 b444 .double 3 (fun j => if j = 2 then .double (FP.dsub (FP.dneg (FP.i2d p2)) (4607182418800017408 : UInt64)) else (fun j => if j = 1 then .double (FP.dsub (FP.dneg (FP.i2d p1)) (4607182418800017408 : UInt64)) else (fun j => if j = 0 then .double (FP.dsub (FP.dneg (FP.i2d p0)) (4607182418800017408 : UInt64)) else (fun _ => .double (0 : UInt64)) j) j) j) := Dar.other W543 V536 ne507
  have V548 : Dar Z h543 b472 .double 3 (fun j => if j = 2 then .double (FP.dadd (FP.i2d p2) (4602678819172646912 : UInt64)) else (fun j => if j = 1 then .double (FP.dadd (FP.i2d p1) (4602678819172646912 : UInt64)) else (fun j => if j = 0 then .double (FP.dadd (FP.i2d p0) (4602678819172646912 : UInt64)) else (fun _ => .double (0 : UInt64)) j) j) j) := Dar.other W543 V537 ne508
  have V549 : Dar Z h543 b505 .boolean 3 (fun j => if j = 2 then .int v540 else (fun j => if j = 1 then .int v529 else (fun j => if j = 0 then .int v518 else (fun _ => .int (0 : Int32)) j) j) j) := Dar.set V538 W543 (fun _ _ => rfl)
  have Z550 : n0 ≤ h543.size := by rw [W543.size]; exact Z539
  refine st543 ?_
  refine g_astore A543 at_154 rfl (ls' := #[.val (.int p0), .val (.int p1), .val (.int p2), .val (.int p3), .val (.int v414), .val (.int v417), .val (.ref b421), .val (.ref b444), .val (.ref b472), .val (.ref b505), .unset]) rfl (pc' := 156) rfl ?_
  obtain ⟨T551, h551, X551, e551, E551, EA551, D551, -, st551⟩ := newO A543.1 hx hZ hown (hw _ (List.mem_of_getElem? (i := 3) rfl)) (hw _ (List.mem_of_getElem? (i := 4) rfl)) (hw _ (List.mem_of_getElem? (i := 5) rfl)) e543 (g := (mkF m 156 #[.val (.int p0), .val (.int p1), .val (.int p2), .val (.int p3), .val (.int v414), .val (.int v417), .val (.ref b421), .val (.ref b444), .val (.ref b472), .val (.ref b505), .unset] [])) rfl (hb hby at_156) (by decide) (by decide)
  obtain ⟨a552, ea552⟩ : ∃ z, z = h543.size := ⟨_, rfl⟩
  rw [← ea552] at EA551 D551 st551
  have ne553 : b421 ≠ a552 := own_ne ea552 V546.lt
  have ne554 : b444 ≠ a552 := own_ne ea552 V547.lt
  have ne555 : b472 ≠ a552 := own_ne ea552 V548.lt
  have ne556 : b505 ≠ a552 := own_ne ea552 V549.lt
  have g557 : n0 ≤ a552 := by rw [ea552]; exact Z550
  have gh558 : h0.size ≤ a552 := by rw [ea552]; exact K545.1
  have K559 : Keep h0 h551 [] := K545.ext E551
  have V560 : Dar Z h551 b421 .double 3 (fun j => if j = 2 then .double (FP.i2d p2) else (fun j => if j = 1 then .double (FP.i2d p1) else (fun j => if j = 0 then .double (FP.i2d p0) else (fun _ => .double (0 : UInt64)) j) j) j) := Dar.ext E551 V546
  have V561 : Dar Z h551 b444 .double 3 (fun j => if j = 2 then .double (FP.dsub (FP.dneg (FP.i2d p2)) (4607182418800017408 : UInt64)) else (fun j => if j = 1 then .double (FP.dsub (FP.dneg (FP.i2d p1)) (4607182418800017408 : UInt64)) else (fun j => if j = 0 then .double (FP.dsub (FP.dneg (FP.i2d p0)) (4607182418800017408 : UInt64)) else (fun _ => .double (0 : UInt64)) j) j) j) := Dar.ext E551 V547
  have V562 : Dar Z h551 b472 .double 3 (fun j => if j = 2 then .double (FP.dadd (FP.i2d p2) (4602678819172646912 : UInt64)) else (fun j => if j = 1 then .double (FP.dadd (FP.i2d p1) (4602678819172646912 : UInt64)) else (fun j => if j = 0 then .double (FP.dadd (FP.i2d p0) (4602678819172646912 : UInt64)) else (fun _ => .double (0 : UInt64)) j) j) j) := Dar.ext E551 V548
  have V563 : Dar Z h551 b505 .boolean 3 (fun j => if j = 2 then .int v540 else (fun j => if j = 1 then .int v529 else (fun j => if j = 0 then .int v518 else (fun _ => .int (0 : Int32)) j) j) j) := Dar.ext E551 V549
  have Z564 : n0 ≤ h551.size := Nat.le_trans Z550 E551.1
  have F565 : Fld Z h551 a552 "com/example/swathloom/swathloom/planning/Plan" "rolls" "[D" .null := D551 (Or.inr (hw _ (List.mem_of_getElem? (i := 13) rfl))) (ty := (.array .double)) (by decide)
  have F566 : Fld Z h551 a552 "com/example/swathloom/swathloom/planning/Plan" "used" "[Z" .null := D551 (Or.inr (hw _ (List.mem_of_getElem? (i := 15) rfl))) (ty := (.array .boolean)) (by decide)
  have F567 : Fld Z h551 a552 "com/example/swathloom/swathloom/planning/Plan" "rollVelocities" "[D" .null := D551 (Or.inr (hw _ (List.mem_of_getElem? (i := 17) rfl))) (ty := (.array .double)) (by decide)
  have F568 : Fld Z h551 a552 "com/example/swathloom/swathloom/planning/Plan" "selectionVelocities" "[D" .null := D551 (Or.inr (hw _ (List.mem_of_getElem? (i := 19) rfl))) (ty := (.array .double)) (by decide)
  have F569 : Fld Z h551 a552 "com/example/swathloom/swathloom/planning/Plan" "strips" "I" (.int (0 : Int32)) := D551 (Or.inr (hw _ (List.mem_of_getElem? (i := 21) rfl))) (ty := .int) (by decide)
  refine Go.of (g' := (mkF m 159 #[.val (.int p0), .val (.int p1), .val (.int p2), .val (.int p3), .val (.int v414), .val (.int v417), .val (.ref b421), .val (.ref b444), .val (.ref b472), .val (.ref b505), .unset] [(.ref a552)])) st551 ?_
  have A570 := (⟨X551, hx, hby⟩ : Ax _ _ _ _ _ _ _ _ _ _ _ _ _ _ _)
  refine g_dup A570 at_159 rfl (pc' := 160) rfl ?_
  refine g_aload A570 at_160 rfl rfl (pc' := 162) rfl ?_
  refine g_aload A570 at_162 rfl rfl (pc' := 164) rfl ?_
  refine g_iload A570 at_164 rfl (pc' := 166) rfl ?_
  by_cases hc571 : (p3 &&& (2 : Int32)) = 0
  · skip
    refine g_ifY A570 at_166 (b0_eq_t hv417 (fun q => q hc571)) (pc' := 173) rfl ?_
    refine g_aload A570 at_173 rfl rfl (pc' := 175) rfl ?_
    refine g_iload A570 at_175 rfl (pc' := 177) rfl ?_
    by_cases hc572 : (p3 &&& (1 : Int32)) = 0
    · skip
      refine g_ifY A570 at_177 (b0_eq_t hv414 (fun q => q hc572)) (pc' := 184) rfl ?_
      refine g_aload A570 at_184 rfl rfl (pc' := 186) rfl ?_
      obtain ⟨_, _, ⟨T573, L573, k573, n573⟩, -, X573, ⟨L573c, hQ573, l573, y573, z573⟩, st573⟩ := X551.specialBack hx (y := (⟨"com/example/swathloom/swathloom/planning/Plan", "<init>", "([D[Z[D[D)V"⟩ : MethodName)) rfl hown (mvT hZ (hw _ (List.mem_of_getElem? (i := 6) rfl))) (mvT hZ (hw _ (List.mem_of_getElem? (i := 7) rfl))) (mvT hZ (hw _ (List.mem_of_getElem? (i := 8) rfl))) (by decide) (backOf (W := 1) (rm1_00 l Z a0 hw [] a552 b472 b505 b444 (fun j => if j = 2 then .double (FP.dsub (FP.dneg (FP.i2d p2)) (4607182418800017408 : UInt64)) else (fun j => if j = 1 then .double (FP.dsub (FP.dneg (FP.i2d p1)) (4607182418800017408 : UInt64)) else (fun j => if j = 0 then .double (FP.dsub (FP.dneg (FP.i2d p0)) (4607182418800017408 : UInt64)) else (fun _ => .double (0 : UInt64)) j) j) j) b421 (fun j => if j = 2 then .double (FP.i2d p2) else (fun j => if j = 1 then .double (FP.i2d p1) else (fun j => if j = 0 then .double (FP.i2d p0) else (fun _ => .double (0 : UInt64)) j) j) j) (fun j => if j = 2 then .double (FP.dadd (FP.i2d p2) (4602678819172646912 : UInt64)) else (fun j => if j = 1 then .double (FP.dadd (FP.i2d p1) (4602678819172646912 : UInt64)) else (fun j => if j = 0 then .double (FP.dadd (FP.i2d p0) (4602678819172646912 : UInt64)) else (fun _ => .double (0 : UInt64)) j) j) j) (fun j => if j = 2 then .int v540 else (fun j => if j = 1 then .int v529 else (fun j => if j = 0 then .int v518 else (fun _ => .int (0 : Int32)) j) j) j) v518 v529 v540 .null .null .null .null (.int (0 : Int32)) h551 n0 Z564 EA551 F565 F566 F567 F568 F569 g557 V562 V563 ne555 ne556 rfl rfl rfl V561 ne554 V560 ne553) hZ (hw _ (List.mem_of_getElem? (i := 8) rfl)) (hw _ (List.mem_of_getElem? (i := 5) rfl)) (by decide) (by decide)) (g := (mkF m 186 #[.val (.int p0), .val (.int p1), .val (.int p2), .val (.int p3), .val (.int v414), .val (.int v417), .val (.ref b421), .val (.ref b444), .val (.ref b472), .val (.ref b505), .unset] [(.ref b421), (.ref b444), (.ref b505), (.ref b472), (.ref a552), (.ref a552)])) rfl (by rw [hml]; rfl) (Steps.refl _) (a := a552) (argsL := [(.ref b472), (.ref b505), (.ref b444), (.ref b421)]) (rest := [(.ref a552)]) (lenOf pd_1 rfl) rfl (by show 2 * 0 + _ ≤ _; exact Nat.le_of_eq rfl) (hb hby at_186) (fun _ _ => ⟨rfl, e551, (by decide : 5 + 0 ≤ _), (by decide : 17 + 0 ≤ _)⟩)
      dsimp only [Pt.U, Pt.locs, Pt.cells, Pt.slots] at X573 l573 y573 z573 st573 hQ573
      subst l573 y573 z573
      obtain ⟨rfl, Nq574, Kq575, F576, F577, F578⟩ := hQ573
      have N579 := Fr.app N544 Nq574
      refine Go.tr (g' := (mkF m 189 #[.val (.int p0), .val (.int p1), .val (.int p2), .val (.int p3), .val (.int v414), .val (.int v417), .val (.ref b421), .val (.ref b444), .val (.ref b472), .val (.ref b505), .unset] [(.ref a552)])) st573 ?_
      have V580 : Dar Z T573.heap b421 .double 3 (fun j => if j = 2 then .double (FP.i2d p2) else (fun j => if j = 1 then .double (FP.i2d p1) else (fun j => if j = 0 then .double (FP.i2d p0) else (fun _ => .double (0 : UInt64)) j) j) j) := Dar.keep V560 Kq575 (ninS ne553 nin0)
      have V581 : Dar Z T573.heap b444 .double 3 (fun j => if j = 2 then .double (FP.dsub (FP.dneg (FP.i2d p2)) (4607182418800017408 : UInt64)) else (fun j => if j = 1 then .double (FP.dsub (FP.dneg (FP.i2d p1)) (4607182418800017408 : UInt64)) else (fun j => if j = 0 then .double (FP.dsub (FP.dneg (FP.i2d p0)) (4607182418800017408 : UInt64)) else (fun _ => .double (0 : UInt64)) j) j) j) := Dar.keep V561 Kq575 (ninS ne554 nin0)
      have V582 : Dar Z T573.heap b472 .double 3 (fun j => if j = 2 then .double (FP.dadd (FP.i2d p2) (4602678819172646912 : UInt64)) else (fun j => if j = 1 then .double (FP.dadd (FP.i2d p1) (4602678819172646912 : UInt64)) else (fun j => if j = 0 then .double (FP.dadd (FP.i2d p0) (4602678819172646912 : UInt64)) else (fun _ => .double (0 : UInt64)) j) j) j) := Dar.keep V562 Kq575 (ninS ne555 nin0)
      have V583 : Dar Z T573.heap b505 .boolean 3 (fun j => if j = 2 then .int v540 else (fun j => if j = 1 then .int v529 else (fun j => if j = 0 then .int v518 else (fun _ => .int (0 : Int32)) j) j) j) := Dar.keep V563 Kq575 (ninS ne556 nin0)
      have E584 : Exa Z T573.heap a552 "com/example/swathloom/swathloom/planning/Plan" := Exa.keep EA551 Kq575
      have Z585 : n0 ≤ T573.heap.size := Nat.le_trans Z564 Kq575.1
      have K586 : Keep h0 T573.heap [] := K559.trans Kq575 (allS (Or.inr gh558) all0)
      have A587 := (⟨X573, hx, hby⟩ : Ax _ _ _ _ _ _ _ _ _ _ _ _ _ _ _)
      refine g_astore A587 at_189 rfl (ls' := #[.val (.int p0), .val (.int p1), .val (.int p2), .val (.int p3), .val (.int v414), .val (.int v417), .val (.ref b421), .val (.ref b444), .val (.ref b472), .val (.ref b505), .val (.ref a552)]) rfl (pc' := 191) rfl ?_
      refine g_aload A587 at_191 rfl rfl (pc' := 193) rfl ?_
      refine g_iconst A587 at_193 (v := (0 : Int32)) rfl (pc' := 194) rfl ?_
      refine g_iload A587 at_194 rfl (pc' := 196) rfl ?_
      refine g_iloadN A587 at_196 rfl (pc' := 197) rfl ?_
      have hz588 : v414 = 0 := by rw [hv414, if_neg (fun q => q hc572)]
      obtain ⟨_, _, ⟨T589, L589, k589, n589⟩, -, X589, ⟨L589c, hQ589, l589, y589, z589⟩, st589⟩ := Jvm.LawKit.callS X573 hx (y := (⟨"com/example/swathloom/swathloom/planning/PlanSelectionVelocityPinLaw", "check", "(Lcom/example/swathloom/swathloom/planning/Plan;IZI)Z"⟩ : MethodName)) hown (mvT hZ (hw _ (List.mem_of_getElem? (i := 22) rfl))) (mvT hZ (hw _ (List.mem_of_getElem? (i := 23) rfl))) (mvT hZ (hw _ (List.mem_of_getElem? (i := 24) rfl))) (mvT hZ (hw _ (List.mem_of_getElem? (i := 25) rfl))) (by decide) (backOf (W := 0) (rm3r l Z a0 hw [] a552 (0 : Int32) v414 p0 b421 (fun j => if j = 2 then .double (FP.i2d p2) else (fun j => if j = 1 then .double (FP.i2d p1) else (fun j => if j = 0 then .double (FP.i2d p0) else (fun _ => .double (0 : UInt64)) j) j) j) 0 T573.heap n0 Z585 E584 F578 V580 (by decide) rfl rfl hz588) hZ (hw _ (List.mem_of_getElem? (i := 25) rfl)) (hw _ (List.mem_of_getElem? (i := 24) rfl)) (by decide) (by decide)) (g := (mkF m 197 #[.val (.int p0), .val (.int p1), .val (.int p2), .val (.int p3), .val (.int v414), .val (.int v417), .val (.ref b421), .val (.ref b444), .val (.ref b472), .val (.ref b505), .val (.ref a552)] [(.int p0), (.int v414), (.int (0 : Int32)), (.ref a552)])) rfl (by rw [hml]; rfl) (argsL := [(.ref a552), (.int (0 : Int32)), (.int v414), (.int p0)]) (rest := []) (lenOf pd_2 rfl) rfl (by show 2 * 0 + _ ≤ _; exact Nat.le_of_eq rfl) (hb hby at_197) (fun _ _ => ⟨rfl, rfl, (by decide : 5 + 0 ≤ _), (by decide : 17 + 0 ≤ _)⟩)
      dsimp only [Pt.U, Pt.locs, Pt.cells, Pt.slots] at X589 l589 y589 z589 st589 hQ589
      subst l589 y589 z589
      obtain ⟨rfl, Nq590, Kq591⟩ := hQ589
      have N592 := Fr.app N579 Nq590
      refine Go.of (g' := (mkF m 200 #[.val (.int p0), .val (.int p1), .val (.int p2), .val (.int p3), .val (.int v414), .val (.int v417), .val (.ref b421), .val (.ref b444), .val (.ref b472), .val (.ref b505), .val (.ref a552)] [(.int (1 : Int32))])) st589 ?_
      have e593 : T589.heap = T573.heap := Kq591
      have A594 := (⟨X589, hx, hby⟩ : Ax _ _ _ _ _ _ _ _ _ _ _ _ _ _ _)
      refine g_ifN A594 at_200 (c0_eq_f (by decide)) (pc' := 203) rfl ?_
      refine g_aload A594 at_203 rfl rfl (pc' := 205) rfl ?_
      refine g_iconst A594 at_205 (v := (1 : Int32)) rfl (pc' := 206) rfl ?_
      refine g_iload A594 at_206 rfl (pc' := 208) rfl ?_
      refine g_iloadN A594 at_208 rfl (pc' := 209) rfl ?_
      have hz595 : v414 = 0 := by rw [hv414, if_neg (fun q => q hc572)]
      obtain ⟨_, _, ⟨T596, L596, k596, n596⟩, -, X596, ⟨L596c, hQ596, l596, y596, z596⟩, st596⟩ := Jvm.LawKit.callS X589 hx (y := (⟨"com/example/swathloom/swathloom/planning/PlanSelectionVelocityPinLaw", "check", "(Lcom/example/swathloom/swathloom/planning/Plan;IZI)Z"⟩ : MethodName)) hown (mvT hZ (hw _ (List.mem_of_getElem? (i := 22) rfl))) (mvT hZ (hw _ (List.mem_of_getElem? (i := 23) rfl))) (mvT hZ (hw _ (List.mem_of_getElem? (i := 24) rfl))) (mvT hZ (hw _ (List.mem_of_getElem? (i := 25) rfl))) (by decide) (backOf (W := 0) (rm3r l Z a0 hw [] a552 (1 : Int32) v414 p1 b421 (fun j => if j = 2 then .double (FP.i2d p2) else (fun j => if j = 1 then .double (FP.i2d p1) else (fun j => if j = 0 then .double (FP.i2d p0) else (fun _ => .double (0 : UInt64)) j) j) j) 1 T573.heap n0 Z585 E584 F578 V580 (by decide) rfl rfl hz595) hZ (hw _ (List.mem_of_getElem? (i := 25) rfl)) (hw _ (List.mem_of_getElem? (i := 24) rfl)) (by decide) (by decide)) (g := (mkF m 209 #[.val (.int p0), .val (.int p1), .val (.int p2), .val (.int p3), .val (.int v414), .val (.int v417), .val (.ref b421), .val (.ref b444), .val (.ref b472), .val (.ref b505), .val (.ref a552)] [(.int p1), (.int v414), (.int (1 : Int32)), (.ref a552)])) rfl (by rw [hml]; rfl) (argsL := [(.ref a552), (.int (1 : Int32)), (.int v414), (.int p1)]) (rest := []) (lenOf pd_2 rfl) rfl (by show 2 * 0 + _ ≤ _; exact Nat.le_of_eq rfl) (hb hby at_209) (fun _ _ => ⟨rfl, e593, (by decide : 5 + 0 ≤ _), (by decide : 17 + 0 ≤ _)⟩)
      dsimp only [Pt.U, Pt.locs, Pt.cells, Pt.slots] at X596 l596 y596 z596 st596 hQ596
      subst l596 y596 z596
      obtain ⟨rfl, Nq597, Kq598⟩ := hQ596
      have N599 := Fr.app N592 Nq597
      refine Go.of (g' := (mkF m 212 #[.val (.int p0), .val (.int p1), .val (.int p2), .val (.int p3), .val (.int v414), .val (.int v417), .val (.ref b421), .val (.ref b444), .val (.ref b472), .val (.ref b505), .val (.ref a552)] [(.int (1 : Int32))])) st596 ?_
      have e600 : T596.heap = T573.heap := Kq598
      have A601 := (⟨X596, hx, hby⟩ : Ax _ _ _ _ _ _ _ _ _ _ _ _ _ _ _)
      refine g_ifN A601 at_212 (c0_eq_f (by decide)) (pc' := 215) rfl ?_
      refine g_aload A601 at_215 rfl rfl (pc' := 217) rfl ?_
      refine g_iconst A601 at_217 (v := (2 : Int32)) rfl (pc' := 218) rfl ?_
      refine g_iload A601 at_218 rfl (pc' := 220) rfl ?_
      refine g_iloadN A601 at_220 rfl (pc' := 221) rfl ?_
      have hz602 : v414 = 0 := by rw [hv414, if_neg (fun q => q hc572)]
      obtain ⟨_, _, ⟨T603, L603, k603, n603⟩, -, X603, ⟨L603c, hQ603, l603, y603, z603⟩, st603⟩ := Jvm.LawKit.callS X596 hx (y := (⟨"com/example/swathloom/swathloom/planning/PlanSelectionVelocityPinLaw", "check", "(Lcom/example/swathloom/swathloom/planning/Plan;IZI)Z"⟩ : MethodName)) hown (mvT hZ (hw _ (List.mem_of_getElem? (i := 22) rfl))) (mvT hZ (hw _ (List.mem_of_getElem? (i := 23) rfl))) (mvT hZ (hw _ (List.mem_of_getElem? (i := 24) rfl))) (mvT hZ (hw _ (List.mem_of_getElem? (i := 25) rfl))) (by decide) (backOf (W := 0) (rm3r l Z a0 hw [] a552 (2 : Int32) v414 p2 b421 (fun j => if j = 2 then .double (FP.i2d p2) else (fun j => if j = 1 then .double (FP.i2d p1) else (fun j => if j = 0 then .double (FP.i2d p0) else (fun _ => .double (0 : UInt64)) j) j) j) 2 T573.heap n0 Z585 E584 F578 V580 (by decide) rfl rfl hz602) hZ (hw _ (List.mem_of_getElem? (i := 25) rfl)) (hw _ (List.mem_of_getElem? (i := 24) rfl)) (by decide) (by decide)) (g := (mkF m 221 #[.val (.int p0), .val (.int p1), .val (.int p2), .val (.int p3), .val (.int v414), .val (.int v417), .val (.ref b421), .val (.ref b444), .val (.ref b472), .val (.ref b505), .val (.ref a552)] [(.int p2), (.int v414), (.int (2 : Int32)), (.ref a552)])) rfl (by rw [hml]; rfl) (argsL := [(.ref a552), (.int (2 : Int32)), (.int v414), (.int p2)]) (rest := []) (lenOf pd_2 rfl) rfl (by show 2 * 0 + _ ≤ _; exact Nat.le_of_eq rfl) (hb hby at_221) (fun _ _ => ⟨rfl, e600, (by decide : 5 + 0 ≤ _), (by decide : 17 + 0 ≤ _)⟩)
      dsimp only [Pt.U, Pt.locs, Pt.cells, Pt.slots] at X603 l603 y603 z603 st603 hQ603
      subst l603 y603 z603
      obtain ⟨rfl, Nq604, Kq605⟩ := hQ603
      have N606 := Fr.app N599 Nq604
      refine Go.of (g' := (mkF m 224 #[.val (.int p0), .val (.int p1), .val (.int p2), .val (.int p3), .val (.int v414), .val (.int v417), .val (.ref b421), .val (.ref b444), .val (.ref b472), .val (.ref b505), .val (.ref a552)] [(.int (1 : Int32))])) st603 ?_
      have e607 : T603.heap = T573.heap := Kq605
      have A608 := (⟨X603, hx, hby⟩ : Ax _ _ _ _ _ _ _ _ _ _ _ _ _ _ _)
      refine g_ifN A608 at_224 (c0_eq_f (by decide)) (pc' := 227) rfl ?_
      refine g_iconst A608 at_227 (v := (1 : Int32)) rfl (pc' := 228) rfl ?_
      refine g_goto A608 at_228 (pc' := 232) rfl ?_
      exact g_ret (Q := Q0 Z p0 p1 p2 p3 h0 n0) A608 at_232 Bd.notSynchronized Bd.returns rfl (Or.inl ⟨rfl, by simp, _, rfl⟩) (by decide) (by decide) (by rw [e607]; exact ⟨rfl, N606⟩)
    · skip
      refine g_ifN A570 at_177 (b0_eq_f hv414 hc572) (pc' := 180) rfl ?_
      refine g_aconst A570 at_180 (pc' := 181) rfl ?_
      refine g_goto A570 at_181 (pc' := 186) rfl ?_
      obtain ⟨_, _, ⟨T609, L609, k609, n609⟩, -, X609, ⟨L609c, hQ609, l609, y609, z609⟩, st609⟩ := X551.specialBack hx (y := (⟨"com/example/swathloom/swathloom/planning/Plan", "<init>", "([D[Z[D[D)V"⟩ : MethodName)) rfl hown (mvT hZ (hw _ (List.mem_of_getElem? (i := 6) rfl))) (mvT hZ (hw _ (List.mem_of_getElem? (i := 7) rfl))) (mvT hZ (hw _ (List.mem_of_getElem? (i := 8) rfl))) (by decide) (backOf (W := 1) (rm1_01 l Z a0 hw [] a552 b472 b505 b444 (fun j => if j = 2 then .double (FP.dsub (FP.dneg (FP.i2d p2)) (4607182418800017408 : UInt64)) else (fun j => if j = 1 then .double (FP.dsub (FP.dneg (FP.i2d p1)) (4607182418800017408 : UInt64)) else (fun j => if j = 0 then .double (FP.dsub (FP.dneg (FP.i2d p0)) (4607182418800017408 : UInt64)) else (fun _ => .double (0 : UInt64)) j) j) j) (fun j => if j = 2 then .double (FP.dadd (FP.i2d p2) (4602678819172646912 : UInt64)) else (fun j => if j = 1 then .double (FP.dadd (FP.i2d p1) (4602678819172646912 : UInt64)) else (fun j => if j = 0 then .double (FP.dadd (FP.i2d p0) (4602678819172646912 : UInt64)) else (fun _ => .double (0 : UInt64)) j) j) j) (fun j => if j = 2 then .int v540 else (fun j => if j = 1 then .int v529 else (fun j => if j = 0 then .int v518 else (fun _ => .int (0 : Int32)) j) j) j) v518 v529 v540 .null .null .null .null (.int (0 : Int32)) h551 n0 Z564 EA551 F565 F566 F567 F568 F569 g557 V562 V563 ne555 ne556 rfl rfl rfl V561 ne554) hZ (hw _ (List.mem_of_getElem? (i := 8) rfl)) (hw _ (List.mem_of_getElem? (i := 5) rfl)) (by decide) (by decide)) (g := (mkF m 186 #[.val (.int p0), .val (.int p1), .val (.int p2), .val (.int p3), .val (.int v414), .val (.int v417), .val (.ref b421), .val (.ref b444), .val (.ref b472), .val (.ref b505), .unset] [.null, (.ref b444), (.ref b505), (.ref b472), (.ref a552), (.ref a552)])) rfl (by rw [hml]; rfl) (Steps.refl _) (a := a552) (argsL := [(.ref b472), (.ref b505), (.ref b444), .null]) (rest := [(.ref a552)]) (lenOf pd_1 rfl) rfl (by show 2 * 0 + _ ≤ _; exact Nat.le_of_eq rfl) (hb hby at_186) (fun _ _ => ⟨rfl, e551, (by decide : 5 + 0 ≤ _), (by decide : 17 + 0 ≤ _)⟩)
      dsimp only [Pt.U, Pt.locs, Pt.cells, Pt.slots] at X609 l609 y609 z609 st609 hQ609
      subst l609 y609 z609
      obtain ⟨rfl, Nq610, Kq611, F612, F613, F614⟩ := hQ609
      have N615 := Fr.app N544 Nq610
      refine Go.tr (g' := (mkF m 189 #[.val (.int p0), .val (.int p1), .val (.int p2), .val (.int p3), .val (.int v414), .val (.int v417), .val (.ref b421), .val (.ref b444), .val (.ref b472), .val (.ref b505), .unset] [(.ref a552)])) st609 ?_
      have V616 : Dar Z T609.heap b421 .double 3 (fun j => if j = 2 then .double (FP.i2d p2) else (fun j => if j = 1 then .double (FP.i2d p1) else (fun j => if j = 0 then .double (FP.i2d p0) else (fun _ => .double (0 : UInt64)) j) j) j) := Dar.keep V560 Kq611 (ninS ne553 nin0)
      have V617 : Dar Z T609.heap b444 .double 3 (fun j => if j = 2 then .double (FP.dsub (FP.dneg (FP.i2d p2)) (4607182418800017408 : UInt64)) else (fun j => if j = 1 then .double (FP.dsub (FP.dneg (FP.i2d p1)) (4607182418800017408 : UInt64)) else (fun j => if j = 0 then .double (FP.dsub (FP.dneg (FP.i2d p0)) (4607182418800017408 : UInt64)) else (fun _ => .double (0 : UInt64)) j) j) j) := Dar.keep V561 Kq611 (ninS ne554 nin0)
      have V618 : Dar Z T609.heap b472 .double 3 (fun j => if j = 2 then .double (FP.dadd (FP.i2d p2) (4602678819172646912 : UInt64)) else (fun j => if j = 1 then .double (FP.dadd (FP.i2d p1) (4602678819172646912 : UInt64)) else (fun j => if j = 0 then .double (FP.dadd (FP.i2d p0) (4602678819172646912 : UInt64)) else (fun _ => .double (0 : UInt64)) j) j) j) := Dar.keep V562 Kq611 (ninS ne555 nin0)
      have V619 : Dar Z T609.heap b505 .boolean 3 (fun j => if j = 2 then .int v540 else (fun j => if j = 1 then .int v529 else (fun j => if j = 0 then .int v518 else (fun _ => .int (0 : Int32)) j) j) j) := Dar.keep V563 Kq611 (ninS ne556 nin0)
      have E620 : Exa Z T609.heap a552 "com/example/swathloom/swathloom/planning/Plan" := Exa.keep EA551 Kq611
      have Z621 : n0 ≤ T609.heap.size := Nat.le_trans Z564 Kq611.1
      have K622 : Keep h0 T609.heap [] := K559.trans Kq611 (allS (Or.inr gh558) all0)
      have A623 := (⟨X609, hx, hby⟩ : Ax _ _ _ _ _ _ _ _ _ _ _ _ _ _ _)
      refine g_astore A623 at_189 rfl (ls' := #[.val (.int p0), .val (.int p1), .val (.int p2), .val (.int p3), .val (.int v414), .val (.int v417), .val (.ref b421), .val (.ref b444), .val (.ref b472), .val (.ref b505), .val (.ref a552)]) rfl (pc' := 191) rfl ?_
      refine g_aload A623 at_191 rfl rfl (pc' := 193) rfl ?_
      refine g_iconst A623 at_193 (v := (0 : Int32)) rfl (pc' := 194) rfl ?_
      refine g_iload A623 at_194 rfl (pc' := 196) rfl ?_
      refine g_iloadN A623 at_196 rfl (pc' := 197) rfl ?_
      have hz624 : ¬ v414 = 0 := by rw [hv414, if_pos hc572]; decide
      obtain ⟨_, _, ⟨T625, L625, k625, n625⟩, -, X625, ⟨L625c, hQ625, l625, y625, z625⟩, st625⟩ := Jvm.LawKit.callS X609 hx (y := (⟨"com/example/swathloom/swathloom/planning/PlanSelectionVelocityPinLaw", "check", "(Lcom/example/swathloom/swathloom/planning/Plan;IZI)Z"⟩ : MethodName)) hown (mvT hZ (hw _ (List.mem_of_getElem? (i := 22) rfl))) (mvT hZ (hw _ (List.mem_of_getElem? (i := 23) rfl))) (mvT hZ (hw _ (List.mem_of_getElem? (i := 24) rfl))) (mvT hZ (hw _ (List.mem_of_getElem? (i := 25) rfl))) (by decide) (backOf (W := 0) (rm3n l Z a0 hw [] a552 (0 : Int32) v414 p0 T609.heap n0 Z621 E620 F614 hz624) hZ (hw _ (List.mem_of_getElem? (i := 25) rfl)) (hw _ (List.mem_of_getElem? (i := 24) rfl)) (by decide) (by decide)) (g := (mkF m 197 #[.val (.int p0), .val (.int p1), .val (.int p2), .val (.int p3), .val (.int v414), .val (.int v417), .val (.ref b421), .val (.ref b444), .val (.ref b472), .val (.ref b505), .val (.ref a552)] [(.int p0), (.int v414), (.int (0 : Int32)), (.ref a552)])) rfl (by rw [hml]; rfl) (argsL := [(.ref a552), (.int (0 : Int32)), (.int v414), (.int p0)]) (rest := []) (lenOf pd_2 rfl) rfl (by show 2 * 0 + _ ≤ _; exact Nat.le_of_eq rfl) (hb hby at_197) (fun _ _ => ⟨rfl, rfl, (by decide : 5 + 0 ≤ _), (by decide : 17 + 0 ≤ _)⟩)
      dsimp only [Pt.U, Pt.locs, Pt.cells, Pt.slots] at X625 l625 y625 z625 st625 hQ625
      subst l625 y625 z625
      obtain ⟨rfl, Nq626, Kq627⟩ := hQ625
      have N628 := Fr.app N615 Nq626
      refine Go.of (g' := (mkF m 200 #[.val (.int p0), .val (.int p1), .val (.int p2), .val (.int p3), .val (.int v414), .val (.int v417), .val (.ref b421), .val (.ref b444), .val (.ref b472), .val (.ref b505), .val (.ref a552)] [(.int (1 : Int32))])) st625 ?_
      have e629 : T625.heap = T609.heap := Kq627
      have A630 := (⟨X625, hx, hby⟩ : Ax _ _ _ _ _ _ _ _ _ _ _ _ _ _ _)
      refine g_ifN A630 at_200 (c0_eq_f (by decide)) (pc' := 203) rfl ?_
      refine g_aload A630 at_203 rfl rfl (pc' := 205) rfl ?_
      refine g_iconst A630 at_205 (v := (1 : Int32)) rfl (pc' := 206) rfl ?_
      refine g_iload A630 at_206 rfl (pc' := 208) rfl ?_
      refine g_iloadN A630 at_208 rfl (pc' := 209) rfl ?_
      have hz631 : ¬ v414 = 0 := by rw [hv414, if_pos hc572]; decide
      obtain ⟨_, _, ⟨T632, L632, k632, n632⟩, -, X632, ⟨L632c, hQ632, l632, y632, z632⟩, st632⟩ := Jvm.LawKit.callS X625 hx (y := (⟨"com/example/swathloom/swathloom/planning/PlanSelectionVelocityPinLaw", "check", "(Lcom/example/swathloom/swathloom/planning/Plan;IZI)Z"⟩ : MethodName)) hown (mvT hZ (hw _ (List.mem_of_getElem? (i := 22) rfl))) (mvT hZ (hw _ (List.mem_of_getElem? (i := 23) rfl))) (mvT hZ (hw _ (List.mem_of_getElem? (i := 24) rfl))) (mvT hZ (hw _ (List.mem_of_getElem? (i := 25) rfl))) (by decide) (backOf (W := 0) (rm3n l Z a0 hw [] a552 (1 : Int32) v414 p1 T609.heap n0 Z621 E620 F614 hz631) hZ (hw _ (List.mem_of_getElem? (i := 25) rfl)) (hw _ (List.mem_of_getElem? (i := 24) rfl)) (by decide) (by decide)) (g := (mkF m 209 #[.val (.int p0), .val (.int p1), .val (.int p2), .val (.int p3), .val (.int v414), .val (.int v417), .val (.ref b421), .val (.ref b444), .val (.ref b472), .val (.ref b505), .val (.ref a552)] [(.int p1), (.int v414), (.int (1 : Int32)), (.ref a552)])) rfl (by rw [hml]; rfl) (argsL := [(.ref a552), (.int (1 : Int32)), (.int v414), (.int p1)]) (rest := []) (lenOf pd_2 rfl) rfl (by show 2 * 0 + _ ≤ _; exact Nat.le_of_eq rfl) (hb hby at_209) (fun _ _ => ⟨rfl, e629, (by decide : 5 + 0 ≤ _), (by decide : 17 + 0 ≤ _)⟩)
      dsimp only [Pt.U, Pt.locs, Pt.cells, Pt.slots] at X632 l632 y632 z632 st632 hQ632
      subst l632 y632 z632
      obtain ⟨rfl, Nq633, Kq634⟩ := hQ632
      have N635 := Fr.app N628 Nq633
      refine Go.of (g' := (mkF m 212 #[.val (.int p0), .val (.int p1), .val (.int p2), .val (.int p3), .val (.int v414), .val (.int v417), .val (.ref b421), .val (.ref b444), .val (.ref b472), .val (.ref b505), .val (.ref a552)] [(.int (1 : Int32))])) st632 ?_
      have e636 : T632.heap = T609.heap := Kq634
      have A637 := (⟨X632, hx, hby⟩ : Ax _ _ _ _ _ _ _ _ _ _ _ _ _ _ _)
      refine g_ifN A637 at_212 (c0_eq_f (by decide)) (pc' := 215) rfl ?_
      refine g_aload A637 at_215 rfl rfl (pc' := 217) rfl ?_
      refine g_iconst A637 at_217 (v := (2 : Int32)) rfl (pc' := 218) rfl ?_
      refine g_iload A637 at_218 rfl (pc' := 220) rfl ?_
      refine g_iloadN A637 at_220 rfl (pc' := 221) rfl ?_
      have hz638 : ¬ v414 = 0 := by rw [hv414, if_pos hc572]; decide
      obtain ⟨_, _, ⟨T639, L639, k639, n639⟩, -, X639, ⟨L639c, hQ639, l639, y639, z639⟩, st639⟩ := Jvm.LawKit.callS X632 hx (y := (⟨"com/example/swathloom/swathloom/planning/PlanSelectionVelocityPinLaw", "check", "(Lcom/example/swathloom/swathloom/planning/Plan;IZI)Z"⟩ : MethodName)) hown (mvT hZ (hw _ (List.mem_of_getElem? (i := 22) rfl))) (mvT hZ (hw _ (List.mem_of_getElem? (i := 23) rfl))) (mvT hZ (hw _ (List.mem_of_getElem? (i := 24) rfl))) (mvT hZ (hw _ (List.mem_of_getElem? (i := 25) rfl))) (by decide) (backOf (W := 0) (rm3n l Z a0 hw [] a552 (2 : Int32) v414 p2 T609.heap n0 Z621 E620 F614 hz638) hZ (hw _ (List.mem_of_getElem? (i := 25) rfl)) (hw _ (List.mem_of_getElem? (i := 24) rfl)) (by decide) (by decide)) (g := (mkF m 221 #[.val (.int p0), .val (.int p1), .val (.int p2), .val (.int p3), .val (.int v414), .val (.int v417), .val (.ref b421), .val (.ref b444), .val (.ref b472), .val (.ref b505), .val (.ref a552)] [(.int p2), (.int v414), (.int (2 : Int32)), (.ref a552)])) rfl (by rw [hml]; rfl) (argsL := [(.ref a552), (.int (2 : Int32)), (.int v414), (.int p2)]) (rest := []) (lenOf pd_2 rfl) rfl (by show 2 * 0 + _ ≤ _; exact Nat.le_of_eq rfl) (hb hby at_221) (fun _ _ => ⟨rfl, e636, (by decide : 5 + 0 ≤ _), (by decide : 17 + 0 ≤ _)⟩)
      dsimp only [Pt.U, Pt.locs, Pt.cells, Pt.slots] at X639 l639 y639 z639 st639 hQ639
      subst l639 y639 z639
      obtain ⟨rfl, Nq640, Kq641⟩ := hQ639
      have N642 := Fr.app N635 Nq640
      refine Go.of (g' := (mkF m 224 #[.val (.int p0), .val (.int p1), .val (.int p2), .val (.int p3), .val (.int v414), .val (.int v417), .val (.ref b421), .val (.ref b444), .val (.ref b472), .val (.ref b505), .val (.ref a552)] [(.int (1 : Int32))])) st639 ?_
      have e643 : T639.heap = T609.heap := Kq641
      have A644 := (⟨X639, hx, hby⟩ : Ax _ _ _ _ _ _ _ _ _ _ _ _ _ _ _)
      refine g_ifN A644 at_224 (c0_eq_f (by decide)) (pc' := 227) rfl ?_
      refine g_iconst A644 at_227 (v := (1 : Int32)) rfl (pc' := 228) rfl ?_
      refine g_goto A644 at_228 (pc' := 232) rfl ?_
      exact g_ret (Q := Q0 Z p0 p1 p2 p3 h0 n0) A644 at_232 Bd.notSynchronized Bd.returns rfl (Or.inl ⟨rfl, by simp, _, rfl⟩) (by decide) (by decide) (by rw [e643]; exact ⟨rfl, N642⟩)
  · skip
    refine g_ifN A570 at_166 (b0_eq_f hv417 hc571) (pc' := 169) rfl ?_
    refine g_aconst A570 at_169 (pc' := 170) rfl ?_
    refine g_goto A570 at_170 (pc' := 175) rfl ?_
    refine g_iload A570 at_175 rfl (pc' := 177) rfl ?_
    by_cases hc645 : (p3 &&& (1 : Int32)) = 0
    · skip
      refine g_ifY A570 at_177 (b0_eq_t hv414 (fun q => q hc645)) (pc' := 184) rfl ?_
      refine g_aload A570 at_184 rfl rfl (pc' := 186) rfl ?_
      obtain ⟨_, _, ⟨T646, L646, k646, n646⟩, -, X646, ⟨L646c, hQ646, l646, y646, z646⟩, st646⟩ := X551.specialBack hx (y := (⟨"com/example/swathloom/swathloom/planning/Plan", "<init>", "([D[Z[D[D)V"⟩ : MethodName)) rfl hown (mvT hZ (hw _ (List.mem_of_getElem? (i := 6) rfl))) (mvT hZ (hw _ (List.mem_of_getElem? (i := 7) rfl))) (mvT hZ (hw _ (List.mem_of_getElem? (i := 8) rfl))) (by decide) (backOf (W := 1) (rm1_10 l Z a0 hw [] a552 b472 b505 b421 (fun j => if j = 2 then .double (FP.i2d p2) else (fun j => if j = 1 then .double (FP.i2d p1) else (fun j => if j = 0 then .double (FP.i2d p0) else (fun _ => .double (0 : UInt64)) j) j) j) (fun j => if j = 2 then .double (FP.dadd (FP.i2d p2) (4602678819172646912 : UInt64)) else (fun j => if j = 1 then .double (FP.dadd (FP.i2d p1) (4602678819172646912 : UInt64)) else (fun j => if j = 0 then .double (FP.dadd (FP.i2d p0) (4602678819172646912 : UInt64)) else (fun _ => .double (0 : UInt64)) j) j) j) (fun j => if j = 2 then .int v540 else (fun j => if j = 1 then .int v529 else (fun j => if j = 0 then .int v518 else (fun _ => .int (0 : Int32)) j) j) j) v518 v529 v540 .null .null .null .null (.int (0 : Int32)) h551 n0 Z564 EA551 F565 F566 F567 F568 F569 g557 V562 V563 ne555 ne556 rfl rfl rfl V560 ne553) hZ (hw _ (List.mem_of_getElem? (i := 8) rfl)) (hw _ (List.mem_of_getElem? (i := 5) rfl)) (by decide) (by decide)) (g := (mkF m 186 #[.val (.int p0), .val (.int p1), .val (.int p2), .val (.int p3), .val (.int v414), .val (.int v417), .val (.ref b421), .val (.ref b444), .val (.ref b472), .val (.ref b505), .unset] [(.ref b421), .null, (.ref b505), (.ref b472), (.ref a552), (.ref a552)])) rfl (by rw [hml]; rfl) (Steps.refl _) (a := a552) (argsL := [(.ref b472), (.ref b505), .null, (.ref b421)]) (rest := [(.ref a552)]) (lenOf pd_1 rfl) rfl (by show 2 * 0 + _ ≤ _; exact Nat.le_of_eq rfl) (hb hby at_186) (fun _ _ => ⟨rfl, e551, (by decide : 5 + 0 ≤ _), (by decide : 17 + 0 ≤ _)⟩)
      dsimp only [Pt.U, Pt.locs, Pt.cells, Pt.slots] at X646 l646 y646 z646 st646 hQ646
      subst l646 y646 z646
      obtain ⟨rfl, Nq647, Kq648, F649, F650, F651⟩ := hQ646
      have N652 := Fr.app N544 Nq647
      refine Go.tr (g' := (mkF m 189 #[.val (.int p0), .val (.int p1), .val (.int p2), .val (.int p3), .val (.int v414), .val (.int v417), .val (.ref b421), .val (.ref b444), .val (.ref b472), .val (.ref b505), .unset] [(.ref a552)])) st646 ?_
      have V653 : Dar Z T646.heap b421 .double 3 (fun j => if j = 2 then .double (FP.i2d p2) else (fun j => if j = 1 then .double (FP.i2d p1) else (fun j => if j = 0 then .double (FP.i2d p0) else (fun _ => .double (0 : UInt64)) j) j) j) := Dar.keep V560 Kq648 (ninS ne553 nin0)
      have V654 : Dar Z T646.heap b444 .double 3 (fun j => if j = 2 then .double (FP.dsub (FP.dneg (FP.i2d p2)) (4607182418800017408 : UInt64)) else (fun j => if j = 1 then .double (FP.dsub (FP.dneg (FP.i2d p1)) (4607182418800017408 : UInt64)) else (fun j => if j = 0 then .double (FP.dsub (FP.dneg (FP.i2d p0)) (4607182418800017408 : UInt64)) else (fun _ => .double (0 : UInt64)) j) j) j) := Dar.keep V561 Kq648 (ninS ne554 nin0)
      have V655 : Dar Z T646.heap b472 .double 3 (fun j => if j = 2 then .double (FP.dadd (FP.i2d p2) (4602678819172646912 : UInt64)) else (fun j => if j = 1 then .double (FP.dadd (FP.i2d p1) (4602678819172646912 : UInt64)) else (fun j => if j = 0 then .double (FP.dadd (FP.i2d p0) (4602678819172646912 : UInt64)) else (fun _ => .double (0 : UInt64)) j) j) j) := Dar.keep V562 Kq648 (ninS ne555 nin0)
      have V656 : Dar Z T646.heap b505 .boolean 3 (fun j => if j = 2 then .int v540 else (fun j => if j = 1 then .int v529 else (fun j => if j = 0 then .int v518 else (fun _ => .int (0 : Int32)) j) j) j) := Dar.keep V563 Kq648 (ninS ne556 nin0)
      have E657 : Exa Z T646.heap a552 "com/example/swathloom/swathloom/planning/Plan" := Exa.keep EA551 Kq648
      have Z658 : n0 ≤ T646.heap.size := Nat.le_trans Z564 Kq648.1
      have K659 : Keep h0 T646.heap [] := K559.trans Kq648 (allS (Or.inr gh558) all0)
      have A660 := (⟨X646, hx, hby⟩ : Ax _ _ _ _ _ _ _ _ _ _ _ _ _ _ _)
      refine g_astore A660 at_189 rfl (ls' := #[.val (.int p0), .val (.int p1), .val (.int p2), .val (.int p3), .val (.int v414), .val (.int v417), .val (.ref b421), .val (.ref b444), .val (.ref b472), .val (.ref b505), .val (.ref a552)]) rfl (pc' := 191) rfl ?_
      refine g_aload A660 at_191 rfl rfl (pc' := 193) rfl ?_
      refine g_iconst A660 at_193 (v := (0 : Int32)) rfl (pc' := 194) rfl ?_
      refine g_iload A660 at_194 rfl (pc' := 196) rfl ?_
      refine g_iloadN A660 at_196 rfl (pc' := 197) rfl ?_
      have hz661 : v414 = 0 := by rw [hv414, if_neg (fun q => q hc645)]
      obtain ⟨_, _, ⟨T662, L662, k662, n662⟩, -, X662, ⟨L662c, hQ662, l662, y662, z662⟩, st662⟩ := Jvm.LawKit.callS X646 hx (y := (⟨"com/example/swathloom/swathloom/planning/PlanSelectionVelocityPinLaw", "check", "(Lcom/example/swathloom/swathloom/planning/Plan;IZI)Z"⟩ : MethodName)) hown (mvT hZ (hw _ (List.mem_of_getElem? (i := 22) rfl))) (mvT hZ (hw _ (List.mem_of_getElem? (i := 23) rfl))) (mvT hZ (hw _ (List.mem_of_getElem? (i := 24) rfl))) (mvT hZ (hw _ (List.mem_of_getElem? (i := 25) rfl))) (by decide) (backOf (W := 0) (rm3r l Z a0 hw [] a552 (0 : Int32) v414 p0 b421 (fun j => if j = 2 then .double (FP.i2d p2) else (fun j => if j = 1 then .double (FP.i2d p1) else (fun j => if j = 0 then .double (FP.i2d p0) else (fun _ => .double (0 : UInt64)) j) j) j) 0 T646.heap n0 Z658 E657 F651 V653 (by decide) rfl rfl hz661) hZ (hw _ (List.mem_of_getElem? (i := 25) rfl)) (hw _ (List.mem_of_getElem? (i := 24) rfl)) (by decide) (by decide)) (g := (mkF m 197 #[.val (.int p0), .val (.int p1), .val (.int p2), .val (.int p3), .val (.int v414), .val (.int v417), .val (.ref b421), .val (.ref b444), .val (.ref b472), .val (.ref b505), .val (.ref a552)] [(.int p0), (.int v414), (.int (0 : Int32)), (.ref a552)])) rfl (by rw [hml]; rfl) (argsL := [(.ref a552), (.int (0 : Int32)), (.int v414), (.int p0)]) (rest := []) (lenOf pd_2 rfl) rfl (by show 2 * 0 + _ ≤ _; exact Nat.le_of_eq rfl) (hb hby at_197) (fun _ _ => ⟨rfl, rfl, (by decide : 5 + 0 ≤ _), (by decide : 17 + 0 ≤ _)⟩)
      dsimp only [Pt.U, Pt.locs, Pt.cells, Pt.slots] at X662 l662 y662 z662 st662 hQ662
      subst l662 y662 z662
      obtain ⟨rfl, Nq663, Kq664⟩ := hQ662
      have N665 := Fr.app N652 Nq663
      refine Go.of (g' := (mkF m 200 #[.val (.int p0), .val (.int p1), .val (.int p2), .val (.int p3), .val (.int v414), .val (.int v417), .val (.ref b421), .val (.ref b444), .val (.ref b472), .val (.ref b505), .val (.ref a552)] [(.int (1 : Int32))])) st662 ?_
      have e666 : T662.heap = T646.heap := Kq664
      have A667 := (⟨X662, hx, hby⟩ : Ax _ _ _ _ _ _ _ _ _ _ _ _ _ _ _)
      refine g_ifN A667 at_200 (c0_eq_f (by decide)) (pc' := 203) rfl ?_
      refine g_aload A667 at_203 rfl rfl (pc' := 205) rfl ?_
      refine g_iconst A667 at_205 (v := (1 : Int32)) rfl (pc' := 206) rfl ?_
      refine g_iload A667 at_206 rfl (pc' := 208) rfl ?_
      refine g_iloadN A667 at_208 rfl (pc' := 209) rfl ?_
      have hz668 : v414 = 0 := by rw [hv414, if_neg (fun q => q hc645)]
      obtain ⟨_, _, ⟨T669, L669, k669, n669⟩, -, X669, ⟨L669c, hQ669, l669, y669, z669⟩, st669⟩ := Jvm.LawKit.callS X662 hx (y := (⟨"com/example/swathloom/swathloom/planning/PlanSelectionVelocityPinLaw", "check", "(Lcom/example/swathloom/swathloom/planning/Plan;IZI)Z"⟩ : MethodName)) hown (mvT hZ (hw _ (List.mem_of_getElem? (i := 22) rfl))) (mvT hZ (hw _ (List.mem_of_getElem? (i := 23) rfl))) (mvT hZ (hw _ (List.mem_of_getElem? (i := 24) rfl))) (mvT hZ (hw _ (List.mem_of_getElem? (i := 25) rfl))) (by decide) (backOf (W := 0) (rm3r l Z a0 hw [] a552 (1 : Int32) v414 p1 b421 (fun j => if j = 2 then .double (FP.i2d p2) else (fun j => if j = 1 then .double (FP.i2d p1) else (fun j => if j = 0 then .double (FP.i2d p0) else (fun _ => .double (0 : UInt64)) j) j) j) 1 T646.heap n0 Z658 E657 F651 V653 (by decide) rfl rfl hz668) hZ (hw _ (List.mem_of_getElem? (i := 25) rfl)) (hw _ (List.mem_of_getElem? (i := 24) rfl)) (by decide) (by decide)) (g := (mkF m 209 #[.val (.int p0), .val (.int p1), .val (.int p2), .val (.int p3), .val (.int v414), .val (.int v417), .val (.ref b421), .val (.ref b444), .val (.ref b472), .val (.ref b505), .val (.ref a552)] [(.int p1), (.int v414), (.int (1 : Int32)), (.ref a552)])) rfl (by rw [hml]; rfl) (argsL := [(.ref a552), (.int (1 : Int32)), (.int v414), (.int p1)]) (rest := []) (lenOf pd_2 rfl) rfl (by show 2 * 0 + _ ≤ _; exact Nat.le_of_eq rfl) (hb hby at_209) (fun _ _ => ⟨rfl, e666, (by decide : 5 + 0 ≤ _), (by decide : 17 + 0 ≤ _)⟩)
      dsimp only [Pt.U, Pt.locs, Pt.cells, Pt.slots] at X669 l669 y669 z669 st669 hQ669
      subst l669 y669 z669
      obtain ⟨rfl, Nq670, Kq671⟩ := hQ669
      have N672 := Fr.app N665 Nq670
      refine Go.of (g' := (mkF m 212 #[.val (.int p0), .val (.int p1), .val (.int p2), .val (.int p3), .val (.int v414), .val (.int v417), .val (.ref b421), .val (.ref b444), .val (.ref b472), .val (.ref b505), .val (.ref a552)] [(.int (1 : Int32))])) st669 ?_
      have e673 : T669.heap = T646.heap := Kq671
      have A674 := (⟨X669, hx, hby⟩ : Ax _ _ _ _ _ _ _ _ _ _ _ _ _ _ _)
      refine g_ifN A674 at_212 (c0_eq_f (by decide)) (pc' := 215) rfl ?_
      refine g_aload A674 at_215 rfl rfl (pc' := 217) rfl ?_
      refine g_iconst A674 at_217 (v := (2 : Int32)) rfl (pc' := 218) rfl ?_
      refine g_iload A674 at_218 rfl (pc' := 220) rfl ?_
      refine g_iloadN A674 at_220 rfl (pc' := 221) rfl ?_
      have hz675 : v414 = 0 := by rw [hv414, if_neg (fun q => q hc645)]
      obtain ⟨_, _, ⟨T676, L676, k676, n676⟩, -, X676, ⟨L676c, hQ676, l676, y676, z676⟩, st676⟩ := Jvm.LawKit.callS X669 hx (y := (⟨"com/example/swathloom/swathloom/planning/PlanSelectionVelocityPinLaw", "check", "(Lcom/example/swathloom/swathloom/planning/Plan;IZI)Z"⟩ : MethodName)) hown (mvT hZ (hw _ (List.mem_of_getElem? (i := 22) rfl))) (mvT hZ (hw _ (List.mem_of_getElem? (i := 23) rfl))) (mvT hZ (hw _ (List.mem_of_getElem? (i := 24) rfl))) (mvT hZ (hw _ (List.mem_of_getElem? (i := 25) rfl))) (by decide) (backOf (W := 0) (rm3r l Z a0 hw [] a552 (2 : Int32) v414 p2 b421 (fun j => if j = 2 then .double (FP.i2d p2) else (fun j => if j = 1 then .double (FP.i2d p1) else (fun j => if j = 0 then .double (FP.i2d p0) else (fun _ => .double (0 : UInt64)) j) j) j) 2 T646.heap n0 Z658 E657 F651 V653 (by decide) rfl rfl hz675) hZ (hw _ (List.mem_of_getElem? (i := 25) rfl)) (hw _ (List.mem_of_getElem? (i := 24) rfl)) (by decide) (by decide)) (g := (mkF m 221 #[.val (.int p0), .val (.int p1), .val (.int p2), .val (.int p3), .val (.int v414), .val (.int v417), .val (.ref b421), .val (.ref b444), .val (.ref b472), .val (.ref b505), .val (.ref a552)] [(.int p2), (.int v414), (.int (2 : Int32)), (.ref a552)])) rfl (by rw [hml]; rfl) (argsL := [(.ref a552), (.int (2 : Int32)), (.int v414), (.int p2)]) (rest := []) (lenOf pd_2 rfl) rfl (by show 2 * 0 + _ ≤ _; exact Nat.le_of_eq rfl) (hb hby at_221) (fun _ _ => ⟨rfl, e673, (by decide : 5 + 0 ≤ _), (by decide : 17 + 0 ≤ _)⟩)
      dsimp only [Pt.U, Pt.locs, Pt.cells, Pt.slots] at X676 l676 y676 z676 st676 hQ676
      subst l676 y676 z676
      obtain ⟨rfl, Nq677, Kq678⟩ := hQ676
      have N679 := Fr.app N672 Nq677
      refine Go.of (g' := (mkF m 224 #[.val (.int p0), .val (.int p1), .val (.int p2), .val (.int p3), .val (.int v414), .val (.int v417), .val (.ref b421), .val (.ref b444), .val (.ref b472), .val (.ref b505), .val (.ref a552)] [(.int (1 : Int32))])) st676 ?_
      have e680 : T676.heap = T646.heap := Kq678
      have A681 := (⟨X676, hx, hby⟩ : Ax _ _ _ _ _ _ _ _ _ _ _ _ _ _ _)
      refine g_ifN A681 at_224 (c0_eq_f (by decide)) (pc' := 227) rfl ?_
      refine g_iconst A681 at_227 (v := (1 : Int32)) rfl (pc' := 228) rfl ?_
      refine g_goto A681 at_228 (pc' := 232) rfl ?_
      exact g_ret (Q := Q0 Z p0 p1 p2 p3 h0 n0) A681 at_232 Bd.notSynchronized Bd.returns rfl (Or.inl ⟨rfl, by simp, _, rfl⟩) (by decide) (by decide) (by rw [e680]; exact ⟨rfl, N679⟩)
    · skip
      refine g_ifN A570 at_177 (b0_eq_f hv414 hc645) (pc' := 180) rfl ?_
      refine g_aconst A570 at_180 (pc' := 181) rfl ?_
      refine g_goto A570 at_181 (pc' := 186) rfl ?_
      obtain ⟨_, _, ⟨T682, L682, k682, n682⟩, -, X682, ⟨L682c, hQ682, l682, y682, z682⟩, st682⟩ := X551.specialBack hx (y := (⟨"com/example/swathloom/swathloom/planning/Plan", "<init>", "([D[Z[D[D)V"⟩ : MethodName)) rfl hown (mvT hZ (hw _ (List.mem_of_getElem? (i := 6) rfl))) (mvT hZ (hw _ (List.mem_of_getElem? (i := 7) rfl))) (mvT hZ (hw _ (List.mem_of_getElem? (i := 8) rfl))) (by decide) (backOf (W := 1) (rm1_11 l Z a0 hw [] a552 b472 b505 (fun j => if j = 2 then .double (FP.dadd (FP.i2d p2) (4602678819172646912 : UInt64)) else (fun j => if j = 1 then .double (FP.dadd (FP.i2d p1) (4602678819172646912 : UInt64)) else (fun j => if j = 0 then .double (FP.dadd (FP.i2d p0) (4602678819172646912 : UInt64)) else (fun _ => .double (0 : UInt64)) j) j) j) (fun j => if j = 2 then .int v540 else (fun j => if j = 1 then .int v529 else (fun j => if j = 0 then .int v518 else (fun _ => .int (0 : Int32)) j) j) j) v518 v529 v540 .null .null .null .null (.int (0 : Int32)) h551 n0 Z564 EA551 F565 F566 F567 F568 F569 g557 V562 V563 ne555 ne556 rfl rfl rfl) hZ (hw _ (List.mem_of_getElem? (i := 8) rfl)) (hw _ (List.mem_of_getElem? (i := 5) rfl)) (by decide) (by decide)) (g := (mkF m 186 #[.val (.int p0), .val (.int p1), .val (.int p2), .val (.int p3), .val (.int v414), .val (.int v417), .val (.ref b421), .val (.ref b444), .val (.ref b472), .val (.ref b505), .unset] [.null, .null, (.ref b505), (.ref b472), (.ref a552), (.ref a552)])) rfl (by rw [hml]; rfl) (Steps.refl _) (a := a552) (argsL := [(.ref b472), (.ref b505), .null, .null]) (rest := [(.ref a552)]) (lenOf pd_1 rfl) rfl (by show 2 * 0 + _ ≤ _; exact Nat.le_of_eq rfl) (hb hby at_186) (fun _ _ => ⟨rfl, e551, (by decide : 5 + 0 ≤ _), (by decide : 17 + 0 ≤ _)⟩)
      dsimp only [Pt.U, Pt.locs, Pt.cells, Pt.slots] at X682 l682 y682 z682 st682 hQ682
      subst l682 y682 z682
      obtain ⟨rfl, Nq683, Kq684, F685, F686, F687⟩ := hQ682
      have N688 := Fr.app N544 Nq683
      refine Go.tr (g' := (mkF m 189 #[.val (.int p0), .val (.int p1), .val (.int p2), .val (.int p3), .val (.int v414), .val (.int v417), .val (.ref b421), .val (.ref b444), .val (.ref b472), .val (.ref b505), .unset] [(.ref a552)])) st682 ?_
      have V689 : Dar Z T682.heap b421 .double 3 (fun j => if j = 2 then .double (FP.i2d p2) else (fun j => if j = 1 then .double (FP.i2d p1) else (fun j => if j = 0 then .double (FP.i2d p0) else (fun _ => .double (0 : UInt64)) j) j) j) := Dar.keep V560 Kq684 (ninS ne553 nin0)
      have V690 : Dar Z T682.heap b444 .double 3 (fun j => if j = 2 then .double (FP.dsub (FP.dneg (FP.i2d p2)) (4607182418800017408 : UInt64)) else (fun j => if j = 1 then .double (FP.dsub (FP.dneg (FP.i2d p1)) (4607182418800017408 : UInt64)) else (fun j => if j = 0 then .double (FP.dsub (FP.dneg (FP.i2d p0)) (4607182418800017408 : UInt64)) else (fun _ => .double (0 : UInt64)) j) j) j) := Dar.keep V561 Kq684 (ninS ne554 nin0)
      have V691 : Dar Z T682.heap b472 .double 3 (fun j => if j = 2 then .double (FP.dadd (FP.i2d p2) (4602678819172646912 : UInt64)) else (fun j => if j = 1 then .double (FP.dadd (FP.i2d p1) (4602678819172646912 : UInt64)) else (fun j => if j = 0 then .double (FP.dadd (FP.i2d p0) (4602678819172646912 : UInt64)) else (fun _ => .double (0 : UInt64)) j) j) j) := Dar.keep V562 Kq684 (ninS ne555 nin0)
      have V692 : Dar Z T682.heap b505 .boolean 3 (fun j => if j = 2 then .int v540 else (fun j => if j = 1 then .int v529 else (fun j => if j = 0 then .int v518 else (fun _ => .int (0 : Int32)) j) j) j) := Dar.keep V563 Kq684 (ninS ne556 nin0)
      have E693 : Exa Z T682.heap a552 "com/example/swathloom/swathloom/planning/Plan" := Exa.keep EA551 Kq684
      have Z694 : n0 ≤ T682.heap.size := Nat.le_trans Z564 Kq684.1
      have K695 : Keep h0 T682.heap [] := K559.trans Kq684 (allS (Or.inr gh558) all0)
      have A696 := (⟨X682, hx, hby⟩ : Ax _ _ _ _ _ _ _ _ _ _ _ _ _ _ _)
      refine g_astore A696 at_189 rfl (ls' := #[.val (.int p0), .val (.int p1), .val (.int p2), .val (.int p3), .val (.int v414), .val (.int v417), .val (.ref b421), .val (.ref b444), .val (.ref b472), .val (.ref b505), .val (.ref a552)]) rfl (pc' := 191) rfl ?_
      refine g_aload A696 at_191 rfl rfl (pc' := 193) rfl ?_
      refine g_iconst A696 at_193 (v := (0 : Int32)) rfl (pc' := 194) rfl ?_
      refine g_iload A696 at_194 rfl (pc' := 196) rfl ?_
      refine g_iloadN A696 at_196 rfl (pc' := 197) rfl ?_
      have hz697 : ¬ v414 = 0 := by rw [hv414, if_pos hc645]; decide
      obtain ⟨_, _, ⟨T698, L698, k698, n698⟩, -, X698, ⟨L698c, hQ698, l698, y698, z698⟩, st698⟩ := Jvm.LawKit.callS X682 hx (y := (⟨"com/example/swathloom/swathloom/planning/PlanSelectionVelocityPinLaw", "check", "(Lcom/example/swathloom/swathloom/planning/Plan;IZI)Z"⟩ : MethodName)) hown (mvT hZ (hw _ (List.mem_of_getElem? (i := 22) rfl))) (mvT hZ (hw _ (List.mem_of_getElem? (i := 23) rfl))) (mvT hZ (hw _ (List.mem_of_getElem? (i := 24) rfl))) (mvT hZ (hw _ (List.mem_of_getElem? (i := 25) rfl))) (by decide) (backOf (W := 0) (rm3n l Z a0 hw [] a552 (0 : Int32) v414 p0 T682.heap n0 Z694 E693 F687 hz697) hZ (hw _ (List.mem_of_getElem? (i := 25) rfl)) (hw _ (List.mem_of_getElem? (i := 24) rfl)) (by decide) (by decide)) (g := (mkF m 197 #[.val (.int p0), .val (.int p1), .val (.int p2), .val (.int p3), .val (.int v414), .val (.int v417), .val (.ref b421), .val (.ref b444), .val (.ref b472), .val (.ref b505), .val (.ref a552)] [(.int p0), (.int v414), (.int (0 : Int32)), (.ref a552)])) rfl (by rw [hml]; rfl) (argsL := [(.ref a552), (.int (0 : Int32)), (.int v414), (.int p0)]) (rest := []) (lenOf pd_2 rfl) rfl (by show 2 * 0 + _ ≤ _; exact Nat.le_of_eq rfl) (hb hby at_197) (fun _ _ => ⟨rfl, rfl, (by decide : 5 + 0 ≤ _), (by decide : 17 + 0 ≤ _)⟩)
      dsimp only [Pt.U, Pt.locs, Pt.cells, Pt.slots] at X698 l698 y698 z698 st698 hQ698
      subst l698 y698 z698
      obtain ⟨rfl, Nq699, Kq700⟩ := hQ698
      have N701 := Fr.app N688 Nq699
      refine Go.of (g' := (mkF m 200 #[.val (.int p0), .val (.int p1), .val (.int p2), .val (.int p3), .val (.int v414), .val (.int v417), .val (.ref b421), .val (.ref b444), .val (.ref b472), .val (.ref b505), .val (.ref a552)] [(.int (1 : Int32))])) st698 ?_
      have e702 : T698.heap = T682.heap := Kq700
      have A703 := (⟨X698, hx, hby⟩ : Ax _ _ _ _ _ _ _ _ _ _ _ _ _ _ _)
      refine g_ifN A703 at_200 (c0_eq_f (by decide)) (pc' := 203) rfl ?_
      refine g_aload A703 at_203 rfl rfl (pc' := 205) rfl ?_
      refine g_iconst A703 at_205 (v := (1 : Int32)) rfl (pc' := 206) rfl ?_
      refine g_iload A703 at_206 rfl (pc' := 208) rfl ?_
      refine g_iloadN A703 at_208 rfl (pc' := 209) rfl ?_
      have hz704 : ¬ v414 = 0 := by rw [hv414, if_pos hc645]; decide
      obtain ⟨_, _, ⟨T705, L705, k705, n705⟩, -, X705, ⟨L705c, hQ705, l705, y705, z705⟩, st705⟩ := Jvm.LawKit.callS X698 hx (y := (⟨"com/example/swathloom/swathloom/planning/PlanSelectionVelocityPinLaw", "check", "(Lcom/example/swathloom/swathloom/planning/Plan;IZI)Z"⟩ : MethodName)) hown (mvT hZ (hw _ (List.mem_of_getElem? (i := 22) rfl))) (mvT hZ (hw _ (List.mem_of_getElem? (i := 23) rfl))) (mvT hZ (hw _ (List.mem_of_getElem? (i := 24) rfl))) (mvT hZ (hw _ (List.mem_of_getElem? (i := 25) rfl))) (by decide) (backOf (W := 0) (rm3n l Z a0 hw [] a552 (1 : Int32) v414 p1 T682.heap n0 Z694 E693 F687 hz704) hZ (hw _ (List.mem_of_getElem? (i := 25) rfl)) (hw _ (List.mem_of_getElem? (i := 24) rfl)) (by decide) (by decide)) (g := (mkF m 209 #[.val (.int p0), .val (.int p1), .val (.int p2), .val (.int p3), .val (.int v414), .val (.int v417), .val (.ref b421), .val (.ref b444), .val (.ref b472), .val (.ref b505), .val (.ref a552)] [(.int p1), (.int v414), (.int (1 : Int32)), (.ref a552)])) rfl (by rw [hml]; rfl) (argsL := [(.ref a552), (.int (1 : Int32)), (.int v414), (.int p1)]) (rest := []) (lenOf pd_2 rfl) rfl (by show 2 * 0 + _ ≤ _; exact Nat.le_of_eq rfl) (hb hby at_209) (fun _ _ => ⟨rfl, e702, (by decide : 5 + 0 ≤ _), (by decide : 17 + 0 ≤ _)⟩)
      dsimp only [Pt.U, Pt.locs, Pt.cells, Pt.slots] at X705 l705 y705 z705 st705 hQ705
      subst l705 y705 z705
      obtain ⟨rfl, Nq706, Kq707⟩ := hQ705
      have N708 := Fr.app N701 Nq706
      refine Go.of (g' := (mkF m 212 #[.val (.int p0), .val (.int p1), .val (.int p2), .val (.int p3), .val (.int v414), .val (.int v417), .val (.ref b421), .val (.ref b444), .val (.ref b472), .val (.ref b505), .val (.ref a552)] [(.int (1 : Int32))])) st705 ?_
      have e709 : T705.heap = T682.heap := Kq707
      have A710 := (⟨X705, hx, hby⟩ : Ax _ _ _ _ _ _ _ _ _ _ _ _ _ _ _)
      refine g_ifN A710 at_212 (c0_eq_f (by decide)) (pc' := 215) rfl ?_
      refine g_aload A710 at_215 rfl rfl (pc' := 217) rfl ?_
      refine g_iconst A710 at_217 (v := (2 : Int32)) rfl (pc' := 218) rfl ?_
      refine g_iload A710 at_218 rfl (pc' := 220) rfl ?_
      refine g_iloadN A710 at_220 rfl (pc' := 221) rfl ?_
      have hz711 : ¬ v414 = 0 := by rw [hv414, if_pos hc645]; decide
      obtain ⟨_, _, ⟨T712, L712, k712, n712⟩, -, X712, ⟨L712c, hQ712, l712, y712, z712⟩, st712⟩ := Jvm.LawKit.callS X705 hx (y := (⟨"com/example/swathloom/swathloom/planning/PlanSelectionVelocityPinLaw", "check", "(Lcom/example/swathloom/swathloom/planning/Plan;IZI)Z"⟩ : MethodName)) hown (mvT hZ (hw _ (List.mem_of_getElem? (i := 22) rfl))) (mvT hZ (hw _ (List.mem_of_getElem? (i := 23) rfl))) (mvT hZ (hw _ (List.mem_of_getElem? (i := 24) rfl))) (mvT hZ (hw _ (List.mem_of_getElem? (i := 25) rfl))) (by decide) (backOf (W := 0) (rm3n l Z a0 hw [] a552 (2 : Int32) v414 p2 T682.heap n0 Z694 E693 F687 hz711) hZ (hw _ (List.mem_of_getElem? (i := 25) rfl)) (hw _ (List.mem_of_getElem? (i := 24) rfl)) (by decide) (by decide)) (g := (mkF m 221 #[.val (.int p0), .val (.int p1), .val (.int p2), .val (.int p3), .val (.int v414), .val (.int v417), .val (.ref b421), .val (.ref b444), .val (.ref b472), .val (.ref b505), .val (.ref a552)] [(.int p2), (.int v414), (.int (2 : Int32)), (.ref a552)])) rfl (by rw [hml]; rfl) (argsL := [(.ref a552), (.int (2 : Int32)), (.int v414), (.int p2)]) (rest := []) (lenOf pd_2 rfl) rfl (by show 2 * 0 + _ ≤ _; exact Nat.le_of_eq rfl) (hb hby at_221) (fun _ _ => ⟨rfl, e709, (by decide : 5 + 0 ≤ _), (by decide : 17 + 0 ≤ _)⟩)
      dsimp only [Pt.U, Pt.locs, Pt.cells, Pt.slots] at X712 l712 y712 z712 st712 hQ712
      subst l712 y712 z712
      obtain ⟨rfl, Nq713, Kq714⟩ := hQ712
      have N715 := Fr.app N708 Nq713
      refine Go.of (g' := (mkF m 224 #[.val (.int p0), .val (.int p1), .val (.int p2), .val (.int p3), .val (.int v414), .val (.int v417), .val (.ref b421), .val (.ref b444), .val (.ref b472), .val (.ref b505), .val (.ref a552)] [(.int (1 : Int32))])) st712 ?_
      have e716 : T712.heap = T682.heap := Kq714
      have A717 := (⟨X712, hx, hby⟩ : Ax _ _ _ _ _ _ _ _ _ _ _ _ _ _ _)
      refine g_ifN A717 at_224 (c0_eq_f (by decide)) (pc' := 227) rfl ?_
      refine g_iconst A717 at_227 (v := (1 : Int32)) rfl (pc' := 228) rfl ?_
      refine g_goto A717 at_228 (pc' := 232) rfl ?_
      exact g_ret (Q := Q0 Z p0 p1 p2 p3 h0 n0) A717 at_232 Bd.notSynchronized Bd.returns rfl (Or.inl ⟨rfl, by simp, _, rfl⟩) (by decide) (by decide) (by rw [e716]; exact ⟨rfl, N715⟩)
set_option maxRecDepth 65536 in
set_option maxHeartbeats 40000000 in
theorem comes_1 {Post : Tables → Env → Array Value → State → Outcome → State → Prop} (hpost : ∀ tb e args s v u, (limb_1_1.after args s (.returned v) u = true ∧ limb_1_2.after args s (.returned v) u = true ∧ True) → FrameEnd s (.returned v) u (Jvm.fieldLocs frame_1_writes args s ++ Jvm.arrayLocs frame_1_arrays args s ++ Jvm.staticLocs frame_1_statics s) 24 128 → Post tb e args s (.returned v) u) :
    ArmFor flags0 classFile x code maxLocals ret World_1 tables_1 room_1 Calls_1 rest_1 Pre_1 Post := by
  intro l hfl _ _ p e ha hc hk s m args below hf hA hF happ hP
  obtain ⟨hcalls, hrest, hpre⟩ := hP
  obtain ⟨-, -, -, hnamed, -, -, -, hat⟩ := (Spec.applies_iff hf).mp happ
  obtain ⟨hg, hn⟩ := and_e (Cond.before_iff.mp (show (Jvm.Cond.and given_1 narrow_1).before args s = true from hpre))
  obtain ⟨g0, hg1⟩ := and_e hg
  obtain ⟨w0, w1, w2, w3, rfl⟩ : ∃ w0 w1 w2 w3 : Value, args = #[w0, w1, w2, w3] := by
    have hs : args.size = 4 := by simpa [Cond.value, given_1] using g0
    obtain ⟨L⟩ := args
    match L, hs with
    | [w0, w1, w2, w3], _ => exact ⟨w0, w1, w2, w3, rfl⟩
  have hw := fun d (hd : d ∈ tables_1) => atoms_spec (ws := Jvm.Cond.code x code maxLocals ret :: tables_1) hat d (List.mem_cons_of_mem _ hd)
  have hfit : Fit s := fun {y c} hc i hi => by
    obtain ⟨ha, rfl⟩ := Array.getElem?_eq_some_iff.mp hc
    have q := List.all_eq_true.mp ((Array.all_eq_true_iff_forall_mem.mp hF) _ (Array.getElem_mem ha)) i (List.mem_range.mpr hi)
    simpa [Array.getElem?_eq_getElem hi] using q
  obtain ⟨k0, hg2⟩ := and_e hg1
  obtain ⟨i0, j0⟩ := is_v k0
  obtain rfl : w0 = (.int i0) := Option.some.inj j0
  obtain ⟨k1, hg3⟩ := and_e hg2
  obtain ⟨i1, j1⟩ := is_v k1
  obtain rfl : w1 = (.int i1) := Option.some.inj j1
  obtain ⟨k2, hg4⟩ := and_e hg3
  obtain ⟨i2, j2⟩ := is_v k2
  obtain rfl : w2 = (.int i2) := Option.some.inj j2
  obtain ⟨i3, j3⟩ := is_v hg4
  obtain rfl : w3 = (.int i3) := Option.some.inj j3
  obtain ⟨n, o, h1, h2, h3, _, L, rfl, ⟨rfl, N⟩, hq⟩ := rm0 l s _ hw tables_1 i0 i1 i2 i3 s.heap s.heap.size (Nat.le_refl _)  p e ha hc hk s m _ below hf ((Spec.applies_iff_loose hf).mp happ).1 ⟨rfl, State.Warmed39.refl s, rfl⟩ trivial
  refine ⟨n, _, h1, h2, h3, hpost _ _ _ _ _ _ ⟨Cond.after_iff.mpr rfl, Cond.after_iff.mpr (eq_i res_at (Term.int_eval (1)) rfl), trivial⟩ ⟨hq.1, hq.2.1, (hq.2.2.sift fun y hy => Or.inr (N y hy)).mono (by decide) (by decide)⟩⟩
theorem main_1_1 : Claimed_1_1 := comes_1 fun _ _ _ _ _ _ h hF => ⟨h.1, hF⟩
theorem main_1_2 : Claimed_1_2 := comes_1 fun _ _ _ _ _ _ h hF => ⟨h.2.1, hF⟩
end Jvm.Pilot.@@N@@
namespace Jvm.Pilot.@@N@@
open Jvm Jvm.ClassFile Sem Op Lib Jvm.Free Jvm.Stand Jvm.Pilot.@@N@@.Jvm.D
/-! MADE BY PROGRAM (witnessworld.py) out of the Statement's table words and the real class files: 13 classes; the members and pool entries that the words name. The judged class is class 1, her method 1. -/
namespace start1
open Jvm.ClassFile
def u (s : String) : CpInfo := .utf8 (stringToUtf16 s)
/-- a pool by its gaps: so many unusable entries, then the entry; so many at the end -/
def gap : Nat → List CpInfo → List CpInfo
  | 0, r => r
  | n + 1, r => .unusable :: gap n r
def poolList (es : List (Nat × CpInfo)) (last : Nat) : List CpInfo := es.foldr (fun e r => gap e.1 (e.2 :: r)) (gap last [])
def pool (es : List (Nat × CpInfo)) (last : Nat) : Array CpInfo := ⟨poolList es last⟩
def fileOf (pool : Array CpInfo) (this : Nat) (attrs : Array Attribute := #[]) (ms : Array MethodInfo := #[]) (fl : Nat := 33) (sup : Nat := 0) (ifs : Array Nat := #[]) (fds : Array FieldInfo := #[]) : ClassFile where
  minorVersion := 0
  majorVersion := 65
  constantPool := pool
  accessFlags := fl
  thisClass := this
  superClass := sup
  interfaces := ifs
  fields := fds
  methods := ms
  attributes := attrs
def plain (name : String) (sup : Option ClassId) : Class where
  name := name
  kind := .ordinary
  loader := none
  accessFlags := 33
  super := sup
  interfaces := #[]
  cf := none
  fields := #[]
  methods := #[]
  instanceTypes := #[]
  staticTypes := #[]
  resolved := #[]
  callSites := []
  init := .initialized
  statics := none
  mirror := none

def pool0 : Array CpInfo := pool [(5, u "<init>"), (0, u "()V"), (1, .class_ 10), (1, u "java/lang/Object")] 113

def k0c0 : Code := { maxStack := 0, maxLocals := 1, code := object_method_1_code, exceptionTable := #[], attributes := #[] }
def k0m0 : Method := { name := "<init>", desc := "()V", sig := { parameters := [], returnType := none }, accessFlags := 1, code := some k0c0 }
/-- java/lang/Object -/
def k0 : Class := { plain "java/lang/Object" none with
  accessFlags := 33
  interfaces := #[]
  cf := some (fileOf pool0 8 #[] #[{ accessFlags := 1, nameIndex := 5, descriptorIndex := 6, attributes := #[] }] 33 0 #[] #[])
  fields := #[]
  methods := #[k0m0]
  instanceTypes := #[]
  staticTypes := #[]
  resolved := Array.replicate 124 none
  statics := none }

def pool1 : Array CpInfo := pool [(2, .class_ 4), (1, u "java/lang/Object"), (0, u "<init>"), (0, u "()V"), (0, .double 4602678819172646912), (1, .class_ 10), (0, u "com/example/swathloom/swathloom/planning/Plan"), (0, .methodref 9 12), (0, .nameAndType 5 13), (0, u "([D[Z[D[D)V"), (0, .methodref 15 16), (0, .class_ 17), (0, .nameAndType 18 19), (0, u "com/example/swathloom/swathloom/planning/PlanSelectionVelocityPinLaw"), (0, u "check"), (0, u "(Lcom/example/swathloom/swathloom/planning/Plan;IZI)Z"), (0, .methodref 9 21), (0, .nameAndType 22 23), (0, u "selectionVelocity"), (0, u "(I)D"), (2, u "law"), (0, u "(IIII)Z")] 7

def k1m0 : Method := { name := "<init>", desc := "()V", sig := { parameters := [], returnType := none }, accessFlags := 1, code := none }
def k1c1 : Code := { maxStack := 7, maxLocals := 11, code := code, exceptionTable := #[], attributes := #[] }
def k1m1 : Method := { name := "law", desc := "(IIII)Z", sig := { parameters := [.int, .int, .int, .int], returnType := some .boolean }, accessFlags := 9, code := some k1c1 }
def k1c2 : Code := { maxStack := 4, maxLocals := 6, code := method_3_code, exceptionTable := #[], attributes := #[] }
def k1m2 : Method := { name := "check", desc := "(Lcom/example/swathloom/swathloom/planning/Plan;IZI)Z", sig := { parameters := [(.object "com/example/swathloom/swathloom/planning/Plan"), .int, .boolean, .int], returnType := some .boolean }, accessFlags := 10, code := some k1c2 }
/-- com/example/swathloom/swathloom/planning/PlanSelectionVelocityPinLaw -/
def k1 : Class := { plain "com/example/swathloom/swathloom/planning/PlanSelectionVelocityPinLaw" (some 0) with
  accessFlags := 49
  interfaces := #[]
  cf := some (fileOf pool1 15 #[] #[{ accessFlags := 1, nameIndex := 5, descriptorIndex := 6, attributes := #[] }, { accessFlags := 9, nameIndex := 26, descriptorIndex := 27, attributes := #[] }, { accessFlags := 10, nameIndex := 18, descriptorIndex := 19, attributes := #[] }] 49 2 #[] #[])
  fields := #[]
  methods := #[k1m0, k1m1, k1m2]
  instanceTypes := #[]
  staticTypes := #[]
  resolved := Array.replicate 35 none
  statics := none }

def pool2 : Array CpInfo := pool [(2, .class_ 4), (1, u "com/example/swathloom/swathloom/planning/Plan"), (0, u "<init>"), (0, u "([D[Z[D[D)V"), (0, .methodref 8 9), (0, .class_ 10), (0, .nameAndType 5 11), (0, u "java/lang/Object"), (0, u "()V"), (12, .fieldref 2 25), (0, .nameAndType 26 27), (0, u "rolls"), (0, u "[D"), (0, .fieldref 2 29), (0, .nameAndType 30 31), (0, u "used"), (0, u "[Z"), (0, .fieldref 2 33), (0, .nameAndType 34 27), (0, u "rollVelocities"), (0, .fieldref 2 36), (0, .nameAndType 37 27), (0, u "selectionVelocities"), (0, .fieldref 2 39), (0, .nameAndType 40 41), (0, u "strips"), (0, u "I"), (14, u "(I)D"), (3, u "selectionVelocity")] 21

def k2c0 : Code := { maxStack := 4, maxLocals := 10, code := prog_19_method_2_code, exceptionTable := #[], attributes := #[] }
def k2m0 : Method := { name := "<init>", desc := "([D[Z[D[D)V", sig := { parameters := [(.array .double), (.array .boolean), (.array .double), (.array .double)], returnType := none }, accessFlags := 0, code := some k2c0 }
def k2c1 : Code := { maxStack := 2, maxLocals := 2, code := prog_19_method_7_code, exceptionTable := #[], attributes := #[] }
def k2m1 : Method := { name := "selectionVelocity", desc := "(I)D", sig := { parameters := [.int], returnType := some .double }, accessFlags := 0, code := some k2c1 }
/-- com/example/swathloom/swathloom/planning/Plan -/
def k2 : Class := { plain "com/example/swathloom/swathloom/planning/Plan" (some 0) with
  accessFlags := 48
  interfaces := #[]
  cf := some (fileOf pool2 2 #[] #[{ accessFlags := 0, nameIndex := 5, descriptorIndex := 6, attributes := #[] }, { accessFlags := 0, nameIndex := 60, descriptorIndex := 56, attributes := #[] }] 48 8 #[] #[{ accessFlags := 18, nameIndex := 26, descriptorIndex := 27, attributes := #[] }, { accessFlags := 18, nameIndex := 30, descriptorIndex := 31, attributes := #[] }, { accessFlags := 18, nameIndex := 34, descriptorIndex := 27, attributes := #[] }, { accessFlags := 18, nameIndex := 37, descriptorIndex := 27, attributes := #[] }, { accessFlags := 18, nameIndex := 40, descriptorIndex := 41, attributes := #[] }])
  fields := #[{ name := "rolls", type := (.array .double), accessFlags := 18, slot := 0, constantValue := 0 }, { name := "used", type := (.array .boolean), accessFlags := 18, slot := 1, constantValue := 0 }, { name := "rollVelocities", type := (.array .double), accessFlags := 18, slot := 2, constantValue := 0 }, { name := "selectionVelocities", type := (.array .double), accessFlags := 18, slot := 3, constantValue := 0 }, { name := "strips", type := .int, accessFlags := 18, slot := 4, constantValue := 0 }]
  methods := #[k2m0, k2m1]
  instanceTypes := #[(.array .double), (.array .boolean), (.array .double), (.array .double), .int]
  staticTypes := #[]
  resolved := Array.replicate 82 none
  statics := none }

def pool3 : Array CpInfo := pool [(1, u "java/lang/Cloneable"), (0, .class_ 1), (0, u "java/lang/Object"), (0, .class_ 3)] 3

/-- java/lang/Cloneable -/
def k3 : Class := { plain "java/lang/Cloneable" (some 0) with
  accessFlags := 1537
  interfaces := #[]
  cf := some (fileOf pool3 2 #[] #[] 1537 4 #[] #[])
  fields := #[]
  methods := #[]
  instanceTypes := #[]
  staticTypes := #[]
  resolved := Array.replicate 8 none
  statics := none }

def pool4 : Array CpInfo := pool [(1, u "java/io/Serializable"), (0, .class_ 1), (0, u "java/lang/Object"), (0, .class_ 3)] 3

/-- java/io/Serializable -/
def k4 : Class := { plain "java/io/Serializable" (some 0) with
  accessFlags := 1537
  interfaces := #[]
  cf := some (fileOf pool4 2 #[] #[] 1537 4 #[] #[])
  fields := #[]
  methods := #[]
  instanceTypes := #[]
  staticTypes := #[]
  resolved := Array.replicate 8 none
  statics := none }

/-- the primitive boolean -/
def k5 : Class := { plain "boolean" none with kind := .primitive 'Z', accessFlags := 0x411 }
/-- [Z -/
def k6 : Class := { plain "[Z" (some 0) with kind := .array 5 .boolean, interfaces := #[3, 4], accessFlags := 1041 }

/-- the primitive byte -/
def k7 : Class := { plain "byte" none with kind := .primitive 'B', accessFlags := 0x411 }
/-- [B -/
def k8 : Class := { plain "[B" (some 0) with kind := .array 7 .byte, interfaces := #[3, 4], accessFlags := 1041 }

/-- the primitive double -/
def k9 : Class := { plain "double" none with kind := .primitive 'D', accessFlags := 0x411 }
/-- [D -/
def k10 : Class := { plain "[D" (some 0) with kind := .array 9 .double, interfaces := #[3, 4], accessFlags := 1041 }

/-- the primitive int -/
def k11 : Class := { plain "int" none with kind := .primitive 'I', accessFlags := 0x411 }
/-- [I -/
def k12 : Class := { plain "[I" (some 0) with kind := .array 11 .int, interfaces := #[3, 4], accessFlags := 1041 }

def heap : Heap := #[]
def classes : Array Class := #[k0, k1, k2, k3, k4, k5, k6, k7, k8, k9, k10, k11, k12]
def interned : List (Array UInt16 × Addr) := []
def slotsUsed : Nat := 0
def theMethod : MethodId := ⟨1, 1⟩
def args0 : Array Value := #[.int 5, .int 3, .int 1, .int 9]
def aboutOver (below : List Frame) : State where
  vm := { classes := classes, interned := interned.toArray }
  heap := heap
  slotsUsed := slotsUsed
  threads := #[{ frames := .invoking theMethod args0 :: below }]
def below0 : List Frame := [.native { method := ⟨0, 0⟩, args := #[] }]
def about1 : State := aboutOver below0
def p0 : Program := .bare "" "" ""
def e0 : Env := launch0.env 0 0 0
theorem w_frames : about1.frames = Frame.invoking theMethod args0 :: below0 := rfl
set_option maxRecDepth 65536 in
theorem w_args : argsFit about1.vm theMethod args0 = true := by decide +kernel
set_option maxRecDepth 65536 in
theorem w_heap : heapFits about1 = true := by decide +kernel
set_option maxRecDepth 65536 in
theorem w_runnable : about1.curStatus? = some .runnable := by decide +kernel
set_option maxRecDepth 65536 in
theorem w_alone : about1.alone = true := by decide +kernel
set_option maxRecDepth 65536 in
theorem w_named : about1.methodNamed? x = some theMethod := by decide +kernel
set_option maxRecDepth 65536 in
theorem w_hears : about1.hears theMethod below0 = true := by decide +kernel
set_option maxRecDepth 65536 in
theorem w_ripe : about1.ripe theMethod args0 below0 = true := by decide +kernel
theorem w_running : about1.status = .running := rfl
set_option maxRecDepth 65536 in
theorem w_room : about1.hasRoom e0.platform room_1 = true :=
  launch0.hasRoom_least _ room_1 (by decide +kernel) (by decide +kernel) (by decide +kernel) (by decide +kernel) (by decide +kernel) (by decide +kernel)
theorem allAtoms_all (ts : List Jvm.Cond) (a : Array Jvm.Value) (st : Jvm.State) : (allAtoms ts).before a st = ts.all (fun c => c.before a st) := by
  induction ts with
  | nil => rfl
  | cons c t ih =>
    show (Jvm.Cond.and c (allAtoms t)).before a st = _
    rw [Jvm.Cond.before_and, ih, List.all_cons]
def words1 : List Jvm.Cond := Jvm.Cond.code x code maxLocals ret :: tables_1
/-- a 'code' word, met by the world's own term for the bytes: nothing is compared byte by byte -/
theorem code_word {y : MethodName} {bytes : ByteArray} {mx : Nat} {rt : Option FieldType} {a : Array Value} {s : State} {m : MethodId} {meth : Method} {c : Code} (h1 : s.methodNamed? y = some m) (h2 : s.vm.method? m = some meth) (h3 : meth.code = some c) (h4 : c.code = bytes)
    (h5 : (c.maxLocals == mx && c.exceptionTable.isEmpty && decide (c.maxStack ≤ mostOperands) && decide (meth.sig.returnType = rt) && !meth.locks && decide (parseMethodDescriptor y.desc = some meth.sig)) = true) : (Jvm.Cond.code y bytes mx rt).before a s = true := by
  simp only [Bool.and_eq_true, beq_iff_eq, Bool.not_eq_true', decide_eq_true_eq] at h5
  obtain ⟨⟨⟨⟨⟨g1, g2⟩, g3⟩, g4⟩, g5⟩, g6⟩ := h5
  simp [Cond.before, Cond.holds, Cond.value, h1, h2, h3, h4, g1, g2, g3, g4, g5, g6]
def isCode : Jvm.Cond → Bool
  | .code _ _ _ _ => true
  | _ => false
theorem all_split {L : List Jvm.Cond} {P : Jvm.Cond → Bool} (h1 : L.all (fun c => isCode c || P c) = true) (h2 : ∀ c ∈ L.filter isCode, P c = true) : L.all P = true := by
  refine List.all_eq_true.mpr fun c hc => ?_
  have h := List.all_eq_true.mp h1 c hc
  rcases Bool.eq_false_or_eq_true (isCode c) with hi | hi
  · exact h2 c (List.mem_filter.mpr ⟨hc, hi⟩)
  · simpa [hi] using h
set_option maxRecDepth 65536 in
theorem w_c0 : (Jvm.Cond.code x code maxLocals ret).before args0 about1 = true := code_word (m := ⟨1, 1⟩) (meth := k1m1) (c := k1c1) (by decide +kernel) rfl rfl rfl (by decide +kernel)
set_option maxRecDepth 65536 in
theorem w_c1 : (Jvm.Cond.code ({ cls := "com/example/swathloom/swathloom/planning/Plan", name := "<init>", desc := "([D[Z[D[D)V" } : Jvm.MethodName) prog_19_method_2_code (10 : Nat) (Option.none : Option Jvm.ClassFile.FieldType)).before args0 about1 = true := code_word (m := ⟨2, 0⟩) (meth := k2m0) (c := k2c0) (by decide +kernel) rfl rfl rfl (by decide +kernel)
set_option maxRecDepth 65536 in
theorem w_c2 : (Jvm.Cond.code ({ cls := "java/lang/Object", name := "<init>", desc := "()V" } : Jvm.MethodName) object_method_1_code (1 : Nat) (Option.none : Option Jvm.ClassFile.FieldType)).before args0 about1 = true := code_word (m := ⟨0, 0⟩) (meth := k0m0) (c := k0c0) (by decide +kernel) rfl rfl rfl (by decide +kernel)
set_option maxRecDepth 65536 in
theorem w_c3 : (Jvm.Cond.code ({ cls := "com/example/swathloom/swathloom/planning/PlanSelectionVelocityPinLaw", name := "check", desc := "(Lcom/example/swathloom/swathloom/planning/Plan;IZI)Z" } : Jvm.MethodName) method_3_code (6 : Nat) (Option.some Jvm.ClassFile.FieldType.boolean)).before args0 about1 = true := code_word (m := ⟨1, 2⟩) (meth := k1m2) (c := k1c2) (by decide +kernel) rfl rfl rfl (by decide +kernel)
set_option maxRecDepth 65536 in
theorem w_c4 : (Jvm.Cond.code ({ cls := "com/example/swathloom/swathloom/planning/Plan", name := "selectionVelocity", desc := "(I)D" } : Jvm.MethodName) prog_19_method_7_code (2 : Nat) (Option.some Jvm.ClassFile.FieldType.double)).before args0 about1 = true := code_word (m := ⟨2, 1⟩) (meth := k2m1) (c := k2c1) (by decide +kernel) rfl rfl rfl (by decide +kernel)
def codes1 : List Jvm.Cond := [Jvm.Cond.code x code maxLocals ret, Jvm.Cond.code ({ cls := "com/example/swathloom/swathloom/planning/Plan", name := "<init>", desc := "([D[Z[D[D)V" } : Jvm.MethodName) prog_19_method_2_code (10 : Nat) (Option.none : Option Jvm.ClassFile.FieldType), Jvm.Cond.code ({ cls := "java/lang/Object", name := "<init>", desc := "()V" } : Jvm.MethodName) object_method_1_code (1 : Nat) (Option.none : Option Jvm.ClassFile.FieldType), Jvm.Cond.code ({ cls := "com/example/swathloom/swathloom/planning/PlanSelectionVelocityPinLaw", name := "check", desc := "(Lcom/example/swathloom/swathloom/planning/Plan;IZI)Z" } : Jvm.MethodName) method_3_code (6 : Nat) (Option.some Jvm.ClassFile.FieldType.boolean), Jvm.Cond.code ({ cls := "com/example/swathloom/swathloom/planning/Plan", name := "selectionVelocity", desc := "(I)D" } : Jvm.MethodName) prog_19_method_7_code (2 : Nat) (Option.some Jvm.ClassFile.FieldType.double)]
set_option maxRecDepth 65536 in
theorem codes_eq : words1.filter isCode = codes1 := rfl
theorem w_codes : ∀ c ∈ words1.filter isCode, c.before args0 about1 = true := by
  rw [codes_eq]
  intro c hc
  simp only [codes1, List.mem_cons, List.not_mem_nil, or_false] at hc
  rcases hc with rfl | rfl | rfl | rfl | rfl
  · exact w_c0
  · exact w_c1
  · exact w_c2
  · exact w_c3
  · exact w_c4
set_option maxRecDepth 65536 in
theorem w_t1 : (words1.take 24).all (fun c => isCode c || c.before args0 about1) = true := by decide +kernel
set_option maxRecDepth 65536 in
theorem w_t2 : (words1.drop 24).all (fun c => isCode c || c.before args0 about1) = true := by decide +kernel
theorem w_tables : (allAtoms (Jvm.Cond.code x code maxLocals ret :: tables_1)).before args0 about1 = true := by
  rw [allAtoms_all]
  show words1.all (fun c => c.before args0 about1) = true
  refine all_split ?_ w_codes
  rw [← List.take_append_drop 24 words1, List.all_append, w_t1, w_t2]
  rfl
set_option maxRecDepth 65536 in
theorem w_case : (Jvm.Cond.and given_1 narrow_1).before args0 about1 = true := by decide +kernel
theorem w_applies : (headSpec (Jvm.Cond.code x code maxLocals ret :: tables_1) room_1).applies x e0.platform about1 = true :=
  (Spec.applies_iff w_frames).mpr ⟨w_running, w_runnable, w_alone, w_named, w_hears, w_ripe, w_room, w_tables⟩
theorem atStart : AtStart classFile x code maxLocals ret World_1 tables_1 room_1 Calls_1 rest_1 Pre_1 launch0 p0 e0 about1 theMethod args0 below0 :=
  ⟨lists_1, trivial, launch0.admits_env _ _ _, launch0.least_env, fairChoices_fair.cas, fairChoices_fair.clock, w_frames, w_args, w_heap, w_applies, trivial, trivial, w_case⟩
end start1
theorem witness_1 : WitnessClaimed_1 := ⟨start1.p0, start1.e0, start1.about1, start1.theMethod, start1.args0, start1.below0, start1.atStart⟩
end Jvm.Pilot.@@N@@
