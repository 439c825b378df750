import JvmDerived
import JvmDerived.Pilot.@@N@@Statement
import JvmDerived.Pilot.@@N@@Code
set_option linter.unusedVariables false
set_option linter.unusedSimpArgs false
namespace Jvm.Pilot.@@N@@
open Jvm Jvm.ClassFile Sem Op Lib Jvm.Free Jvm.Free.Fl Jvm.Stand Jvm.LawKit Jvm.RoadKit Bundle Jvm.Pilot.@@N@@.Jvm.D
section own_go
/-- where the walk stands, with the two facts that every step asks -/
def Ax (p : Program) (l : Launch) (e : Env) (R : Room) (s : State) (m : MethodId) (args : Array Value) (below : List Frame) (meth : Method) (c : Code) (T : State) (locs : List Loc) (cells slots : Nat) (B : ByteArray) : Prop := Stand p l e R s m args below meth c T locs cells slots ∧ p.tables.exec = Jvm.exec ∧ c.code = B
/-- from this frame the run ends, and P holds of its end -/
def Go (p : Program) (e : Env) (below : List Frame) (P : State → Outcome → Prop) (T : State) (g : JFrame) : Prop := ∃ U o, Steps p.tables e below (T.setTop g) U ∧ U.status = .running ∧ Ended U below o ∧ P U o
variable {p : Program} {l : Launch} {e : Env} {R : Room} {s : State} {m : MethodId} {args : Array Value} {below : List Frame} {meth : Method} {c : Code} {T : State} {locs : List Loc} {cells slots : Nat} {P : State → Outcome → Prop} {B : ByteArray} {pc pc' : Nat} {ls ls' : Array Slot} {st : List Value}
theorem Go.of {T' : State} {g g' : JFrame} (k : ∀ t, Steps p.tables e below (T'.setTop g') t → Steps p.tables e below (T.setTop g) t) (h : Go p e below P T' g') : Go p e below P T g := by
  obtain ⟨U, o, h1, h2⟩ := h
  exact ⟨U, o, k _ h1, h2⟩
theorem Go.tr {T' : State} {g g' : JFrame} (k : Steps p.tables e below (T.setTop g) (T'.setTop g')) (h : Go p e below P T' g') : Go p e below P T g := Go.of (fun _ h => k.trans h) h
theorem Go.cast {g g' : JFrame} (q : g = g') (h : Go p e below P T g') : Go p e below P T g := q ▸ h

theorem g_iadd (A : Ax p l e R s m args below meth c T locs cells slots B) {x : Int32} {y : Int32} (hd : decode B pc = .ok (.iadd, 1)) (hp : pc + 1 = pc') (k : Go p e below P T (mkF m pc' ls (.int (x + y) :: st))) : Go p e below P T (mkF m pc ls (.int y :: .int x :: st)) := by
  subst hp; exact Go.of (fun _ k' => XS.iadd A.1.here A.2.1 rfl (hb A.2.2 hd) rfl k') k
theorem g_isub (A : Ax p l e R s m args below meth c T locs cells slots B) {x : Int32} {y : Int32} (hd : decode B pc = .ok (.isub, 1)) (hp : pc + 1 = pc') (k : Go p e below P T (mkF m pc' ls (.int (x - y) :: st))) : Go p e below P T (mkF m pc ls (.int y :: .int x :: st)) := by
  subst hp; exact Go.of (fun _ k' => XS.isub A.1.here A.2.1 rfl (hb A.2.2 hd) rfl k') k
theorem g_iand (A : Ax p l e R s m args below meth c T locs cells slots B) {x : Int32} {y : Int32} (hd : decode B pc = .ok (.iand, 1)) (hp : pc + 1 = pc') (k : Go p e below P T (mkF m pc' ls (.int (x &&& y) :: st))) : Go p e below P T (mkF m pc ls (.int y :: .int x :: st)) := by
  subst hp; exact Go.of (fun _ k' => XS.iand A.1.here A.2.1 rfl (hb A.2.2 hd) rfl k') k
theorem g_imul (A : Ax p l e R s m args below meth c T locs cells slots B) {x : Int32} {y : Int32} (hd : decode B pc = .ok (.imul, 1)) (hp : pc + 1 = pc') (k : Go p e below P T (mkF m pc' ls (.int (x * y) :: st))) : Go p e below P T (mkF m pc ls (.int y :: .int x :: st)) := by
  subst hp; exact Go.of (fun _ k' => XS.imul A.1.here A.2.1 rfl (hb A.2.2 hd) rfl k') k
theorem g_ixor (A : Ax p l e R s m args below meth c T locs cells slots B) {x : Int32} {y : Int32} (hd : decode B pc = .ok (.ixor, 1)) (hp : pc + 1 = pc') (k : Go p e below P T (mkF m pc' ls (.int (x ^^^ y) :: st))) : Go p e below P T (mkF m pc ls (.int y :: .int x :: st)) := by
  subst hp; exact Go.of (fun _ k' => XT.ixor A.1.here A.2.1 rfl (hb A.2.2 hd) rfl k') k
theorem g_ior (A : Ax p l e R s m args below meth c T locs cells slots B) {x : Int32} {y : Int32} (hd : decode B pc = .ok (.ior, 1)) (hp : pc + 1 = pc') (k : Go p e below P T (mkF m pc' ls (.int (x ||| y) :: st))) : Go p e below P T (mkF m pc ls (.int y :: .int x :: st)) := by
  subst hp; exact Go.of (fun _ k' => XT.ior A.1.here A.2.1 rfl (hb A.2.2 hd) rfl k') k
theorem g_ishl (A : Ax p l e R s m args below meth c T locs cells slots B) {x : Int32} {y : Int32} (hd : decode B pc = .ok (.ishl, 1)) (hp : pc + 1 = pc') (k : Go p e below P T (mkF m pc' ls (.int (x <<< (y &&& 31)) :: st))) : Go p e below P T (mkF m pc ls (.int y :: .int x :: st)) := by
  subst hp; exact Go.of (fun _ k' => XT.ishl A.1.here A.2.1 rfl (hb A.2.2 hd) rfl k') k
theorem g_ishr (A : Ax p l e R s m args below meth c T locs cells slots B) {x : Int32} {y : Int32} (hd : decode B pc = .ok (.ishr, 1)) (hp : pc + 1 = pc') (k : Go p e below P T (mkF m pc' ls (.int (x >>> (y &&& 31)) :: st))) : Go p e below P T (mkF m pc ls (.int y :: .int x :: st)) := by
  subst hp; exact Go.of (fun _ k' => XT.ishr A.1.here A.2.1 rfl (hb A.2.2 hd) rfl k') k
theorem g_iushr (A : Ax p l e R s m args below meth c T locs cells slots B) {x : Int32} {y : Int32} (hd : decode B pc = .ok (.iushr, 1)) (hp : pc + 1 = pc') (k : Go p e below P T (mkF m pc' ls (.int (XT.ushr x y) :: st))) : Go p e below P T (mkF m pc ls (.int y :: .int x :: st)) := by
  subst hp; exact Go.of (fun _ k' => XT.iushr A.1.here A.2.1 rfl (hb A.2.2 hd) rfl k') k
theorem g_idiv (A : Ax p l e R s m args below meth c T locs cells slots B) {x : Int32} {y : Int32} (hd : decode B pc = .ok (.idiv, 1)) (hy : y ≠ 0) (hp : pc + 1 = pc') (k : Go p e below P T (mkF m pc' ls (.int (x / y) :: st))) : Go p e below P T (mkF m pc ls (.int y :: .int x :: st)) := by
  subst hp; exact Go.of (fun _ k' => XS.idiv A.1.here A.2.1 rfl (hb A.2.2 hd) rfl hy k') k
theorem g_ladd (A : Ax p l e R s m args below meth c T locs cells slots B) {x : Int64} {y : Int64} (hd : decode B pc = .ok (.ladd, 1)) (hp : pc + 1 = pc') (k : Go p e below P T (mkF m pc' ls (.long (x + y) :: st))) : Go p e below P T (mkF m pc ls (.long y :: .long x :: st)) := by
  subst hp; exact Go.of (fun _ k' => XT.ladd A.1.here A.2.1 rfl (hb A.2.2 hd) rfl k') k
theorem g_lsub (A : Ax p l e R s m args below meth c T locs cells slots B) {x : Int64} {y : Int64} (hd : decode B pc = .ok (.lsub, 1)) (hp : pc + 1 = pc') (k : Go p e below P T (mkF m pc' ls (.long (x - y) :: st))) : Go p e below P T (mkF m pc ls (.long y :: .long x :: st)) := by
  subst hp; exact Go.of (fun _ k' => XT.lsub A.1.here A.2.1 rfl (hb A.2.2 hd) rfl k') k
theorem g_lmul (A : Ax p l e R s m args below meth c T locs cells slots B) {x : Int64} {y : Int64} (hd : decode B pc = .ok (.lmul, 1)) (hp : pc + 1 = pc') (k : Go p e below P T (mkF m pc' ls (.long (x * y) :: st))) : Go p e below P T (mkF m pc ls (.long y :: .long x :: st)) := by
  subst hp; exact Go.of (fun _ k' => XT.lmul A.1.here A.2.1 rfl (hb A.2.2 hd) rfl k') k
theorem g_land (A : Ax p l e R s m args below meth c T locs cells slots B) {x : Int64} {y : Int64} (hd : decode B pc = .ok (.land, 1)) (hp : pc + 1 = pc') (k : Go p e below P T (mkF m pc' ls (.long (x &&& y) :: st))) : Go p e below P T (mkF m pc ls (.long y :: .long x :: st)) := by
  subst hp; exact Go.of (fun _ k' => XT.land A.1.here A.2.1 rfl (hb A.2.2 hd) rfl k') k
theorem g_lor (A : Ax p l e R s m args below meth c T locs cells slots B) {x : Int64} {y : Int64} (hd : decode B pc = .ok (.lor, 1)) (hp : pc + 1 = pc') (k : Go p e below P T (mkF m pc' ls (.long (x ||| y) :: st))) : Go p e below P T (mkF m pc ls (.long y :: .long x :: st)) := by
  subst hp; exact Go.of (fun _ k' => XT.lor A.1.here A.2.1 rfl (hb A.2.2 hd) rfl k') k
theorem g_lxor (A : Ax p l e R s m args below meth c T locs cells slots B) {x : Int64} {y : Int64} (hd : decode B pc = .ok (.lxor, 1)) (hp : pc + 1 = pc') (k : Go p e below P T (mkF m pc' ls (.long (x ^^^ y) :: st))) : Go p e below P T (mkF m pc ls (.long y :: .long x :: st)) := by
  subst hp; exact Go.of (fun _ k' => XT.lxor A.1.here A.2.1 rfl (hb A.2.2 hd) rfl k') k
theorem g_lshl (A : Ax p l e R s m args below meth c T locs cells slots B) {x : Int64} {y : Int32} (hd : decode B pc = .ok (.lshl, 1)) (hp : pc + 1 = pc') (k : Go p e below P T (mkF m pc' ls (.long (x <<< (y.toInt64 &&& 63)) :: st))) : Go p e below P T (mkF m pc ls (.int y :: .long x :: st)) := by
  subst hp; exact Go.of (fun _ k' => XT.lshl A.1.here A.2.1 rfl (hb A.2.2 hd) rfl k') k
theorem g_lshr (A : Ax p l e R s m args below meth c T locs cells slots B) {x : Int64} {y : Int32} (hd : decode B pc = .ok (.lshr, 1)) (hp : pc + 1 = pc') (k : Go p e below P T (mkF m pc' ls (.long (x >>> (y.toInt64 &&& 63)) :: st))) : Go p e below P T (mkF m pc ls (.int y :: .long x :: st)) := by
  subst hp; exact Go.of (fun _ k' => XT.lshr A.1.here A.2.1 rfl (hb A.2.2 hd) rfl k') k
theorem g_lushr (A : Ax p l e R s m args below meth c T locs cells slots B) {x : Int64} {y : Int32} (hd : decode B pc = .ok (.lushr, 1)) (hp : pc + 1 = pc') (k : Go p e below P T (mkF m pc' ls (.long (XT.ushrL x y) :: st))) : Go p e below P T (mkF m pc ls (.int y :: .long x :: st)) := by
  subst hp; exact Go.of (fun _ k' => XT.lushr A.1.here A.2.1 rfl (hb A.2.2 hd) rfl k') k
theorem g_ldiv (A : Ax p l e R s m args below meth c T locs cells slots B) {x : Int64} {y : Int64} (hd : decode B pc = .ok (.ldiv, 1)) (hy : y ≠ 0) (hp : pc + 1 = pc') (k : Go p e below P T (mkF m pc' ls (.long (x / y) :: st))) : Go p e below P T (mkF m pc ls (.long y :: .long x :: st)) := by
  subst hp; exact Go.of (fun _ k' => XT.ldiv A.1.here A.2.1 rfl (hb A.2.2 hd) rfl hy k') k
theorem g_lrem (A : Ax p l e R s m args below meth c T locs cells slots B) {x y : Int64} (hd : decode B pc = .ok (.lrem, 1)) (hy : y ≠ 0) (hp : pc + 1 = pc') (k : Go p e below P T (mkF m pc' ls (.long (x % y) :: st))) : Go p e below P T (mkF m pc ls (.long y :: .long x :: st)) := by
  subst hp; rw [← lrem_mod] at k; exact Go.of (fun _ k' => XT.lrem A.1.here A.2.1 rfl (hb A.2.2 hd) rfl hy k') k
theorem g_i2s (A : Ax p l e R s m args below meth c T locs cells slots B) {x : Int32} (hd : decode B pc = .ok (.i2s, 1)) (hp : pc + 1 = pc') (k : Go p e below P T (mkF m pc' ls (.int (x.toInt16.toInt32) :: st))) : Go p e below P T (mkF m pc ls (.int x :: st)) := by
  subst hp; exact Go.of (fun _ k' => XT.i2s A.1.here A.2.1 rfl (hb A.2.2 hd) rfl k') k
theorem g_i2b (A : Ax p l e R s m args below meth c T locs cells slots B) {x : Int32} (hd : decode B pc = .ok (.i2b, 1)) (hp : pc + 1 = pc') (k : Go p e below P T (mkF m pc' ls (.int (x.toInt8.toInt32) :: st))) : Go p e below P T (mkF m pc ls (.int x :: st)) := by
  subst hp; exact Go.of (fun _ k' => XT.i2b A.1.here A.2.1 rfl (hb A.2.2 hd) rfl k') k
theorem g_i2c (A : Ax p l e R s m args below meth c T locs cells slots B) {x : Int32} (hd : decode B pc = .ok (.i2c, 1)) (hp : pc + 1 = pc') (k : Go p e below P T (mkF m pc' ls (.int (x.toUInt32.toUInt16.toUInt32.toInt32) :: st))) : Go p e below P T (mkF m pc ls (.int x :: st)) := by
  subst hp; exact Go.of (fun _ k' => XT.i2c A.1.here A.2.1 rfl (hb A.2.2 hd) rfl k') k
theorem g_ineg (A : Ax p l e R s m args below meth c T locs cells slots B) {x : Int32} (hd : decode B pc = .ok (.ineg, 1)) (hp : pc + 1 = pc') (k : Go p e below P T (mkF m pc' ls (.int (-x) :: st))) : Go p e below P T (mkF m pc ls (.int x :: st)) := by
  subst hp; exact Go.of (fun _ k' => XS.ineg A.1.here A.2.1 rfl (hb A.2.2 hd) rfl k') k
theorem g_lneg (A : Ax p l e R s m args below meth c T locs cells slots B) {x : Int64} (hd : decode B pc = .ok (.lneg, 1)) (hp : pc + 1 = pc') (k : Go p e below P T (mkF m pc' ls (.long (-x) :: st))) : Go p e below P T (mkF m pc ls (.long x :: st)) := by
  subst hp; exact Go.of (fun _ k' => XT.lneg A.1.here A.2.1 rfl (hb A.2.2 hd) rfl k') k
theorem g_i2l (A : Ax p l e R s m args below meth c T locs cells slots B) {x : Int32} (hd : decode B pc = .ok (.i2l, 1)) (hp : pc + 1 = pc') (k : Go p e below P T (mkF m pc' ls (.long (x.toInt64) :: st))) : Go p e below P T (mkF m pc ls (.int x :: st)) := by
  subst hp; exact Go.of (fun _ k' => XT.i2l A.1.here A.2.1 rfl (hb A.2.2 hd) rfl k') k
theorem g_l2i (A : Ax p l e R s m args below meth c T locs cells slots B) {x : Int64} (hd : decode B pc = .ok (.l2i, 1)) (hp : pc + 1 = pc') (k : Go p e below P T (mkF m pc' ls (.int (x.toInt32) :: st))) : Go p e below P T (mkF m pc ls (.long x :: st)) := by
  subst hp; exact Go.of (fun _ k' => XT.l2i A.1.here A.2.1 rfl (hb A.2.2 hd) rfl k') k
theorem g_irem (A : Ax p l e R s m args below meth c T locs cells slots B) {x y : Int32} (hd : decode B pc = .ok (.irem, 1)) (hy : y ≠ 0) (hp : pc + 1 = pc') (k : Go p e below P T (mkF m pc' ls (.int (x % y) :: st))) : Go p e below P T (mkF m pc ls (.int y :: .int x :: st)) := by
  subst hp; exact Go.of (fun _ k' => iremM A.1 A.2.1 rfl (hb A.2.2 hd) rfl hy k') k
theorem g_iloadN (A : Ax p l e R s m args below meth c T locs cells slots B) {k : Fin 4} {v : Int32} (hd : decode B pc = .ok (.iload_n k, 1)) (hl : ls[k.val]? = some (.val (.int v))) (hp : pc + 1 = pc') (k : Go p e below P T (mkF m pc' ls (.int v :: st))) : Go p e below P T (mkF m pc ls st) := by
  subst hp; exact Go.of (fun _ k' => XS.iloadN A.1.here A.2.1 rfl (hb A.2.2 hd) hl k') k
theorem g_iload (A : Ax p l e R s m args below meth c T locs cells slots B) {k : Nat} {v : Int32} (hd : decode B pc = .ok (.iload k, 2)) (hl : ls[k]? = some (.val (.int v))) (hp : pc + 2 = pc') (k : Go p e below P T (mkF m pc' ls (.int v :: st))) : Go p e below P T (mkF m pc ls st) := by
  subst hp; exact Go.of (fun _ k' => XS.iload A.1.here A.2.1 rfl (hb A.2.2 hd) hl k') k
theorem g_lloadN (A : Ax p l e R s m args below meth c T locs cells slots B) {k : Fin 4} {v : Int64} (hd : decode B pc = .ok (.lload_n k, 1)) (hl : ls[k.val]? = some (.val (.long v))) (hp : pc + 1 = pc') (k : Go p e below P T (mkF m pc' ls (.long v :: st))) : Go p e below P T (mkF m pc ls st) := by
  subst hp; exact Go.of (fun _ k' => XT.lloadN A.1.here A.2.1 rfl (hb A.2.2 hd) hl k') k
theorem g_lload (A : Ax p l e R s m args below meth c T locs cells slots B) {k : Nat} {v : Int64} (hd : decode B pc = .ok (.lload k, 2)) (hl : ls[k]? = some (.val (.long v))) (hp : pc + 2 = pc') (k : Go p e below P T (mkF m pc' ls (.long v :: st))) : Go p e below P T (mkF m pc ls st) := by
  subst hp; exact Go.of (fun _ k' => XT.lload A.1.here A.2.1 rfl (hb A.2.2 hd) hl k') k
theorem g_aloadN (A : Ax p l e R s m args below meth c T locs cells slots B) {k : Fin 4} {v : Value} (hd : decode B pc = .ok (.aload_n k, 1)) (hl : ls[k.val]? = some (.val v)) (hv : v.isRef = true) (hp : pc + 1 = pc') (k : Go p e below P T (mkF m pc' ls (v :: st))) : Go p e below P T (mkF m pc ls st) := by
  subst hp; exact Go.of (fun _ k' => XS.aloadN A.1.here A.2.1 rfl (hb A.2.2 hd) hl hv k') k
theorem g_aload (A : Ax p l e R s m args below meth c T locs cells slots B) {k : Nat} {v : Value} (hd : decode B pc = .ok (.aload k, 2)) (hl : ls[k]? = some (.val v)) (hv : v.isRef = true) (hp : pc + 2 = pc') (k : Go p e below P T (mkF m pc' ls (v :: st))) : Go p e below P T (mkF m pc ls st) := by
  subst hp; exact Go.of (fun _ k' => XS.aload A.1.here A.2.1 rfl (hb A.2.2 hd) hl hv k') k
theorem g_dloadN (A : Ax p l e R s m args below meth c T locs cells slots B) {k : Fin 4} {v : UInt64} (hd : decode B pc = .ok (.dload_n k, 1)) (hl : ls[k.val]? = some (.val (.double v))) (hp : pc + 1 = pc') (k : Go p e below P T (mkF m pc' ls (.double v :: st))) : Go p e below P T (mkF m pc ls st) := by
  subst hp
  refine Go.of (fun t k' => ?_) k
  have h := A.1.here
  have hx := A.2.1
  have hd' := hb A.2.2 hd
  show Steps p.tables e below (T.setTop { method := m, pc := pc, locals := ls, stack := st, locked := none }) _
  jvm_step h [h.top, hx, hd', hl]
  exact k'
theorem g_dload (A : Ax p l e R s m args below meth c T locs cells slots B) {k : Nat} {v : UInt64} (hd : decode B pc = .ok (.dload k, 2)) (hl : ls[k]? = some (.val (.double v))) (hp : pc + 2 = pc') (k : Go p e below P T (mkF m pc' ls (.double v :: st))) : Go p e below P T (mkF m pc ls st) := by
  subst hp
  refine Go.of (fun t k' => ?_) k
  have h := A.1.here
  have hx := A.2.1
  have hd' := hb A.2.2 hd
  show Steps p.tables e below (T.setTop { method := m, pc := pc, locals := ls, stack := st, locked := none }) _
  jvm_step h [h.top, hx, hd', hl]
  exact k'
theorem g_istoreN (A : Ax p l e R s m args below meth c T locs cells slots B) {k : Fin 4} {x : Int32} (hd : decode B pc = .ok (.istore_n k, 1)) (hl : storeLocals ls k.val (.int x) = some ls') (hp : pc + 1 = pc') (k : Go p e below P T (mkF m pc' ls' st)) : Go p e below P T (mkF m pc ls (.int x :: st)) := by
  subst hp; exact Go.of (fun _ k' => XS.istoreN A.1.here A.2.1 rfl (hb A.2.2 hd) rfl hl k') k
theorem g_istore (A : Ax p l e R s m args below meth c T locs cells slots B) {k : Nat} {x : Int32} (hd : decode B pc = .ok (.istore k, 2)) (hl : storeLocals ls k (.int x) = some ls') (hp : pc + 2 = pc') (k : Go p e below P T (mkF m pc' ls' st)) : Go p e below P T (mkF m pc ls (.int x :: st)) := by
  subst hp; exact Go.of (fun _ k' => XS.istore A.1.here A.2.1 rfl (hb A.2.2 hd) rfl hl k') k
theorem g_lstoreN (A : Ax p l e R s m args below meth c T locs cells slots B) {k : Fin 4} {x : Int64} (hd : decode B pc = .ok (.lstore_n k, 1)) (hl : storeLocals ls k.val (.long x) = some ls') (hp : pc + 1 = pc') (k : Go p e below P T (mkF m pc' ls' st)) : Go p e below P T (mkF m pc ls (.long x :: st)) := by
  subst hp; exact Go.of (fun _ k' => XT.lstoreN A.1.here A.2.1 rfl (hb A.2.2 hd) rfl hl k') k
theorem g_lstore (A : Ax p l e R s m args below meth c T locs cells slots B) {k : Nat} {x : Int64} (hd : decode B pc = .ok (.lstore k, 2)) (hl : storeLocals ls k (.long x) = some ls') (hp : pc + 2 = pc') (k : Go p e below P T (mkF m pc' ls' st)) : Go p e below P T (mkF m pc ls (.long x :: st)) := by
  subst hp; exact Go.of (fun _ k' => XT.lstore A.1.here A.2.1 rfl (hb A.2.2 hd) rfl hl k') k
theorem g_astoreN (A : Ax p l e R s m args below meth c T locs cells slots B) {k : Fin 4} {x : Value} (hd : decode B pc = .ok (.astore_n k, 1)) (hv : x.isRef = true) (hl : storeLocals ls k.val x = some ls') (hp : pc + 1 = pc') (k : Go p e below P T (mkF m pc' ls' st)) : Go p e below P T (mkF m pc ls (x :: st)) := by
  subst hp; exact Go.of (fun _ k' => XS.astoreN A.1.here A.2.1 rfl (hb A.2.2 hd) rfl hv hl k') k
theorem g_astore (A : Ax p l e R s m args below meth c T locs cells slots B) {k : Nat} {x : Value} (hd : decode B pc = .ok (.astore k, 2)) (hv : x.isRef = true) (hl : storeLocals ls k x = some ls') (hp : pc + 2 = pc') (k : Go p e below P T (mkF m pc' ls' st)) : Go p e below P T (mkF m pc ls (x :: st)) := by
  subst hp; exact Go.of (fun _ k' => XS.astore A.1.here A.2.1 rfl (hb A.2.2 hd) rfl hv hl k') k
theorem g_dstoreN (A : Ax p l e R s m args below meth c T locs cells slots B) {k : Fin 4} {x : UInt64} (hd : decode B pc = .ok (.dstore_n k, 1)) (hl : storeLocals ls k.val (.double x) = some ls') (hp : pc + 1 = pc') (k : Go p e below P T (mkF m pc' ls' st)) : Go p e below P T (mkF m pc ls (.double x :: st)) := by
  subst hp
  refine Go.of (fun t k' => ?_) k
  have h := A.1.here
  have hx := A.2.1
  have hd' := hb A.2.2 hd
  show Steps p.tables e below (T.setTop { method := m, pc := pc, locals := ls, stack := .double x :: st, locked := none }) _
  jvm_step h [h.top, hx, hd']
  exact ⟨ls', hl, k'⟩
theorem g_dstore (A : Ax p l e R s m args below meth c T locs cells slots B) {k : Nat} {x : UInt64} (hd : decode B pc = .ok (.dstore k, 2)) (hl : storeLocals ls k (.double x) = some ls') (hp : pc + 2 = pc') (k : Go p e below P T (mkF m pc' ls' st)) : Go p e below P T (mkF m pc ls (.double x :: st)) := by
  subst hp
  refine Go.of (fun t k' => ?_) k
  have h := A.1.here
  have hx := A.2.1
  have hd' := hb A.2.2 hd
  show Steps p.tables e below (T.setTop { method := m, pc := pc, locals := ls, stack := .double x :: st, locked := none }) _
  jvm_step h [h.top, hx, hd']
  exact ⟨ls', hl, k'⟩
theorem g_iconst (A : Ax p l e R s m args below meth c T locs cells slots B) {i : Int} {v : Int32} (hd : decode B pc = .ok (.iconst i, 1)) (hv : Int32.ofInt i = v) (hp : pc + 1 = pc') (k : Go p e below P T (mkF m pc' ls (.int v :: st))) : Go p e below P T (mkF m pc ls st) := by
  subst hp hv; exact Go.of (fun _ k' => XS.iconst A.1.here A.2.1 rfl (hb A.2.2 hd) k') k
theorem g_bipush (A : Ax p l e R s m args below meth c T locs cells slots B) {i : Int} {v : Int32} (hd : decode B pc = .ok (.bipush i, 2)) (hv : (Int8.ofInt i).toInt32 = v) (hp : pc + 2 = pc') (k : Go p e below P T (mkF m pc' ls (.int v :: st))) : Go p e below P T (mkF m pc ls st) := by
  subst hp hv; exact Go.of (fun _ k' => XS.bipush A.1.here A.2.1 rfl (hb A.2.2 hd) k') k
theorem g_sipush (A : Ax p l e R s m args below meth c T locs cells slots B) {i : Int} {v : Int32} (hd : decode B pc = .ok (.sipush i, 3)) (hv : (Int16.ofInt i).toInt32 = v) (hp : pc + 3 = pc') (k : Go p e below P T (mkF m pc' ls (.int v :: st))) : Go p e below P T (mkF m pc ls st) := by
  subst hp hv; exact Go.of (fun _ k' => XS.sipush A.1.here A.2.1 rfl (hb A.2.2 hd) k') k
theorem g_aconst (A : Ax p l e R s m args below meth c T locs cells slots B) (hd : decode B pc = .ok (.aconst_null, 1)) (hp : pc + 1 = pc') (k : Go p e below P T (mkF m pc' ls (.null :: st))) : Go p e below P T (mkF m pc ls st) := by
  subst hp; exact Go.of (fun _ k' => XS.aconstNull A.1.here A.2.1 rfl (hb A.2.2 hd) k') k
theorem g_lconst (A : Ax p l e R s m args below meth c T locs cells slots B) {i : Fin 2} {v : Int64} (hd : decode B pc = .ok (.lconst i, 1)) (hv : Int64.ofNat i = v) (hp : pc + 1 = pc') (k : Go p e below P T (mkF m pc' ls (.long v :: st))) : Go p e below P T (mkF m pc ls st) := by
  subst hp hv; exact Go.of (fun _ k' => XT.lconst A.1.here A.2.1 rfl (hb A.2.2 hd) k') k
theorem g_dconst0 (A : Ax p l e R s m args below meth c T locs cells slots B) (hd : decode B pc = .ok (.dconst 0, 1)) (hp : pc + 1 = pc') (k : Go p e below P T (mkF m pc' ls (.double (0 : UInt64) :: st))) : Go p e below P T (mkF m pc ls st) := by
  subst hp
  refine Go.of (fun t k' => ?_) k
  have h := A.1.here
  have hx := A.2.1
  have hd' := hb A.2.2 hd
  show Steps p.tables e below (T.setTop { method := m, pc := pc, locals := ls, stack := st, locked := none }) _
  jvm_step h [h.top, hx, hd']
  exact k'
theorem g_dconst1 (A : Ax p l e R s m args below meth c T locs cells slots B) (hd : decode B pc = .ok (.dconst 1, 1)) (hp : pc + 1 = pc') (k : Go p e below P T (mkF m pc' ls (.double (4607182418800017408 : UInt64) :: st))) : Go p e below P T (mkF m pc ls st) := by
  subst hp
  refine Go.of (fun t k' => ?_) k
  have h := A.1.here
  have hx := A.2.1
  have hd' := hb A.2.2 hd
  show Steps p.tables e below (T.setTop { method := m, pc := pc, locals := ls, stack := st, locked := none }) _
  jvm_step h [h.top, hx, hd']
  exact k'
theorem g_dadd (A : Ax p l e R s m args below meth c T locs cells slots B) {x y : UInt64} (hd : decode B pc = .ok (.dadd, 1)) (hn : NoNaN64 (FP.dadd x y)) (hp : pc + 1 = pc') (k : Go p e below P T (mkF m pc' ls (.double (FP.dadd x y) :: st))) : Go p e below P T (mkF m pc ls (.double y :: .double x :: st)) := by
  subst hp
  refine Go.of (fun t k' => ?_) k
  have h := A.1.here
  have hx := A.2.1
  have hd' := hb A.2.2 hd
  show Steps p.tables e below (T.setTop { method := m, pc := pc, locals := ls, stack := .double y :: .double x :: st, locked := none }) _
  jvm_step h [h.top, hx, hd', Op.dadd.at_number h.top hn]
  exact k'
theorem g_dsub (A : Ax p l e R s m args below meth c T locs cells slots B) {x y : UInt64} (hd : decode B pc = .ok (.dsub, 1)) (hn : NoNaN64 (FP.dsub x y)) (hp : pc + 1 = pc') (k : Go p e below P T (mkF m pc' ls (.double (FP.dsub x y) :: st))) : Go p e below P T (mkF m pc ls (.double y :: .double x :: st)) := by
  subst hp
  refine Go.of (fun t k' => ?_) k
  have h := A.1.here
  have hx := A.2.1
  have hd' := hb A.2.2 hd
  show Steps p.tables e below (T.setTop { method := m, pc := pc, locals := ls, stack := .double y :: .double x :: st, locked := none }) _
  jvm_step h [h.top, hx, hd', Op.dsub.at_number h.top hn]
  exact k'
theorem g_dmul (A : Ax p l e R s m args below meth c T locs cells slots B) {x y : UInt64} (hd : decode B pc = .ok (.dmul, 1)) (hn : NoNaN64 (FP.dmul x y)) (hp : pc + 1 = pc') (k : Go p e below P T (mkF m pc' ls (.double (FP.dmul x y) :: st))) : Go p e below P T (mkF m pc ls (.double y :: .double x :: st)) := by
  subst hp
  refine Go.of (fun t k' => ?_) k
  have h := A.1.here
  have hx := A.2.1
  have hd' := hb A.2.2 hd
  show Steps p.tables e below (T.setTop { method := m, pc := pc, locals := ls, stack := .double y :: .double x :: st, locked := none }) _
  jvm_step h [h.top, hx, hd', Op.dmul.at_number h.top hn]
  exact k'
theorem g_ddiv (A : Ax p l e R s m args below meth c T locs cells slots B) {x y : UInt64} (hd : decode B pc = .ok (.ddiv, 1)) (hn : NoNaN64 (FP.ddiv x y)) (hp : pc + 1 = pc') (k : Go p e below P T (mkF m pc' ls (.double (FP.ddiv x y) :: st))) : Go p e below P T (mkF m pc ls (.double y :: .double x :: st)) := by
  subst hp
  refine Go.of (fun t k' => ?_) k
  have h := A.1.here
  have hx := A.2.1
  have hd' := hb A.2.2 hd
  show Steps p.tables e below (T.setTop { method := m, pc := pc, locals := ls, stack := .double y :: .double x :: st, locked := none }) _
  jvm_step h [h.top, hx, hd', Op.ddiv.at_number h.top hn]
  exact k'
theorem g_dneg (A : Ax p l e R s m args below meth c T locs cells slots B) {x : UInt64} (hd : decode B pc = .ok (.dneg, 1)) (hp : pc + 1 = pc') (k : Go p e below P T (mkF m pc' ls (.double (FP.dneg x) :: st))) : Go p e below P T (mkF m pc ls (.double x :: st)) := by
  subst hp
  refine Go.of (fun t k' => ?_) k
  have h := A.1.here
  have hx := A.2.1
  have hd' := hb A.2.2 hd
  show Steps p.tables e below (T.setTop { method := m, pc := pc, locals := ls, stack := .double x :: st, locked := none }) _
  jvm_step h [h.top, hx, hd']
  exact k'
theorem g_i2d (A : Ax p l e R s m args below meth c T locs cells slots B) {x : Int32} (hd : decode B pc = .ok (.i2d, 1)) (hp : pc + 1 = pc') (k : Go p e below P T (mkF m pc' ls (.double (FP.i2d x) :: st))) : Go p e below P T (mkF m pc ls (.int x :: st)) := by
  subst hp
  refine Go.of (fun t k' => ?_) k
  have h := A.1.here
  have hx := A.2.1
  have hd' := hb A.2.2 hd
  show Steps p.tables e below (T.setTop { method := m, pc := pc, locals := ls, stack := .int x :: st, locked := none }) _
  jvm_step h [h.top, hx, hd']
  exact k'
theorem g_l2d (A : Ax p l e R s m args below meth c T locs cells slots B) {x : Int64} (hd : decode B pc = .ok (.l2d, 1)) (hp : pc + 1 = pc') (k : Go p e below P T (mkF m pc' ls (.double (FP.l2d x) :: st))) : Go p e below P T (mkF m pc ls (.long x :: st)) := by
  subst hp
  refine Go.of (fun t k' => ?_) k
  have h := A.1.here
  have hx := A.2.1
  have hd' := hb A.2.2 hd
  show Steps p.tables e below (T.setTop { method := m, pc := pc, locals := ls, stack := .long x :: st, locked := none }) _
  jvm_step h [h.top, hx, hd']
  exact k'
theorem g_dcmp (A : Ax p l e R s m args below meth c T locs cells slots B) {x y : UInt64} {op : CmpOp} (hd : decode B pc = .ok (.dcmp op, 1)) (hp : pc + 1 = pc') (k : Go p e below P T (mkF m pc' ls (.int (cmpValue (FP.dcmp x y) op) :: st))) : Go p e below P T (mkF m pc ls (.double y :: .double x :: st)) := by
  subst hp
  refine Go.of (fun t k' => ?_) k
  have h := A.1.here
  have hx := A.2.1
  have hd' := hb A.2.2 hd
  show Steps p.tables e below (T.setTop { method := m, pc := pc, locals := ls, stack := .double y :: .double x :: st, locked := none }) _
  jvm_step h [h.top, hx, hd']
  exact k'
theorem g_lcmp (A : Ax p l e R s m args below meth c T locs cells slots B) {x y : Int64} (hd : decode B pc = .ok (.lcmp, 1)) (hp : pc + 1 = pc') (k : Go p e below P T (mkF m pc' ls (.int (XT.cmpL x y) :: st))) : Go p e below P T (mkF m pc ls (.long y :: .long x :: st)) := by
  subst hp; exact Go.of (fun _ k' => XT.lcmp A.1.here A.2.1 rfl (hb A.2.2 hd) rfl k') k
theorem g_dup (A : Ax p l e R s m args below meth c T locs cells slots B) {x : Value} (hd : decode B pc = .ok (.dup, 1)) (hc : x.category = 1) (hp : pc + 1 = pc') (k : Go p e below P T (mkF m pc' ls (x :: x :: st))) : Go p e below P T (mkF m pc ls (x :: st)) := by
  subst hp; exact Go.of (fun _ k' => XS.dup A.1.here A.2.1 rfl (hb A.2.2 hd) rfl hc k') k
theorem g_pop (A : Ax p l e R s m args below meth c T locs cells slots B) {x : Value} (hd : decode B pc = .ok (.pop, 1)) (hc : x.category = 1) (hp : pc + 1 = pc') (k : Go p e below P T (mkF m pc' ls st)) : Go p e below P T (mkF m pc ls (x :: st)) := by
  subst hp; exact Go.of (fun _ k' => XT.pop A.1.here A.2.1 rfl (hb A.2.2 hd) rfl hc k') k
theorem g_iinc (A : Ax p l e R s m args below meth c T locs cells slots B) {k : Nat} {i : Int} {x y : Int32} (hd : decode B pc = .ok (.iinc k i, 3)) (hl : ls[k]? = some (.val (.int x))) (hy : x + Int32.ofInt i = y) (hl' : storeLocals ls k (.int y) = some ls') (hp : pc + 3 = pc') (k : Go p e below P T (mkF m pc' ls' st)) : Go p e below P T (mkF m pc ls st) := by
  subst hp hy; exact Go.of (fun _ k' => XS.iinc A.1.here A.2.1 rfl (hb A.2.2 hd) hl hl' k') k
theorem own_off {pc pc' : Nat} {o : Int} (h : (pc : Int) + o = (pc' : Int)) : 0 ≤ (pc : Int) + o ∧ ((pc : Int) + o).toNat = pc' := by omega
theorem g_goto (A : Ax p l e R s m args below meth c T locs cells slots B) {o : Int} (hd : decode B pc = .ok (.goto o, 3)) (hp : (pc : Int) + o = (pc' : Int)) (k : Go p e below P T (mkF m pc' ls st)) : Go p e below P T (mkF m pc ls st) := Go.of (fun _ k' => XS.goto A.1.here A.2.1 rfl rfl (hb A.2.2 hd) (own_off hp).1 (own_off hp).2 k') k
theorem g_ifY (A : Ax p l e R s m args below meth c T locs cells slots B) {o : Int} {cd : ClassFile.Cond} {x : Int32} (hd : decode B pc = .ok (.ifCond cd o, 3)) (hc : ifCond.holds cd x = true) (hp : (pc : Int) + o = (pc' : Int)) (k : Go p e below P T (mkF m pc' ls st)) : Go p e below P T (mkF m pc ls (.int x :: st)) := Go.of (fun _ k' => XS.ifYes A.1.here A.2.1 rfl rfl (hb A.2.2 hd) rfl hc (own_off hp).1 (own_off hp).2 k') k
theorem g_ifN (A : Ax p l e R s m args below meth c T locs cells slots B) {o : Int} {cd : ClassFile.Cond} {x : Int32} (hd : decode B pc = .ok (.ifCond cd o, 3)) (hc : ifCond.holds cd x = false) (hp : pc + 3 = pc') (k : Go p e below P T (mkF m pc' ls st)) : Go p e below P T (mkF m pc ls (.int x :: st)) := by
  subst hp; exact Go.of (fun _ k' => XS.ifNo A.1.here A.2.1 rfl (hb A.2.2 hd) rfl hc k') k
theorem g_icY (A : Ax p l e R s m args below meth c T locs cells slots B) {o : Int} {cd : ClassFile.Cond} {x y : Int32} (hd : decode B pc = .ok (.if_icmp cd o, 3)) (hc : if_icmp.holds cd x y = true) (hp : (pc : Int) + o = (pc' : Int)) (k : Go p e below P T (mkF m pc' ls st)) : Go p e below P T (mkF m pc ls (.int y :: .int x :: st)) := Go.of (fun _ k' => XS.icmpYes A.1.here A.2.1 rfl rfl (hb A.2.2 hd) rfl hc (own_off hp).1 (own_off hp).2 k') k
theorem g_icN (A : Ax p l e R s m args below meth c T locs cells slots B) {o : Int} {cd : ClassFile.Cond} {x y : Int32} (hd : decode B pc = .ok (.if_icmp cd o, 3)) (hc : if_icmp.holds cd x y = false) (hp : pc + 3 = pc') (k : Go p e below P T (mkF m pc' ls st)) : Go p e below P T (mkF m pc ls (.int y :: .int x :: st)) := by
  subst hp; exact Go.of (fun _ k' => XS.icmpNo A.1.here A.2.1 rfl (hb A.2.2 hd) rfl hc k') k
theorem c0_eq_t {x : Int32} (h : x = 0) : ifCond.holds .eq x = true := (if0 _ _).trans (teq h).1
theorem c0_eq_f {x : Int32} (h : ¬ x = 0) : ifCond.holds .eq x = false := (if0 _ _).trans (feq h).1
theorem c0_ne_t {x : Int32} (h : ¬ x = 0) : ifCond.holds .ne x = true := (if0 _ _).trans (feq h).2
theorem c0_ne_f {x : Int32} (h : x = 0) : ifCond.holds .ne x = false := (if0 _ _).trans (teq h).2
theorem c0_lt_t {x : Int32} (h : x < 0) : ifCond.holds .lt x = true := (if0 _ _).trans (tlt h).1
theorem c0_lt_f {x : Int32} (h : ¬ x < 0) : ifCond.holds .lt x = false := (if0 _ _).trans (flt h).1
theorem c0_ge_t {x : Int32} (h : ¬ x < 0) : ifCond.holds .ge x = true := (if0 _ _).trans (flt h).2.1
theorem c0_ge_f {x : Int32} (h : x < 0) : ifCond.holds .ge x = false := (if0 _ _).trans (tlt h).2.1
theorem c0_gt_t {x : Int32} (h : 0 < x) : ifCond.holds .gt x = true := (if0 _ _).trans (tlt h).2.2.1
theorem c0_gt_f {x : Int32} (h : ¬ 0 < x) : ifCond.holds .gt x = false := (if0 _ _).trans (flt h).2.2.1
theorem c0_le_t {x : Int32} (h : ¬ 0 < x) : ifCond.holds .le x = true := (if0 _ _).trans (flt h).2.2.2
theorem c0_le_f {x : Int32} (h : 0 < x) : ifCond.holds .le x = false := (if0 _ _).trans (tlt h).2.2.2
theorem c2_eq_t {x y : Int32} (h : x = y) : if_icmp.holds .eq x y = true := (teq h).1
theorem c2_eq_f {x y : Int32} (h : ¬ x = y) : if_icmp.holds .eq x y = false := (feq h).1
theorem c2_ne_t {x y : Int32} (h : ¬ x = y) : if_icmp.holds .ne x y = true := (feq h).2
theorem c2_ne_f {x y : Int32} (h : x = y) : if_icmp.holds .ne x y = false := (teq h).2
theorem c2_lt_t {x y : Int32} (h : x < y) : if_icmp.holds .lt x y = true := (tlt h).1
theorem c2_lt_f {x y : Int32} (h : ¬ x < y) : if_icmp.holds .lt x y = false := (flt h).1
theorem c2_ge_t {x y : Int32} (h : ¬ x < y) : if_icmp.holds .ge x y = true := (flt h).2.1
theorem c2_ge_f {x y : Int32} (h : x < y) : if_icmp.holds .ge x y = false := (tlt h).2.1
theorem c2_gt_t {x y : Int32} (h : y < x) : if_icmp.holds .gt x y = true := (tlt h).2.2.1
theorem c2_gt_f {x y : Int32} (h : ¬ y < x) : if_icmp.holds .gt x y = false := (flt h).2.2.1
theorem c2_le_t {x y : Int32} (h : ¬ y < x) : if_icmp.holds .le x y = true := (flt h).2.2.2
theorem c2_le_f {x y : Int32} (h : y < x) : if_icmp.holds .le x y = false := (tlt h).2.2.2
theorem b0_eq_t {C : Prop} [Decidable C] {v : Int32} (e : v = if C then 1 else 0) (h : ¬ C) : ifCond.holds .eq v = true := c0_eq_t (by rw [e, if_neg h])
theorem b0_eq_f {C : Prop} [Decidable C] {v : Int32} (e : v = if C then 1 else 0) (h : C) : ifCond.holds .eq v = false := c0_eq_f (by rw [e, if_pos h]; decide)
theorem b0_ne_t {C : Prop} [Decidable C] {v : Int32} (e : v = if C then 1 else 0) (h : C) : ifCond.holds .ne v = true := c0_ne_t (by rw [e, if_pos h]; decide)
theorem b0_ne_f {C : Prop} [Decidable C] {v : Int32} (e : v = if C then 1 else 0) (h : ¬ C) : ifCond.holds .ne v = false := c0_ne_f (by rw [e, if_neg h])
theorem own_b01 {C : Prop} [Decidable C] {v : Int32} (e : v = if C then 1 else 0) : narrow .boolean (.int v) = .int v := by
  subst e; by_cases h : C
  · rw [if_pos h]; rfl
  · rw [if_neg h]; rfl
theorem own_fb {C : Prop} [Decidable C] {v : Int32} (e : v = if C then 1 else 0) : fits .boolean (.int v) = true := by
  subst e; by_cases h : C
  · rw [if_pos h]; rfl
  · rw [if_neg h]; rfl
theorem own_ndadd {x y : UInt64} (h1 : Fin64 x) (h2 : Fin64 y) : NoNaN64 (FP.dadd x y) := dadd_out h1.noNaN h2
theorem own_ndsub {x y : UInt64} (h1 : Fin64 x) (h2 : Fin64 y) : NoNaN64 (FP.dsub x y) := dsub_out h1.noNaN h2
theorem own_ndmul {x y : UInt64} (h1 : Fin64 x) (h2 : Fin64 y) : NoNaN64 (FP.dmul x y) := dmul_out h1 h2
theorem own_fin {x : UInt64} : Fin64 x ↔ FP.Core.DFin x := fin64_core
theorem own_fneg {x : UInt64} (h : Fin64 x) : Fin64 (FP.dneg x) := by
  obtain ⟨s, c, q, e⟩ := fin64_core.mp h
  exact fin64_core.mpr ⟨!s, c, q, (FP.val64_dneg x).trans (by rw [e]; rfl)⟩
theorem own_self {x : UInt64} (h : Fin64 x) : FP.dcmp x x = some .eq := FP.Core.dcmp_self (fin64_core.mp h).ne_nan
theorem own_sgt {x : UInt64} (h : Fin64 x) : ¬ FP.dcmp x x = some .gt := by rw [own_self h]; decide
theorem own_slt {x : UInt64} (h : Fin64 x) : ¬ FP.dcmp x x = some .lt := by rw [own_self h]; decide
theorem own_and {c d : Jvm.Cond} {a : Array Value} {s : State} (h1 : c.before a s = true) (h2 : d.before a s = true) : (Jvm.Cond.and c d).before a s = true := by rw [Cond.before_and, h1, h2]; rfl
theorem own_isfin {x : UInt64} (h : Fin64 x) : some (Value.int (if Jvm.Free.Fl.relLe (FP.dcmp (x &&& 0x7fffffffffffffff) Jvm.Free.Fl.maxD) = true then (1 : Int32) else 0)) = some (.int (1 : Int32)) := by rw [if_pos ((le_max_iff h.noNaN).mpr h)]
theorem own_isinf {x : UInt64} (h : Fin64 x) : some (Value.int (if Jvm.Free.Fl.relGt (FP.dcmp (x &&& 0x7fffffffffffffff) Jvm.Free.Fl.maxD) = true then (1 : Int32) else 0)) = some (.int (0 : Int32)) := by rw [if_neg (fun h4 => (gt_max_iff h.noNaN).mp h4 h)]
theorem own_dfin {i : Int} {x : UInt64} (h : FP.Core.DInt i x) : Fin64 x := by
  refine fin64_core.mpr ?_
  have q : FP.Core.Whole i (FP.Core.val64 x) := h
  cases e : FP.Core.val64 x with
  | nan => rw [e] at q; exact q.elim
  | inf s => rw [e] at q; exact q.elim
  | fin s c q => exact ⟨s, c, q, e⟩
theorem own_fn {v : Int32} (h : narrow .boolean (.int v) = .int v) : fits .boolean (.int v) = true := by
  have q : v &&& 1 = v := Value.int.inj h
  rcases and_one v with z | z <;> rw [z] at q <;> subst q <;> rfl
/-- a double less than, equal to .. another, as the code asks it -/
abbrev oGe (o : Option Ordering) : Prop := o = some .gt ∨ o = some .eq
abbrev oLe (o : Option Ordering) : Prop := o = some .lt ∨ o = some .eq
theorem d_l_eq_t {o : Option Ordering} (h : o = some .eq) : ifCond.holds .eq (cmpValue o .l) = true := by
  rcases o with _ | _ | _ | _ <;> first | rfl | decide | (exfalso; revert h; decide)
theorem d_l_eq_f {o : Option Ordering} (h : ¬ o = some .eq) : ifCond.holds .eq (cmpValue o .l) = false := by
  rcases o with _ | _ | _ | _ <;> first | rfl | decide | (exfalso; revert h; decide)
theorem d_l_ne_t {o : Option Ordering} (h : ¬ o = some .eq) : ifCond.holds .ne (cmpValue o .l) = true := by
  rcases o with _ | _ | _ | _ <;> first | rfl | decide | (exfalso; revert h; decide)
theorem d_l_ne_f {o : Option Ordering} (h : o = some .eq) : ifCond.holds .ne (cmpValue o .l) = false := by
  rcases o with _ | _ | _ | _ <;> first | rfl | decide | (exfalso; revert h; decide)
theorem d_g_eq_t {o : Option Ordering} (h : o = some .eq) : ifCond.holds .eq (cmpValue o .g) = true := by
  rcases o with _ | _ | _ | _ <;> first | rfl | decide | (exfalso; revert h; decide)
theorem d_g_eq_f {o : Option Ordering} (h : ¬ o = some .eq) : ifCond.holds .eq (cmpValue o .g) = false := by
  rcases o with _ | _ | _ | _ <;> first | rfl | decide | (exfalso; revert h; decide)
theorem d_g_ne_t {o : Option Ordering} (h : ¬ o = some .eq) : ifCond.holds .ne (cmpValue o .g) = true := by
  rcases o with _ | _ | _ | _ <;> first | rfl | decide | (exfalso; revert h; decide)
theorem d_g_ne_f {o : Option Ordering} (h : o = some .eq) : ifCond.holds .ne (cmpValue o .g) = false := by
  rcases o with _ | _ | _ | _ <;> first | rfl | decide | (exfalso; revert h; decide)
theorem d_l_lt_t {o : Option Ordering} (h : ¬ oGe o) : ifCond.holds .lt (cmpValue o .l) = true := by
  rcases o with _ | _ | _ | _ <;> first | rfl | decide | (exfalso; revert h; decide)
theorem d_l_lt_f {o : Option Ordering} (h : oGe o) : ifCond.holds .lt (cmpValue o .l) = false := by
  rcases o with _ | _ | _ | _ <;> first | rfl | decide | (exfalso; revert h; decide)
theorem d_l_ge_t {o : Option Ordering} (h : oGe o) : ifCond.holds .ge (cmpValue o .l) = true := by
  rcases o with _ | _ | _ | _ <;> first | rfl | decide | (exfalso; revert h; decide)
theorem d_l_ge_f {o : Option Ordering} (h : ¬ oGe o) : ifCond.holds .ge (cmpValue o .l) = false := by
  rcases o with _ | _ | _ | _ <;> first | rfl | decide | (exfalso; revert h; decide)
theorem d_l_gt_t {o : Option Ordering} (h : o = some .gt) : ifCond.holds .gt (cmpValue o .l) = true := by
  rcases o with _ | _ | _ | _ <;> first | rfl | decide | (exfalso; revert h; decide)
theorem d_l_gt_f {o : Option Ordering} (h : ¬ o = some .gt) : ifCond.holds .gt (cmpValue o .l) = false := by
  rcases o with _ | _ | _ | _ <;> first | rfl | decide | (exfalso; revert h; decide)
theorem d_l_le_t {o : Option Ordering} (h : ¬ o = some .gt) : ifCond.holds .le (cmpValue o .l) = true := by
  rcases o with _ | _ | _ | _ <;> first | rfl | decide | (exfalso; revert h; decide)
theorem d_l_le_f {o : Option Ordering} (h : o = some .gt) : ifCond.holds .le (cmpValue o .l) = false := by
  rcases o with _ | _ | _ | _ <;> first | rfl | decide | (exfalso; revert h; decide)
theorem d_g_lt_t {o : Option Ordering} (h : o = some .lt) : ifCond.holds .lt (cmpValue o .g) = true := by
  rcases o with _ | _ | _ | _ <;> first | rfl | decide | (exfalso; revert h; decide)
theorem d_g_lt_f {o : Option Ordering} (h : ¬ o = some .lt) : ifCond.holds .lt (cmpValue o .g) = false := by
  rcases o with _ | _ | _ | _ <;> first | rfl | decide | (exfalso; revert h; decide)
theorem d_g_ge_t {o : Option Ordering} (h : ¬ o = some .lt) : ifCond.holds .ge (cmpValue o .g) = true := by
  rcases o with _ | _ | _ | _ <;> first | rfl | decide | (exfalso; revert h; decide)
theorem d_g_ge_f {o : Option Ordering} (h : o = some .lt) : ifCond.holds .ge (cmpValue o .g) = false := by
  rcases o with _ | _ | _ | _ <;> first | rfl | decide | (exfalso; revert h; decide)
theorem d_g_gt_t {o : Option Ordering} (h : ¬ oLe o) : ifCond.holds .gt (cmpValue o .g) = true := by
  rcases o with _ | _ | _ | _ <;> first | rfl | decide | (exfalso; revert h; decide)
theorem d_g_gt_f {o : Option Ordering} (h : oLe o) : ifCond.holds .gt (cmpValue o .g) = false := by
  rcases o with _ | _ | _ | _ <;> first | rfl | decide | (exfalso; revert h; decide)
theorem d_g_le_t {o : Option Ordering} (h : oLe o) : ifCond.holds .le (cmpValue o .g) = true := by
  rcases o with _ | _ | _ | _ <;> first | rfl | decide | (exfalso; revert h; decide)
theorem d_g_le_f {o : Option Ordering} (h : ¬ oLe o) : ifCond.holds .le (cmpValue o .g) = false := by
  rcases o with _ | _ | _ | _ <;> first | rfl | decide | (exfalso; revert h; decide)
theorem l_eq (x y : Int64) : XT.cmpL x y = 0 ↔ x = y := lw_eq x y
theorem l_lt (x y : Int64) : XT.cmpL x y < 0 ↔ x < y := lw_lt x y
theorem l_gt (x y : Int64) : 0 < XT.cmpL x y ↔ y < x := lw_gt x y
theorem g_ret (A : Ax p l e R s m args below meth c T locs cells slots B) {w : Value} {t : FieldType} {i : Instr} {Q : Option Value → Heap → List Loc → Prop} {K S : Nat} (hd : decode B pc = .ok (i, 1)) (hlk : meth.locks = false) (hret : meth.sig.returnType = some t) (hn : narrow t w = w)
    (hi : (i = .ireturn ∧ (t = .int ∨ t = .boolean ∨ t = .byte ∨ t = .char ∨ t = .short) ∧ ∃ z, w = .int z) ∨ (i = .lreturn ∧ t = .long ∧ ∃ z, w = .long z) ∨ (i = .dreturn ∧ t = .double ∧ ∃ z, w = .double z) ∨ (i = .freturn ∧ t = .float ∧ ∃ z, w = .float z) ∨ (i = .areturn ∧ t.isReference = true ∧ w.isRef = true))
    (hK : cells ≤ K) (hS : slots ≤ S) (hQ : Q (some w) T.heap locs) : Go p e below (fun U o => ∃ v L, o = .returned v ∧ Q v U.heap L ∧ FrameEnd s o U L K S) T (mkF m pc ls (w :: st)) := by
  obtain ⟨fs, hr, hrun, hended, hW, hsame⟩ := A.1.leave (v := some w) (fun h => by rw [hret] at h; cases h) hlk
  exact ⟨_, _, retOut A.1 A.2.1 hret hn hi (hb A.2.2 hd) hr, hrun, hended, _, _, rfl, hQ, ⟨_, rfl⟩, hW, hsame.mono hK hS⟩
theorem g_retV (A : Ax p l e R s m args below meth c T locs cells slots B) {Q : Option Value → Heap → List Loc → Prop} {K S : Nat} (hd : decode B pc = .ok (.return_, 1)) (hlk : meth.locks = false) (hret : meth.sig.returnType = none)
    (hK : cells ≤ K) (hS : slots ≤ S) (hQ : Q none T.heap locs) : Go p e below (fun U o => ∃ v L, o = .returned v ∧ Q v U.heap L ∧ FrameEnd s o U L K S) T (mkF m pc ls []) := by
  obtain ⟨fs, hr, hrun, hended, hW, hsame⟩ := A.1.leave (v := none) (fun _ => rfl) hlk
  exact ⟨_, _, A.1.returnOut A.2.1 hret (hb A.2.2 hd) hr, hrun, hended, _, _, rfl, hQ, ⟨_, rfl⟩, hW, hsame.mono hK hS⟩
theorem g_ldcI (A : Ax p l e R s m args below meth c T locs cells slots B) {Z : State} {a0 : Array Value} {own : String} {i : Nat} {v : Int32} (hZ : Z.Warmed39 s.vm) (hown : s.vm.findClass own = some m.cls) (w : (Jvm.Cond.constant own i v).before a0 Z = true) (hd : decode B pc = .ok (.ldc i, 2)) (hp : pc + 2 = pc') (k : Go p e below P T (mkF m pc' ls (.int v :: st))) : Go p e below P T (mkF m pc ls st) := by
  subst hp; exact Go.of (A.1.ldcInt A.2.1 hown (mvT hZ w) (g := mkF m pc ls st) rfl (hb A.2.2 hd)) k
theorem g_ldcD (A : Ax p l e R s m args below meth c T locs cells slots B) {Z : State} {a0 : Array Value} {own : String} {i : Nat} {v : UInt64} (hZ : Z.Warmed39 s.vm) (hown : s.vm.findClass own = some m.cls) (w : (Jvm.Cond.constantDouble own i v).before a0 Z = true) (hd : decode B pc = .ok (.ldc2_w i, 3)) (hp : pc + 3 = pc') (k : Go p e below P T (mkF m pc' ls (.double v :: st))) : Go p e below P T (mkF m pc ls st) := by
  subst hp; exact Go.of (A.1.ldc2DoubleC A.2.1 hown (mvT hZ w) (g := mkF m pc ls st) rfl (hb A.2.2 hd)) k
theorem g_ldcL (A : Ax p l e R s m args below meth c T locs cells slots B) {Z : State} {a0 : Array Value} {own : String} {i : Nat} {v : Int64} (hZ : Z.Warmed39 s.vm) (hown : s.vm.findClass own = some m.cls) (w : (Jvm.Cond.constantLong own i v).before a0 Z = true) (hd : decode B pc = .ok (.ldc2_w i, 3)) (hp : pc + 3 = pc') (k : Go p e below P T (mkF m pc' ls (.long v :: st))) : Go p e below P T (mkF m pc ls st) := by
  subst hp; exact Go.of (A.1.ldc2Long A.2.1 hown (mvT hZ w) (g := mkF m pc ls st) rfl (hb A.2.2 hd)) k
theorem g_nnY (A : Ax p l e R s m args below meth c T locs cells slots B) {o : Int} {b : Addr} (hd : decode B pc = .ok (.ifnonnull o, 3)) (hp : (pc : Int) + o = (pc' : Int)) (k : Go p e below P T (mkF m pc' ls st)) : Go p e below P T (mkF m pc ls (.ref b :: st)) := Go.of (fun _ k' => XT.ifnonnullYes A.1.here A.2.1 rfl rfl (hb A.2.2 hd) rfl (own_off hp).1 (own_off hp).2 k') k
theorem g_nnN (A : Ax p l e R s m args below meth c T locs cells slots B) {o : Int} (hd : decode B pc = .ok (.ifnonnull o, 3)) (hp : pc + 3 = pc') (k : Go p e below P T (mkF m pc' ls st)) : Go p e below P T (mkF m pc ls (.null :: st)) := by
  subst hp; exact Go.of (fun _ k' => XT.ifnonnullNo A.1.here A.2.1 rfl (hb A.2.2 hd) rfl k') k
theorem g_nuY (A : Ax p l e R s m args below meth c T locs cells slots B) {o : Int} (hd : decode B pc = .ok (.ifnull o, 3)) (hp : (pc : Int) + o = (pc' : Int)) (k : Go p e below P T (mkF m pc' ls st)) : Go p e below P T (mkF m pc ls (.null :: st)) := Go.of (fun _ k' => XS.ifnullYes A.1.here A.2.1 rfl rfl (hb A.2.2 hd) rfl (own_off hp).1 (own_off hp).2 k') k
theorem g_nuN (A : Ax p l e R s m args below meth c T locs cells slots B) {o : Int} {b : Addr} (hd : decode B pc = .ok (.ifnull o, 3)) (hp : pc + 3 = pc') (k : Go p e below P T (mkF m pc' ls st)) : Go p e below P T (mkF m pc ls (.ref b :: st)) := by
  subst hp; exact Go.of (fun _ k' => XS.ifnullNo A.1.here A.2.1 rfl (hb A.2.2 hd) rfl k') k
theorem g_acY (A : Ax p l e R s m args below meth c T locs cells slots B) {o : Int} {cd : ClassFile.ACond} {x y : Value} (hd : decode B pc = .ok (.if_acmp cd o, 3)) (h1 : x.isRef = true) (h2 : y.isRef = true) (hc : XT.acmp cd x y = true) (hp : (pc : Int) + o = (pc' : Int)) (k : Go p e below P T (mkF m pc' ls st)) : Go p e below P T (mkF m pc ls (y :: x :: st)) := Go.of (fun _ k' => XT.acmpYes A.1.here A.2.1 rfl rfl (hb A.2.2 hd) rfl h1 h2 hc (own_off hp).1 (own_off hp).2 k') k
theorem g_acN (A : Ax p l e R s m args below meth c T locs cells slots B) {o : Int} {cd : ClassFile.ACond} {x y : Value} (hd : decode B pc = .ok (.if_acmp cd o, 3)) (h1 : x.isRef = true) (h2 : y.isRef = true) (hc : XT.acmp cd x y = false) (hp : pc + 3 = pc') (k : Go p e below P T (mkF m pc' ls st)) : Go p e below P T (mkF m pc ls (y :: x :: st)) := by
  subst hp; exact Go.of (fun _ k' => XT.acmpNo A.1.here A.2.1 rfl (hb A.2.2 hd) rfl h1 h2 hc k') k
/-- an array of n places: its i-th holds f i -/
def Dar (Z : State) (h : Heap) (a : Addr) (ty : FieldType) (n : Nat) (f : Nat → Value) : Prop := ∃ cl : Cell, RoadKit.Arr Z h a cl ty ∧ cl.slots.size = n ∧ n < 2147483648 ∧ ∀ i, i < n → cl.slots[i]? = some (f i)
variable {Z : State} {h h' : Heap} {a b : Addr} {ty : FieldType} {n : Nat} {f g : Nat → Value} {sl : Nat} {v : Value} {ws : List Addr}
theorem Dar.lt (F : Dar Z h a ty n f) : a < h.size := by obtain ⟨cl, A, -⟩ := F; exact A.lt
theorem Dar.ext (E : Ext h h') (F : Dar Z h a ty n f) : Dar Z h' a ty n f := by obtain ⟨cl, A, r⟩ := F; exact ⟨cl, A.ext E, r⟩
theorem Dar.other (W : Wr h h' b sl v) (F : Dar Z h a ty n f) (q : a ≠ b) : Dar Z h' a ty n f := by obtain ⟨cl, A, r⟩ := F; exact ⟨cl, A.other W q, r⟩
theorem Dar.keep (F : Dar Z h a ty n f) (K : Keep h h' ws) (q : a ∉ ws) : Dar Z h' a ty n f := by obtain ⟨cl, A, r⟩ := F; exact ⟨cl, ⟨K.2.1 a cl A.1 q, A.2⟩, r⟩
theorem Dar.congr (F : Dar Z h a ty n f) (q : ∀ i, i < n → f i = g i) : Dar Z h a ty n g := by obtain ⟨cl, A, r1, r2, r3⟩ := F; exact ⟨cl, A, r1, r2, fun i hi => by rw [← q i hi]; exact r3 i hi⟩
theorem Dar.new {cA : ClassId} {z : Int32} (A : RoadKit.Arr Z h a (newA cA ty z) ty) (hz : z.toNatClampNeg = n) : Dar Z h a ty n (fun _ => defaultValue ty) := by
  refine ⟨_, A, (sz_new _ _ _).trans hz, ?_, fun i hi => by subst hz; simp [newA, hi]⟩
  have := z.toInt_lt
  rw [← hz, Int32.toNatClampNeg]; omega
theorem Dar.ne_exa {a0 : Array Value} {k : Nat} {C : String} (F : Dar Z h a ty n f) (E : Exa Z h b C) (wi : (Jvm.Cond.instantiable C k).before a0 Z = true) : a ≠ b := by obtain ⟨cl, A, -⟩ := F; exact fun q => ne_arr E wi A q.symm
theorem own_ne {a b : Nat} {h : Heap} (g : a = h.size) (q : b < h.size) : b ≠ a := by rw [g]; exact Nat.ne_of_lt q
theorem own_clamp {i : Nat} (hi : i < 2147483648) : (Int32.ofNat i).toNatClampNeg = i ∧ ¬ Int32.ofNat i < 0 := by
  have e : (Int32.ofNat i).toInt = i := Int32.toInt_ofNat_of_lt hi
  refine ⟨by rw [Int32.toNatClampNeg, e]; omega, fun q => ?_⟩
  rw [Int32.lt_iff_toInt_lt, e] at q
  have : (0 : Int32).toInt = 0 := rfl
  omega
theorem Dar.set {i : Nat} (F : Dar Z h a ty n f) (W : Wr h h' a i v) (q : ∀ j, j < n → g j = if j = i then v else f j) : Dar Z h' a ty n g := by
  obtain ⟨cl, A, r1, r2, r3⟩ := F
  refine ⟨_, A.same W, (sz_set _ _ _).trans r1, r2, fun j hj => ?_⟩
  rw [q j hj]
  by_cases e : j = i
  · subst e; rw [if_pos rfl]; simp [Cell.setSlot, r1, hj]
  · rw [if_neg e]; exact (Array.getElem?_setIfInBounds_ne (Ne.symm e)).trans (r3 j hj)
theorem own_in {cl : Cell} {i : Nat} (S : cl.slots.size = n) (hn : n < 2147483648) (hi : i < n) : ¬ (Int32.ofNat i < 0 ∨ cl.slots.size ≤ (Int32.ofNat i).toNatClampNeg) := by
  obtain ⟨q1, q2⟩ := own_clamp (i := i) (by omega)
  rw [q1, S]; exact fun z => z.elim q2 (by omega)
theorem g_daload (A : Ax p l e R s m args below meth c T locs cells slots B) (hZ : Z.Warmed39 s.vm) (eT : T.heap = h) {j : Int32} {i : Nat} {x : UInt64} (F : Dar Z h a .double n f) (hi : i < n) (hj : j = Int32.ofNat i) (hv : f i = .double x) (hd : decode B pc = .ok (.daload, 1)) (hp : pc + 1 = pc') (k : Go p e below P T (mkF m pc' ls (.double x :: st))) : Go p e below P T (mkF m pc ls (.int j :: .ref a :: st)) := by
  subst hp hj
  obtain ⟨cl, A2, r1, r2, r3⟩ := F
  have q := (own_clamp (i := i) (by omega)).1
  exact Go.of (fun t k' => A.1.daload A.2.1 (j := Int32.ofNat i) (v := .double x) (by rw [eT]; exact A2.1) (State.isArrayOf_alike hZ.alike A2.2.1) A2.2.2 (own_in r1 r2 hi) (by rw [q, ← hv]; exact r3 i hi) (g := mkF m pc ls (.int (Int32.ofNat i) :: .ref a :: st)) rfl rfl (hb A.2.2 hd) t k') k
theorem g_iaload (A : Ax p l e R s m args below meth c T locs cells slots B) (hZ : Z.Warmed39 s.vm) (eT : T.heap = h) {j : Int32} {i : Nat} {x : Int32} (F : Dar Z h a .int n f) (hi : i < n) (hj : j = Int32.ofNat i) (hv : f i = .int x) (hd : decode B pc = .ok (.iaload, 1)) (hp : pc + 1 = pc') (k : Go p e below P T (mkF m pc' ls (.int x :: st))) : Go p e below P T (mkF m pc ls (.int j :: .ref a :: st)) := by
  subst hp hj
  obtain ⟨cl, A2, r1, r2, r3⟩ := F
  have q := (own_clamp (i := i) (by omega)).1
  exact Go.of (fun t k' => A.1.iaload A.2.1 (j := Int32.ofNat i) (v := .int x) (by rw [eT]; exact A2.1) (State.isArrayOf_alike hZ.alike A2.2.1) A2.2.2 (own_in r1 r2 hi) (by rw [q, ← hv]; exact r3 i hi) (g := mkF m pc ls (.int (Int32.ofNat i) :: .ref a :: st)) rfl rfl (hb A.2.2 hd) t k') k
theorem g_baload (A : Ax p l e R s m args below meth c T locs cells slots B) (hZ : Z.Warmed39 s.vm) (eT : T.heap = h) {j : Int32} {i : Nat} {x : Int32} (F : Dar Z h a .boolean n f) (hi : i < n) (hj : j = Int32.ofNat i) (hv : f i = .int x) (hd : decode B pc = .ok (.baload, 1)) (hp : pc + 1 = pc') (k : Go p e below P T (mkF m pc' ls (.int x :: st))) : Go p e below P T (mkF m pc ls (.int j :: .ref a :: st)) := by
  subst hp hj
  obtain ⟨cl, A2, r1, r2, r3⟩ := F
  have q := (own_clamp (i := i) (by omega)).1
  exact Go.of (fun t k' => A.1.baloadBooleans A.2.1 (j := Int32.ofNat i) (v := .int x) (by rw [eT]; exact A2.1) (State.isArrayOf_alike hZ.alike A2.2.1) A2.2.2 (own_in r1 r2 hi) (by rw [q, ← hv]; exact r3 i hi) (g := mkF m pc ls (.int (Int32.ofNat i) :: .ref a :: st)) rfl rfl (hb A.2.2 hd) t k') k
theorem g_alen (A : Ax p l e R s m args below meth c T locs cells slots B) (hZ : Z.Warmed39 s.vm) (eT : T.heap = h) (F : Dar Z h a ty n f) (hd : decode B pc = .ok (.arraylength, 1)) {z : Int32} (hz : Int32.ofNat n = z) (hp : pc + 1 = pc') (k : Go p e below P T (mkF m pc' ls (.int z :: st))) : Go p e below P T (mkF m pc ls (.ref a :: st)) := by
  subst hp hz
  obtain ⟨cl, A2, r1, r2, r3⟩ := F
  exact Go.of (fun t k' => A.1.arraylength A.2.1 (cell := cl) (by rw [eT]; exact A2.1) (State.isArrayOf_alike hZ.alike A2.2.1) (g := mkF m pc ls (.ref a :: st)) rfl (rest := st) rfl (hb A.2.2 hd) t (by rw [r1]; exact k')) k
theorem s_dastore (A : Ax p l e R s m args below meth c T locs cells slots B) (hZ : Z.Warmed39 s.vm) (eT : T.heap = h) {j : Int32} {i : Nat} {x : UInt64} (F : Dar Z h a .double n f) (hi : i < n) (hj : j = Int32.ofNat i) (hd : decode B pc = .ok (.dastore, 1)) (hp : pc + 1 = pc') :
    ∃ T' h', Ax p l e R s m args below meth c T' (locs ++ [⟨a, i⟩]) cells slots B ∧ T'.heap = h' ∧ Wr h h' a i (.double x) ∧ ∀ {P : State → Outcome → Prop}, Go p e below P T' (mkF m pc' ls st) → Go p e below P T (mkF m pc ls (.double x :: .int j :: .ref a :: st)) := by
  subst hp hj
  obtain ⟨cl, A2, r1, r2, r3⟩ := F
  have q := (own_clamp (i := i) (by omega)).1
  obtain ⟨X', st'⟩ := A.1.dastore A.2.1 (by rw [eT]; exact A2.1) (State.isArrayOf_alike hZ.alike A2.2.1) A2.2.2 (own_in r1 r2 hi) (x := x) (g := mkF m pc ls (.double x :: .int (Int32.ofNat i) :: .ref a :: st)) rfl rfl (hb A.2.2 hd)
  rw [q] at X' st'
  exact ⟨_, _, ⟨X', A.2⟩, rfl, ⟨cl, A2.1, A2.plain, by rw [r1]; exact hi, by rw [← eT]; rfl⟩, fun k => Go.of st' k⟩
theorem s_iastore (A : Ax p l e R s m args below meth c T locs cells slots B) (hZ : Z.Warmed39 s.vm) (eT : T.heap = h) {j : Int32} {i : Nat} {x : Int32} (F : Dar Z h a .int n f) (hi : i < n) (hj : j = Int32.ofNat i) (hd : decode B pc = .ok (.iastore, 1)) (hp : pc + 1 = pc') :
    ∃ T' h', Ax p l e R s m args below meth c T' (locs ++ [⟨a, i⟩]) cells slots B ∧ T'.heap = h' ∧ Wr h h' a i (.int x) ∧ ∀ {P : State → Outcome → Prop}, Go p e below P T' (mkF m pc' ls st) → Go p e below P T (mkF m pc ls (.int x :: .int j :: .ref a :: st)) := by
  subst hp hj
  obtain ⟨cl, A2, r1, r2, r3⟩ := F
  have q := (own_clamp (i := i) (by omega)).1
  obtain ⟨T', h', X', e', W, st'⟩ := stI A.1 A.2.1 hZ eT A2 (own_in r1 r2 hi) (x := x) (g := mkF m pc ls (.int x :: .int (Int32.ofNat i) :: .ref a :: st)) rfl rfl (hb A.2.2 hd)
  rw [q] at X' W
  exact ⟨_, _, ⟨X', A.2⟩, e', W, fun k => Go.of st' k⟩
theorem s_zastore (A : Ax p l e R s m args below meth c T locs cells slots B) (hZ : Z.Warmed39 s.vm) (eT : T.heap = h) {j : Int32} {i : Nat} {x : Int32} (F : Dar Z h a .boolean n f) (hi : i < n) (hj : j = Int32.ofNat i) (hx1 : narrow .boolean (.int x) = .int x) (hd : decode B pc = .ok (.bastore, 1)) (hp : pc + 1 = pc') :
    ∃ T' h', Ax p l e R s m args below meth c T' (locs ++ [⟨a, i⟩]) cells slots B ∧ T'.heap = h' ∧ Wr h h' a i (.int x) ∧ ∀ {P : State → Outcome → Prop}, Go p e below P T' (mkF m pc' ls st) → Go p e below P T (mkF m pc ls (.int x :: .int j :: .ref a :: st)) := by
  subst hp hj
  obtain ⟨cl, A2, r1, r2, r3⟩ := F
  have q := (own_clamp (i := i) (by omega)).1
  obtain ⟨T', h', X', e', W, st'⟩ := stZ A.1 A.2.1 hZ eT A2 (own_in r1 r2 hi) (x := x) (g := mkF m pc ls (.int x :: .int (Int32.ofNat i) :: .ref a :: st)) rfl rfl (hb A.2.2 hd)
  have q2 : nar .boolean x = x := Value.int.inj hx1
  rw [q] at X' W; rw [q2] at W
  exact ⟨_, _, ⟨X', A.2⟩, e', W, fun k => Go.of st' k⟩
end own_go
def own_c1 (w0 : Int32) : Int32 := if ¬ (w0 = 0) then (1 : Int32) else 0
def own_c2 (w0 w1 : Int32) : Int32 := if w1 = 0 then own_c1 w0 else own_c1 w0 + (1 : Int32)
def own_c3 (w0 w1 w2 : Int32) : Int32 := if w2 = 0 then own_c2 w0 w1 else own_c2 w0 w1 + (1 : Int32)
theorem d2_0 : decode prog_20_method_2_code 0 = .ok (.aload_n 0, 1) := by decide +kernel
theorem d2_1 : decode prog_20_method_2_code 1 = .ok (.invokespecial 7, 3) := by decide +kernel
theorem d2_4 : decode prog_20_method_2_code 4 = .ok (.aload_n 1, 1) := by decide +kernel
theorem d2_5 : decode prog_20_method_2_code 5 = .ok (.arraylength, 1) := by decide +kernel
theorem d2_6 : decode prog_20_method_2_code 6 = .ok (.aload_n 2, 1) := by decide +kernel
theorem d2_7 : decode prog_20_method_2_code 7 = .ok (.arraylength, 1) := by decide +kernel
theorem d2_8 : decode prog_20_method_2_code 8 = .ok (.if_icmp .eq 20, 3) := by decide +kernel
theorem d2_11 : decode prog_20_method_2_code 11 = .ok (.new 12, 3) := by decide +kernel
theorem d2_14 : decode prog_20_method_2_code 14 = .ok (.dup, 1) := by decide +kernel
theorem d2_15 : decode prog_20_method_2_code 15 = .ok (.aload_n 1, 1) := by decide +kernel
theorem d2_16 : decode prog_20_method_2_code 16 = .ok (.arraylength, 1) := by decide +kernel
theorem d2_17 : decode prog_20_method_2_code 17 = .ok (.aload_n 2, 1) := by decide +kernel
theorem d2_18 : decode prog_20_method_2_code 18 = .ok (.arraylength, 1) := by decide +kernel
theorem d2_19 : decode prog_20_method_2_code 19 = .ok (.invokedynamic 14, 5) := by decide +kernel
theorem d2_24 : decode prog_20_method_2_code 24 = .ok (.invokespecial 18, 3) := by decide +kernel
theorem d2_27 : decode prog_20_method_2_code 27 = .ok (.athrow, 1) := by decide +kernel
theorem d2_28 : decode prog_20_method_2_code 28 = .ok (.aload_n 3, 1) := by decide +kernel
theorem d2_29 : decode prog_20_method_2_code 29 = .ok (.ifnull 10, 3) := by decide +kernel
theorem d2_32 : decode prog_20_method_2_code 32 = .ok (.aload_n 3, 1) := by decide +kernel
theorem d2_33 : decode prog_20_method_2_code 33 = .ok (.arraylength, 1) := by decide +kernel
theorem d2_34 : decode prog_20_method_2_code 34 = .ok (.aload_n 1, 1) := by decide +kernel
theorem d2_35 : decode prog_20_method_2_code 35 = .ok (.arraylength, 1) := by decide +kernel
theorem d2_36 : decode prog_20_method_2_code 36 = .ok (.if_icmp .ne 16, 3) := by decide +kernel
theorem d2_39 : decode prog_20_method_2_code 39 = .ok (.aload 4, 2) := by decide +kernel
theorem d2_41 : decode prog_20_method_2_code 41 = .ok (.ifnull 26, 3) := by decide +kernel
theorem d2_44 : decode prog_20_method_2_code 44 = .ok (.aload 4, 2) := by decide +kernel
theorem d2_46 : decode prog_20_method_2_code 46 = .ok (.arraylength, 1) := by decide +kernel
theorem d2_47 : decode prog_20_method_2_code 47 = .ok (.aload_n 1, 1) := by decide +kernel
theorem d2_48 : decode prog_20_method_2_code 48 = .ok (.arraylength, 1) := by decide +kernel
theorem d2_49 : decode prog_20_method_2_code 49 = .ok (.if_icmp .eq 18, 3) := by decide +kernel
theorem d2_52 : decode prog_20_method_2_code 52 = .ok (.new 12, 3) := by decide +kernel
theorem d2_55 : decode prog_20_method_2_code 55 = .ok (.dup, 1) := by decide +kernel
theorem d2_56 : decode prog_20_method_2_code 56 = .ok (.aload_n 1, 1) := by decide +kernel
theorem d2_57 : decode prog_20_method_2_code 57 = .ok (.arraylength, 1) := by decide +kernel
theorem d2_58 : decode prog_20_method_2_code 58 = .ok (.invokedynamic 21, 5) := by decide +kernel
theorem d2_63 : decode prog_20_method_2_code 63 = .ok (.invokespecial 18, 3) := by decide +kernel
theorem d2_66 : decode prog_20_method_2_code 66 = .ok (.athrow, 1) := by decide +kernel
theorem d2_67 : decode prog_20_method_2_code 67 = .ok (.aload_n 0, 1) := by decide +kernel
theorem d2_68 : decode prog_20_method_2_code 68 = .ok (.aload_n 1, 1) := by decide +kernel
theorem d2_69 : decode prog_20_method_2_code 69 = .ok (.putfield 24, 3) := by decide +kernel
theorem d2_72 : decode prog_20_method_2_code 72 = .ok (.aload_n 0, 1) := by decide +kernel
theorem d2_73 : decode prog_20_method_2_code 73 = .ok (.aload_n 2, 1) := by decide +kernel
theorem d2_74 : decode prog_20_method_2_code 74 = .ok (.putfield 28, 3) := by decide +kernel
theorem d2_77 : decode prog_20_method_2_code 77 = .ok (.aload_n 0, 1) := by decide +kernel
theorem d2_78 : decode prog_20_method_2_code 78 = .ok (.aload_n 3, 1) := by decide +kernel
theorem d2_79 : decode prog_20_method_2_code 79 = .ok (.putfield 32, 3) := by decide +kernel
theorem d2_82 : decode prog_20_method_2_code 82 = .ok (.aload_n 0, 1) := by decide +kernel
theorem d2_83 : decode prog_20_method_2_code 83 = .ok (.aload 4, 2) := by decide +kernel
theorem d2_85 : decode prog_20_method_2_code 85 = .ok (.putfield 35, 3) := by decide +kernel
theorem d2_88 : decode prog_20_method_2_code 88 = .ok (.iconst 0, 1) := by decide +kernel
theorem d2_89 : decode prog_20_method_2_code 89 = .ok (.istore 5, 2) := by decide +kernel
theorem d2_91 : decode prog_20_method_2_code 91 = .ok (.aload_n 2, 1) := by decide +kernel
theorem d2_92 : decode prog_20_method_2_code 92 = .ok (.astore 6, 2) := by decide +kernel
theorem d2_94 : decode prog_20_method_2_code 94 = .ok (.aload 6, 2) := by decide +kernel
theorem d2_96 : decode prog_20_method_2_code 96 = .ok (.arraylength, 1) := by decide +kernel
theorem d2_97 : decode prog_20_method_2_code 97 = .ok (.istore 7, 2) := by decide +kernel
theorem d2_99 : decode prog_20_method_2_code 99 = .ok (.iconst 0, 1) := by decide +kernel
theorem d2_100 : decode prog_20_method_2_code 100 = .ok (.istore 8, 2) := by decide +kernel
theorem d2_102 : decode prog_20_method_2_code 102 = .ok (.iload 8, 2) := by decide +kernel
theorem d2_104 : decode prog_20_method_2_code 104 = .ok (.iload 7, 2) := by decide +kernel
theorem d2_106 : decode prog_20_method_2_code 106 = .ok (.if_icmp .ge 24, 3) := by decide +kernel
theorem d2_109 : decode prog_20_method_2_code 109 = .ok (.aload 6, 2) := by decide +kernel
theorem d2_111 : decode prog_20_method_2_code 111 = .ok (.iload 8, 2) := by decide +kernel
theorem d2_113 : decode prog_20_method_2_code 113 = .ok (.baload, 1) := by decide +kernel
theorem d2_114 : decode prog_20_method_2_code 114 = .ok (.istore 9, 2) := by decide +kernel
theorem d2_116 : decode prog_20_method_2_code 116 = .ok (.iload 9, 2) := by decide +kernel
theorem d2_118 : decode prog_20_method_2_code 118 = .ok (.ifCond .eq 6, 3) := by decide +kernel
theorem d2_121 : decode prog_20_method_2_code 121 = .ok (.iinc 5 1, 3) := by decide +kernel
theorem d2_124 : decode prog_20_method_2_code 124 = .ok (.iinc 8 1, 3) := by decide +kernel
theorem d2_127 : decode prog_20_method_2_code 127 = .ok (.goto (-25), 3) := by decide +kernel
theorem d2_130 : decode prog_20_method_2_code 130 = .ok (.aload_n 0, 1) := by decide +kernel
theorem d2_131 : decode prog_20_method_2_code 131 = .ok (.iload 5, 2) := by decide +kernel
theorem d2_133 : decode prog_20_method_2_code 133 = .ok (.putfield 38, 3) := by decide +kernel
theorem d2_136 : decode prog_20_method_2_code 136 = .ok (.return_, 1) := by decide +kernel
theorem pn_0 : plainName "com/example/swathloom/swathloom/planning/Plan" = true := by first | (simp [plainName, overriddenIn]; done) | decide +kernel
theorem ef1 (m : MethodId) (a1 : Addr) (a2 : Addr) (a3 : Addr) (f2 : Nat → Value) (f3 : Nat → Value) (w0 : Int32) (w1 : Int32) (w2 : Int32) (u0 : Value) (u1 : Value) (u2 : Value) (u3 : Value) (u4 : Value) : entryFrame m #[(.ref a1), (.ref a2), (.ref a3), .null, .null] 10 = mkF m 0 #[.val (.ref a1), .val (.ref a2), .val (.ref a3), .val .null, .val .null, .unset, .unset, .unset, .unset, .unset] [] := by first | (simp [entryFrame, mkF, argsToLocals, Value.category]; done) | rfl
def Q2 (Z : State) (a1 : Addr) (a2 : Addr) (a3 : Addr) (f2 : Nat → Value) (f3 : Nat → Value) (w0 : Int32) (w1 : Int32) (w2 : Int32) (u0 : Value) (u1 : Value) (u2 : Value) (u3 : Value) (u4 : Value) (h0 : Heap) (n0 : Nat) (v : Option Value) (h : Heap) (L : List Loc) : Prop := v = none ∧ Fr n0 L ∧ Keep h0 h [a1] ∧ Fld Z h a1 "com/example/swathloom/swathloom/planning/Plan" "strips" "I" (.int (own_c3 w0 w1 w2))
set_option maxRecDepth 65536 in
set_option maxHeartbeats 40000000 in
theorem rm2 (l : Launch) (Z : State) (a0 : Array Value) (hw : ∀ d ∈ tables_1, d.before a0 Z = true) (ws : List Jvm.Cond) (a1 : Addr) (a2 : Addr) (a3 : Addr) (f2 : Nat → Value) (f3 : Nat → Value) (w0 : Int32) (w1 : Int32) (w2 : Int32) (u0 : Value) (u1 : Value) (u2 : Value) (u3 : Value) (u4 : Value) (h0 : Heap) (n0 : Nat) (Z0 : n0 ≤ h0.size) (E2 : Exa Z h0 a1 "com/example/swathloom/swathloom/planning/Plan") (F3 : Fld Z h0 a1 "com/example/swathloom/swathloom/planning/Plan" "rolls" "[D" u0) (F4 : Fld Z h0 a1 "com/example/swathloom/swathloom/planning/Plan" "used" "[Z" u1) (F5 : Fld Z h0 a1 "com/example/swathloom/swathloom/planning/Plan" "rollVelocities" "[D" u2) (F6 : Fld Z h0 a1 "com/example/swathloom/swathloom/planning/Plan" "selectionVelocities" "[D" u3) (F7 : Fld Z h0 a1 "com/example/swathloom/swathloom/planning/Plan" "strips" "I" u4) (g8 : n0 ≤ a1) (V9 : Dar Z h0 a2 .double 3 f2) (V10 : Dar Z h0 a3 .boolean 3 f3) (ne11 : a2 ≠ a1) (ne12 : a3 ≠ a1) (hw0 : f3 0 = .int w0) (hw1 : f3 1 = .int w1) (hw2 : f3 2 = .int w2) :
    MetFree l (⟨"com/example/swathloom/swathloom/planning/Plan", "<init>", "([D[Z[D[D)V"⟩ : MethodName) (head1 (Jvm.Cond.code (⟨"com/example/swathloom/swathloom/planning/Plan", "<init>", "([D[Z[D[D)V"⟩ : MethodName) prog_20_method_2_code 10 none :: ws) ({ frames := 1, cells := 0, slots := 0, locals := 12 } : Room)) (fun a U => a = #[(.ref a1), (.ref a2), (.ref a3), .null, .null] ∧ Z.Warmed39 U.vm ∧ U.heap = h0) (fun _ _ _ _ _ => True) (fun _ U o U' => ∃ v L, o = .returned v ∧ Q2 Z a1 a2 a3 f2 f3 w0 w1 w2 u0 u1 u2 u3 u4 h0 n0 v U'.heap L ∧ FrameEnd U o U' L 0 0) := by
  refine MetFree.of_bodySF (plainFor_of_name pn_0) hisR ?_
  intro p e s m args below meth c s₁ Bd hml0 hP hK
  obtain ⟨rfl, hZ, hh⟩ := hP
  have hx := Bd.exec
  have hby := Bd.bytes
  have hml : c.maxLocals = 10 := hml0
  have hown : s.vm.findClass "com/example/swathloom/swathloom/planning/Plan" = some m.cls := findClass_of_methodNamed Bd.named
  have hnm := (name_of_methodNamed Bd.named Bd.method).1
  have X0 : Stand p l e ({ frames := 1, cells := 0, slots := 0, locals := 12 } : Room) s m #[(.ref a1), (.ref a2), (.ref a3), .null, .null] below meth c s₁ [] 0 0 := Stand.of_body Bd
  have e0 : s₁.heap = h0 := by rw [← hh, Bd.state]; rfl
  have N0 := Fr.nil n0
  have A0 := (⟨X0, hx, hby⟩ : Ax _ _ _ _ _ _ _ _ _ _ _ _ _ _ _)
  show Go p e below (fun U o => ∃ v L, o = .returned v ∧ Q2 Z a1 a2 a3 f2 f3 w0 w1 w2 u0 u1 u2 u3 u4 h0 n0 v U.heap L ∧ FrameEnd s o U L 0 0) s₁ (entryFrame m #[(.ref a1), (.ref a2), (.ref a3), .null, .null] 10)
  refine Go.cast (ef1 m a1 a2 a3 f2 f3 w0 w1 w2 u0 u1 u2 u3 u4) ?_
  refine g_aloadN A0 d2_0 rfl rfl (pc' := 1) rfl ?_
  obtain ⟨T13, X13, e13, st13⟩ := initO X0 hx hZ hown (hw _ (List.mem_of_getElem? (i := 15) rfl)) (hw _ (List.mem_of_getElem? (i := 16) rfl)) (hw _ (List.mem_of_getElem? (i := 17) rfl)) e0 (g := (mkF m 1 #[.val (.ref a1), .val (.ref a2), .val (.ref a3), .val .null, .val .null, .unset, .unset, .unset, .unset, .unset] [(.ref a1)])) rfl (by rw [hml]; rfl) rfl (hb hby d2_1) (by decide) (W := 0) (by show 2 * 0 + _ ≤ _; exact Nat.le_of_eq rfl) (by decide)
  refine Go.of (g' := (mkF m 4 #[.val (.ref a1), .val (.ref a2), .val (.ref a3), .val .null, .val .null, .unset, .unset, .unset, .unset, .unset] [])) st13 ?_
  have A14 := (⟨X13, hx, hby⟩ : Ax _ _ _ _ _ _ _ _ _ _ _ _ _ _ _)
  refine g_aloadN A14 d2_4 rfl rfl (pc' := 5) rfl ?_
  refine g_alen A14 hZ e13 V9 d2_5 (z := (3 : Int32)) rfl (pc' := 6) rfl ?_
  refine g_aloadN A14 d2_6 rfl rfl (pc' := 7) rfl ?_
  refine g_alen A14 hZ e13 V10 d2_7 (z := (3 : Int32)) rfl (pc' := 8) rfl ?_
  refine g_icY A14 d2_8 (c2_eq_t rfl) (pc' := 28) rfl ?_
  refine g_aloadN A14 d2_28 rfl rfl (pc' := 29) rfl ?_
  refine g_nuY A14 d2_29 (pc' := 39) rfl ?_
  refine g_aload A14 d2_39 rfl rfl (pc' := 41) rfl ?_
  refine g_nuY A14 d2_41 (pc' := 67) rfl ?_
  refine g_aloadN A14 d2_67 rfl rfl (pc' := 68) rfl ?_
  refine g_aloadN A14 d2_68 rfl rfl (pc' := 69) rfl ?_
  obtain ⟨T15, h15, X15, e15, W15, st15⟩ := putF X13 hx hZ hown (host := "") (Or.inl (hw _ (List.mem_of_getElem? (i := 18) rfl))) Via.refl e13 F3 E2 (Or.inr ⟨(hw _ (List.mem_of_getElem? (i := 19) rfl)), rfl, hnm⟩) (hw _ (List.mem_of_getElem? (i := 6) rfl)) (ty := (.array .double)) (by decide) rfl rfl (g := (mkF m 69 #[.val (.ref a1), .val (.ref a2), .val (.ref a3), .val .null, .val .null, .unset, .unset, .unset, .unset, .unset] [(.ref a2), (.ref a1)])) rfl rfl (hb hby d2_69)
  have N16 := Fr.snoc X15 N0 g8
  have K17 : Keep h0 h15 [a1] := (Keep.refl h0 [a1]).wr W15 (Or.inl (List.mem_of_getElem? (i := 0) rfl))
  have E18 : Exa Z h15 a1 "com/example/swathloom/swathloom/planning/Plan" := Exa.wr W15 E2
  have F19 : Fld Z h15 a1 "com/example/swathloom/swathloom/planning/Plan" "used" "[Z" u1 := Fld.other W15 F4 (Or.inr (slot_ne (Or.inr (hw _ (List.mem_of_getElem? (i := 21) rfl))) (Or.inr (hw _ (List.mem_of_getElem? (i := 19) rfl))) (by decide) (t := (.array .boolean)) (t' := (.array .double)) (by decide) (by decide)))
  have F20 : Fld Z h15 a1 "com/example/swathloom/swathloom/planning/Plan" "rollVelocities" "[D" u2 := Fld.other W15 F5 (Or.inr (slot_ne (Or.inr (hw _ (List.mem_of_getElem? (i := 23) rfl))) (Or.inr (hw _ (List.mem_of_getElem? (i := 19) rfl))) (by decide) (t := (.array .double)) (t' := (.array .double)) (by decide) (by decide)))
  have F21 : Fld Z h15 a1 "com/example/swathloom/swathloom/planning/Plan" "selectionVelocities" "[D" u3 := Fld.other W15 F6 (Or.inr (slot_ne (Or.inr (hw _ (List.mem_of_getElem? (i := 25) rfl))) (Or.inr (hw _ (List.mem_of_getElem? (i := 19) rfl))) (by decide) (t := (.array .double)) (t' := (.array .double)) (by decide) (by decide)))
  have F22 : Fld Z h15 a1 "com/example/swathloom/swathloom/planning/Plan" "strips" "I" u4 := Fld.other W15 F7 (Or.inr (slot_ne (Or.inr (hw _ (List.mem_of_getElem? (i := 27) rfl))) (Or.inr (hw _ (List.mem_of_getElem? (i := 19) rfl))) (by decide) (t := .int) (t' := (.array .double)) (by decide) (by decide)))
  have V23 : Dar Z h15 a2 .double 3 f2 := Dar.other W15 V9 ne11
  have V24 : Dar Z h15 a3 .boolean 3 f3 := Dar.other W15 V10 ne12
  have F25 : Fld Z h15 a1 "com/example/swathloom/swathloom/planning/Plan" "rolls" "[D" (.ref a2) := Fld.same W15 F3
  have Z26 : n0 ≤ h15.size := by rw [W15.size]; exact Z0
  refine Go.of (g' := (mkF m 72 #[.val (.ref a1), .val (.ref a2), .val (.ref a3), .val .null, .val .null, .unset, .unset, .unset, .unset, .unset] [])) st15 ?_
  have A27 := (⟨X15, hx, hby⟩ : Ax _ _ _ _ _ _ _ _ _ _ _ _ _ _ _)
  refine g_aloadN A27 d2_72 rfl rfl (pc' := 73) rfl ?_
  refine g_aloadN A27 d2_73 rfl rfl (pc' := 74) rfl ?_
  obtain ⟨T28, h28, X28, e28, W28, st28⟩ := putF X15 hx hZ hown (host := "") (Or.inl (hw _ (List.mem_of_getElem? (i := 20) rfl))) Via.refl e15 F19 E18 (Or.inr ⟨(hw _ (List.mem_of_getElem? (i := 21) rfl)), rfl, hnm⟩) (hw _ (List.mem_of_getElem? (i := 6) rfl)) (ty := (.array .boolean)) (by decide) rfl rfl (g := (mkF m 74 #[.val (.ref a1), .val (.ref a2), .val (.ref a3), .val .null, .val .null, .unset, .unset, .unset, .unset, .unset] [(.ref a3), (.ref a1)])) rfl rfl (hb hby d2_74)
  have N29 := Fr.snoc X28 N16 g8
  have K30 : Keep h0 h28 [a1] := K17.wr W28 (Or.inl (List.mem_of_getElem? (i := 0) rfl))
  have E31 : Exa Z h28 a1 "com/example/swathloom/swathloom/planning/Plan" := Exa.wr W28 E18
  have F32 : Fld Z h28 a1 "com/example/swathloom/swathloom/planning/Plan" "rollVelocities" "[D" u2 := Fld.other W28 F20 (Or.inr (slot_ne (Or.inr (hw _ (List.mem_of_getElem? (i := 23) rfl))) (Or.inr (hw _ (List.mem_of_getElem? (i := 21) rfl))) (by decide) (t := (.array .double)) (t' := (.array .boolean)) (by decide) (by decide)))
  have F33 : Fld Z h28 a1 "com/example/swathloom/swathloom/planning/Plan" "selectionVelocities" "[D" u3 := Fld.other W28 F21 (Or.inr (slot_ne (Or.inr (hw _ (List.mem_of_getElem? (i := 25) rfl))) (Or.inr (hw _ (List.mem_of_getElem? (i := 21) rfl))) (by decide) (t := (.array .double)) (t' := (.array .boolean)) (by decide) (by decide)))
  have F34 : Fld Z h28 a1 "com/example/swathloom/swathloom/planning/Plan" "strips" "I" u4 := Fld.other W28 F22 (Or.inr (slot_ne (Or.inr (hw _ (List.mem_of_getElem? (i := 27) rfl))) (Or.inr (hw _ (List.mem_of_getElem? (i := 21) rfl))) (by decide) (t := .int) (t' := (.array .boolean)) (by decide) (by decide)))
  have V35 : Dar Z h28 a2 .double 3 f2 := Dar.other W28 V23 ne11
  have V36 : Dar Z h28 a3 .boolean 3 f3 := Dar.other W28 V24 ne12
  have F37 : Fld Z h28 a1 "com/example/swathloom/swathloom/planning/Plan" "rolls" "[D" (.ref a2) := Fld.other W28 F25 (Or.inr (slot_ne (Or.inr (hw _ (List.mem_of_getElem? (i := 19) rfl))) (Or.inr (hw _ (List.mem_of_getElem? (i := 21) rfl))) (by decide) (t := (.array .double)) (t' := (.array .boolean)) (by decide) (by decide)))
  have F38 : Fld Z h28 a1 "com/example/swathloom/swathloom/planning/Plan" "used" "[Z" (.ref a3) := Fld.same W28 F19
  have Z39 : n0 ≤ h28.size := by rw [W28.size]; exact Z26
  refine Go.of (g' := (mkF m 77 #[.val (.ref a1), .val (.ref a2), .val (.ref a3), .val .null, .val .null, .unset, .unset, .unset, .unset, .unset] [])) st28 ?_
  have A40 := (⟨X28, hx, hby⟩ : Ax _ _ _ _ _ _ _ _ _ _ _ _ _ _ _)
  refine g_aloadN A40 d2_77 rfl rfl (pc' := 78) rfl ?_
  refine g_aloadN A40 d2_78 rfl rfl (pc' := 79) rfl ?_
  obtain ⟨T41, h41, X41, e41, W41, st41⟩ := putF X28 hx hZ hown (host := "") (Or.inl (hw _ (List.mem_of_getElem? (i := 22) rfl))) Via.refl e28 F32 E31 (Or.inr ⟨(hw _ (List.mem_of_getElem? (i := 23) rfl)), rfl, hnm⟩) (hw _ (List.mem_of_getElem? (i := 6) rfl)) (ty := (.array .double)) (by decide) rfl rfl (g := (mkF m 79 #[.val (.ref a1), .val (.ref a2), .val (.ref a3), .val .null, .val .null, .unset, .unset, .unset, .unset, .unset] [.null, (.ref a1)])) rfl rfl (hb hby d2_79)
  have N42 := Fr.snoc X41 N29 g8
  have K43 : Keep h0 h41 [a1] := K30.wr W41 (Or.inl (List.mem_of_getElem? (i := 0) rfl))
  have E44 : Exa Z h41 a1 "com/example/swathloom/swathloom/planning/Plan" := Exa.wr W41 E31
  have F45 : Fld Z h41 a1 "com/example/swathloom/swathloom/planning/Plan" "selectionVelocities" "[D" u3 := Fld.other W41 F33 (Or.inr (slot_ne (Or.inr (hw _ (List.mem_of_getElem? (i := 25) rfl))) (Or.inr (hw _ (List.mem_of_getElem? (i := 23) rfl))) (by decide) (t := (.array .double)) (t' := (.array .double)) (by decide) (by decide)))
  have F46 : Fld Z h41 a1 "com/example/swathloom/swathloom/planning/Plan" "strips" "I" u4 := Fld.other W41 F34 (Or.inr (slot_ne (Or.inr (hw _ (List.mem_of_getElem? (i := 27) rfl))) (Or.inr (hw _ (List.mem_of_getElem? (i := 23) rfl))) (by decide) (t := .int) (t' := (.array .double)) (by decide) (by decide)))
  have V47 : Dar Z h41 a2 .double 3 f2 := Dar.other W41 V35 ne11
  have V48 : Dar Z h41 a3 .boolean 3 f3 := Dar.other W41 V36 ne12
  have F49 : Fld Z h41 a1 "com/example/swathloom/swathloom/planning/Plan" "rolls" "[D" (.ref a2) := Fld.other W41 F37 (Or.inr (slot_ne (Or.inr (hw _ (List.mem_of_getElem? (i := 19) rfl))) (Or.inr (hw _ (List.mem_of_getElem? (i := 23) rfl))) (by decide) (t := (.array .double)) (t' := (.array .double)) (by decide) (by decide)))
  have F50 : Fld Z h41 a1 "com/example/swathloom/swathloom/planning/Plan" "used" "[Z" (.ref a3) := Fld.other W41 F38 (Or.inr (slot_ne (Or.inr (hw _ (List.mem_of_getElem? (i := 21) rfl))) (Or.inr (hw _ (List.mem_of_getElem? (i := 23) rfl))) (by decide) (t := (.array .boolean)) (t' := (.array .double)) (by decide) (by decide)))
  have F51 : Fld Z h41 a1 "com/example/swathloom/swathloom/planning/Plan" "rollVelocities" "[D" .null := Fld.same W41 F32
  have Z52 : n0 ≤ h41.size := by rw [W41.size]; exact Z39
  refine Go.of (g' := (mkF m 82 #[.val (.ref a1), .val (.ref a2), .val (.ref a3), .val .null, .val .null, .unset, .unset, .unset, .unset, .unset] [])) st41 ?_
  have A53 := (⟨X41, hx, hby⟩ : Ax _ _ _ _ _ _ _ _ _ _ _ _ _ _ _)
  refine g_aloadN A53 d2_82 rfl rfl (pc' := 83) rfl ?_
  refine g_aload A53 d2_83 rfl rfl (pc' := 85) rfl ?_
  obtain ⟨T54, h54, X54, e54, W54, st54⟩ := putF X41 hx hZ hown (host := "") (Or.inl (hw _ (List.mem_of_getElem? (i := 24) rfl))) Via.refl e41 F45 E44 (Or.inr ⟨(hw _ (List.mem_of_getElem? (i := 25) rfl)), rfl, hnm⟩) (hw _ (List.mem_of_getElem? (i := 6) rfl)) (ty := (.array .double)) (by decide) rfl rfl (g := (mkF m 85 #[.val (.ref a1), .val (.ref a2), .val (.ref a3), .val .null, .val .null, .unset, .unset, .unset, .unset, .unset] [.null, (.ref a1)])) rfl rfl (hb hby d2_85)
  have N55 := Fr.snoc X54 N42 g8
  have K56 : Keep h0 h54 [a1] := K43.wr W54 (Or.inl (List.mem_of_getElem? (i := 0) rfl))
  have E57 : Exa Z h54 a1 "com/example/swathloom/swathloom/planning/Plan" := Exa.wr W54 E44
  have F58 : Fld Z h54 a1 "com/example/swathloom/swathloom/planning/Plan" "strips" "I" u4 := Fld.other W54 F46 (Or.inr (slot_ne (Or.inr (hw _ (List.mem_of_getElem? (i := 27) rfl))) (Or.inr (hw _ (List.mem_of_getElem? (i := 25) rfl))) (by decide) (t := .int) (t' := (.array .double)) (by decide) (by decide)))
  have V59 : Dar Z h54 a2 .double 3 f2 := Dar.other W54 V47 ne11
  have V60 : Dar Z h54 a3 .boolean 3 f3 := Dar.other W54 V48 ne12
  have F61 : Fld Z h54 a1 "com/example/swathloom/swathloom/planning/Plan" "rolls" "[D" (.ref a2) := Fld.other W54 F49 (Or.inr (slot_ne (Or.inr (hw _ (List.mem_of_getElem? (i := 19) rfl))) (Or.inr (hw _ (List.mem_of_getElem? (i := 25) rfl))) (by decide) (t := (.array .double)) (t' := (.array .double)) (by decide) (by decide)))
  have F62 : Fld Z h54 a1 "com/example/swathloom/swathloom/planning/Plan" "used" "[Z" (.ref a3) := Fld.other W54 F50 (Or.inr (slot_ne (Or.inr (hw _ (List.mem_of_getElem? (i := 21) rfl))) (Or.inr (hw _ (List.mem_of_getElem? (i := 25) rfl))) (by decide) (t := (.array .boolean)) (t' := (.array .double)) (by decide) (by decide)))
  have F63 : Fld Z h54 a1 "com/example/swathloom/swathloom/planning/Plan" "rollVelocities" "[D" .null := Fld.other W54 F51 (Or.inr (slot_ne (Or.inr (hw _ (List.mem_of_getElem? (i := 23) rfl))) (Or.inr (hw _ (List.mem_of_getElem? (i := 25) rfl))) (by decide) (t := (.array .double)) (t' := (.array .double)) (by decide) (by decide)))
  have F64 : Fld Z h54 a1 "com/example/swathloom/swathloom/planning/Plan" "selectionVelocities" "[D" .null := Fld.same W54 F45
  have Z65 : n0 ≤ h54.size := by rw [W54.size]; exact Z52
  refine Go.of (g' := (mkF m 88 #[.val (.ref a1), .val (.ref a2), .val (.ref a3), .val .null, .val .null, .unset, .unset, .unset, .unset, .unset] [])) st54 ?_
  have A66 := (⟨X54, hx, hby⟩ : Ax _ _ _ _ _ _ _ _ _ _ _ _ _ _ _)
  refine g_iconst A66 d2_88 (v := (0 : Int32)) rfl (pc' := 89) rfl ?_
  refine g_istore A66 d2_89 (ls' := #[.val (.ref a1), .val (.ref a2), .val (.ref a3), .val .null, .val .null, .val (.int (0 : Int32)), .unset, .unset, .unset, .unset]) rfl (pc' := 91) rfl ?_
  refine g_aloadN A66 d2_91 rfl rfl (pc' := 92) rfl ?_
  refine g_astore A66 d2_92 rfl (ls' := #[.val (.ref a1), .val (.ref a2), .val (.ref a3), .val .null, .val .null, .val (.int (0 : Int32)), .val (.ref a3), .unset, .unset, .unset]) rfl (pc' := 94) rfl ?_
  refine g_aload A66 d2_94 rfl rfl (pc' := 96) rfl ?_
  refine g_alen A66 hZ e54 V60 d2_96 (z := (3 : Int32)) rfl (pc' := 97) rfl ?_
  refine g_istore A66 d2_97 (ls' := #[.val (.ref a1), .val (.ref a2), .val (.ref a3), .val .null, .val .null, .val (.int (0 : Int32)), .val (.ref a3), .val (.int (3 : Int32)), .unset, .unset]) rfl (pc' := 99) rfl ?_
  refine g_iconst A66 d2_99 (v := (0 : Int32)) rfl (pc' := 100) rfl ?_
  refine g_istore A66 d2_100 (ls' := #[.val (.ref a1), .val (.ref a2), .val (.ref a3), .val .null, .val .null, .val (.int (0 : Int32)), .val (.ref a3), .val (.int (3 : Int32)), .val (.int (0 : Int32)), .unset]) rfl (pc' := 102) rfl ?_
  refine g_iload A66 d2_102 rfl (pc' := 104) rfl ?_
  refine g_iload A66 d2_104 rfl (pc' := 106) rfl ?_
  refine g_icN A66 d2_106 (c2_ge_f (by decide)) (pc' := 109) rfl ?_
  refine g_aload A66 d2_109 rfl rfl (pc' := 111) rfl ?_
  refine g_iload A66 d2_111 rfl (pc' := 113) rfl ?_
  refine g_baload A66 hZ e54 V60 (i := 0) (by decide) rfl (x := w0) hw0 d2_113 (pc' := 114) rfl ?_
  refine g_istore A66 d2_114 (ls' := #[.val (.ref a1), .val (.ref a2), .val (.ref a3), .val .null, .val .null, .val (.int (0 : Int32)), .val (.ref a3), .val (.int (3 : Int32)), .val (.int (0 : Int32)), .val (.int w0)]) rfl (pc' := 116) rfl ?_
  refine g_iload A66 d2_116 rfl (pc' := 118) rfl ?_
  obtain ⟨v67, hv67⟩ : ∃ z : Int32, z = if ¬ (w0 = 0) then (1 : Int32) else 0 := ⟨_, rfl⟩
  have sg68 : ∀ {P : State → Outcome → Prop}, Go p e below P T54 (mkF m 124 #[.val (.ref a1), .val (.ref a2), .val (.ref a3), .val .null, .val .null, .val (.int v67), .val (.ref a3), .val (.int (3 : Int32)), .val (.int (0 : Int32)), .val (.int w0)] []) → Go p e below P T54 (mkF m 118 #[.val (.ref a1), .val (.ref a2), .val (.ref a3), .val .null, .val .null, .val (.int (0 : Int32)), .val (.ref a3), .val (.int (3 : Int32)), .val (.int (0 : Int32)), .val (.int w0)] [(.int w0)]) := by
    intro P hr
    by_cases c69 : w0 = 0
    · skip
      refine g_ifY A66 d2_118 (c0_eq_t c69) (pc' := 124) rfl ?_
      obtain rfl : v67 = (0 : Int32) := hv67.trans (if_neg (fun q => q c69))
      exact hr
    · skip
      refine g_ifN A66 d2_118 (c0_eq_f c69) (pc' := 121) rfl ?_
      refine g_iinc A66 d2_121 rfl (y := (1 : Int32)) (by decide) (ls' := #[.val (.ref a1), .val (.ref a2), .val (.ref a3), .val .null, .val .null, .val (.int (1 : Int32)), .val (.ref a3), .val (.int (3 : Int32)), .val (.int (0 : Int32)), .val (.int w0)]) rfl (pc' := 124) rfl ?_
      obtain rfl : v67 = (1 : Int32) := hv67.trans (if_pos c69)
      exact hr
  refine sg68 ?_
  refine g_iinc A66 d2_124 rfl (y := (1 : Int32)) (by decide) (ls' := #[.val (.ref a1), .val (.ref a2), .val (.ref a3), .val .null, .val .null, .val (.int v67), .val (.ref a3), .val (.int (3 : Int32)), .val (.int (1 : Int32)), .val (.int w0)]) rfl (pc' := 127) rfl ?_
  refine g_goto A66 d2_127 (pc' := 102) rfl ?_
  refine g_iload A66 d2_102 rfl (pc' := 104) rfl ?_
  refine g_iload A66 d2_104 rfl (pc' := 106) rfl ?_
  refine g_icN A66 d2_106 (c2_ge_f (by decide)) (pc' := 109) rfl ?_
  refine g_aload A66 d2_109 rfl rfl (pc' := 111) rfl ?_
  refine g_iload A66 d2_111 rfl (pc' := 113) rfl ?_
  refine g_baload A66 hZ e54 V60 (i := 1) (by decide) rfl (x := w1) hw1 d2_113 (pc' := 114) rfl ?_
  refine g_istore A66 d2_114 (ls' := #[.val (.ref a1), .val (.ref a2), .val (.ref a3), .val .null, .val .null, .val (.int v67), .val (.ref a3), .val (.int (3 : Int32)), .val (.int (1 : Int32)), .val (.int w1)]) rfl (pc' := 116) rfl ?_
  refine g_iload A66 d2_116 rfl (pc' := 118) rfl ?_
  obtain ⟨v70, hv70⟩ : ∃ z : Int32, z = (if w1 = 0 then v67 else (v67 + (1 : Int32))) := ⟨_, rfl⟩
  have sg71 : ∀ {P : State → Outcome → Prop}, Go p e below P T54 (mkF m 124 #[.val (.ref a1), .val (.ref a2), .val (.ref a3), .val .null, .val .null, .val (.int v70), .val (.ref a3), .val (.int (3 : Int32)), .val (.int (1 : Int32)), .val (.int w1)] []) → Go p e below P T54 (mkF m 118 #[.val (.ref a1), .val (.ref a2), .val (.ref a3), .val .null, .val .null, .val (.int v67), .val (.ref a3), .val (.int (3 : Int32)), .val (.int (1 : Int32)), .val (.int w1)] [(.int w1)]) := by
    intro P hr
    by_cases c72 : w1 = 0
    · skip
      refine g_ifY A66 d2_118 (c0_eq_t c72) (pc' := 124) rfl ?_
      obtain rfl : v70 = v67 := hv70.trans ((if_pos c72).trans rfl)
      exact hr
    · skip
      refine g_ifN A66 d2_118 (c0_eq_f c72) (pc' := 121) rfl ?_
      refine g_iinc A66 d2_121 rfl (y := (v67 + (1 : Int32))) rfl (ls' := #[.val (.ref a1), .val (.ref a2), .val (.ref a3), .val .null, .val .null, .val (.int (v67 + (1 : Int32))), .val (.ref a3), .val (.int (3 : Int32)), .val (.int (1 : Int32)), .val (.int w1)]) rfl (pc' := 124) rfl ?_
      obtain rfl : v70 = (v67 + (1 : Int32)) := hv70.trans ((if_neg c72).trans rfl)
      exact hr
  refine sg71 ?_
  refine g_iinc A66 d2_124 rfl (y := (2 : Int32)) (by decide) (ls' := #[.val (.ref a1), .val (.ref a2), .val (.ref a3), .val .null, .val .null, .val (.int v70), .val (.ref a3), .val (.int (3 : Int32)), .val (.int (2 : Int32)), .val (.int w1)]) rfl (pc' := 127) rfl ?_
  refine g_goto A66 d2_127 (pc' := 102) rfl ?_
  refine g_iload A66 d2_102 rfl (pc' := 104) rfl ?_
  refine g_iload A66 d2_104 rfl (pc' := 106) rfl ?_
  refine g_icN A66 d2_106 (c2_ge_f (by decide)) (pc' := 109) rfl ?_
  refine g_aload A66 d2_109 rfl rfl (pc' := 111) rfl ?_
  refine g_iload A66 d2_111 rfl (pc' := 113) rfl ?_
  refine g_baload A66 hZ e54 V60 (i := 2) (by decide) rfl (x := w2) hw2 d2_113 (pc' := 114) rfl ?_
  refine g_istore A66 d2_114 (ls' := #[.val (.ref a1), .val (.ref a2), .val (.ref a3), .val .null, .val .null, .val (.int v70), .val (.ref a3), .val (.int (3 : Int32)), .val (.int (2 : Int32)), .val (.int w2)]) rfl (pc' := 116) rfl ?_
  refine g_iload A66 d2_116 rfl (pc' := 118) rfl ?_
  obtain ⟨v73, hv73⟩ : ∃ z : Int32, z = (if w2 = 0 then v70 else (v70 + (1 : Int32))) := ⟨_, rfl⟩
  have sg74 : ∀ {P : State → Outcome → Prop}, Go p e below P T54 (mkF m 124 #[.val (.ref a1), .val (.ref a2), .val (.ref a3), .val .null, .val .null, .val (.int v73), .val (.ref a3), .val (.int (3 : Int32)), .val (.int (2 : Int32)), .val (.int w2)] []) → Go p e below P T54 (mkF m 118 #[.val (.ref a1), .val (.ref a2), .val (.ref a3), .val .null, .val .null, .val (.int v70), .val (.ref a3), .val (.int (3 : Int32)), .val (.int (2 : Int32)), .val (.int w2)] [(.int w2)]) := by
    intro P hr
    by_cases c75 : w2 = 0
    · skip
      refine g_ifY A66 d2_118 (c0_eq_t c75) (pc' := 124) rfl ?_
      obtain rfl : v73 = v70 := hv73.trans ((if_pos c75).trans rfl)
      exact hr
    · skip
      refine g_ifN A66 d2_118 (c0_eq_f c75) (pc' := 121) rfl ?_
      refine g_iinc A66 d2_121 rfl (y := (v70 + (1 : Int32))) rfl (ls' := #[.val (.ref a1), .val (.ref a2), .val (.ref a3), .val .null, .val .null, .val (.int (v70 + (1 : Int32))), .val (.ref a3), .val (.int (3 : Int32)), .val (.int (2 : Int32)), .val (.int w2)]) rfl (pc' := 124) rfl ?_
      obtain rfl : v73 = (v70 + (1 : Int32)) := hv73.trans ((if_neg c75).trans rfl)
      exact hr
  refine sg74 ?_
  refine g_iinc A66 d2_124 rfl (y := (3 : Int32)) (by decide) (ls' := #[.val (.ref a1), .val (.ref a2), .val (.ref a3), .val .null, .val .null, .val (.int v73), .val (.ref a3), .val (.int (3 : Int32)), .val (.int (3 : Int32)), .val (.int w2)]) rfl (pc' := 127) rfl ?_
  refine g_goto A66 d2_127 (pc' := 102) rfl ?_
  refine g_iload A66 d2_102 rfl (pc' := 104) rfl ?_
  refine g_iload A66 d2_104 rfl (pc' := 106) rfl ?_
  refine g_icY A66 d2_106 (c2_ge_t (by decide)) (pc' := 130) rfl ?_
  have hs76 : v73 = own_c3 w0 w1 w2 := by rw [hv73, hv70, hv67]; rfl
  rw [hs76]
  refine g_aloadN A66 d2_130 rfl rfl (pc' := 131) rfl ?_
  refine g_iload A66 d2_131 rfl (pc' := 133) rfl ?_
  obtain ⟨T77, h77, X77, e77, W77, st77⟩ := putF X54 hx hZ hown (host := "") (Or.inl (hw _ (List.mem_of_getElem? (i := 26) rfl))) Via.refl e54 F58 E57 (Or.inr ⟨(hw _ (List.mem_of_getElem? (i := 27) rfl)), rfl, hnm⟩) (hw _ (List.mem_of_getElem? (i := 6) rfl)) (ty := .int) (by decide) rfl rfl (g := (mkF m 133 #[.val (.ref a1), .val (.ref a2), .val (.ref a3), .val .null, .val .null, .val (.int (own_c3 w0 w1 w2)), .val (.ref a3), .val (.int (3 : Int32)), .val (.int (3 : Int32)), .val (.int w2)] [(.int (own_c3 w0 w1 w2)), (.ref a1)])) rfl rfl (hb hby d2_133)
  have N78 := Fr.snoc X77 N55 g8
  have K79 : Keep h0 h77 [a1] := K56.wr W77 (Or.inl (List.mem_of_getElem? (i := 0) rfl))
  have E80 : Exa Z h77 a1 "com/example/swathloom/swathloom/planning/Plan" := Exa.wr W77 E57
  have V81 : Dar Z h77 a2 .double 3 f2 := Dar.other W77 V59 ne11
  have V82 : Dar Z h77 a3 .boolean 3 f3 := Dar.other W77 V60 ne12
  have F83 : Fld Z h77 a1 "com/example/swathloom/swathloom/planning/Plan" "rolls" "[D" (.ref a2) := Fld.other W77 F61 (Or.inr (slot_ne (Or.inr (hw _ (List.mem_of_getElem? (i := 19) rfl))) (Or.inr (hw _ (List.mem_of_getElem? (i := 27) rfl))) (by decide) (t := (.array .double)) (t' := .int) (by decide) (by decide)))
  have F84 : Fld Z h77 a1 "com/example/swathloom/swathloom/planning/Plan" "used" "[Z" (.ref a3) := Fld.other W77 F62 (Or.inr (slot_ne (Or.inr (hw _ (List.mem_of_getElem? (i := 21) rfl))) (Or.inr (hw _ (List.mem_of_getElem? (i := 27) rfl))) (by decide) (t := (.array .boolean)) (t' := .int) (by decide) (by decide)))
  have F85 : Fld Z h77 a1 "com/example/swathloom/swathloom/planning/Plan" "rollVelocities" "[D" .null := Fld.other W77 F63 (Or.inr (slot_ne (Or.inr (hw _ (List.mem_of_getElem? (i := 23) rfl))) (Or.inr (hw _ (List.mem_of_getElem? (i := 27) rfl))) (by decide) (t := (.array .double)) (t' := .int) (by decide) (by decide)))
  have F86 : Fld Z h77 a1 "com/example/swathloom/swathloom/planning/Plan" "selectionVelocities" "[D" .null := Fld.other W77 F64 (Or.inr (slot_ne (Or.inr (hw _ (List.mem_of_getElem? (i := 25) rfl))) (Or.inr (hw _ (List.mem_of_getElem? (i := 27) rfl))) (by decide) (t := (.array .double)) (t' := .int) (by decide) (by decide)))
  have F87 : Fld Z h77 a1 "com/example/swathloom/swathloom/planning/Plan" "strips" "I" (.int (own_c3 w0 w1 w2)) := Fld.same W77 F58
  have Z88 : n0 ≤ h77.size := by rw [W77.size]; exact Z65
  refine Go.of (g' := (mkF m 136 #[.val (.ref a1), .val (.ref a2), .val (.ref a3), .val .null, .val .null, .val (.int (own_c3 w0 w1 w2)), .val (.ref a3), .val (.int (3 : Int32)), .val (.int (3 : Int32)), .val (.int w2)] [])) st77 ?_
  have A89 := (⟨X77, hx, hby⟩ : Ax _ _ _ _ _ _ _ _ _ _ _ _ _ _ _)
  exact g_retV (Q := Q2 Z a1 a2 a3 f2 f3 w0 w1 w2 u0 u1 u2 u3 u4 h0 n0) A89 d2_136 Bd.notSynchronized Bd.returns (by decide) (by decide) (by rw [e77]; exact ⟨rfl, N78, K79, F87⟩)
theorem d1_0 : decode prog_20_method_1_code 0 = .ok (.aload_n 0, 1) := by decide +kernel
theorem d1_1 : decode prog_20_method_1_code 1 = .ok (.aload_n 1, 1) := by decide +kernel
theorem d1_2 : decode prog_20_method_1_code 2 = .ok (.aload_n 2, 1) := by decide +kernel
theorem d1_3 : decode prog_20_method_1_code 3 = .ok (.aconst_null, 1) := by decide +kernel
theorem d1_4 : decode prog_20_method_1_code 4 = .ok (.aconst_null, 1) := by decide +kernel
theorem d1_5 : decode prog_20_method_1_code 5 = .ok (.invokespecial 1, 3) := by decide +kernel
theorem d1_8 : decode prog_20_method_1_code 8 = .ok (.return_, 1) := by decide +kernel
theorem ef90 (m : MethodId) (a1 : Addr) (a2 : Addr) (a3 : Addr) (f2 : Nat → Value) (f3 : Nat → Value) (w0 : Int32) (w1 : Int32) (w2 : Int32) (u0 : Value) (u1 : Value) (u2 : Value) (u3 : Value) (u4 : Value) : entryFrame m #[(.ref a1), (.ref a2), (.ref a3)] 3 = mkF m 0 #[.val (.ref a1), .val (.ref a2), .val (.ref a3)] [] := by first | (simp [entryFrame, mkF, argsToLocals, Value.category]; done) | rfl
def Q1 (Z : State) (a1 : Addr) (a2 : Addr) (a3 : Addr) (f2 : Nat → Value) (f3 : Nat → Value) (w0 : Int32) (w1 : Int32) (w2 : Int32) (u0 : Value) (u1 : Value) (u2 : Value) (u3 : Value) (u4 : Value) (h0 : Heap) (n0 : Nat) (v : Option Value) (h : Heap) (L : List Loc) : Prop := v = none ∧ Fr n0 L ∧ Keep h0 h [a1] ∧ Fld Z h a1 "com/example/swathloom/swathloom/planning/Plan" "strips" "I" (.int (own_c3 w0 w1 w2))
theorem pd_0 : parseMethodDescriptor "([D[Z[D[D)V" = some ⟨[(.array .double), (.array .boolean), (.array .double), (.array .double)], none⟩ := by decide +kernel
set_option maxRecDepth 65536 in
set_option maxHeartbeats 40000000 in
theorem rm1 (l : Launch) (Z : State) (a0 : Array Value) (hw : ∀ d ∈ tables_1, d.before a0 Z = true) (ws : List Jvm.Cond) (a1 : Addr) (a2 : Addr) (a3 : Addr) (f2 : Nat → Value) (f3 : Nat → Value) (w0 : Int32) (w1 : Int32) (w2 : Int32) (u0 : Value) (u1 : Value) (u2 : Value) (u3 : Value) (u4 : Value) (h0 : Heap) (n0 : Nat) (Z0 : n0 ≤ h0.size) (E91 : Exa Z h0 a1 "com/example/swathloom/swathloom/planning/Plan") (F92 : Fld Z h0 a1 "com/example/swathloom/swathloom/planning/Plan" "rolls" "[D" u0) (F93 : Fld Z h0 a1 "com/example/swathloom/swathloom/planning/Plan" "used" "[Z" u1) (F94 : Fld Z h0 a1 "com/example/swathloom/swathloom/planning/Plan" "rollVelocities" "[D" u2) (F95 : Fld Z h0 a1 "com/example/swathloom/swathloom/planning/Plan" "selectionVelocities" "[D" u3) (F96 : Fld Z h0 a1 "com/example/swathloom/swathloom/planning/Plan" "strips" "I" u4) (g97 : n0 ≤ a1) (V98 : Dar Z h0 a2 .double 3 f2) (V99 : Dar Z h0 a3 .boolean 3 f3) (ne100 : a2 ≠ a1) (ne101 : a3 ≠ a1) (hw0 : f3 0 = .int w0) (hw1 : f3 1 = .int w1) (hw2 : f3 2 = .int w2) :
    MetFree l (⟨"com/example/swathloom/swathloom/planning/Plan", "<init>", "([D[Z)V"⟩ : MethodName) (head1 (Jvm.Cond.code (⟨"com/example/swathloom/swathloom/planning/Plan", "<init>", "([D[Z)V"⟩ : MethodName) prog_20_method_1_code 3 none :: ws) ({ frames := 2, cells := 0, slots := 0, locals := 33 } : Room)) (fun a U => a = #[(.ref a1), (.ref a2), (.ref a3)] ∧ Z.Warmed39 U.vm ∧ U.heap = h0) (fun _ _ _ _ _ => True) (fun _ U o U' => ∃ v L, o = .returned v ∧ Q1 Z a1 a2 a3 f2 f3 w0 w1 w2 u0 u1 u2 u3 u4 h0 n0 v U'.heap L ∧ FrameEnd U o U' L 0 0) := by
  refine MetFree.of_bodySF (plainFor_of_name pn_0) hisR ?_
  intro p e s m args below meth c s₁ Bd hml0 hP hK
  obtain ⟨rfl, hZ, hh⟩ := hP
  have hx := Bd.exec
  have hby := Bd.bytes
  have hml : c.maxLocals = 3 := hml0
  have hown : s.vm.findClass "com/example/swathloom/swathloom/planning/Plan" = some m.cls := findClass_of_methodNamed Bd.named
  have hnm := (name_of_methodNamed Bd.named Bd.method).1
  have X0 : Stand p l e ({ frames := 2, cells := 0, slots := 0, locals := 33 } : Room) s m #[(.ref a1), (.ref a2), (.ref a3)] below meth c s₁ [] 0 0 := Stand.of_body Bd
  have e0 : s₁.heap = h0 := by rw [← hh, Bd.state]; rfl
  have N0 := Fr.nil n0
  have A0 := (⟨X0, hx, hby⟩ : Ax _ _ _ _ _ _ _ _ _ _ _ _ _ _ _)
  show Go p e below (fun U o => ∃ v L, o = .returned v ∧ Q1 Z a1 a2 a3 f2 f3 w0 w1 w2 u0 u1 u2 u3 u4 h0 n0 v U.heap L ∧ FrameEnd s o U L 0 0) s₁ (entryFrame m #[(.ref a1), (.ref a2), (.ref a3)] 3)
  refine Go.cast (ef90 m a1 a2 a3 f2 f3 w0 w1 w2 u0 u1 u2 u3 u4) ?_
  refine g_aloadN A0 d1_0 rfl rfl (pc' := 1) rfl ?_
  refine g_aloadN A0 d1_1 rfl rfl (pc' := 2) rfl ?_
  refine g_aloadN A0 d1_2 rfl rfl (pc' := 3) rfl ?_
  refine g_aconst A0 d1_3 (pc' := 4) rfl ?_
  refine g_aconst A0 d1_4 (pc' := 5) rfl ?_
  obtain ⟨_, _, ⟨T102, L102, k102, n102⟩, -, X102, ⟨L102c, hQ102, l102, y102, z102⟩, st102⟩ := X0.specialBack hx (y := (⟨"com/example/swathloom/swathloom/planning/Plan", "<init>", "([D[Z[D[D)V"⟩ : MethodName)) rfl hown (mvT hZ (hw _ (List.mem_of_getElem? (i := 12) rfl))) (mvT hZ (hw _ (List.mem_of_getElem? (i := 13) rfl))) (mvT hZ (hw _ (List.mem_of_getElem? (i := 14) rfl))) (by decide) (backOf (W := 0) (rm2 l Z a0 hw [] a1 a2 a3 f2 f3 w0 w1 w2 u0 u1 u2 u3 u4 h0 n0 Z0 E91 F92 F93 F94 F95 F96 g97 V98 V99 ne100 ne101 hw0 hw1 hw2) hZ (hw _ (List.mem_of_getElem? (i := 14) rfl)) (hw _ (List.mem_of_getElem? (i := 7) rfl)) (by decide) (by decide)) (g := (mkF m 5 #[.val (.ref a1), .val (.ref a2), .val (.ref a3)] [.null, .null, (.ref a3), (.ref a2), (.ref a1)])) rfl (by rw [hml]; rfl) (Steps.refl _) (a := a1) (argsL := [(.ref a2), (.ref a3), .null, .null]) (rest := []) (lenOf pd_0 rfl) rfl (by show 2 * 0 + _ ≤ _; exact Nat.le_of_eq rfl) (hb hby d1_5) (fun _ _ => ⟨rfl, e0, (by decide : 0 + 0 ≤ _), (by decide : 0 + 0 ≤ _)⟩)
  dsimp only [Pt.U, Pt.locs, Pt.cells, Pt.slots] at X102 l102 y102 z102 st102 hQ102
  subst l102 y102 z102
  obtain ⟨rfl, Nq103, Kq104, F105⟩ := hQ102
  have N106 := Fr.app N0 Nq103
  refine Go.tr (g' := (mkF m 8 #[.val (.ref a1), .val (.ref a2), .val (.ref a3)] [])) st102 ?_
  have E107 : Exa Z T102.heap a1 "com/example/swathloom/swathloom/planning/Plan" := Exa.keep E91 Kq104
  have V108 : Dar Z T102.heap a2 .double 3 f2 := Dar.keep V98 Kq104 (ninS ne100 nin0)
  have V109 : Dar Z T102.heap a3 .boolean 3 f3 := Dar.keep V99 Kq104 (ninS ne101 nin0)
  have Z110 : n0 ≤ T102.heap.size := Nat.le_trans Z0 Kq104.1
  have K111 : Keep h0 T102.heap [a1] := (Keep.refl h0 [a1]).trans Kq104 (allS (Or.inl (List.mem_of_getElem? (i := 0) rfl)) all0)
  have A112 := (⟨X102, hx, hby⟩ : Ax _ _ _ _ _ _ _ _ _ _ _ _ _ _ _)
  exact g_retV (Q := Q1 Z a1 a2 a3 f2 f3 w0 w1 w2 u0 u1 u2 u3 u4 h0 n0) A112 d1_8 Bd.notSynchronized Bd.returns (by decide) (by decide) ⟨rfl, N106, K111, F105⟩
theorem d4_0 : decode prog_17_method_1_code 0 = .ok (.aload_n 0, 1) := by decide +kernel
theorem d4_1 : decode prog_17_method_1_code 1 = .ok (.invokespecial 1, 3) := by decide +kernel
theorem d4_4 : decode prog_17_method_1_code 4 = .ok (.aload_n 0, 1) := by decide +kernel
theorem d4_5 : decode prog_17_method_1_code 5 = .ok (.aload_n 1, 1) := by decide +kernel
theorem d4_6 : decode prog_17_method_1_code 6 = .ok (.putfield 7, 3) := by decide +kernel
theorem d4_9 : decode prog_17_method_1_code 9 = .ok (.aload_n 0, 1) := by decide +kernel
theorem d4_10 : decode prog_17_method_1_code 10 = .ok (.dload_n 2, 1) := by decide +kernel
theorem d4_11 : decode prog_17_method_1_code 11 = .ok (.putfield 13, 3) := by decide +kernel
theorem d4_14 : decode prog_17_method_1_code 14 = .ok (.return_, 1) := by decide +kernel
theorem pn_1 : plainName "com/example/swathloom/swathloom/planning/Member" = true := by first | (simp [plainName, overriddenIn]; done) | decide +kernel
theorem ef113 (m : MethodId) (a1 : Addr) (a2 : Addr) (x3 : UInt64) (u0 : Value) (u1 : Value) : entryFrame m #[(.ref a1), (.ref a2), (.double x3)] 4 = mkF m 0 #[.val (.ref a1), .val (.ref a2), .val (.double x3), .second] [] := by first | (simp [entryFrame, mkF, argsToLocals, Value.category]; done) | rfl
def Q4 (Z : State) (a1 : Addr) (a2 : Addr) (x3 : UInt64) (u0 : Value) (u1 : Value) (h0 : Heap) (n0 : Nat) (v : Option Value) (h : Heap) (L : List Loc) : Prop := v = none ∧ Fr n0 L ∧ Keep h0 h [a1] ∧ Fld Z h a1 "com/example/swathloom/swathloom/planning/Member" "plan" "Lcom/example/swathloom/swathloom/planning/Plan;" (.ref a2) ∧ Fld Z h a1 "com/example/swathloom/swathloom/planning/Member" "coverage" "D" (.double x3)
set_option maxRecDepth 65536 in
set_option maxHeartbeats 40000000 in
theorem rm4 (l : Launch) (Z : State) (a0 : Array Value) (hw : ∀ d ∈ tables_1, d.before a0 Z = true) (ws : List Jvm.Cond) (a1 : Addr) (a2 : Addr) (x3 : UInt64) (u0 : Value) (u1 : Value) (h0 : Heap) (n0 : Nat) (Z0 : n0 ≤ h0.size) (E114 : Exa Z h0 a1 "com/example/swathloom/swathloom/planning/Member") (F115 : Fld Z h0 a1 "com/example/swathloom/swathloom/planning/Member" "plan" "Lcom/example/swathloom/swathloom/planning/Plan;" u0) (F116 : Fld Z h0 a1 "com/example/swathloom/swathloom/planning/Member" "coverage" "D" u1) (g117 : n0 ≤ a1) :
    MetFree l (⟨"com/example/swathloom/swathloom/planning/Member", "<init>", "(Lcom/example/swathloom/swathloom/planning/Plan;D)V"⟩ : MethodName) (head1 (Jvm.Cond.code (⟨"com/example/swathloom/swathloom/planning/Member", "<init>", "(Lcom/example/swathloom/swathloom/planning/Plan;D)V"⟩ : MethodName) prog_17_method_1_code 4 none :: ws) ({ frames := 1, cells := 0, slots := 0, locals := 12 } : Room)) (fun a U => a = #[(.ref a1), (.ref a2), (.double x3)] ∧ Z.Warmed39 U.vm ∧ U.heap = h0) (fun _ _ _ _ _ => True) (fun _ U o U' => ∃ v L, o = .returned v ∧ Q4 Z a1 a2 x3 u0 u1 h0 n0 v U'.heap L ∧ FrameEnd U o U' L 0 0) := by
  refine MetFree.of_bodySF (plainFor_of_name pn_1) hisR ?_
  intro p e s m args below meth c s₁ Bd hml0 hP hK
  obtain ⟨rfl, hZ, hh⟩ := hP
  have hx := Bd.exec
  have hby := Bd.bytes
  have hml : c.maxLocals = 4 := hml0
  have hown : s.vm.findClass "com/example/swathloom/swathloom/planning/Member" = some m.cls := findClass_of_methodNamed Bd.named
  have hnm := (name_of_methodNamed Bd.named Bd.method).1
  have X0 : Stand p l e ({ frames := 1, cells := 0, slots := 0, locals := 12 } : Room) s m #[(.ref a1), (.ref a2), (.double x3)] below meth c s₁ [] 0 0 := Stand.of_body Bd
  have e0 : s₁.heap = h0 := by rw [← hh, Bd.state]; rfl
  have N0 := Fr.nil n0
  have A0 := (⟨X0, hx, hby⟩ : Ax _ _ _ _ _ _ _ _ _ _ _ _ _ _ _)
  show Go p e below (fun U o => ∃ v L, o = .returned v ∧ Q4 Z a1 a2 x3 u0 u1 h0 n0 v U.heap L ∧ FrameEnd s o U L 0 0) s₁ (entryFrame m #[(.ref a1), (.ref a2), (.double x3)] 4)
  refine Go.cast (ef113 m a1 a2 x3 u0 u1) ?_
  refine g_aloadN A0 d4_0 rfl rfl (pc' := 1) rfl ?_
  obtain ⟨T118, X118, e118, st118⟩ := initO X0 hx hZ hown (hw _ (List.mem_of_getElem? (i := 32) rfl)) (hw _ (List.mem_of_getElem? (i := 16) rfl)) (hw _ (List.mem_of_getElem? (i := 17) rfl)) e0 (g := (mkF m 1 #[.val (.ref a1), .val (.ref a2), .val (.double x3), .second] [(.ref a1)])) rfl (by rw [hml]; rfl) rfl (hb hby d4_1) (by decide) (W := 0) (by show 2 * 0 + _ ≤ _; exact Nat.le_of_eq rfl) (by decide)
  refine Go.of (g' := (mkF m 4 #[.val (.ref a1), .val (.ref a2), .val (.double x3), .second] [])) st118 ?_
  have A119 := (⟨X118, hx, hby⟩ : Ax _ _ _ _ _ _ _ _ _ _ _ _ _ _ _)
  refine g_aloadN A119 d4_4 rfl rfl (pc' := 5) rfl ?_
  refine g_aloadN A119 d4_5 rfl rfl (pc' := 6) rfl ?_
  obtain ⟨T120, h120, X120, e120, W120, st120⟩ := putF X118 hx hZ hown (host := "") (Or.inl (hw _ (List.mem_of_getElem? (i := 33) rfl))) Via.refl e118 F115 E114 (Or.inr ⟨(hw _ (List.mem_of_getElem? (i := 34) rfl)), rfl, hnm⟩) (hw _ (List.mem_of_getElem? (i := 3) rfl)) (ty := (.object "com/example/swathloom/swathloom/planning/Plan")) (by decide) rfl rfl (g := (mkF m 6 #[.val (.ref a1), .val (.ref a2), .val (.double x3), .second] [(.ref a2), (.ref a1)])) rfl rfl (hb hby d4_6)
  have N121 := Fr.snoc X120 N0 g117
  have K122 : Keep h0 h120 [a1] := (Keep.refl h0 [a1]).wr W120 (Or.inl (List.mem_of_getElem? (i := 0) rfl))
  have E123 : Exa Z h120 a1 "com/example/swathloom/swathloom/planning/Member" := Exa.wr W120 E114
  have F124 : Fld Z h120 a1 "com/example/swathloom/swathloom/planning/Member" "coverage" "D" u1 := Fld.other W120 F116 (Or.inr (slot_ne (Or.inr (hw _ (List.mem_of_getElem? (i := 36) rfl))) (Or.inr (hw _ (List.mem_of_getElem? (i := 34) rfl))) (by decide) (t := .double) (t' := (.object "com/example/swathloom/swathloom/planning/Plan")) (by decide) (by decide)))
  have F125 : Fld Z h120 a1 "com/example/swathloom/swathloom/planning/Member" "plan" "Lcom/example/swathloom/swathloom/planning/Plan;" (.ref a2) := Fld.same W120 F115
  have Z126 : n0 ≤ h120.size := by rw [W120.size]; exact Z0
  refine Go.of (g' := (mkF m 9 #[.val (.ref a1), .val (.ref a2), .val (.double x3), .second] [])) st120 ?_
  have A127 := (⟨X120, hx, hby⟩ : Ax _ _ _ _ _ _ _ _ _ _ _ _ _ _ _)
  refine g_aloadN A127 d4_9 rfl rfl (pc' := 10) rfl ?_
  refine g_dloadN A127 d4_10 rfl (pc' := 11) rfl ?_
  obtain ⟨T128, h128, X128, e128, W128, st128⟩ := putF X120 hx hZ hown (host := "") (Or.inl (hw _ (List.mem_of_getElem? (i := 35) rfl))) Via.refl e120 F124 E123 (Or.inr ⟨(hw _ (List.mem_of_getElem? (i := 36) rfl)), rfl, hnm⟩) (hw _ (List.mem_of_getElem? (i := 3) rfl)) (ty := .double) (by decide) rfl rfl (g := (mkF m 11 #[.val (.ref a1), .val (.ref a2), .val (.double x3), .second] [(.double x3), (.ref a1)])) rfl rfl (hb hby d4_11)
  have N129 := Fr.snoc X128 N121 g117
  have K130 : Keep h0 h128 [a1] := K122.wr W128 (Or.inl (List.mem_of_getElem? (i := 0) rfl))
  have E131 : Exa Z h128 a1 "com/example/swathloom/swathloom/planning/Member" := Exa.wr W128 E123
  have F132 : Fld Z h128 a1 "com/example/swathloom/swathloom/planning/Member" "plan" "Lcom/example/swathloom/swathloom/planning/Plan;" (.ref a2) := Fld.other W128 F125 (Or.inr (slot_ne (Or.inr (hw _ (List.mem_of_getElem? (i := 34) rfl))) (Or.inr (hw _ (List.mem_of_getElem? (i := 36) rfl))) (by decide) (t := (.object "com/example/swathloom/swathloom/planning/Plan")) (t' := .double) (by decide) (by decide)))
  have F133 : Fld Z h128 a1 "com/example/swathloom/swathloom/planning/Member" "coverage" "D" (.double x3) := Fld.same W128 F124
  have Z134 : n0 ≤ h128.size := by rw [W128.size]; exact Z126
  refine Go.of (g' := (mkF m 14 #[.val (.ref a1), .val (.ref a2), .val (.double x3), .second] [])) st128 ?_
  have A135 := (⟨X128, hx, hby⟩ : Ax _ _ _ _ _ _ _ _ _ _ _ _ _ _ _)
  exact g_retV (Q := Q4 Z a1 a2 x3 u0 u1 h0 n0) A135 d4_14 Bd.notSynchronized Bd.returns (by decide) (by decide) (by rw [e128]; exact ⟨rfl, N129, K130, F132, F133⟩)
theorem d8_0 : decode prog_20_method_8_code 0 = .ok (.aload_n 0, 1) := by decide +kernel
theorem d8_1 : decode prog_20_method_8_code 1 = .ok (.getfield 38, 3) := by decide +kernel
theorem d8_4 : decode prog_20_method_8_code 4 = .ok (.ireturn, 1) := by decide +kernel
theorem ef136 (m : MethodId) (a1 : Addr) (x2 : Int32) : entryFrame m #[(.ref a1)] 1 = mkF m 0 #[.val (.ref a1)] [] := by first | (simp [entryFrame, mkF, argsToLocals, Value.category]; done) | rfl
def Q8 (Z : State) (a1 : Addr) (x2 : Int32) (h0 : Heap) (n0 : Nat) (v : Option Value) (h : Heap) (L : List Loc) : Prop := v = some (.int x2) ∧ Fr n0 L ∧ h = h0
set_option maxRecDepth 65536 in
set_option maxHeartbeats 40000000 in
theorem rm8 (l : Launch) (Z : State) (a0 : Array Value) (hw : ∀ d ∈ tables_1, d.before a0 Z = true) (ws : List Jvm.Cond) (a1 : Addr) (x2 : Int32) (h0 : Heap) (n0 : Nat) (Z0 : n0 ≤ h0.size) (F137 : Fld Z h0 a1 "com/example/swathloom/swathloom/planning/Plan" "strips" "I" (.int x2)) :
    MetFree l (⟨"com/example/swathloom/swathloom/planning/Plan", "strips", "()I"⟩ : MethodName) (head1 (Jvm.Cond.code (⟨"com/example/swathloom/swathloom/planning/Plan", "strips", "()I"⟩ : MethodName) prog_20_method_8_code 1 (some .int) :: ws) ({ frames := 0, cells := 0, slots := 0, locals := 0 } : Room)) (fun a U => a = #[(.ref a1)] ∧ Z.Warmed39 U.vm ∧ U.heap = h0) (fun _ _ _ _ _ => True) (fun _ U o U' => ∃ v L, o = .returned v ∧ Q8 Z a1 x2 h0 n0 v U'.heap L ∧ FrameEnd U o U' L 0 0) := by
  refine MetFree.of_bodySF (plainFor_of_name pn_0) hisR ?_
  intro p e s m args below meth c s₁ Bd hml0 hP hK
  obtain ⟨rfl, hZ, hh⟩ := hP
  have hx := Bd.exec
  have hby := Bd.bytes
  have hml : c.maxLocals = 1 := hml0
  have hown : s.vm.findClass "com/example/swathloom/swathloom/planning/Plan" = some m.cls := findClass_of_methodNamed Bd.named
  have hnm := (name_of_methodNamed Bd.named Bd.method).1
  have X0 : Stand p l e ({ frames := 0, cells := 0, slots := 0, locals := 0 } : Room) s m #[(.ref a1)] below meth c s₁ [] 0 0 := Stand.of_body Bd
  have e0 : s₁.heap = h0 := by rw [← hh, Bd.state]; rfl
  have N0 := Fr.nil n0
  have A0 := (⟨X0, hx, hby⟩ : Ax _ _ _ _ _ _ _ _ _ _ _ _ _ _ _)
  show Go p e below (fun U o => ∃ v L, o = .returned v ∧ Q8 Z a1 x2 h0 n0 v U.heap L ∧ FrameEnd s o U L 0 0) s₁ (entryFrame m #[(.ref a1)] 1)
  refine Go.cast (ef136 m a1 x2) ?_
  refine g_aloadN A0 d8_0 rfl rfl (pc' := 1) rfl ?_
  obtain ⟨T138, X138, e138, st138⟩ := getF X0 hx hZ hown (host := "") (Or.inl (hw _ (List.mem_of_getElem? (i := 26) rfl))) Via.refl e0 F137 (g := (mkF m 1 #[.val (.ref a1)] [(.ref a1)])) rfl rfl (hb hby d8_1)
  refine Go.of (g' := (mkF m 4 #[.val (.ref a1)] [(.int x2)])) st138 ?_
  have A139 := (⟨X138, hx, hby⟩ : Ax _ _ _ _ _ _ _ _ _ _ _ _ _ _ _)
  exact g_ret (Q := Q8 Z a1 x2 h0 n0) A139 d8_4 Bd.notSynchronized Bd.returns rfl (Or.inl ⟨rfl, by simp, _, rfl⟩) (by decide) (by decide) (by rw [e138]; exact ⟨rfl, N0, rfl⟩)
theorem d7_0 : decode prog_17_method_4_code 0 = .ok (.aload_n 0, 1) := by decide +kernel
theorem d7_1 : decode prog_17_method_4_code 1 = .ok (.getfield 7, 3) := by decide +kernel
theorem d7_4 : decode prog_17_method_4_code 4 = .ok (.invokevirtual 17, 3) := by decide +kernel
theorem d7_7 : decode prog_17_method_4_code 7 = .ok (.ireturn, 1) := by decide +kernel
theorem ef140 (m : MethodId) (a1 : Addr) (a2 : Addr) (n3 : Int32) : entryFrame m #[(.ref a1)] 1 = mkF m 0 #[.val (.ref a1)] [] := by first | (simp [entryFrame, mkF, argsToLocals, Value.category]; done) | rfl
def Q7 (Z : State) (a1 : Addr) (a2 : Addr) (n3 : Int32) (h0 : Heap) (n0 : Nat) (v : Option Value) (h : Heap) (L : List Loc) : Prop := v = some (.int n3) ∧ Fr n0 L ∧ h = h0
theorem pd_1 : parseMethodDescriptor "()I" = some ⟨[], some .int⟩ := by decide +kernel
set_option maxRecDepth 65536 in
set_option maxHeartbeats 40000000 in
theorem rm7 (l : Launch) (Z : State) (a0 : Array Value) (hw : ∀ d ∈ tables_1, d.before a0 Z = true) (ws : List Jvm.Cond) (a1 : Addr) (a2 : Addr) (n3 : Int32) (h0 : Heap) (n0 : Nat) (Z0 : n0 ≤ h0.size) (F141 : Fld Z h0 a1 "com/example/swathloom/swathloom/planning/Member" "plan" "Lcom/example/swathloom/swathloom/planning/Plan;" (.ref a2)) (E142 : Exa Z h0 a2 "com/example/swathloom/swathloom/planning/Plan") (F143 : Fld Z h0 a2 "com/example/swathloom/swathloom/planning/Plan" "strips" "I" (.int n3)) :
    MetFree l (⟨"com/example/swathloom/swathloom/planning/Member", "strips", "()I"⟩ : MethodName) (head1 (Jvm.Cond.code (⟨"com/example/swathloom/swathloom/planning/Member", "strips", "()I"⟩ : MethodName) prog_17_method_4_code 1 (some .int) :: ws) ({ frames := 1, cells := 0, slots := 0, locals := 12 } : Room)) (fun a U => a = #[(.ref a1)] ∧ Z.Warmed39 U.vm ∧ U.heap = h0) (fun _ _ _ _ _ => True) (fun _ U o U' => ∃ v L, o = .returned v ∧ Q7 Z a1 a2 n3 h0 n0 v U'.heap L ∧ FrameEnd U o U' L 0 0) := by
  refine MetFree.of_bodySF (plainFor_of_name pn_1) hisR ?_
  intro p e s m args below meth c s₁ Bd hml0 hP hK
  obtain ⟨rfl, hZ, hh⟩ := hP
  have hx := Bd.exec
  have hby := Bd.bytes
  have hml : c.maxLocals = 1 := hml0
  have hown : s.vm.findClass "com/example/swathloom/swathloom/planning/Member" = some m.cls := findClass_of_methodNamed Bd.named
  have hnm := (name_of_methodNamed Bd.named Bd.method).1
  have X0 : Stand p l e ({ frames := 1, cells := 0, slots := 0, locals := 12 } : Room) s m #[(.ref a1)] below meth c s₁ [] 0 0 := Stand.of_body Bd
  have e0 : s₁.heap = h0 := by rw [← hh, Bd.state]; rfl
  have N0 := Fr.nil n0
  have A0 := (⟨X0, hx, hby⟩ : Ax _ _ _ _ _ _ _ _ _ _ _ _ _ _ _)
  show Go p e below (fun U o => ∃ v L, o = .returned v ∧ Q7 Z a1 a2 n3 h0 n0 v U.heap L ∧ FrameEnd s o U L 0 0) s₁ (entryFrame m #[(.ref a1)] 1)
  refine Go.cast (ef140 m a1 a2 n3) ?_
  refine g_aloadN A0 d7_0 rfl rfl (pc' := 1) rfl ?_
  obtain ⟨T144, X144, e144, st144⟩ := getF X0 hx hZ hown (host := "") (Or.inl (hw _ (List.mem_of_getElem? (i := 33) rfl))) Via.refl e0 F141 (g := (mkF m 1 #[.val (.ref a1)] [(.ref a1)])) rfl rfl (hb hby d7_1)
  refine Go.of (g' := (mkF m 4 #[.val (.ref a1)] [(.ref a2)])) st144 ?_
  have A145 := (⟨X144, hx, hby⟩ : Ax _ _ _ _ _ _ _ _ _ _ _ _ _ _ _)
  obtain ⟨cq147, kq147, q147a, q147b, q147c⟩ := isOf hZ e144 E142
  obtain ⟨_, _, ⟨T146, L146, k146, n146⟩, -, X146, ⟨L146c, hQ146, l146, y146, z146⟩, st146⟩ := X144.virtualBack hx (y := (⟨"com/example/swathloom/swathloom/planning/Plan", "strips", "()I"⟩ : MethodName)) (z := (⟨"com/example/swathloom/swathloom/planning/Plan", "strips", "()I"⟩ : MethodName)) hown (mvT hZ (hw _ (List.mem_of_getElem? (i := 51) rfl))) (mvT hZ (hw _ (List.mem_of_getElem? (i := 52) rfl))) (notFace_of_selects (args := #[]) (mvT hZ (hw _ (List.mem_of_getElem? (i := 54) rfl)))) (mvT hZ (hw _ (List.mem_of_getElem? (i := 54) rfl))) (mvT hZ (hw _ (List.mem_of_getElem? (i := 53) rfl))) (by decide) (backOf (W := 0) (rm8 l Z a0 hw [] a2 n3 h0 n0 Z0 F143) hZ (hw _ (List.mem_of_getElem? (i := 55) rfl)) (hw _ (List.mem_of_getElem? (i := 7) rfl)) (by decide) (by decide)) q147a q147c (g := (mkF m 4 #[.val (.ref a1)] [(.ref a2)])) rfl (by rw [hml]; rfl) (Steps.refl _) (argsL := []) (rest := []) (lenOf pd_1 rfl) rfl (by show 2 * 0 + _ ≤ _; exact Nat.le_of_eq rfl) (hb hby d7_4) (fun _ _ => ⟨rfl, e144, (by decide : 0 + 0 ≤ _), (by decide : 0 + 0 ≤ _)⟩)
  dsimp only [Pt.U, Pt.locs, Pt.cells, Pt.slots] at X146 l146 y146 z146 st146 hQ146
  subst l146 y146 z146
  obtain ⟨rfl, Nq148, Kq149⟩ := hQ146
  have N150 := Fr.app N0 Nq148
  refine Go.tr (g' := (mkF m 7 #[.val (.ref a1)] [(.int n3)])) st146 ?_
  have e151 : T146.heap = h0 := Kq149
  have A152 := (⟨X146, hx, hby⟩ : Ax _ _ _ _ _ _ _ _ _ _ _ _ _ _ _)
  exact g_ret (Q := Q7 Z a1 a2 n3 h0 n0) A152 d7_7 Bd.notSynchronized Bd.returns rfl (Or.inl ⟨rfl, by simp, _, rfl⟩) (by decide) (by decide) (by rw [e151]; exact ⟨rfl, N150, rfl⟩)
def own_r_rm5 (q0 : Int32) (q1 : Int32) (q2 : Int32) (q3 : Int32) : Int32 := (if ((((¬ (q0 < q2)) ∧ (¬ (q3 < q1)))) ∧ (¬ (((q0 = q2) ∧ (q1 = q3))))) then (1 : Int32) else 0)
theorem d5_0 : decode method_3_code 0 = .ok (.iload_n 0, 1) := by decide +kernel
theorem d5_1 : decode method_3_code 1 = .ok (.iload_n 2, 1) := by decide +kernel
theorem d5_2 : decode method_3_code 2 = .ok (.if_icmp .lt 12, 3) := by decide +kernel
theorem d5_5 : decode method_3_code 5 = .ok (.iload_n 1, 1) := by decide +kernel
theorem d5_6 : decode method_3_code 6 = .ok (.iload_n 3, 1) := by decide +kernel
theorem d5_7 : decode method_3_code 7 = .ok (.if_icmp .gt 7, 3) := by decide +kernel
theorem d5_10 : decode method_3_code 10 = .ok (.iconst 1, 1) := by decide +kernel
theorem d5_11 : decode method_3_code 11 = .ok (.goto 4, 3) := by decide +kernel
theorem d5_14 : decode method_3_code 14 = .ok (.iconst 0, 1) := by decide +kernel
theorem d5_15 : decode method_3_code 15 = .ok (.istore 4, 2) := by decide +kernel
theorem d5_17 : decode method_3_code 17 = .ok (.iload_n 0, 1) := by decide +kernel
theorem d5_18 : decode method_3_code 18 = .ok (.iload_n 2, 1) := by decide +kernel
theorem d5_19 : decode method_3_code 19 = .ok (.if_icmp .ne 12, 3) := by decide +kernel
theorem d5_22 : decode method_3_code 22 = .ok (.iload_n 1, 1) := by decide +kernel
theorem d5_23 : decode method_3_code 23 = .ok (.iload_n 3, 1) := by decide +kernel
theorem d5_24 : decode method_3_code 24 = .ok (.if_icmp .ne 7, 3) := by decide +kernel
theorem d5_27 : decode method_3_code 27 = .ok (.iconst 1, 1) := by decide +kernel
theorem d5_28 : decode method_3_code 28 = .ok (.goto 4, 3) := by decide +kernel
theorem d5_31 : decode method_3_code 31 = .ok (.iconst 0, 1) := by decide +kernel
theorem d5_32 : decode method_3_code 32 = .ok (.istore 5, 2) := by decide +kernel
theorem d5_34 : decode method_3_code 34 = .ok (.iload 4, 2) := by decide +kernel
theorem d5_36 : decode method_3_code 36 = .ok (.ifCond .eq 12, 3) := by decide +kernel
theorem d5_39 : decode method_3_code 39 = .ok (.iload 5, 2) := by decide +kernel
theorem d5_41 : decode method_3_code 41 = .ok (.ifCond .ne 7, 3) := by decide +kernel
theorem d5_44 : decode method_3_code 44 = .ok (.iconst 1, 1) := by decide +kernel
theorem d5_45 : decode method_3_code 45 = .ok (.goto 4, 3) := by decide +kernel
theorem d5_48 : decode method_3_code 48 = .ok (.iconst 0, 1) := by decide +kernel
theorem d5_49 : decode method_3_code 49 = .ok (.ireturn, 1) := by decide +kernel
theorem pn_2 : plainName "com/example/swathloom/swathloom/planning/MemberDominatesPinLaw" = true := by first | (simp [plainName, overriddenIn]; done) | decide +kernel
theorem ef153 (m : MethodId) (q0 : Int32) (q1 : Int32) (q2 : Int32) (q3 : Int32) : entryFrame m #[(.int q0), (.int q1), (.int q2), (.int q3)] 6 = mkF m 0 #[.val (.int q0), .val (.int q1), .val (.int q2), .val (.int q3), .unset, .unset] [] := by first | (simp [entryFrame, mkF, argsToLocals, Value.category]; done) | rfl
def Q5 (Z : State) (q0 : Int32) (q1 : Int32) (q2 : Int32) (q3 : Int32) (h0 : Heap) (n0 : Nat) (v : Option Value) (h : Heap) (L : List Loc) : Prop := v = some (.int (own_r_rm5 q0 q1 q2 q3)) ∧ Fr n0 L ∧ h = h0
set_option maxRecDepth 65536 in
set_option maxHeartbeats 40000000 in
theorem rm5 (l : Launch) (Z : State) (a0 : Array Value) (hw : ∀ d ∈ tables_1, d.before a0 Z = true) (ws : List Jvm.Cond) (q0 : Int32) (q1 : Int32) (q2 : Int32) (q3 : Int32) (h0 : Heap) (n0 : Nat) (Z0 : n0 ≤ h0.size)  :
    MetFree l (⟨"com/example/swathloom/swathloom/planning/MemberDominatesPinLaw", "expect", "(IIII)Z"⟩ : MethodName) (head1 (Jvm.Cond.code (⟨"com/example/swathloom/swathloom/planning/MemberDominatesPinLaw", "expect", "(IIII)Z"⟩ : MethodName) method_3_code 6 (some .boolean) :: ws) ({ frames := 0, cells := 0, slots := 0, locals := 0 } : Room)) (fun a U => a = #[(.int q0), (.int q1), (.int q2), (.int q3)] ∧ Z.Warmed39 U.vm ∧ U.heap = h0) (fun _ _ _ _ _ => True) (fun _ U o U' => ∃ v L, o = .returned v ∧ Q5 Z q0 q1 q2 q3 h0 n0 v U'.heap L ∧ FrameEnd U o U' L 0 0) := by
  refine MetFree.of_bodySF (plainFor_of_name pn_2) hisR ?_
  intro p e s m args below meth c s₁ Bd hml0 hP hK
  obtain ⟨rfl, hZ, hh⟩ := hP
  have hx := Bd.exec
  have hby := Bd.bytes
  have hml : c.maxLocals = 6 := hml0
  have hown : s.vm.findClass "com/example/swathloom/swathloom/planning/MemberDominatesPinLaw" = some m.cls := findClass_of_methodNamed Bd.named
  have hnm := (name_of_methodNamed Bd.named Bd.method).1
  have X0 : Stand p l e ({ frames := 0, cells := 0, slots := 0, locals := 0 } : Room) s m #[(.int q0), (.int q1), (.int q2), (.int q3)] below meth c s₁ [] 0 0 := Stand.of_body Bd
  have e0 : s₁.heap = h0 := by rw [← hh, Bd.state]; rfl
  have N0 := Fr.nil n0
  have A0 := (⟨X0, hx, hby⟩ : Ax _ _ _ _ _ _ _ _ _ _ _ _ _ _ _)
  show Go p e below (fun U o => ∃ v L, o = .returned v ∧ Q5 Z q0 q1 q2 q3 h0 n0 v U.heap L ∧ FrameEnd s o U L 0 0) s₁ (entryFrame m #[(.int q0), (.int q1), (.int q2), (.int q3)] 6)
  refine Go.cast (ef153 m q0 q1 q2 q3) ?_
  refine g_iloadN A0 d5_0 rfl (pc' := 1) rfl ?_
  refine g_iloadN A0 d5_1 rfl (pc' := 2) rfl ?_
  obtain ⟨v154, hv154⟩ : ∃ z : Int32, z = if ((¬ (q0 < q2)) ∧ (¬ (q3 < q1))) then (1 : Int32) else 0 := ⟨_, rfl⟩
  have sg155 : ∀ {P : State → Outcome → Prop}, Go p e below P s₁ (mkF m 15 #[.val (.int q0), .val (.int q1), .val (.int q2), .val (.int q3), .unset, .unset] [(.int v154)]) → Go p e below P s₁ (mkF m 2 #[.val (.int q0), .val (.int q1), .val (.int q2), .val (.int q3), .unset, .unset] [(.int q2), (.int q0)]) := by
    intro P hr
    by_cases c156 : q0 < q2
    · skip
      refine g_icY A0 d5_2 (c2_lt_t c156) (pc' := 14) rfl ?_
      refine g_iconst A0 d5_14 (v := (0 : Int32)) rfl (pc' := 15) rfl ?_
      obtain rfl : v154 = (0 : Int32) := hv154.trans (if_neg (fun q => (fun q => q c156) q.1))
      exact hr
    · skip
      refine g_icN A0 d5_2 (c2_lt_f c156) (pc' := 5) rfl ?_
      refine g_iloadN A0 d5_5 rfl (pc' := 6) rfl ?_
      refine g_iloadN A0 d5_6 rfl (pc' := 7) rfl ?_
      by_cases c157 : q3 < q1
      · skip
        refine g_icY A0 d5_7 (c2_gt_t c157) (pc' := 14) rfl ?_
        refine g_iconst A0 d5_14 (v := (0 : Int32)) rfl (pc' := 15) rfl ?_
        obtain rfl : v154 = (0 : Int32) := hv154.trans (if_neg (fun q => (fun q => q c157) q.2))
        exact hr
      · skip
        refine g_icN A0 d5_7 (c2_gt_f c157) (pc' := 10) rfl ?_
        refine g_iconst A0 d5_10 (v := (1 : Int32)) rfl (pc' := 11) rfl ?_
        refine g_goto A0 d5_11 (pc' := 15) rfl ?_
        obtain rfl : v154 = (1 : Int32) := hv154.trans (if_pos ⟨c156, c157⟩)
        exact hr
  refine sg155 ?_
  refine g_istore A0 d5_15 (ls' := #[.val (.int q0), .val (.int q1), .val (.int q2), .val (.int q3), .val (.int v154), .unset]) rfl (pc' := 17) rfl ?_
  refine g_iloadN A0 d5_17 rfl (pc' := 18) rfl ?_
  refine g_iloadN A0 d5_18 rfl (pc' := 19) rfl ?_
  obtain ⟨v158, hv158⟩ : ∃ z : Int32, z = if ((q0 = q2) ∧ (q1 = q3)) then (1 : Int32) else 0 := ⟨_, rfl⟩
  have sg159 : ∀ {P : State → Outcome → Prop}, Go p e below P s₁ (mkF m 32 #[.val (.int q0), .val (.int q1), .val (.int q2), .val (.int q3), .val (.int v154), .unset] [(.int v158)]) → Go p e below P s₁ (mkF m 19 #[.val (.int q0), .val (.int q1), .val (.int q2), .val (.int q3), .val (.int v154), .unset] [(.int q2), (.int q0)]) := by
    intro P hr
    by_cases c160 : q0 = q2
    · skip
      refine g_icN A0 d5_19 (c2_ne_f c160) (pc' := 22) rfl ?_
      refine g_iloadN A0 d5_22 rfl (pc' := 23) rfl ?_
      refine g_iloadN A0 d5_23 rfl (pc' := 24) rfl ?_
      by_cases c161 : q1 = q3
      · skip
        refine g_icN A0 d5_24 (c2_ne_f c161) (pc' := 27) rfl ?_
        refine g_iconst A0 d5_27 (v := (1 : Int32)) rfl (pc' := 28) rfl ?_
        refine g_goto A0 d5_28 (pc' := 32) rfl ?_
        obtain rfl : v158 = (1 : Int32) := hv158.trans (if_pos ⟨c160, c161⟩)
        exact hr
      · skip
        refine g_icY A0 d5_24 (c2_ne_t c161) (pc' := 31) rfl ?_
        refine g_iconst A0 d5_31 (v := (0 : Int32)) rfl (pc' := 32) rfl ?_
        obtain rfl : v158 = (0 : Int32) := hv158.trans (if_neg (fun q => c161 q.2))
        exact hr
    · skip
      refine g_icY A0 d5_19 (c2_ne_t c160) (pc' := 31) rfl ?_
      refine g_iconst A0 d5_31 (v := (0 : Int32)) rfl (pc' := 32) rfl ?_
      obtain rfl : v158 = (0 : Int32) := hv158.trans (if_neg (fun q => c160 q.1))
      exact hr
  refine sg159 ?_
  refine g_istore A0 d5_32 (ls' := #[.val (.int q0), .val (.int q1), .val (.int q2), .val (.int q3), .val (.int v154), .val (.int v158)]) rfl (pc' := 34) rfl ?_
  refine g_iload A0 d5_34 rfl (pc' := 36) rfl ?_
  obtain ⟨v162, hv162⟩ : ∃ z : Int32, z = if ((((¬ (q0 < q2)) ∧ (¬ (q3 < q1)))) ∧ (¬ (((q0 = q2) ∧ (q1 = q3))))) then (1 : Int32) else 0 := ⟨_, rfl⟩
  have sg163 : ∀ {P : State → Outcome → Prop}, Go p e below P s₁ (mkF m 49 #[.val (.int q0), .val (.int q1), .val (.int q2), .val (.int q3), .val (.int v154), .val (.int v158)] [(.int v162)]) → Go p e below P s₁ (mkF m 36 #[.val (.int q0), .val (.int q1), .val (.int q2), .val (.int q3), .val (.int v154), .val (.int v158)] [(.int v154)]) := by
    intro P hr
    by_cases c164 : ((¬ (q0 < q2)) ∧ (¬ (q3 < q1)))
    · skip
      refine g_ifN A0 d5_36 (b0_eq_f hv154 c164) (pc' := 39) rfl ?_
      refine g_iload A0 d5_39 rfl (pc' := 41) rfl ?_
      by_cases c165 : ((q0 = q2) ∧ (q1 = q3))
      · skip
        refine g_ifY A0 d5_41 (b0_ne_t hv158 c165) (pc' := 48) rfl ?_
        refine g_iconst A0 d5_48 (v := (0 : Int32)) rfl (pc' := 49) rfl ?_
        obtain rfl : v162 = (0 : Int32) := hv162.trans (if_neg (fun q => (fun q => q c165) q.2))
        exact hr
      · skip
        refine g_ifN A0 d5_41 (b0_ne_f hv158 c165) (pc' := 44) rfl ?_
        refine g_iconst A0 d5_44 (v := (1 : Int32)) rfl (pc' := 45) rfl ?_
        refine g_goto A0 d5_45 (pc' := 49) rfl ?_
        obtain rfl : v162 = (1 : Int32) := hv162.trans (if_pos ⟨c164, c165⟩)
        exact hr
    · skip
      refine g_ifY A0 d5_36 (b0_eq_t hv154 c164) (pc' := 48) rfl ?_
      refine g_iconst A0 d5_48 (v := (0 : Int32)) rfl (pc' := 49) rfl ?_
      obtain rfl : v162 = (0 : Int32) := hv162.trans (if_neg (fun q => c164 q.1))
      exact hr
  refine sg163 ?_
  exact g_ret (Q := Q5 Z q0 q1 q2 q3 h0 n0) A0 d5_49 Bd.notSynchronized Bd.returns (own_b01 hv162) (Or.inl ⟨rfl, by simp, _, rfl⟩) (by decide) (by decide) (by rw [e0]; exact ⟨(congrArg (fun z => some (Value.int z)) (by rw [hv162, own_r_rm5])), N0, rfl⟩)
def own_r_rm6 (x1 : UInt64) (x2 : UInt64) (n1 : Int32) (n2 : Int32) : Int32 := (if oGe (FP.dcmp x1 x2) then (if n2 < n1 then (0 : Int32) else (if FP.dcmp x1 x2 = some .gt then (1 : Int32) else (if n1 < n2 then (1 : Int32) else 0))) else (0 : Int32))
theorem d6_0 : decode prog_17_method_10_code 0 = .ok (.aload_n 0, 1) := by decide +kernel
theorem d6_1 : decode prog_17_method_10_code 1 = .ok (.getfield 13, 3) := by decide +kernel
theorem d6_4 : decode prog_17_method_10_code 4 = .ok (.aload_n 1, 1) := by decide +kernel
theorem d6_5 : decode prog_17_method_10_code 5 = .ok (.getfield 13, 3) := by decide +kernel
theorem d6_8 : decode prog_17_method_10_code 8 = .ok (.dcmp .l, 1) := by decide +kernel
theorem d6_9 : decode prog_17_method_10_code 9 = .ok (.ifCond .lt 41, 3) := by decide +kernel
theorem d6_12 : decode prog_17_method_10_code 12 = .ok (.aload_n 0, 1) := by decide +kernel
theorem d6_13 : decode prog_17_method_10_code 13 = .ok (.invokevirtual 33, 3) := by decide +kernel
theorem d6_16 : decode prog_17_method_10_code 16 = .ok (.aload_n 1, 1) := by decide +kernel
theorem d6_17 : decode prog_17_method_10_code 17 = .ok (.invokevirtual 33, 3) := by decide +kernel
theorem d6_20 : decode prog_17_method_10_code 20 = .ok (.if_icmp .gt 30, 3) := by decide +kernel
theorem d6_23 : decode prog_17_method_10_code 23 = .ok (.aload_n 0, 1) := by decide +kernel
theorem d6_24 : decode prog_17_method_10_code 24 = .ok (.getfield 13, 3) := by decide +kernel
theorem d6_27 : decode prog_17_method_10_code 27 = .ok (.aload_n 1, 1) := by decide +kernel
theorem d6_28 : decode prog_17_method_10_code 28 = .ok (.getfield 13, 3) := by decide +kernel
theorem d6_31 : decode prog_17_method_10_code 31 = .ok (.dcmp .l, 1) := by decide +kernel
theorem d6_32 : decode prog_17_method_10_code 32 = .ok (.ifCond .gt 14, 3) := by decide +kernel
theorem d6_35 : decode prog_17_method_10_code 35 = .ok (.aload_n 0, 1) := by decide +kernel
theorem d6_36 : decode prog_17_method_10_code 36 = .ok (.invokevirtual 33, 3) := by decide +kernel
theorem d6_39 : decode prog_17_method_10_code 39 = .ok (.aload_n 1, 1) := by decide +kernel
theorem d6_40 : decode prog_17_method_10_code 40 = .ok (.invokevirtual 33, 3) := by decide +kernel
theorem d6_43 : decode prog_17_method_10_code 43 = .ok (.if_icmp .ge 7, 3) := by decide +kernel
theorem d6_46 : decode prog_17_method_10_code 46 = .ok (.iconst 1, 1) := by decide +kernel
theorem d6_47 : decode prog_17_method_10_code 47 = .ok (.goto 4, 3) := by decide +kernel
theorem d6_50 : decode prog_17_method_10_code 50 = .ok (.iconst 0, 1) := by decide +kernel
theorem d6_51 : decode prog_17_method_10_code 51 = .ok (.ireturn, 1) := by decide +kernel
theorem ef166 (m : MethodId) (a1 : Addr) (a2 : Addr) (b1 : Addr) (b2 : Addr) (x1 : UInt64) (x2 : UInt64) (n1 : Int32) (n2 : Int32) : entryFrame m #[(.ref a1), (.ref a2)] 2 = mkF m 0 #[.val (.ref a1), .val (.ref a2)] [] := by first | (simp [entryFrame, mkF, argsToLocals, Value.category]; done) | rfl
def Q6 (Z : State) (a1 : Addr) (a2 : Addr) (b1 : Addr) (b2 : Addr) (x1 : UInt64) (x2 : UInt64) (n1 : Int32) (n2 : Int32) (h0 : Heap) (n0 : Nat) (v : Option Value) (h : Heap) (L : List Loc) : Prop := v = some (.int (own_r_rm6 x1 x2 n1 n2)) ∧ Fr n0 L ∧ h = h0
set_option maxRecDepth 65536 in
set_option maxHeartbeats 40000000 in
theorem rm6 (l : Launch) (Z : State) (a0 : Array Value) (hw : ∀ d ∈ tables_1, d.before a0 Z = true) (ws : List Jvm.Cond) (a1 : Addr) (a2 : Addr) (b1 : Addr) (b2 : Addr) (x1 : UInt64) (x2 : UInt64) (n1 : Int32) (n2 : Int32) (h0 : Heap) (n0 : Nat) (Z0 : n0 ≤ h0.size) (E167 : Exa Z h0 a1 "com/example/swathloom/swathloom/planning/Member") (F168 : Fld Z h0 a1 "com/example/swathloom/swathloom/planning/Member" "coverage" "D" (.double x1)) (F169 : Fld Z h0 a1 "com/example/swathloom/swathloom/planning/Member" "plan" "Lcom/example/swathloom/swathloom/planning/Plan;" (.ref b1)) (E170 : Exa Z h0 b1 "com/example/swathloom/swathloom/planning/Plan") (F171 : Fld Z h0 b1 "com/example/swathloom/swathloom/planning/Plan" "strips" "I" (.int n1)) (E172 : Exa Z h0 a2 "com/example/swathloom/swathloom/planning/Member") (F173 : Fld Z h0 a2 "com/example/swathloom/swathloom/planning/Member" "coverage" "D" (.double x2)) (F174 : Fld Z h0 a2 "com/example/swathloom/swathloom/planning/Member" "plan" "Lcom/example/swathloom/swathloom/planning/Plan;" (.ref b2)) (E175 : Exa Z h0 b2 "com/example/swathloom/swathloom/planning/Plan") (F176 : Fld Z h0 b2 "com/example/swathloom/swathloom/planning/Plan" "strips" "I" (.int n2)) :
    MetFree l (⟨"com/example/swathloom/swathloom/planning/Member", "dominates", "(Lcom/example/swathloom/swathloom/planning/Member;)Z"⟩ : MethodName) (head1 (Jvm.Cond.code (⟨"com/example/swathloom/swathloom/planning/Member", "dominates", "(Lcom/example/swathloom/swathloom/planning/Member;)Z"⟩ : MethodName) prog_17_method_10_code 2 (some .boolean) :: ws) ({ frames := 2, cells := 0, slots := 0, locals := 25 } : Room)) (fun a U => a = #[(.ref a1), (.ref a2)] ∧ Z.Warmed39 U.vm ∧ U.heap = h0) (fun _ _ _ _ _ => True) (fun _ U o U' => ∃ v L, o = .returned v ∧ Q6 Z a1 a2 b1 b2 x1 x2 n1 n2 h0 n0 v U'.heap L ∧ FrameEnd U o U' L 0 0) := by
  refine MetFree.of_bodySF (plainFor_of_name pn_1) hisR ?_
  intro p e s m args below meth c s₁ Bd hml0 hP hK
  obtain ⟨rfl, hZ, hh⟩ := hP
  have hx := Bd.exec
  have hby := Bd.bytes
  have hml : c.maxLocals = 2 := hml0
  have hown : s.vm.findClass "com/example/swathloom/swathloom/planning/Member" = some m.cls := findClass_of_methodNamed Bd.named
  have hnm := (name_of_methodNamed Bd.named Bd.method).1
  have X0 : Stand p l e ({ frames := 2, cells := 0, slots := 0, locals := 25 } : Room) s m #[(.ref a1), (.ref a2)] below meth c s₁ [] 0 0 := Stand.of_body Bd
  have e0 : s₁.heap = h0 := by rw [← hh, Bd.state]; rfl
  have N0 := Fr.nil n0
  have A0 := (⟨X0, hx, hby⟩ : Ax _ _ _ _ _ _ _ _ _ _ _ _ _ _ _)
  show Go p e below (fun U o => ∃ v L, o = .returned v ∧ Q6 Z a1 a2 b1 b2 x1 x2 n1 n2 h0 n0 v U.heap L ∧ FrameEnd s o U L 0 0) s₁ (entryFrame m #[(.ref a1), (.ref a2)] 2)
  refine Go.cast (ef166 m a1 a2 b1 b2 x1 x2 n1 n2) ?_
  refine g_aloadN A0 d6_0 rfl rfl (pc' := 1) rfl ?_
  obtain ⟨T177, X177, e177, st177⟩ := getF X0 hx hZ hown (host := "") (Or.inl (hw _ (List.mem_of_getElem? (i := 35) rfl))) Via.refl e0 F168 (g := (mkF m 1 #[.val (.ref a1), .val (.ref a2)] [(.ref a1)])) rfl rfl (hb hby d6_1)
  refine Go.of (g' := (mkF m 4 #[.val (.ref a1), .val (.ref a2)] [(.double x1)])) st177 ?_
  have A178 := (⟨X177, hx, hby⟩ : Ax _ _ _ _ _ _ _ _ _ _ _ _ _ _ _)
  refine g_aloadN A178 d6_4 rfl rfl (pc' := 5) rfl ?_
  obtain ⟨T179, X179, e179, st179⟩ := getF X177 hx hZ hown (host := "") (Or.inl (hw _ (List.mem_of_getElem? (i := 35) rfl))) Via.refl e177 F173 (g := (mkF m 5 #[.val (.ref a1), .val (.ref a2)] [(.ref a2), (.double x1)])) rfl rfl (hb hby d6_5)
  refine Go.of (g' := (mkF m 8 #[.val (.ref a1), .val (.ref a2)] [(.double x2), (.double x1)])) st179 ?_
  have A180 := (⟨X179, hx, hby⟩ : Ax _ _ _ _ _ _ _ _ _ _ _ _ _ _ _)
  refine g_dcmp A180 d6_8 (pc' := 9) rfl ?_
  by_cases hc181 : oGe (FP.dcmp x1 x2)
  · skip
    refine g_ifN A180 d6_9 (d_l_lt_f hc181) (pc' := 12) rfl ?_
    refine g_aloadN A180 d6_12 rfl rfl (pc' := 13) rfl ?_
    obtain ⟨cq183, kq183, q183a, q183b, q183c⟩ := isOf hZ e179 E167
    obtain ⟨_, _, ⟨T182, L182, k182, n182⟩, -, X182, ⟨L182c, hQ182, l182, y182, z182⟩, st182⟩ := X179.virtualBack hx (y := (⟨"com/example/swathloom/swathloom/planning/Member", "strips", "()I"⟩ : MethodName)) (z := (⟨"com/example/swathloom/swathloom/planning/Member", "strips", "()I"⟩ : MethodName)) hown (mvT hZ (hw _ (List.mem_of_getElem? (i := 46) rfl))) (mvT hZ (hw _ (List.mem_of_getElem? (i := 47) rfl))) (notFace_of_selects (args := #[]) (mvT hZ (hw _ (List.mem_of_getElem? (i := 49) rfl)))) (mvT hZ (hw _ (List.mem_of_getElem? (i := 49) rfl))) (mvT hZ (hw _ (List.mem_of_getElem? (i := 48) rfl))) (by decide) (backOf (W := 0) (rm7 l Z a0 hw [] a1 b1 n1 h0 n0 Z0 F169 E170 F171) hZ (hw _ (List.mem_of_getElem? (i := 50) rfl)) (hw _ (List.mem_of_getElem? (i := 4) rfl)) (by decide) (by decide)) q183a q183c (g := (mkF m 13 #[.val (.ref a1), .val (.ref a2)] [(.ref a1)])) rfl (by rw [hml]; rfl) (Steps.refl _) (argsL := []) (rest := []) (lenOf pd_1 rfl) rfl (by show 2 * 0 + _ ≤ _; exact Nat.le_of_eq rfl) (hb hby d6_13) (fun _ _ => ⟨rfl, e179, (by decide : 0 + 0 ≤ _), (by decide : 0 + 0 ≤ _)⟩)
    dsimp only [Pt.U, Pt.locs, Pt.cells, Pt.slots] at X182 l182 y182 z182 st182 hQ182
    subst l182 y182 z182
    obtain ⟨rfl, Nq184, Kq185⟩ := hQ182
    have N186 := Fr.app N0 Nq184
    refine Go.tr (g' := (mkF m 16 #[.val (.ref a1), .val (.ref a2)] [(.int n1)])) st182 ?_
    have e187 : T182.heap = h0 := Kq185
    have A188 := (⟨X182, hx, hby⟩ : Ax _ _ _ _ _ _ _ _ _ _ _ _ _ _ _)
    refine g_aloadN A188 d6_16 rfl rfl (pc' := 17) rfl ?_
    obtain ⟨cq190, kq190, q190a, q190b, q190c⟩ := isOf hZ e187 E172
    obtain ⟨_, _, ⟨T189, L189, k189, n189⟩, -, X189, ⟨L189c, hQ189, l189, y189, z189⟩, st189⟩ := X182.virtualBack hx (y := (⟨"com/example/swathloom/swathloom/planning/Member", "strips", "()I"⟩ : MethodName)) (z := (⟨"com/example/swathloom/swathloom/planning/Member", "strips", "()I"⟩ : MethodName)) hown (mvT hZ (hw _ (List.mem_of_getElem? (i := 46) rfl))) (mvT hZ (hw _ (List.mem_of_getElem? (i := 47) rfl))) (notFace_of_selects (args := #[]) (mvT hZ (hw _ (List.mem_of_getElem? (i := 49) rfl)))) (mvT hZ (hw _ (List.mem_of_getElem? (i := 49) rfl))) (mvT hZ (hw _ (List.mem_of_getElem? (i := 48) rfl))) (by decide) (backOf (W := 1) (rm7 l Z a0 hw [] a2 b2 n2 h0 n0 Z0 F174 E175 F176) hZ (hw _ (List.mem_of_getElem? (i := 50) rfl)) (hw _ (List.mem_of_getElem? (i := 4) rfl)) (by decide) (by decide)) q190a q190c (g := (mkF m 17 #[.val (.ref a1), .val (.ref a2)] [(.ref a2), (.int n1)])) rfl (by rw [hml]; rfl) (Steps.refl _) (argsL := []) (rest := [(.int n1)]) (lenOf pd_1 rfl) rfl (by show 2 * 0 + _ ≤ _; exact Nat.le_of_eq rfl) (hb hby d6_17) (fun _ _ => ⟨rfl, e187, (by decide : 0 + 0 ≤ _), (by decide : 0 + 0 ≤ _)⟩)
    dsimp only [Pt.U, Pt.locs, Pt.cells, Pt.slots] at X189 l189 y189 z189 st189 hQ189
    subst l189 y189 z189
    obtain ⟨rfl, Nq191, Kq192⟩ := hQ189
    have N193 := Fr.app N186 Nq191
    refine Go.tr (g' := (mkF m 20 #[.val (.ref a1), .val (.ref a2)] [(.int n2), (.int n1)])) st189 ?_
    have e194 : T189.heap = h0 := Kq192
    have A195 := (⟨X189, hx, hby⟩ : Ax _ _ _ _ _ _ _ _ _ _ _ _ _ _ _)
    by_cases hc196 : n2 < n1
    · skip
      refine g_icY A195 d6_20 (c2_gt_t hc196) (pc' := 50) rfl ?_
      refine g_iconst A195 d6_50 (v := (0 : Int32)) rfl (pc' := 51) rfl ?_
      exact g_ret (Q := Q6 Z a1 a2 b1 b2 x1 x2 n1 n2 h0 n0) A195 d6_51 Bd.notSynchronized Bd.returns rfl (Or.inl ⟨rfl, by simp, _, rfl⟩) (by decide) (by decide) (by rw [e194]; exact ⟨(congrArg (fun z => some (Value.int z)) (by rw [own_r_rm6, if_pos hc181, if_pos hc196])), N193, rfl⟩)
    · skip
      refine g_icN A195 d6_20 (c2_gt_f hc196) (pc' := 23) rfl ?_
      refine g_aloadN A195 d6_23 rfl rfl (pc' := 24) rfl ?_
      obtain ⟨T197, X197, e197, st197⟩ := getF X189 hx hZ hown (host := "") (Or.inl (hw _ (List.mem_of_getElem? (i := 35) rfl))) Via.refl e194 F168 (g := (mkF m 24 #[.val (.ref a1), .val (.ref a2)] [(.ref a1)])) rfl rfl (hb hby d6_24)
      refine Go.of (g' := (mkF m 27 #[.val (.ref a1), .val (.ref a2)] [(.double x1)])) st197 ?_
      have A198 := (⟨X197, hx, hby⟩ : Ax _ _ _ _ _ _ _ _ _ _ _ _ _ _ _)
      refine g_aloadN A198 d6_27 rfl rfl (pc' := 28) rfl ?_
      obtain ⟨T199, X199, e199, st199⟩ := getF X197 hx hZ hown (host := "") (Or.inl (hw _ (List.mem_of_getElem? (i := 35) rfl))) Via.refl e197 F173 (g := (mkF m 28 #[.val (.ref a1), .val (.ref a2)] [(.ref a2), (.double x1)])) rfl rfl (hb hby d6_28)
      refine Go.of (g' := (mkF m 31 #[.val (.ref a1), .val (.ref a2)] [(.double x2), (.double x1)])) st199 ?_
      have A200 := (⟨X199, hx, hby⟩ : Ax _ _ _ _ _ _ _ _ _ _ _ _ _ _ _)
      refine g_dcmp A200 d6_31 (pc' := 32) rfl ?_
      by_cases hc201 : FP.dcmp x1 x2 = some .gt
      · skip
        refine g_ifY A200 d6_32 (d_l_gt_t hc201) (pc' := 46) rfl ?_
        refine g_iconst A200 d6_46 (v := (1 : Int32)) rfl (pc' := 47) rfl ?_
        refine g_goto A200 d6_47 (pc' := 51) rfl ?_
        exact g_ret (Q := Q6 Z a1 a2 b1 b2 x1 x2 n1 n2 h0 n0) A200 d6_51 Bd.notSynchronized Bd.returns rfl (Or.inl ⟨rfl, by simp, _, rfl⟩) (by decide) (by decide) (by rw [e199]; exact ⟨(congrArg (fun z => some (Value.int z)) (by rw [own_r_rm6, if_pos hc181, if_neg hc196, if_pos hc201])), N193, rfl⟩)
      · skip
        refine g_ifN A200 d6_32 (d_l_gt_f hc201) (pc' := 35) rfl ?_
        refine g_aloadN A200 d6_35 rfl rfl (pc' := 36) rfl ?_
        obtain ⟨cq203, kq203, q203a, q203b, q203c⟩ := isOf hZ e199 E167
        obtain ⟨_, _, ⟨T202, L202, k202, n202⟩, -, X202, ⟨L202c, hQ202, l202, y202, z202⟩, st202⟩ := X199.virtualBack hx (y := (⟨"com/example/swathloom/swathloom/planning/Member", "strips", "()I"⟩ : MethodName)) (z := (⟨"com/example/swathloom/swathloom/planning/Member", "strips", "()I"⟩ : MethodName)) hown (mvT hZ (hw _ (List.mem_of_getElem? (i := 46) rfl))) (mvT hZ (hw _ (List.mem_of_getElem? (i := 47) rfl))) (notFace_of_selects (args := #[]) (mvT hZ (hw _ (List.mem_of_getElem? (i := 49) rfl)))) (mvT hZ (hw _ (List.mem_of_getElem? (i := 49) rfl))) (mvT hZ (hw _ (List.mem_of_getElem? (i := 48) rfl))) (by decide) (backOf (W := 0) (rm7 l Z a0 hw [] a1 b1 n1 h0 n0 Z0 F169 E170 F171) hZ (hw _ (List.mem_of_getElem? (i := 50) rfl)) (hw _ (List.mem_of_getElem? (i := 4) rfl)) (by decide) (by decide)) q203a q203c (g := (mkF m 36 #[.val (.ref a1), .val (.ref a2)] [(.ref a1)])) rfl (by rw [hml]; rfl) (Steps.refl _) (argsL := []) (rest := []) (lenOf pd_1 rfl) rfl (by show 2 * 0 + _ ≤ _; exact Nat.le_of_eq rfl) (hb hby d6_36) (fun _ _ => ⟨rfl, e199, (by decide : 0 + 0 ≤ _), (by decide : 0 + 0 ≤ _)⟩)
        dsimp only [Pt.U, Pt.locs, Pt.cells, Pt.slots] at X202 l202 y202 z202 st202 hQ202
        subst l202 y202 z202
        obtain ⟨rfl, Nq204, Kq205⟩ := hQ202
        have N206 := Fr.app N193 Nq204
        refine Go.tr (g' := (mkF m 39 #[.val (.ref a1), .val (.ref a2)] [(.int n1)])) st202 ?_
        have e207 : T202.heap = h0 := Kq205
        have A208 := (⟨X202, hx, hby⟩ : Ax _ _ _ _ _ _ _ _ _ _ _ _ _ _ _)
        refine g_aloadN A208 d6_39 rfl rfl (pc' := 40) rfl ?_
        obtain ⟨cq210, kq210, q210a, q210b, q210c⟩ := isOf hZ e207 E172
        obtain ⟨_, _, ⟨T209, L209, k209, n209⟩, -, X209, ⟨L209c, hQ209, l209, y209, z209⟩, st209⟩ := X202.virtualBack hx (y := (⟨"com/example/swathloom/swathloom/planning/Member", "strips", "()I"⟩ : MethodName)) (z := (⟨"com/example/swathloom/swathloom/planning/Member", "strips", "()I"⟩ : MethodName)) hown (mvT hZ (hw _ (List.mem_of_getElem? (i := 46) rfl))) (mvT hZ (hw _ (List.mem_of_getElem? (i := 47) rfl))) (notFace_of_selects (args := #[]) (mvT hZ (hw _ (List.mem_of_getElem? (i := 49) rfl)))) (mvT hZ (hw _ (List.mem_of_getElem? (i := 49) rfl))) (mvT hZ (hw _ (List.mem_of_getElem? (i := 48) rfl))) (by decide) (backOf (W := 1) (rm7 l Z a0 hw [] a2 b2 n2 h0 n0 Z0 F174 E175 F176) hZ (hw _ (List.mem_of_getElem? (i := 50) rfl)) (hw _ (List.mem_of_getElem? (i := 4) rfl)) (by decide) (by decide)) q210a q210c (g := (mkF m 40 #[.val (.ref a1), .val (.ref a2)] [(.ref a2), (.int n1)])) rfl (by rw [hml]; rfl) (Steps.refl _) (argsL := []) (rest := [(.int n1)]) (lenOf pd_1 rfl) rfl (by show 2 * 0 + _ ≤ _; exact Nat.le_of_eq rfl) (hb hby d6_40) (fun _ _ => ⟨rfl, e207, (by decide : 0 + 0 ≤ _), (by decide : 0 + 0 ≤ _)⟩)
        dsimp only [Pt.U, Pt.locs, Pt.cells, Pt.slots] at X209 l209 y209 z209 st209 hQ209
        subst l209 y209 z209
        obtain ⟨rfl, Nq211, Kq212⟩ := hQ209
        have N213 := Fr.app N206 Nq211
        refine Go.tr (g' := (mkF m 43 #[.val (.ref a1), .val (.ref a2)] [(.int n2), (.int n1)])) st209 ?_
        have e214 : T209.heap = h0 := Kq212
        have A215 := (⟨X209, hx, hby⟩ : Ax _ _ _ _ _ _ _ _ _ _ _ _ _ _ _)
        obtain ⟨v216, hv216⟩ : ∃ z : Int32, z = if n1 < n2 then (1 : Int32) else 0 := ⟨_, rfl⟩
        have sg217 : ∀ {P : State → Outcome → Prop}, Go p e below P T209 (mkF m 51 #[.val (.ref a1), .val (.ref a2)] [(.int v216)]) → Go p e below P T209 (mkF m 43 #[.val (.ref a1), .val (.ref a2)] [(.int n2), (.int n1)]) := by
          intro P hr
          by_cases c218 : n1 < n2
          · skip
            refine g_icN A215 d6_43 (c2_ge_f c218) (pc' := 46) rfl ?_
            refine g_iconst A215 d6_46 (v := (1 : Int32)) rfl (pc' := 47) rfl ?_
            refine g_goto A215 d6_47 (pc' := 51) rfl ?_
            obtain rfl : v216 = (1 : Int32) := hv216.trans (if_pos c218)
            exact hr
          · skip
            refine g_icY A215 d6_43 (c2_ge_t c218) (pc' := 50) rfl ?_
            refine g_iconst A215 d6_50 (v := (0 : Int32)) rfl (pc' := 51) rfl ?_
            obtain rfl : v216 = (0 : Int32) := hv216.trans (if_neg c218)
            exact hr
        refine sg217 ?_
        exact g_ret (Q := Q6 Z a1 a2 b1 b2 x1 x2 n1 n2 h0 n0) A215 d6_51 Bd.notSynchronized Bd.returns (own_b01 hv216) (Or.inl ⟨rfl, by simp, _, rfl⟩) (by decide) (by decide) (by rw [e214]; exact ⟨(congrArg (fun z => some (Value.int z)) (by rw [hv216, own_r_rm6, if_pos hc181, if_neg hc196, if_neg hc201])), N213, rfl⟩)
  · skip
    refine g_ifY A180 d6_9 (d_l_lt_t hc181) (pc' := 50) rfl ?_
    refine g_iconst A180 d6_50 (v := (0 : Int32)) rfl (pc' := 51) rfl ?_
    exact g_ret (Q := Q6 Z a1 a2 b1 b2 x1 x2 n1 n2 h0 n0) A180 d6_51 Bd.notSynchronized Bd.returns rfl (Or.inl ⟨rfl, by simp, _, rfl⟩) (by decide) (by decide) (by rw [e179]; exact ⟨(congrArg (fun z => some (Value.int z)) (by rw [own_r_rm6, if_neg hc181])), N0, rfl⟩)
theorem own_mod (x y : Int32) (n : Nat) (h0 : 0 < n) (hn : n < 2147483648) (hy : y.toInt = n) (hx : 0 ≤ x.toInt) : ∃ i : Nat, i < n ∧ x % y = Int32.ofNat i := by
  have h2 := (c_irem x y n hy).1 hx
  have b1 := Int.emod_nonneg x.toInt (show (n : Int) ≠ 0 by omega)
  have b2 := Int.emod_lt_of_pos x.toInt (show (0 : Int) < n by omega)
  refine ⟨(x % y).toInt.toNat, by omega, ?_⟩
  apply Int32.toInt_inj.mp
  rw [Int32.toInt_ofNat_of_lt (by omega)]
  omega
theorem own_m31 (p : Int32) : 0 ≤ (p &&& (2147483647 : Int32)).toInt := by
  have h := c_and p 2147483647 (by decide)
  exact h.1
theorem own_k9 (p : Int32) : ∃ i : Fin 9, ((p &&& (2147483647 : Int32)) % (9 : Int32)) = Int32.ofNat i.1 := by
  obtain ⟨i, hi, e⟩ := own_mod (p &&& (2147483647 : Int32)) 9 9 (by decide) (by decide) rfl (own_m31 p)
  exact ⟨⟨i, hi⟩, e⟩
theorem own_nb (n k : Nat) : (n &&& 2 ^ k = 0) ↔ n / 2 ^ k % 2 = 0 := by
  have e2 : n.testBit k = decide (n / 2 ^ k % 2 = 1) := Nat.testBit_eq_decide_div_mod_eq
  constructor
  · intro h
    have q := congrArg (fun z => Nat.testBit z k) h
    simp only [Nat.testBit_and, Nat.testBit_two_pow_self, Bool.and_true, Nat.zero_testBit] at q
    rw [q] at e2
    have : ¬ (n / 2 ^ k % 2 = 1) := by simpa using e2.symm
    omega
  · intro h
    apply Nat.eq_of_testBit_eq
    intro i
    rw [Nat.testBit_and, Nat.zero_testBit, Nat.testBit_two_pow]
    by_cases q : k = i
    · subst q; rw [e2, h]; simp
    · simp [q]
theorem own_bit (x : Int32) (m : Int32) (k : Nat) (hk : k < 31) (hm : m.toBitVec.toNat = 2 ^ k) : (x &&& m = 0) ↔ (x.toInt / (2 ^ k : Nat)) % 2 = 0 := by
  have e1 : (x &&& m).toBitVec.toNat = x.toBitVec.toNat &&& 2 ^ k := by rw [Int32.toBitVec_and, BitVec.toNat_and, hm]
  have e3 : (x &&& m = 0) ↔ (x &&& m).toBitVec.toNat = 0 := by
    constructor
    · intro h; rw [h]; rfl
    · intro h; apply Int32.toBitVec_inj.mp; apply BitVec.eq_of_toNat_eq; exact h
  have hp : 0 < 2 ^ k := Nat.two_pow_pos k
  have hlt := x.toBitVec.isLt
  have hd : (2 : Nat) ^ 32 = 2 ^ k * (2 * 2 ^ (31 - k)) := by rw [← Nat.pow_succ', ← Nat.pow_add]; congr 1; omega
  have e4 : (x.toInt / (2 ^ k : Nat)) % 2 = ((x.toBitVec.toNat / 2 ^ k % 2 : Nat) : Int) := by
    show x.toBitVec.toInt / _ % 2 = _
    rw [BitVec.toInt_eq_toNat_cond]
    split
    · rw [Int.natCast_emod, Int.natCast_ediv]; rfl
    · have q : ((2 ^ 32 : Nat) : Int) = ((2 ^ k : Nat) : Int) * (2 * ((2 ^ (31 - k) : Nat) : Int)) := by rw [hd]; simp [Int.natCast_mul]
      rw [q, Int.sub_mul_ediv_left _ _ (by omega), Int.natCast_emod, Int.natCast_ediv]
      omega
  rw [e3, e1, own_nb, e4]
  omega
def own_q : UInt64 := 4620693217682128896
theorem own_div8 : ∀ i : Fin 9, ∀ j : Fin 9, FP.dcmp (FP.ddiv (FP.i2d (Int32.ofNat i.1)) own_q) (FP.ddiv (FP.i2d (Int32.ofNat j.1)) own_q) = some (compare (i.1 : Int) (j.1 : Int)) := by decide +kernel
theorem own_ofn (i : Fin 9) : (Int32.ofNat i.1).toInt = i.1 := Int32.toInt_ofNat_of_lt (by omega)
theorem own_nn (x : Int32) : NoNaN64 (FP.ddiv (FP.i2d x) own_q) := ddiv_out (i2d_fin x).noNaN (by unfold Fin64 own_q; decide) (by unfold Nz64 own_q; decide)
theorem own_cnt (u a b c : Int32) (ha : a = if ¬ (u &&& (1 : Int32) = 0) then 1 else 0) (hb : b = if ¬ (u &&& (2 : Int32) = 0) then 1 else 0) (hc : c = if ¬ (u &&& (4 : Int32) = 0) then 1 else 0) :
    own_c3 a b c = ((u &&& (1 : Int32)) + ((u >>> ((1 : Int32) &&& 31)) &&& (1 : Int32))) + ((u >>> ((2 : Int32) &&& 31)) &&& (1 : Int32)) := by
  have m1 (x : Int32) : (x &&& (1 : Int32)).toInt = x.toInt % 2 := c_mask x 1 1 (by decide) (by decide)
  have s1 := c_ishr u 1 1 (by decide)
  have s2 := c_ishr u 2 2 (by decide)
  have k0 := own_bit u 1 0 (by decide) (by decide)
  have k1 := own_bit u 2 1 (by decide) (by decide)
  have k2 := own_bit u 4 2 (by decide) (by decide)
  have z (x : Int32) : x &&& (1 : Int32) = if (x &&& (1 : Int32)).toInt = 0 then 0 else 1 := by
    rcases and_one x with h | h <;> rw [h] <;> decide
  have f0 : (u &&& (1 : Int32)) = if u &&& (1 : Int32) = 0 then 0 else 1 := by rcases and_one u with h | h <;> rw [h] <;> decide
  have f1 : ((u >>> ((1 : Int32) &&& 31)) &&& (1 : Int32)) = if u &&& (2 : Int32) = 0 then 0 else 1 := by
    rw [z, m1, s1]
    by_cases h : u &&& (2 : Int32) = 0
    · rw [if_pos h, if_pos (k1.mp h)]
    · rw [if_neg h, if_neg (fun q => h (k1.mpr q))]
  have f2 : ((u >>> ((2 : Int32) &&& 31)) &&& (1 : Int32)) = if u &&& (4 : Int32) = 0 then 0 else 1 := by
    rw [z, m1, s2]
    by_cases h : u &&& (4 : Int32) = 0
    · rw [if_pos h, if_pos (k2.mp h)]
    · rw [if_neg h, if_neg (fun q => h (k2.mpr q))]
  rw [f1, f2, f0, ha, hb, hc]
  by_cases g0 : u &&& (1 : Int32) = 0 <;> by_cases g1 : u &&& (2 : Int32) = 0 <;> by_cases g2 : u &&& (4 : Int32) = 0 <;> simp only [g0, g1, g2, if_true, if_false, not_true, not_false_eq_true] <;> decide
theorem own_end (i j : Fin 9) (s t : Int32) : own_r_rm6 (FP.ddiv (FP.i2d (Int32.ofNat i.1)) own_q) (FP.ddiv (FP.i2d (Int32.ofNat j.1)) own_q) s t = own_r_rm5 (Int32.ofNat i.1) s (Int32.ofNat j.1) t := by
  rw [own_r_rm6, own_r_rm5, own_div8]
  have g1 := FP.Core.compare_gt_iff (i.1 : Int) (j.1 : Int)
  have g2 := FP.Core.compare_eq_iff (i.1 : Int) (j.1 : Int)
  simp only [oGe, Option.some.injEq, g1, g2, Int32.lt_iff_toInt_lt, own_ofn, ← Int32.toInt_inj]
  repeat' split
  all_goals first | rfl | (exfalso; omega)
theorem ef219 (m : MethodId) (p0 : Int32) (p1 : Int32) (p2 : Int32) (p3 : Int32) : entryFrame m #[(.int p0), (.int p1), (.int p2), (.int p3)] maxLocals = mkF m 0 #[.val (.int p0), .val (.int p1), .val (.int p2), .val (.int p3), .unset, .unset, .unset, .unset, .unset, .unset, .unset, .unset, .unset, .unset] [] := by first | (simp [entryFrame, mkF, argsToLocals, Value.category, maxLocals]; done) | rfl
def Q0 (Z : State) (p0 : Int32) (p1 : Int32) (p2 : Int32) (p3 : Int32) (h0 : Heap) (n0 : Nat) (v : Option Value) (h : Heap) (L : List Loc) : Prop := v = some (.int 1) ∧ Fr n0 L
theorem pd_2 : parseMethodDescriptor "([D[Z)V" = some ⟨[(.array .double), (.array .boolean)], none⟩ := by decide +kernel
theorem pd_3 : parseMethodDescriptor "(Lcom/example/swathloom/swathloom/planning/Plan;D)V" = some ⟨[(.object "com/example/swathloom/swathloom/planning/Plan"), .double], none⟩ := by decide +kernel
theorem pd_4 : parseMethodDescriptor "(IIII)Z" = some ⟨[.int, .int, .int, .int], some .boolean⟩ := by decide +kernel
theorem pd_5 : parseMethodDescriptor "(Lcom/example/swathloom/swathloom/planning/Member;)Z" = some ⟨[(.object "com/example/swathloom/swathloom/planning/Member")], some .boolean⟩ := by decide +kernel
set_option maxRecDepth 65536 in
set_option maxHeartbeats 40000000 in
theorem rm0 (l : Launch) (Z : State) (a0 : Array Value) (hw : ∀ d ∈ tables_1, d.before a0 Z = true) (ws : List Jvm.Cond) (p0 : Int32) (p1 : Int32) (p2 : Int32) (p3 : Int32) (h0 : Heap) (n0 : Nat) (Z0 : n0 ≤ h0.size)  :
    MetFree l x (head1 (Jvm.Cond.code x code maxLocals ret :: ws) room_1) (fun a U => a = #[(.int p0), (.int p1), (.int p2), (.int p3)] ∧ Z.Warmed39 U.vm ∧ U.heap = h0) (fun _ _ _ _ _ => True) (fun _ U o U' => ∃ v L, o = .returned v ∧ Q0 Z p0 p1 p2 p3 h0 n0 v U'.heap L ∧ FrameEnd U o U' L 8 30) := by
  refine MetFree.of_bodySF (plainFor_of_name pn_2) hisR ?_
  intro p e s m args below meth c s₁ Bd hml0 hP hK
  obtain ⟨rfl, hZ, hh⟩ := hP
  have hx := Bd.exec
  have hby := Bd.bytes
  have hml : c.maxLocals = 14 := hml0
  have hown : s.vm.findClass "com/example/swathloom/swathloom/planning/MemberDominatesPinLaw" = some m.cls := findClass_of_methodNamed Bd.named
  have hnm := (name_of_methodNamed Bd.named Bd.method).1
  have X0 : Stand p l e room_1 s m #[(.int p0), (.int p1), (.int p2), (.int p3)] below meth c s₁ [] 0 0 := Stand.of_body Bd
  have e0 : s₁.heap = h0 := by rw [← hh, Bd.state]; rfl
  have N0 := Fr.nil n0
  have A0 := (⟨X0, hx, hby⟩ : Ax _ _ _ _ _ _ _ _ _ _ _ _ _ _ _)
  show Go p e below (fun U o => ∃ v L, o = .returned v ∧ Q0 Z p0 p1 p2 p3 h0 n0 v U.heap L ∧ FrameEnd s o U L 8 30) s₁ (entryFrame m #[(.int p0), (.int p1), (.int p2), (.int p3)] maxLocals)
  refine Go.cast (ef219 m p0 p1 p2 p3) ?_
  refine g_iloadN A0 at_0 rfl (pc' := 1) rfl ?_
  refine g_ldcI A0 hZ hown (hw _ (List.mem_of_getElem? (i := 0) rfl)) at_1 (pc' := 3) rfl ?_
  refine g_iand A0 at_3 (pc' := 4) rfl ?_
  refine g_bipush A0 at_4 (v := (9 : Int32)) rfl (pc' := 6) rfl ?_
  refine g_irem A0 at_6 (by decide) (pc' := 7) rfl ?_
  obtain ⟨ci220, hci220⟩ : ∃ z : Int32, z = ((p0 &&& (2147483647 : Int32)) % (9 : Int32)) := ⟨_, rfl⟩
  rw [← hci220]
  obtain ⟨i221, hi222⟩ := own_k9 p0
  rw [← hci220] at hi222
  refine g_istore A0 at_7 (ls' := #[.val (.int p0), .val (.int p1), .val (.int p2), .val (.int p3), .val (.int ci220), .unset, .unset, .unset, .unset, .unset, .unset, .unset, .unset, .unset]) rfl (pc' := 9) rfl ?_
  refine g_iloadN A0 at_9 rfl (pc' := 10) rfl ?_
  refine g_ldcI A0 hZ hown (hw _ (List.mem_of_getElem? (i := 0) rfl)) at_10 (pc' := 12) rfl ?_
  refine g_iand A0 at_12 (pc' := 13) rfl ?_
  refine g_bipush A0 at_13 (v := (9 : Int32)) rfl (pc' := 15) rfl ?_
  refine g_irem A0 at_15 (by decide) (pc' := 16) rfl ?_
  obtain ⟨ci223, hci223⟩ : ∃ z : Int32, z = ((p2 &&& (2147483647 : Int32)) % (9 : Int32)) := ⟨_, rfl⟩
  rw [← hci223]
  obtain ⟨i224, hi225⟩ := own_k9 p2
  rw [← hci223] at hi225
  refine g_istore A0 at_16 (ls' := #[.val (.int p0), .val (.int p1), .val (.int p2), .val (.int p3), .val (.int ci220), .val (.int ci223), .unset, .unset, .unset, .unset, .unset, .unset, .unset, .unset]) rfl (pc' := 18) rfl ?_
  refine g_iconst A0 at_18 (v := (3 : Int32)) rfl (pc' := 19) rfl ?_
  obtain ⟨T226, h226, k226, X226, e226, E226, Ar226, st226⟩ := newP X0 hx hZ (hw _ (List.mem_of_getElem? (i := 1) rfl)) e0 (g := (mkF m 19 #[.val (.int p0), .val (.int p1), .val (.int p2), .val (.int p3), .val (.int ci220), .val (.int ci223), .unset, .unset, .unset, .unset, .unset, .unset, .unset, .unset] [(.int (3 : Int32))])) rfl (hb hby at_19) rfl (by decide) (cap := 3) (by decide) (by decide) (by decide) (by decide)
  obtain ⟨b227, eb227⟩ : ∃ z, z = h0.size := ⟨_, rfl⟩
  rw [← eb227] at Ar226 st226
  have g228 : n0 ≤ b227 := by rw [eb227]; exact Z0
  have gh229 : h0.size ≤ b227 := by rw [eb227]; exact (Keep.refl h0 []).1
  have K230 : Keep h0 h226 [] := (Keep.refl h0 []).ext E226
  have Z231 : n0 ≤ h226.size := Nat.le_trans Z0 E226.1
  have V232 : Dar Z h226 b227 .boolean 3 (fun _ => .int (0 : Int32)) := Dar.new Ar226 (by decide)
  refine Go.of (g' := (mkF m 21 #[.val (.int p0), .val (.int p1), .val (.int p2), .val (.int p3), .val (.int ci220), .val (.int ci223), .unset, .unset, .unset, .unset, .unset, .unset, .unset, .unset] [(.ref b227)])) st226 ?_
  have A233 := (⟨X226, hx, hby⟩ : Ax _ _ _ _ _ _ _ _ _ _ _ _ _ _ _)
  refine g_dup A233 at_21 rfl (pc' := 22) rfl ?_
  refine g_iconst A233 at_22 (v := (0 : Int32)) rfl (pc' := 23) rfl ?_
  refine g_iloadN A233 at_23 rfl (pc' := 24) rfl ?_
  refine g_iconst A233 at_24 (v := (1 : Int32)) rfl (pc' := 25) rfl ?_
  refine g_iand A233 at_25 (pc' := 26) rfl ?_
  obtain ⟨v234, hv234⟩ : ∃ z : Int32, z = if ¬ ((p1 &&& (1 : Int32)) = 0) then (1 : Int32) else 0 := ⟨_, rfl⟩
  have sg235 : ∀ {P : State → Outcome → Prop}, Go p e below P T226 (mkF m 34 #[.val (.int p0), .val (.int p1), .val (.int p2), .val (.int p3), .val (.int ci220), .val (.int ci223), .unset, .unset, .unset, .unset, .unset, .unset, .unset, .unset] [(.int v234), (.int (0 : Int32)), (.ref b227), (.ref b227)]) → Go p e below P T226 (mkF m 26 #[.val (.int p0), .val (.int p1), .val (.int p2), .val (.int p3), .val (.int ci220), .val (.int ci223), .unset, .unset, .unset, .unset, .unset, .unset, .unset, .unset] [(.int (p1 &&& (1 : Int32))), (.int (0 : Int32)), (.ref b227), (.ref b227)]) := by
    intro P hr
    by_cases c236 : (p1 &&& (1 : Int32)) = 0
    · skip
      refine g_ifY A233 at_26 (c0_eq_t c236) (pc' := 33) rfl ?_
      refine g_iconst A233 at_33 (v := (0 : Int32)) rfl (pc' := 34) rfl ?_
      obtain rfl : v234 = (0 : Int32) := hv234.trans (if_neg (fun q => q c236))
      exact hr
    · skip
      refine g_ifN A233 at_26 (c0_eq_f c236) (pc' := 29) rfl ?_
      refine g_iconst A233 at_29 (v := (1 : Int32)) rfl (pc' := 30) rfl ?_
      refine g_goto A233 at_30 (pc' := 34) rfl ?_
      obtain rfl : v234 = (1 : Int32) := hv234.trans (if_pos c236)
      exact hr
  refine sg235 ?_
  obtain ⟨T237, h237, A237, e237, W237, st237⟩ := s_zastore A233 hZ e226 (ls := #[.val (.int p0), .val (.int p1), .val (.int p2), .val (.int p3), .val (.int ci220), .val (.int ci223), .unset, .unset, .unset, .unset, .unset, .unset, .unset, .unset]) (st := [(.ref b227)]) (x := v234) V232 (i := 0) (by decide) (j := (0 : Int32)) rfl (own_b01 hv234) at_34 (pc' := 35) rfl
  have N238 := Fr.snoc A237.1 N0 g228
  have K239 : Keep h0 h237 [] := K230.wr W237 (Or.inr gh229)
  have V240 : Dar Z h237 b227 .boolean 3 (fun j => if j = 0 then .int v234 else (fun _ => .int (0 : Int32)) j) := Dar.set V232 W237 (fun _ _ => rfl)
  have Z241 : n0 ≤ h237.size := by rw [W237.size]; exact Z231
  refine st237 ?_
  refine g_dup A237 at_35 rfl (pc' := 36) rfl ?_
  refine g_iconst A237 at_36 (v := (1 : Int32)) rfl (pc' := 37) rfl ?_
  refine g_iloadN A237 at_37 rfl (pc' := 38) rfl ?_
  refine g_iconst A237 at_38 (v := (2 : Int32)) rfl (pc' := 39) rfl ?_
  refine g_iand A237 at_39 (pc' := 40) rfl ?_
  obtain ⟨v242, hv242⟩ : ∃ z : Int32, z = if ¬ ((p1 &&& (2 : Int32)) = 0) then (1 : Int32) else 0 := ⟨_, rfl⟩
  have sg243 : ∀ {P : State → Outcome → Prop}, Go p e below P T237 (mkF m 48 #[.val (.int p0), .val (.int p1), .val (.int p2), .val (.int p3), .val (.int ci220), .val (.int ci223), .unset, .unset, .unset, .unset, .unset, .unset, .unset, .unset] [(.int v242), (.int (1 : Int32)), (.ref b227), (.ref b227)]) → Go p e below P T237 (mkF m 40 #[.val (.int p0), .val (.int p1), .val (.int p2), .val (.int p3), .val (.int ci220), .val (.int ci223), .unset, .unset, .unset, .unset, .unset, .unset, .unset, .unset] [(.int (p1 &&& (2 : Int32))), (.int (1 : Int32)), (.ref b227), (.ref b227)]) := by
    intro P hr
    by_cases c244 : (p1 &&& (2 : Int32)) = 0
    · skip
      refine g_ifY A237 at_40 (c0_eq_t c244) (pc' := 47) rfl ?_
      refine g_iconst A237 at_47 (v := (0 : Int32)) rfl (pc' := 48) rfl ?_
      obtain rfl : v242 = (0 : Int32) := hv242.trans (if_neg (fun q => q c244))
      exact hr
    · skip
      refine g_ifN A237 at_40 (c0_eq_f c244) (pc' := 43) rfl ?_
      refine g_iconst A237 at_43 (v := (1 : Int32)) rfl (pc' := 44) rfl ?_
      refine g_goto A237 at_44 (pc' := 48) rfl ?_
      obtain rfl : v242 = (1 : Int32) := hv242.trans (if_pos c244)
      exact hr
  refine sg243 ?_
  obtain ⟨T245, h245, A245, e245, W245, st245⟩ := s_zastore A237 hZ e237 (ls := #[.val (.int p0), .val (.int p1), .val (.int p2), .val (.int p3), .val (.int ci220), .val (.int ci223), .unset, .unset, .unset, .unset, .unset, .unset, .unset, .unset]) (st := [(.ref b227)]) (x := v242) V240 (i := 1) (by decide) (j := (1 : Int32)) rfl (own_b01 hv242) at_48 (pc' := 49) rfl
  have N246 := Fr.snoc A245.1 N238 g228
  have K247 : Keep h0 h245 [] := K239.wr W245 (Or.inr gh229)
  have V248 : Dar Z h245 b227 .boolean 3 (fun j => if j = 1 then .int v242 else (fun j => if j = 0 then .int v234 else (fun _ => .int (0 : Int32)) j) j) := Dar.set V240 W245 (fun _ _ => rfl)
  have Z249 : n0 ≤ h245.size := by rw [W245.size]; exact Z241
  refine st245 ?_
  refine g_dup A245 at_49 rfl (pc' := 50) rfl ?_
  refine g_iconst A245 at_50 (v := (2 : Int32)) rfl (pc' := 51) rfl ?_
  refine g_iloadN A245 at_51 rfl (pc' := 52) rfl ?_
  refine g_iconst A245 at_52 (v := (4 : Int32)) rfl (pc' := 53) rfl ?_
  refine g_iand A245 at_53 (pc' := 54) rfl ?_
  obtain ⟨v250, hv250⟩ : ∃ z : Int32, z = if ¬ ((p1 &&& (4 : Int32)) = 0) then (1 : Int32) else 0 := ⟨_, rfl⟩
  have sg251 : ∀ {P : State → Outcome → Prop}, Go p e below P T245 (mkF m 62 #[.val (.int p0), .val (.int p1), .val (.int p2), .val (.int p3), .val (.int ci220), .val (.int ci223), .unset, .unset, .unset, .unset, .unset, .unset, .unset, .unset] [(.int v250), (.int (2 : Int32)), (.ref b227), (.ref b227)]) → Go p e below P T245 (mkF m 54 #[.val (.int p0), .val (.int p1), .val (.int p2), .val (.int p3), .val (.int ci220), .val (.int ci223), .unset, .unset, .unset, .unset, .unset, .unset, .unset, .unset] [(.int (p1 &&& (4 : Int32))), (.int (2 : Int32)), (.ref b227), (.ref b227)]) := by
    intro P hr
    by_cases c252 : (p1 &&& (4 : Int32)) = 0
    · skip
      refine g_ifY A245 at_54 (c0_eq_t c252) (pc' := 61) rfl ?_
      refine g_iconst A245 at_61 (v := (0 : Int32)) rfl (pc' := 62) rfl ?_
      obtain rfl : v250 = (0 : Int32) := hv250.trans (if_neg (fun q => q c252))
      exact hr
    · skip
      refine g_ifN A245 at_54 (c0_eq_f c252) (pc' := 57) rfl ?_
      refine g_iconst A245 at_57 (v := (1 : Int32)) rfl (pc' := 58) rfl ?_
      refine g_goto A245 at_58 (pc' := 62) rfl ?_
      obtain rfl : v250 = (1 : Int32) := hv250.trans (if_pos c252)
      exact hr
  refine sg251 ?_
  obtain ⟨T253, h253, A253, e253, W253, st253⟩ := s_zastore A245 hZ e245 (ls := #[.val (.int p0), .val (.int p1), .val (.int p2), .val (.int p3), .val (.int ci220), .val (.int ci223), .unset, .unset, .unset, .unset, .unset, .unset, .unset, .unset]) (st := [(.ref b227)]) (x := v250) V248 (i := 2) (by decide) (j := (2 : Int32)) rfl (own_b01 hv250) at_62 (pc' := 63) rfl
  have N254 := Fr.snoc A253.1 N246 g228
  have K255 : Keep h0 h253 [] := K247.wr W253 (Or.inr gh229)
  have V256 : Dar Z h253 b227 .boolean 3 (fun j => if j = 2 then .int v250 else (fun j => if j = 1 then .int v242 else (fun j => if j = 0 then .int v234 else (fun _ => .int (0 : Int32)) j) j) j) := Dar.set V248 W253 (fun _ _ => rfl)
  have Z257 : n0 ≤ h253.size := by rw [W253.size]; exact Z249
  refine st253 ?_
  refine g_astore A253 at_63 rfl (ls' := #[.val (.int p0), .val (.int p1), .val (.int p2), .val (.int p3), .val (.int ci220), .val (.int ci223), .val (.ref b227), .unset, .unset, .unset, .unset, .unset, .unset, .unset]) rfl (pc' := 65) rfl ?_
  refine g_iconst A253 at_65 (v := (3 : Int32)) rfl (pc' := 66) rfl ?_
  obtain ⟨T258, h258, k258, X258, e258, E258, Ar258, st258⟩ := newP A253.1 hx hZ (hw _ (List.mem_of_getElem? (i := 1) rfl)) e253 (g := (mkF m 66 #[.val (.int p0), .val (.int p1), .val (.int p2), .val (.int p3), .val (.int ci220), .val (.int ci223), .val (.ref b227), .unset, .unset, .unset, .unset, .unset, .unset, .unset] [(.int (3 : Int32))])) rfl (hb hby at_66) rfl (by decide) (cap := 3) (by decide) (by decide) (by decide) (by decide)
  obtain ⟨b259, eb259⟩ : ∃ z, z = h253.size := ⟨_, rfl⟩
  rw [← eb259] at Ar258 st258
  have ne260 : b227 ≠ b259 := own_ne eb259 V256.lt
  have g261 : n0 ≤ b259 := by rw [eb259]; exact Z257
  have gh262 : h0.size ≤ b259 := by rw [eb259]; exact K255.1
  have K263 : Keep h0 h258 [] := K255.ext E258
  have V264 : Dar Z h258 b227 .boolean 3 (fun j => if j = 2 then .int v250 else (fun j => if j = 1 then .int v242 else (fun j => if j = 0 then .int v234 else (fun _ => .int (0 : Int32)) j) j) j) := Dar.ext E258 V256
  have Z265 : n0 ≤ h258.size := Nat.le_trans Z257 E258.1
  have V266 : Dar Z h258 b259 .boolean 3 (fun _ => .int (0 : Int32)) := Dar.new Ar258 (by decide)
  refine Go.of (g' := (mkF m 68 #[.val (.int p0), .val (.int p1), .val (.int p2), .val (.int p3), .val (.int ci220), .val (.int ci223), .val (.ref b227), .unset, .unset, .unset, .unset, .unset, .unset, .unset] [(.ref b259)])) st258 ?_
  have A267 := (⟨X258, hx, hby⟩ : Ax _ _ _ _ _ _ _ _ _ _ _ _ _ _ _)
  refine g_dup A267 at_68 rfl (pc' := 69) rfl ?_
  refine g_iconst A267 at_69 (v := (0 : Int32)) rfl (pc' := 70) rfl ?_
  refine g_iloadN A267 at_70 rfl (pc' := 71) rfl ?_
  refine g_iconst A267 at_71 (v := (1 : Int32)) rfl (pc' := 72) rfl ?_
  refine g_iand A267 at_72 (pc' := 73) rfl ?_
  obtain ⟨v268, hv268⟩ : ∃ z : Int32, z = if ¬ ((p3 &&& (1 : Int32)) = 0) then (1 : Int32) else 0 := ⟨_, rfl⟩
  have sg269 : ∀ {P : State → Outcome → Prop}, Go p e below P T258 (mkF m 81 #[.val (.int p0), .val (.int p1), .val (.int p2), .val (.int p3), .val (.int ci220), .val (.int ci223), .val (.ref b227), .unset, .unset, .unset, .unset, .unset, .unset, .unset] [(.int v268), (.int (0 : Int32)), (.ref b259), (.ref b259)]) → Go p e below P T258 (mkF m 73 #[.val (.int p0), .val (.int p1), .val (.int p2), .val (.int p3), .val (.int ci220), .val (.int ci223), .val (.ref b227), .unset, .unset, .unset, .unset, .unset, .unset, .unset] [(.int (p3 &&& (1 : Int32))), (.int (0 : Int32)), (.ref b259), (.ref b259)]) := by
    intro P hr
    by_cases c270 : (p3 &&& (1 : Int32)) = 0
    · skip
      refine g_ifY A267 at_73 (c0_eq_t c270) (pc' := 80) rfl ?_
      refine g_iconst A267 at_80 (v := (0 : Int32)) rfl (pc' := 81) rfl ?_
      obtain rfl : v268 = (0 : Int32) := hv268.trans (if_neg (fun q => q c270))
      exact hr
    · skip
      refine g_ifN A267 at_73 (c0_eq_f c270) (pc' := 76) rfl ?_
      refine g_iconst A267 at_76 (v := (1 : Int32)) rfl (pc' := 77) rfl ?_
      refine g_goto A267 at_77 (pc' := 81) rfl ?_
      obtain rfl : v268 = (1 : Int32) := hv268.trans (if_pos c270)
      exact hr
  refine sg269 ?_
  obtain ⟨T271, h271, A271, e271, W271, st271⟩ := s_zastore A267 hZ e258 (ls := #[.val (.int p0), .val (.int p1), .val (.int p2), .val (.int p3), .val (.int ci220), .val (.int ci223), .val (.ref b227), .unset, .unset, .unset, .unset, .unset, .unset, .unset]) (st := [(.ref b259)]) (x := v268) V266 (i := 0) (by decide) (j := (0 : Int32)) rfl (own_b01 hv268) at_81 (pc' := 82) rfl
  have N272 := Fr.snoc A271.1 N254 g261
  have K273 : Keep h0 h271 [] := K263.wr W271 (Or.inr gh262)
  have V274 : Dar Z h271 b227 .boolean 3 (fun j => if j = 2 then .int v250 else (fun j => if j = 1 then .int v242 else (fun j => if j = 0 then .int v234 else (fun _ => .int (0 : Int32)) j) j) j) := Dar.other W271 V264 ne260
  have V275 : Dar Z h271 b259 .boolean 3 (fun j => if j = 0 then .int v268 else (fun _ => .int (0 : Int32)) j) := Dar.set V266 W271 (fun _ _ => rfl)
  have Z276 : n0 ≤ h271.size := by rw [W271.size]; exact Z265
  refine st271 ?_
  refine g_dup A271 at_82 rfl (pc' := 83) rfl ?_
  refine g_iconst A271 at_83 (v := (1 : Int32)) rfl (pc' := 84) rfl ?_
  refine g_iloadN A271 at_84 rfl (pc' := 85) rfl ?_
  refine g_iconst A271 at_85 (v := (2 : Int32)) rfl (pc' := 86) rfl ?_
  refine g_iand A271 at_86 (pc' := 87) rfl ?_
  obtain ⟨v277, hv277⟩ : ∃ z : Int32, z = if ¬ ((p3 &&& (2 : Int32)) = 0) then (1 : Int32) else 0 := ⟨_, rfl⟩
  have sg278 : ∀ {P : State → Outcome → Prop}, Go p e below P T271 (mkF m 95 #[.val (.int p0), .val (.int p1), .val (.int p2), .val (.int p3), .val (.int ci220), .val (.int ci223), .val (.ref b227), .unset, .unset, .unset, .unset, .unset, .unset, .unset] [(.int v277), (.int (1 : Int32)), (.ref b259), (.ref b259)]) → Go p e below P T271 (mkF m 87 #[.val (.int p0), .val (.int p1), .val (.int p2), .val (.int p3), .val (.int ci220), .val (.int ci223), .val (.ref b227), .unset, .unset, .unset, .unset, .unset, .unset, .unset] [(.int (p3 &&& (2 : Int32))), (.int (1 : Int32)), (.ref b259), (.ref b259)]) := by
    intro P hr
    by_cases c279 : (p3 &&& (2 : Int32)) = 0
    · skip
      refine g_ifY A271 at_87 (c0_eq_t c279) (pc' := 94) rfl ?_
      refine g_iconst A271 at_94 (v := (0 : Int32)) rfl (pc' := 95) rfl ?_
      obtain rfl : v277 = (0 : Int32) := hv277.trans (if_neg (fun q => q c279))
      exact hr
    · skip
      refine g_ifN A271 at_87 (c0_eq_f c279) (pc' := 90) rfl ?_
      refine g_iconst A271 at_90 (v := (1 : Int32)) rfl (pc' := 91) rfl ?_
      refine g_goto A271 at_91 (pc' := 95) rfl ?_
      obtain rfl : v277 = (1 : Int32) := hv277.trans (if_pos c279)
      exact hr
  refine sg278 ?_
  obtain ⟨T280, h280, A280, e280, W280, st280⟩ := s_zastore A271 hZ e271 (ls := #[.val (.int p0), .val (.int p1), .val (.int p2), .val (.int p3), .val (.int ci220), .val (.int ci223), .val (.ref b227), .unset, .unset, .unset, .unset, .unset, .unset, .unset]) (st := [(.ref b259)]) (x := v277) V275 (i := 1) (by decide) (j := (1 : Int32)) rfl (own_b01 hv277) at_95 (pc' := 96) rfl
  have N281 := Fr.snoc A280.1 N272 g261
  have K282 : Keep h0 h280 [] := K273.wr W280 (Or.inr gh262)
  have V283 : Dar Z h280 b227 .boolean 3 (fun j => if j = 2 then .int v250 else (fun j => if j = 1 then .int v242 else (fun j => if j = 0 then .int v234 else (fun _ => .int (0 : Int32)) j) j) j) := Dar.other W280 V274 ne260
  have V284 : Dar Z h280 b259 .boolean 3 (fun j => if j = 1 then .int v277 else (fun j => if j = 0 then .int v268 else (fun _ => .int (0 : Int32)) j) j) := Dar.set V275 W280 (fun _ _ => rfl)
  have Z285 : n0 ≤ h280.size := by rw [W280.size]; exact Z276
  refine st280 ?_
  refine g_dup A280 at_96 rfl (pc' := 97) rfl ?_
  refine g_iconst A280 at_97 (v := (2 : Int32)) rfl (pc' := 98) rfl ?_
  refine g_iloadN A280 at_98 rfl (pc' := 99) rfl ?_
  refine g_iconst A280 at_99 (v := (4 : Int32)) rfl (pc' := 100) rfl ?_
  refine g_iand A280 at_100 (pc' := 101) rfl ?_
  obtain ⟨v286, hv286⟩ : ∃ z : Int32, z = if ¬ ((p3 &&& (4 : Int32)) = 0) then (1 : Int32) else 0 := ⟨_, rfl⟩
  have sg287 : ∀ {P : State → Outcome → Prop}, Go p e below P T280 (mkF m 109 #[.val (.int p0), .val (.int p1), .val (.int p2), .val (.int p3), .val (.int ci220), .val (.int ci223), .val (.ref b227), .unset, .unset, .unset, .unset, .unset, .unset, .unset] [(.int v286), (.int (2 : Int32)), (.ref b259), (.ref b259)]) → Go p e below P T280 (mkF m 101 #[.val (.int p0), .val (.int p1), .val (.int p2), .val (.int p3), .val (.int ci220), .val (.int ci223), .val (.ref b227), .unset, .unset, .unset, .unset, .unset, .unset, .unset] [(.int (p3 &&& (4 : Int32))), (.int (2 : Int32)), (.ref b259), (.ref b259)]) := by
    intro P hr
    by_cases c288 : (p3 &&& (4 : Int32)) = 0
    · skip
      refine g_ifY A280 at_101 (c0_eq_t c288) (pc' := 108) rfl ?_
      refine g_iconst A280 at_108 (v := (0 : Int32)) rfl (pc' := 109) rfl ?_
      obtain rfl : v286 = (0 : Int32) := hv286.trans (if_neg (fun q => q c288))
      exact hr
    · skip
      refine g_ifN A280 at_101 (c0_eq_f c288) (pc' := 104) rfl ?_
      refine g_iconst A280 at_104 (v := (1 : Int32)) rfl (pc' := 105) rfl ?_
      refine g_goto A280 at_105 (pc' := 109) rfl ?_
      obtain rfl : v286 = (1 : Int32) := hv286.trans (if_pos c288)
      exact hr
  refine sg287 ?_
  obtain ⟨T289, h289, A289, e289, W289, st289⟩ := s_zastore A280 hZ e280 (ls := #[.val (.int p0), .val (.int p1), .val (.int p2), .val (.int p3), .val (.int ci220), .val (.int ci223), .val (.ref b227), .unset, .unset, .unset, .unset, .unset, .unset, .unset]) (st := [(.ref b259)]) (x := v286) V284 (i := 2) (by decide) (j := (2 : Int32)) rfl (own_b01 hv286) at_109 (pc' := 110) rfl
  have N290 := Fr.snoc A289.1 N281 g261
  have K291 : Keep h0 h289 [] := K282.wr W289 (Or.inr gh262)
  have V292 : Dar Z h289 b227 .boolean 3 (fun j => if j = 2 then .int v250 else (fun j => if j = 1 then .int v242 else (fun j => if j = 0 then .int v234 else (fun _ => .int (0 : Int32)) j) j) j) := Dar.other W289 V283 ne260
  have V293 : Dar Z h289 b259 .boolean 3 (fun j => if j = 2 then .int v286 else (fun j => if j = 1 then .int v277 else (fun j => if j = 0 then .int v268 else (fun _ => .int (0 : Int32)) j) j) j) := Dar.set V284 W289 (fun _ _ => rfl)
  have Z294 : n0 ≤ h289.size := by rw [W289.size]; exact Z285
  refine st289 ?_
  refine g_astore A289 at_110 rfl (ls' := #[.val (.int p0), .val (.int p1), .val (.int p2), .val (.int p3), .val (.int ci220), .val (.int ci223), .val (.ref b227), .val (.ref b259), .unset, .unset, .unset, .unset, .unset, .unset]) rfl (pc' := 112) rfl ?_
  refine g_iloadN A289 at_112 rfl (pc' := 113) rfl ?_
  refine g_iconst A289 at_113 (v := (1 : Int32)) rfl (pc' := 114) rfl ?_
  refine g_iand A289 at_114 (pc' := 115) rfl ?_
  refine g_iloadN A289 at_115 rfl (pc' := 116) rfl ?_
  refine g_iconst A289 at_116 (v := (1 : Int32)) rfl (pc' := 117) rfl ?_
  refine g_ishr A289 at_117 (pc' := 118) rfl ?_
  refine g_iconst A289 at_118 (v := (1 : Int32)) rfl (pc' := 119) rfl ?_
  refine g_iand A289 at_119 (pc' := 120) rfl ?_
  refine g_iadd A289 at_120 (pc' := 121) rfl ?_
  refine g_iloadN A289 at_121 rfl (pc' := 122) rfl ?_
  refine g_iconst A289 at_122 (v := (2 : Int32)) rfl (pc' := 123) rfl ?_
  refine g_ishr A289 at_123 (pc' := 124) rfl ?_
  refine g_iconst A289 at_124 (v := (1 : Int32)) rfl (pc' := 125) rfl ?_
  refine g_iand A289 at_125 (pc' := 126) rfl ?_
  refine g_iadd A289 at_126 (pc' := 127) rfl ?_
  obtain ⟨n295, hn295⟩ : ∃ z : Int32, z = (((p1 &&& (1 : Int32)) + ((p1 >>> ((1 : Int32) &&& 31)) &&& (1 : Int32))) + ((p1 >>> ((2 : Int32) &&& 31)) &&& (1 : Int32))) := ⟨_, rfl⟩
  rw [← hn295]
  have hn296 : own_c3 v234 v242 v250 = n295 := by rw [hn295]; exact own_cnt p1 _ _ _ hv234 hv242 hv250
  refine g_istore A289 at_127 (ls' := #[.val (.int p0), .val (.int p1), .val (.int p2), .val (.int p3), .val (.int ci220), .val (.int ci223), .val (.ref b227), .val (.ref b259), .val (.int n295), .unset, .unset, .unset, .unset, .unset]) rfl (pc' := 129) rfl ?_
  refine g_iloadN A289 at_129 rfl (pc' := 130) rfl ?_
  refine g_iconst A289 at_130 (v := (1 : Int32)) rfl (pc' := 131) rfl ?_
  refine g_iand A289 at_131 (pc' := 132) rfl ?_
  refine g_iloadN A289 at_132 rfl (pc' := 133) rfl ?_
  refine g_iconst A289 at_133 (v := (1 : Int32)) rfl (pc' := 134) rfl ?_
  refine g_ishr A289 at_134 (pc' := 135) rfl ?_
  refine g_iconst A289 at_135 (v := (1 : Int32)) rfl (pc' := 136) rfl ?_
  refine g_iand A289 at_136 (pc' := 137) rfl ?_
  refine g_iadd A289 at_137 (pc' := 138) rfl ?_
  refine g_iloadN A289 at_138 rfl (pc' := 139) rfl ?_
  refine g_iconst A289 at_139 (v := (2 : Int32)) rfl (pc' := 140) rfl ?_
  refine g_ishr A289 at_140 (pc' := 141) rfl ?_
  refine g_iconst A289 at_141 (v := (1 : Int32)) rfl (pc' := 142) rfl ?_
  refine g_iand A289 at_142 (pc' := 143) rfl ?_
  refine g_iadd A289 at_143 (pc' := 144) rfl ?_
  obtain ⟨n297, hn297⟩ : ∃ z : Int32, z = (((p3 &&& (1 : Int32)) + ((p3 >>> ((1 : Int32) &&& 31)) &&& (1 : Int32))) + ((p3 >>> ((2 : Int32) &&& 31)) &&& (1 : Int32))) := ⟨_, rfl⟩
  rw [← hn297]
  have hn298 : own_c3 v268 v277 v286 = n297 := by rw [hn297]; exact own_cnt p3 _ _ _ hv268 hv277 hv286
  refine g_istore A289 at_144 (ls' := #[.val (.int p0), .val (.int p1), .val (.int p2), .val (.int p3), .val (.int ci220), .val (.int ci223), .val (.ref b227), .val (.ref b259), .val (.int n295), .val (.int n297), .unset, .unset, .unset, .unset]) rfl (pc' := 146) rfl ?_
  obtain ⟨T299, h299, X299, e299, E299, EA299, D299, -, st299⟩ := newO A289.1 hx hZ hown (hw _ (List.mem_of_getElem? (i := 2) rfl)) (hw _ (List.mem_of_getElem? (i := 3) rfl)) (hw _ (List.mem_of_getElem? (i := 4) rfl)) e289 (g := (mkF m 146 #[.val (.int p0), .val (.int p1), .val (.int p2), .val (.int p3), .val (.int ci220), .val (.int ci223), .val (.ref b227), .val (.ref b259), .val (.int n295), .val (.int n297), .unset, .unset, .unset, .unset] [])) rfl (hb hby at_146) (by decide) (by decide)
  obtain ⟨a300, ea300⟩ : ∃ z, z = h289.size := ⟨_, rfl⟩
  rw [← ea300] at EA299 D299 st299
  have ne301 : b227 ≠ a300 := own_ne ea300 V292.lt
  have ne302 : b259 ≠ a300 := own_ne ea300 V293.lt
  have g303 : n0 ≤ a300 := by rw [ea300]; exact Z294
  have gh304 : h0.size ≤ a300 := by rw [ea300]; exact K291.1
  have K305 : Keep h0 h299 [] := K291.ext E299
  have V306 : Dar Z h299 b227 .boolean 3 (fun j => if j = 2 then .int v250 else (fun j => if j = 1 then .int v242 else (fun j => if j = 0 then .int v234 else (fun _ => .int (0 : Int32)) j) j) j) := Dar.ext E299 V292
  have V307 : Dar Z h299 b259 .boolean 3 (fun j => if j = 2 then .int v286 else (fun j => if j = 1 then .int v277 else (fun j => if j = 0 then .int v268 else (fun _ => .int (0 : Int32)) j) j) j) := Dar.ext E299 V293
  have Z308 : n0 ≤ h299.size := Nat.le_trans Z294 E299.1
  have F309 : Fld Z h299 a300 "com/example/swathloom/swathloom/planning/Member" "plan" "Lcom/example/swathloom/swathloom/planning/Plan;" .null := D299 (Or.inr (hw _ (List.mem_of_getElem? (i := 34) rfl))) (ty := (.object "com/example/swathloom/swathloom/planning/Plan")) (by decide)
  have F310 : Fld Z h299 a300 "com/example/swathloom/swathloom/planning/Member" "coverage" "D" (.double (0 : UInt64)) := D299 (Or.inr (hw _ (List.mem_of_getElem? (i := 36) rfl))) (ty := .double) (by decide)
  refine Go.of (g' := (mkF m 149 #[.val (.int p0), .val (.int p1), .val (.int p2), .val (.int p3), .val (.int ci220), .val (.int ci223), .val (.ref b227), .val (.ref b259), .val (.int n295), .val (.int n297), .unset, .unset, .unset, .unset] [(.ref a300)])) st299 ?_
  have A311 := (⟨X299, hx, hby⟩ : Ax _ _ _ _ _ _ _ _ _ _ _ _ _ _ _)
  refine g_dup A311 at_149 rfl (pc' := 150) rfl ?_
  obtain ⟨T312, h312, X312, e312, E312, EA312, D312, -, st312⟩ := newO X299 hx hZ hown (hw _ (List.mem_of_getElem? (i := 5) rfl)) (hw _ (List.mem_of_getElem? (i := 6) rfl)) (hw _ (List.mem_of_getElem? (i := 7) rfl)) e299 (g := (mkF m 150 #[.val (.int p0), .val (.int p1), .val (.int p2), .val (.int p3), .val (.int ci220), .val (.int ci223), .val (.ref b227), .val (.ref b259), .val (.int n295), .val (.int n297), .unset, .unset, .unset, .unset] [(.ref a300), (.ref a300)])) rfl (hb hby at_150) (by decide) (by decide)
  obtain ⟨a313, ea313⟩ : ∃ z, z = h299.size := ⟨_, rfl⟩
  rw [← ea313] at EA312 D312 st312
  have ne314 : a300 ≠ a313 := own_ne ea313 EA299.lt
  have ne315 : b227 ≠ a313 := own_ne ea313 V306.lt
  have ne316 : b259 ≠ a313 := own_ne ea313 V307.lt
  have g317 : n0 ≤ a313 := by rw [ea313]; exact Z308
  have gh318 : h0.size ≤ a313 := by rw [ea313]; exact K305.1
  have K319 : Keep h0 h312 [] := K305.ext E312
  have V320 : Dar Z h312 b227 .boolean 3 (fun j => if j = 2 then .int v250 else (fun j => if j = 1 then .int v242 else (fun j => if j = 0 then .int v234 else (fun _ => .int (0 : Int32)) j) j) j) := Dar.ext E312 V306
  have V321 : Dar Z h312 b259 .boolean 3 (fun j => if j = 2 then .int v286 else (fun j => if j = 1 then .int v277 else (fun j => if j = 0 then .int v268 else (fun _ => .int (0 : Int32)) j) j) j) := Dar.ext E312 V307
  have E322 : Exa Z h312 a300 "com/example/swathloom/swathloom/planning/Member" := Exa.ext E312 EA299
  have F323 : Fld Z h312 a300 "com/example/swathloom/swathloom/planning/Member" "plan" "Lcom/example/swathloom/swathloom/planning/Plan;" .null := Fld.ext E312 F309
  have F324 : Fld Z h312 a300 "com/example/swathloom/swathloom/planning/Member" "coverage" "D" (.double (0 : UInt64)) := Fld.ext E312 F310
  have Z325 : n0 ≤ h312.size := Nat.le_trans Z308 E312.1
  have F326 : Fld Z h312 a313 "com/example/swathloom/swathloom/planning/Plan" "rolls" "[D" .null := D312 (Or.inr (hw _ (List.mem_of_getElem? (i := 19) rfl))) (ty := (.array .double)) (by decide)
  have F327 : Fld Z h312 a313 "com/example/swathloom/swathloom/planning/Plan" "used" "[Z" .null := D312 (Or.inr (hw _ (List.mem_of_getElem? (i := 21) rfl))) (ty := (.array .boolean)) (by decide)
  have F328 : Fld Z h312 a313 "com/example/swathloom/swathloom/planning/Plan" "rollVelocities" "[D" .null := D312 (Or.inr (hw _ (List.mem_of_getElem? (i := 23) rfl))) (ty := (.array .double)) (by decide)
  have F329 : Fld Z h312 a313 "com/example/swathloom/swathloom/planning/Plan" "selectionVelocities" "[D" .null := D312 (Or.inr (hw _ (List.mem_of_getElem? (i := 25) rfl))) (ty := (.array .double)) (by decide)
  have F330 : Fld Z h312 a313 "com/example/swathloom/swathloom/planning/Plan" "strips" "I" (.int (0 : Int32)) := D312 (Or.inr (hw _ (List.mem_of_getElem? (i := 27) rfl))) (ty := .int) (by decide)
  refine Go.of (g' := (mkF m 153 #[.val (.int p0), .val (.int p1), .val (.int p2), .val (.int p3), .val (.int ci220), .val (.int ci223), .val (.ref b227), .val (.ref b259), .val (.int n295), .val (.int n297), .unset, .unset, .unset, .unset] [(.ref a313), (.ref a300), (.ref a300)])) st312 ?_
  have A331 := (⟨X312, hx, hby⟩ : Ax _ _ _ _ _ _ _ _ _ _ _ _ _ _ _)
  refine g_dup A331 at_153 rfl (pc' := 154) rfl ?_
  refine g_iconst A331 at_154 (v := (3 : Int32)) rfl (pc' := 155) rfl ?_
  obtain ⟨T332, h332, k332, X332, e332, E332, Ar332, st332⟩ := newP X312 hx hZ (hw _ (List.mem_of_getElem? (i := 8) rfl)) e312 (g := (mkF m 155 #[.val (.int p0), .val (.int p1), .val (.int p2), .val (.int p3), .val (.int ci220), .val (.int ci223), .val (.ref b227), .val (.ref b259), .val (.int n295), .val (.int n297), .unset, .unset, .unset, .unset] [(.int (3 : Int32)), (.ref a313), (.ref a313), (.ref a300), (.ref a300)])) rfl (hb hby at_155) rfl (by decide) (cap := 3) (by decide) (by decide) (by decide) (by decide)
  obtain ⟨b333, eb333⟩ : ∃ z, z = h312.size := ⟨_, rfl⟩
  rw [← eb333] at Ar332 st332
  have ne334 : a300 ≠ b333 := own_ne eb333 E322.lt
  have ne335 : a313 ≠ b333 := own_ne eb333 EA312.lt
  have ne336 : b227 ≠ b333 := own_ne eb333 V320.lt
  have ne337 : b259 ≠ b333 := own_ne eb333 V321.lt
  have g338 : n0 ≤ b333 := by rw [eb333]; exact Z325
  have gh339 : h0.size ≤ b333 := by rw [eb333]; exact K319.1
  have K340 : Keep h0 h332 [] := K319.ext E332
  have V341 : Dar Z h332 b227 .boolean 3 (fun j => if j = 2 then .int v250 else (fun j => if j = 1 then .int v242 else (fun j => if j = 0 then .int v234 else (fun _ => .int (0 : Int32)) j) j) j) := Dar.ext E332 V320
  have V342 : Dar Z h332 b259 .boolean 3 (fun j => if j = 2 then .int v286 else (fun j => if j = 1 then .int v277 else (fun j => if j = 0 then .int v268 else (fun _ => .int (0 : Int32)) j) j) j) := Dar.ext E332 V321
  have E343 : Exa Z h332 a300 "com/example/swathloom/swathloom/planning/Member" := Exa.ext E332 E322
  have F344 : Fld Z h332 a300 "com/example/swathloom/swathloom/planning/Member" "plan" "Lcom/example/swathloom/swathloom/planning/Plan;" .null := Fld.ext E332 F323
  have F345 : Fld Z h332 a300 "com/example/swathloom/swathloom/planning/Member" "coverage" "D" (.double (0 : UInt64)) := Fld.ext E332 F324
  have E346 : Exa Z h332 a313 "com/example/swathloom/swathloom/planning/Plan" := Exa.ext E332 EA312
  have F347 : Fld Z h332 a313 "com/example/swathloom/swathloom/planning/Plan" "rolls" "[D" .null := Fld.ext E332 F326
  have F348 : Fld Z h332 a313 "com/example/swathloom/swathloom/planning/Plan" "used" "[Z" .null := Fld.ext E332 F327
  have F349 : Fld Z h332 a313 "com/example/swathloom/swathloom/planning/Plan" "rollVelocities" "[D" .null := Fld.ext E332 F328
  have F350 : Fld Z h332 a313 "com/example/swathloom/swathloom/planning/Plan" "selectionVelocities" "[D" .null := Fld.ext E332 F329
  have F351 : Fld Z h332 a313 "com/example/swathloom/swathloom/planning/Plan" "strips" "I" (.int (0 : Int32)) := Fld.ext E332 F330
  have Z352 : n0 ≤ h332.size := Nat.le_trans Z325 E332.1
  have V353 : Dar Z h332 b333 .double 3 (fun _ => .double (0 : UInt64)) := Dar.new Ar332 (by decide)
  refine Go.of (g' := (mkF m 157 #[.val (.int p0), .val (.int p1), .val (.int p2), .val (.int p3), .val (.int ci220), .val (.int ci223), .val (.ref b227), .val (.ref b259), .val (.int n295), .val (.int n297), .unset, .unset, .unset, .unset] [(.ref b333), (.ref a313), (.ref a313), (.ref a300), (.ref a300)])) st332 ?_
  have A354 := (⟨X332, hx, hby⟩ : Ax _ _ _ _ _ _ _ _ _ _ _ _ _ _ _)
  refine g_aload A354 at_157 rfl rfl (pc' := 159) rfl ?_
  obtain ⟨_, _, ⟨T355, L355, k355, n355⟩, -, X355, ⟨L355c, hQ355, l355, y355, z355⟩, st355⟩ := X332.specialBack hx (y := (⟨"com/example/swathloom/swathloom/planning/Plan", "<init>", "([D[Z)V"⟩ : MethodName)) rfl hown (mvT hZ (hw _ (List.mem_of_getElem? (i := 9) rfl))) (mvT hZ (hw _ (List.mem_of_getElem? (i := 10) rfl))) (mvT hZ (hw _ (List.mem_of_getElem? (i := 11) rfl))) (by decide) (backOf (W := 3) (rm1 l Z a0 hw [] a313 b333 b227 (fun _ => .double (0 : UInt64)) (fun j => if j = 2 then .int v250 else (fun j => if j = 1 then .int v242 else (fun j => if j = 0 then .int v234 else (fun _ => .int (0 : Int32)) j) j) j) v234 v242 v250 .null .null .null .null (.int (0 : Int32)) h332 n0 Z352 E346 F347 F348 F349 F350 F351 g317 V353 V341 (Ne.symm ne335) ne315 rfl rfl rfl) hZ (hw _ (List.mem_of_getElem? (i := 11) rfl)) (hw _ (List.mem_of_getElem? (i := 7) rfl)) (by decide) (by decide)) (g := (mkF m 159 #[.val (.int p0), .val (.int p1), .val (.int p2), .val (.int p3), .val (.int ci220), .val (.int ci223), .val (.ref b227), .val (.ref b259), .val (.int n295), .val (.int n297), .unset, .unset, .unset, .unset] [(.ref b227), (.ref b333), (.ref a313), (.ref a313), (.ref a300), (.ref a300)])) rfl (by rw [hml]; rfl) (Steps.refl _) (a := a313) (argsL := [(.ref b333), (.ref b227)]) (rest := [(.ref a313), (.ref a300), (.ref a300)]) (lenOf pd_2 rfl) rfl (by show 2 * 0 + _ ≤ _; exact Nat.le_of_eq rfl) (hb hby at_159) (fun _ _ => ⟨rfl, e332, (by decide : 5 + 0 ≤ _), (by decide : 18 + 0 ≤ _)⟩)
  dsimp only [Pt.U, Pt.locs, Pt.cells, Pt.slots] at X355 l355 y355 z355 st355 hQ355
  subst l355 y355 z355
  obtain ⟨rfl, Nq356, Kq357, F358⟩ := hQ355
  have N359 := Fr.app N290 Nq356
  refine Go.tr (g' := (mkF m 162 #[.val (.int p0), .val (.int p1), .val (.int p2), .val (.int p3), .val (.int ci220), .val (.int ci223), .val (.ref b227), .val (.ref b259), .val (.int n295), .val (.int n297), .unset, .unset, .unset, .unset] [(.ref a313), (.ref a300), (.ref a300)])) st355 ?_
  have V360 : Dar Z T355.heap b227 .boolean 3 (fun j => if j = 2 then .int v250 else (fun j => if j = 1 then .int v242 else (fun j => if j = 0 then .int v234 else (fun _ => .int (0 : Int32)) j) j) j) := Dar.keep V341 Kq357 (ninS ne315 nin0)
  have V361 : Dar Z T355.heap b259 .boolean 3 (fun j => if j = 2 then .int v286 else (fun j => if j = 1 then .int v277 else (fun j => if j = 0 then .int v268 else (fun _ => .int (0 : Int32)) j) j) j) := Dar.keep V342 Kq357 (ninS ne316 nin0)
  have E362 : Exa Z T355.heap a300 "com/example/swathloom/swathloom/planning/Member" := Exa.keep E343 Kq357
  have F363 : Fld Z T355.heap a300 "com/example/swathloom/swathloom/planning/Member" "plan" "Lcom/example/swathloom/swathloom/planning/Plan;" .null := Fld.keep F344 Kq357 (ninS ne314 nin0)
  have F364 : Fld Z T355.heap a300 "com/example/swathloom/swathloom/planning/Member" "coverage" "D" (.double (0 : UInt64)) := Fld.keep F345 Kq357 (ninS ne314 nin0)
  have E365 : Exa Z T355.heap a313 "com/example/swathloom/swathloom/planning/Plan" := Exa.keep E346 Kq357
  have V366 : Dar Z T355.heap b333 .double 3 (fun _ => .double (0 : UInt64)) := Dar.keep V353 Kq357 (ninS (Ne.symm ne335) nin0)
  have Z367 : n0 ≤ T355.heap.size := Nat.le_trans Z352 Kq357.1
  have K368 : Keep h0 T355.heap [] := K340.trans Kq357 (allS (Or.inr gh318) all0)
  have A369 := (⟨X355, hx, hby⟩ : Ax _ _ _ _ _ _ _ _ _ _ _ _ _ _ _)
  rw [hn296] at F358
  refine g_iload A369 at_162 rfl (pc' := 164) rfl ?_
  refine g_i2d A369 at_164 (pc' := 165) rfl ?_
  refine g_ldcD A369 hZ hown (hw _ (List.mem_of_getElem? (i := 28) rfl)) at_165 (pc' := 168) rfl ?_
  refine g_ddiv A369 at_168 (own_nn _) (pc' := 169) rfl ?_
  obtain ⟨_, _, ⟨T370, L370, k370, n370⟩, -, X370, ⟨L370c, hQ370, l370, y370, z370⟩, st370⟩ := X355.specialBack hx (y := (⟨"com/example/swathloom/swathloom/planning/Member", "<init>", "(Lcom/example/swathloom/swathloom/planning/Plan;D)V"⟩ : MethodName)) rfl hown (mvT hZ (hw _ (List.mem_of_getElem? (i := 29) rfl))) (mvT hZ (hw _ (List.mem_of_getElem? (i := 30) rfl))) (mvT hZ (hw _ (List.mem_of_getElem? (i := 31) rfl))) (by decide) (backOf (W := 1) (rm4 l Z a0 hw [] a300 a313 (FP.ddiv (FP.i2d ci220) (4620693217682128896 : UInt64)) .null (.double (0 : UInt64)) T355.heap n0 Z367 E362 F363 F364 g303) hZ (hw _ (List.mem_of_getElem? (i := 31) rfl)) (hw _ (List.mem_of_getElem? (i := 4) rfl)) (by decide) (by decide)) (g := (mkF m 169 #[.val (.int p0), .val (.int p1), .val (.int p2), .val (.int p3), .val (.int ci220), .val (.int ci223), .val (.ref b227), .val (.ref b259), .val (.int n295), .val (.int n297), .unset, .unset, .unset, .unset] [(.double (FP.ddiv (FP.i2d ci220) (4620693217682128896 : UInt64))), (.ref a313), (.ref a300), (.ref a300)])) rfl (by rw [hml]; rfl) (Steps.refl _) (a := a300) (argsL := [(.ref a313), (.double (FP.ddiv (FP.i2d ci220) (4620693217682128896 : UInt64)))]) (rest := [(.ref a300)]) (lenOf pd_3 rfl) rfl (by show 2 * 0 + _ ≤ _; exact Nat.le_of_eq rfl) (hb hby at_169) (fun _ _ => ⟨rfl, rfl, (by decide : 5 + 0 ≤ _), (by decide : 18 + 0 ≤ _)⟩)
  dsimp only [Pt.U, Pt.locs, Pt.cells, Pt.slots] at X370 l370 y370 z370 st370 hQ370
  subst l370 y370 z370
  obtain ⟨rfl, Nq371, Kq372, F373, F374⟩ := hQ370
  have N375 := Fr.app N359 Nq371
  refine Go.tr (g' := (mkF m 172 #[.val (.int p0), .val (.int p1), .val (.int p2), .val (.int p3), .val (.int ci220), .val (.int ci223), .val (.ref b227), .val (.ref b259), .val (.int n295), .val (.int n297), .unset, .unset, .unset, .unset] [(.ref a300)])) st370 ?_
  have V376 : Dar Z T370.heap b227 .boolean 3 (fun j => if j = 2 then .int v250 else (fun j => if j = 1 then .int v242 else (fun j => if j = 0 then .int v234 else (fun _ => .int (0 : Int32)) j) j) j) := Dar.keep V360 Kq372 (ninS ne301 nin0)
  have V377 : Dar Z T370.heap b259 .boolean 3 (fun j => if j = 2 then .int v286 else (fun j => if j = 1 then .int v277 else (fun j => if j = 0 then .int v268 else (fun _ => .int (0 : Int32)) j) j) j) := Dar.keep V361 Kq372 (ninS ne302 nin0)
  have E378 : Exa Z T370.heap a300 "com/example/swathloom/swathloom/planning/Member" := Exa.keep E362 Kq372
  have E379 : Exa Z T370.heap a313 "com/example/swathloom/swathloom/planning/Plan" := Exa.keep E365 Kq372
  have V380 : Dar Z T370.heap b333 .double 3 (fun _ => .double (0 : UInt64)) := Dar.keep V366 Kq372 (ninS (Ne.symm ne334) nin0)
  have F381 : Fld Z T370.heap a313 "com/example/swathloom/swathloom/planning/Plan" "strips" "I" (.int n295) := Fld.keep F358 Kq372 (ninS (Ne.symm ne314) nin0)
  have Z382 : n0 ≤ T370.heap.size := Nat.le_trans Z367 Kq372.1
  have K383 : Keep h0 T370.heap [] := K368.trans Kq372 (allS (Or.inr gh304) all0)
  have A384 := (⟨X370, hx, hby⟩ : Ax _ _ _ _ _ _ _ _ _ _ _ _ _ _ _)
  refine g_astore A384 at_172 rfl (ls' := #[.val (.int p0), .val (.int p1), .val (.int p2), .val (.int p3), .val (.int ci220), .val (.int ci223), .val (.ref b227), .val (.ref b259), .val (.int n295), .val (.int n297), .val (.ref a300), .unset, .unset, .unset]) rfl (pc' := 174) rfl ?_
  obtain ⟨T385, h385, X385, e385, E385, EA385, D385, -, st385⟩ := newO X370 hx hZ hown (hw _ (List.mem_of_getElem? (i := 2) rfl)) (hw _ (List.mem_of_getElem? (i := 3) rfl)) (hw _ (List.mem_of_getElem? (i := 4) rfl)) rfl (g := (mkF m 174 #[.val (.int p0), .val (.int p1), .val (.int p2), .val (.int p3), .val (.int ci220), .val (.int ci223), .val (.ref b227), .val (.ref b259), .val (.int n295), .val (.int n297), .val (.ref a300), .unset, .unset, .unset] [])) rfl (hb hby at_174) (by decide) (by decide)
  obtain ⟨a386, ea386⟩ : ∃ z, z = T370.heap.size := ⟨_, rfl⟩
  rw [← ea386] at EA385 D385 st385
  have ne387 : a300 ≠ a386 := own_ne ea386 E378.lt
  have ne388 : a313 ≠ a386 := own_ne ea386 E379.lt
  have ne389 : b227 ≠ a386 := own_ne ea386 V376.lt
  have ne390 : b259 ≠ a386 := own_ne ea386 V377.lt
  have ne391 : b333 ≠ a386 := own_ne ea386 V380.lt
  have g392 : n0 ≤ a386 := by rw [ea386]; exact Z382
  have gh393 : h0.size ≤ a386 := by rw [ea386]; exact K383.1
  have K394 : Keep h0 h385 [] := K383.ext E385
  have V395 : Dar Z h385 b227 .boolean 3 (fun j => if j = 2 then .int v250 else (fun j => if j = 1 then .int v242 else (fun j => if j = 0 then .int v234 else (fun _ => .int (0 : Int32)) j) j) j) := Dar.ext E385 V376
  have V396 : Dar Z h385 b259 .boolean 3 (fun j => if j = 2 then .int v286 else (fun j => if j = 1 then .int v277 else (fun j => if j = 0 then .int v268 else (fun _ => .int (0 : Int32)) j) j) j) := Dar.ext E385 V377
  have E397 : Exa Z h385 a300 "com/example/swathloom/swathloom/planning/Member" := Exa.ext E385 E378
  have E398 : Exa Z h385 a313 "com/example/swathloom/swathloom/planning/Plan" := Exa.ext E385 E379
  have V399 : Dar Z h385 b333 .double 3 (fun _ => .double (0 : UInt64)) := Dar.ext E385 V380
  have F400 : Fld Z h385 a313 "com/example/swathloom/swathloom/planning/Plan" "strips" "I" (.int n295) := Fld.ext E385 F381
  have F401 : Fld Z h385 a300 "com/example/swathloom/swathloom/planning/Member" "plan" "Lcom/example/swathloom/swathloom/planning/Plan;" (.ref a313) := Fld.ext E385 F373
  have F402 : Fld Z h385 a300 "com/example/swathloom/swathloom/planning/Member" "coverage" "D" (.double (FP.ddiv (FP.i2d ci220) (4620693217682128896 : UInt64))) := Fld.ext E385 F374
  have Z403 : n0 ≤ h385.size := Nat.le_trans Z382 E385.1
  have F404 : Fld Z h385 a386 "com/example/swathloom/swathloom/planning/Member" "plan" "Lcom/example/swathloom/swathloom/planning/Plan;" .null := D385 (Or.inr (hw _ (List.mem_of_getElem? (i := 34) rfl))) (ty := (.object "com/example/swathloom/swathloom/planning/Plan")) (by decide)
  have F405 : Fld Z h385 a386 "com/example/swathloom/swathloom/planning/Member" "coverage" "D" (.double (0 : UInt64)) := D385 (Or.inr (hw _ (List.mem_of_getElem? (i := 36) rfl))) (ty := .double) (by decide)
  refine Go.of (g' := (mkF m 177 #[.val (.int p0), .val (.int p1), .val (.int p2), .val (.int p3), .val (.int ci220), .val (.int ci223), .val (.ref b227), .val (.ref b259), .val (.int n295), .val (.int n297), .val (.ref a300), .unset, .unset, .unset] [(.ref a386)])) st385 ?_
  have A406 := (⟨X385, hx, hby⟩ : Ax _ _ _ _ _ _ _ _ _ _ _ _ _ _ _)
  refine g_dup A406 at_177 rfl (pc' := 178) rfl ?_
  obtain ⟨T407, h407, X407, e407, E407, EA407, D407, -, st407⟩ := newO X385 hx hZ hown (hw _ (List.mem_of_getElem? (i := 5) rfl)) (hw _ (List.mem_of_getElem? (i := 6) rfl)) (hw _ (List.mem_of_getElem? (i := 7) rfl)) e385 (g := (mkF m 178 #[.val (.int p0), .val (.int p1), .val (.int p2), .val (.int p3), .val (.int ci220), .val (.int ci223), .val (.ref b227), .val (.ref b259), .val (.int n295), .val (.int n297), .val (.ref a300), .unset, .unset, .unset] [(.ref a386), (.ref a386)])) rfl (hb hby at_178) (by decide) (by decide)
  obtain ⟨a408, ea408⟩ : ∃ z, z = h385.size := ⟨_, rfl⟩
  rw [← ea408] at EA407 D407 st407
  have ne409 : a300 ≠ a408 := own_ne ea408 E397.lt
  have ne410 : a313 ≠ a408 := own_ne ea408 E398.lt
  have ne411 : a386 ≠ a408 := own_ne ea408 EA385.lt
  have ne412 : b227 ≠ a408 := own_ne ea408 V395.lt
  have ne413 : b259 ≠ a408 := own_ne ea408 V396.lt
  have ne414 : b333 ≠ a408 := own_ne ea408 V399.lt
  have g415 : n0 ≤ a408 := by rw [ea408]; exact Z403
  have gh416 : h0.size ≤ a408 := by rw [ea408]; exact K394.1
  have K417 : Keep h0 h407 [] := K394.ext E407
  have V418 : Dar Z h407 b227 .boolean 3 (fun j => if j = 2 then .int v250 else (fun j => if j = 1 then .int v242 else (fun j => if j = 0 then .int v234 else (fun _ => .int (0 : Int32)) j) j) j) := Dar.ext E407 V395
  have V419 : Dar Z h407 b259 .boolean 3 (fun j => if j = 2 then .int v286 else (fun j => if j = 1 then .int v277 else (fun j => if j = 0 then .int v268 else (fun _ => .int (0 : Int32)) j) j) j) := Dar.ext E407 V396
  have E420 : Exa Z h407 a300 "com/example/swathloom/swathloom/planning/Member" := Exa.ext E407 E397
  have E421 : Exa Z h407 a313 "com/example/swathloom/swathloom/planning/Plan" := Exa.ext E407 E398
  have V422 : Dar Z h407 b333 .double 3 (fun _ => .double (0 : UInt64)) := Dar.ext E407 V399
  have F423 : Fld Z h407 a313 "com/example/swathloom/swathloom/planning/Plan" "strips" "I" (.int n295) := Fld.ext E407 F400
  have F424 : Fld Z h407 a300 "com/example/swathloom/swathloom/planning/Member" "plan" "Lcom/example/swathloom/swathloom/planning/Plan;" (.ref a313) := Fld.ext E407 F401
  have F425 : Fld Z h407 a300 "com/example/swathloom/swathloom/planning/Member" "coverage" "D" (.double (FP.ddiv (FP.i2d ci220) (4620693217682128896 : UInt64))) := Fld.ext E407 F402
  have E426 : Exa Z h407 a386 "com/example/swathloom/swathloom/planning/Member" := Exa.ext E407 EA385
  have F427 : Fld Z h407 a386 "com/example/swathloom/swathloom/planning/Member" "plan" "Lcom/example/swathloom/swathloom/planning/Plan;" .null := Fld.ext E407 F404
  have F428 : Fld Z h407 a386 "com/example/swathloom/swathloom/planning/Member" "coverage" "D" (.double (0 : UInt64)) := Fld.ext E407 F405
  have Z429 : n0 ≤ h407.size := Nat.le_trans Z403 E407.1
  have F430 : Fld Z h407 a408 "com/example/swathloom/swathloom/planning/Plan" "rolls" "[D" .null := D407 (Or.inr (hw _ (List.mem_of_getElem? (i := 19) rfl))) (ty := (.array .double)) (by decide)
  have F431 : Fld Z h407 a408 "com/example/swathloom/swathloom/planning/Plan" "used" "[Z" .null := D407 (Or.inr (hw _ (List.mem_of_getElem? (i := 21) rfl))) (ty := (.array .boolean)) (by decide)
  have F432 : Fld Z h407 a408 "com/example/swathloom/swathloom/planning/Plan" "rollVelocities" "[D" .null := D407 (Or.inr (hw _ (List.mem_of_getElem? (i := 23) rfl))) (ty := (.array .double)) (by decide)
  have F433 : Fld Z h407 a408 "com/example/swathloom/swathloom/planning/Plan" "selectionVelocities" "[D" .null := D407 (Or.inr (hw _ (List.mem_of_getElem? (i := 25) rfl))) (ty := (.array .double)) (by decide)
  have F434 : Fld Z h407 a408 "com/example/swathloom/swathloom/planning/Plan" "strips" "I" (.int (0 : Int32)) := D407 (Or.inr (hw _ (List.mem_of_getElem? (i := 27) rfl))) (ty := .int) (by decide)
  refine Go.of (g' := (mkF m 181 #[.val (.int p0), .val (.int p1), .val (.int p2), .val (.int p3), .val (.int ci220), .val (.int ci223), .val (.ref b227), .val (.ref b259), .val (.int n295), .val (.int n297), .val (.ref a300), .unset, .unset, .unset] [(.ref a408), (.ref a386), (.ref a386)])) st407 ?_
  have A435 := (⟨X407, hx, hby⟩ : Ax _ _ _ _ _ _ _ _ _ _ _ _ _ _ _)
  refine g_dup A435 at_181 rfl (pc' := 182) rfl ?_
  refine g_iconst A435 at_182 (v := (3 : Int32)) rfl (pc' := 183) rfl ?_
  obtain ⟨T436, h436, k436, X436, e436, E436, Ar436, st436⟩ := newP X407 hx hZ (hw _ (List.mem_of_getElem? (i := 8) rfl)) e407 (g := (mkF m 183 #[.val (.int p0), .val (.int p1), .val (.int p2), .val (.int p3), .val (.int ci220), .val (.int ci223), .val (.ref b227), .val (.ref b259), .val (.int n295), .val (.int n297), .val (.ref a300), .unset, .unset, .unset] [(.int (3 : Int32)), (.ref a408), (.ref a408), (.ref a386), (.ref a386)])) rfl (hb hby at_183) rfl (by decide) (cap := 3) (by decide) (by decide) (by decide) (by decide)
  obtain ⟨b437, eb437⟩ : ∃ z, z = h407.size := ⟨_, rfl⟩
  rw [← eb437] at Ar436 st436
  have ne438 : a300 ≠ b437 := own_ne eb437 E420.lt
  have ne439 : a313 ≠ b437 := own_ne eb437 E421.lt
  have ne440 : a386 ≠ b437 := own_ne eb437 E426.lt
  have ne441 : a408 ≠ b437 := own_ne eb437 EA407.lt
  have ne442 : b227 ≠ b437 := own_ne eb437 V418.lt
  have ne443 : b259 ≠ b437 := own_ne eb437 V419.lt
  have ne444 : b333 ≠ b437 := own_ne eb437 V422.lt
  have g445 : n0 ≤ b437 := by rw [eb437]; exact Z429
  have gh446 : h0.size ≤ b437 := by rw [eb437]; exact K417.1
  have K447 : Keep h0 h436 [] := K417.ext E436
  have V448 : Dar Z h436 b227 .boolean 3 (fun j => if j = 2 then .int v250 else (fun j => if j = 1 then .int v242 else (fun j => if j = 0 then .int v234 else (fun _ => .int (0 : Int32)) j) j) j) := Dar.ext E436 V418
  have V449 : Dar Z h436 b259 .boolean 3 (fun j => if j = 2 then .int v286 else (fun j => if j = 1 then .int v277 else (fun j => if j = 0 then .int v268 else (fun _ => .int (0 : Int32)) j) j) j) := Dar.ext E436 V419
  have E450 : Exa Z h436 a300 "com/example/swathloom/swathloom/planning/Member" := Exa.ext E436 E420
  have E451 : Exa Z h436 a313 "com/example/swathloom/swathloom/planning/Plan" := Exa.ext E436 E421
  have V452 : Dar Z h436 b333 .double 3 (fun _ => .double (0 : UInt64)) := Dar.ext E436 V422
  have F453 : Fld Z h436 a313 "com/example/swathloom/swathloom/planning/Plan" "strips" "I" (.int n295) := Fld.ext E436 F423
  have F454 : Fld Z h436 a300 "com/example/swathloom/swathloom/planning/Member" "plan" "Lcom/example/swathloom/swathloom/planning/Plan;" (.ref a313) := Fld.ext E436 F424
  have F455 : Fld Z h436 a300 "com/example/swathloom/swathloom/planning/Member" "coverage" "D" (.double (FP.ddiv (FP.i2d ci220) (4620693217682128896 : UInt64))) := Fld.ext E436 F425
  have E456 : Exa Z h436 a386 "com/example/swathloom/swathloom/planning/Member" := Exa.ext E436 E426
  have F457 : Fld Z h436 a386 "com/example/swathloom/swathloom/planning/Member" "plan" "Lcom/example/swathloom/swathloom/planning/Plan;" .null := Fld.ext E436 F427
  have F458 : Fld Z h436 a386 "com/example/swathloom/swathloom/planning/Member" "coverage" "D" (.double (0 : UInt64)) := Fld.ext E436 F428
  have E459 : Exa Z h436 a408 "com/example/swathloom/swathloom/planning/Plan" := Exa.ext E436 EA407
  have F460 : Fld Z h436 a408 "com/example/swathloom/swathloom/planning/Plan" "rolls" "[D" .null := Fld.ext E436 F430
  have F461 : Fld Z h436 a408 "com/example/swathloom/swathloom/planning/Plan" "used" "[Z" .null := Fld.ext E436 F431
  have F462 : Fld Z h436 a408 "com/example/swathloom/swathloom/planning/Plan" "rollVelocities" "[D" .null := Fld.ext E436 F432
  have F463 : Fld Z h436 a408 "com/example/swathloom/swathloom/planning/Plan" "selectionVelocities" "[D" .null := Fld.ext E436 F433
  have F464 : Fld Z h436 a408 "com/example/swathloom/swathloom/planning/Plan" "strips" "I" (.int (0 : Int32)) := Fld.ext E436 F434
  have Z465 : n0 ≤ h436.size := Nat.le_trans Z429 E436.1
  have V466 : Dar Z h436 b437 .double 3 (fun _ => .double (0 : UInt64)) := Dar.new Ar436 (by decide)
  refine Go.of (g' := (mkF m 185 #[.val (.int p0), .val (.int p1), .val (.int p2), .val (.int p3), .val (.int ci220), .val (.int ci223), .val (.ref b227), .val (.ref b259), .val (.int n295), .val (.int n297), .val (.ref a300), .unset, .unset, .unset] [(.ref b437), (.ref a408), (.ref a408), (.ref a386), (.ref a386)])) st436 ?_
  have A467 := (⟨X436, hx, hby⟩ : Ax _ _ _ _ _ _ _ _ _ _ _ _ _ _ _)
  refine g_aload A467 at_185 rfl rfl (pc' := 187) rfl ?_
  obtain ⟨_, _, ⟨T468, L468, k468, n468⟩, -, X468, ⟨L468c, hQ468, l468, y468, z468⟩, st468⟩ := X436.specialBack hx (y := (⟨"com/example/swathloom/swathloom/planning/Plan", "<init>", "([D[Z)V"⟩ : MethodName)) rfl hown (mvT hZ (hw _ (List.mem_of_getElem? (i := 9) rfl))) (mvT hZ (hw _ (List.mem_of_getElem? (i := 10) rfl))) (mvT hZ (hw _ (List.mem_of_getElem? (i := 11) rfl))) (by decide) (backOf (W := 3) (rm1 l Z a0 hw [] a408 b437 b259 (fun _ => .double (0 : UInt64)) (fun j => if j = 2 then .int v286 else (fun j => if j = 1 then .int v277 else (fun j => if j = 0 then .int v268 else (fun _ => .int (0 : Int32)) j) j) j) v268 v277 v286 .null .null .null .null (.int (0 : Int32)) h436 n0 Z465 E459 F460 F461 F462 F463 F464 g415 V466 V449 (Ne.symm ne441) ne413 rfl rfl rfl) hZ (hw _ (List.mem_of_getElem? (i := 11) rfl)) (hw _ (List.mem_of_getElem? (i := 7) rfl)) (by decide) (by decide)) (g := (mkF m 187 #[.val (.int p0), .val (.int p1), .val (.int p2), .val (.int p3), .val (.int ci220), .val (.int ci223), .val (.ref b227), .val (.ref b259), .val (.int n295), .val (.int n297), .val (.ref a300), .unset, .unset, .unset] [(.ref b259), (.ref b437), (.ref a408), (.ref a408), (.ref a386), (.ref a386)])) rfl (by rw [hml]; rfl) (Steps.refl _) (a := a408) (argsL := [(.ref b437), (.ref b259)]) (rest := [(.ref a408), (.ref a386), (.ref a386)]) (lenOf pd_2 rfl) rfl (by show 2 * 0 + _ ≤ _; exact Nat.le_of_eq rfl) (hb hby at_187) (fun _ _ => ⟨rfl, e436, (by decide : 8 + 0 ≤ _), (by decide : 30 + 0 ≤ _)⟩)
  dsimp only [Pt.U, Pt.locs, Pt.cells, Pt.slots] at X468 l468 y468 z468 st468 hQ468
  subst l468 y468 z468
  obtain ⟨rfl, Nq469, Kq470, F471⟩ := hQ468
  have N472 := Fr.app N375 Nq469
  refine Go.tr (g' := (mkF m 190 #[.val (.int p0), .val (.int p1), .val (.int p2), .val (.int p3), .val (.int ci220), .val (.int ci223), .val (.ref b227), .val (.ref b259), .val (.int n295), .val (.int n297), .val (.ref a300), .unset, .unset, .unset] [(.ref a408), (.ref a386), (.ref a386)])) st468 ?_
  have V473 : Dar Z T468.heap b227 .boolean 3 (fun j => if j = 2 then .int v250 else (fun j => if j = 1 then .int v242 else (fun j => if j = 0 then .int v234 else (fun _ => .int (0 : Int32)) j) j) j) := Dar.keep V448 Kq470 (ninS ne412 nin0)
  have V474 : Dar Z T468.heap b259 .boolean 3 (fun j => if j = 2 then .int v286 else (fun j => if j = 1 then .int v277 else (fun j => if j = 0 then .int v268 else (fun _ => .int (0 : Int32)) j) j) j) := Dar.keep V449 Kq470 (ninS ne413 nin0)
  have E475 : Exa Z T468.heap a300 "com/example/swathloom/swathloom/planning/Member" := Exa.keep E450 Kq470
  have E476 : Exa Z T468.heap a313 "com/example/swathloom/swathloom/planning/Plan" := Exa.keep E451 Kq470
  have V477 : Dar Z T468.heap b333 .double 3 (fun _ => .double (0 : UInt64)) := Dar.keep V452 Kq470 (ninS ne414 nin0)
  have F478 : Fld Z T468.heap a313 "com/example/swathloom/swathloom/planning/Plan" "strips" "I" (.int n295) := Fld.keep F453 Kq470 (ninS ne410 nin0)
  have F479 : Fld Z T468.heap a300 "com/example/swathloom/swathloom/planning/Member" "plan" "Lcom/example/swathloom/swathloom/planning/Plan;" (.ref a313) := Fld.keep F454 Kq470 (ninS ne409 nin0)
  have F480 : Fld Z T468.heap a300 "com/example/swathloom/swathloom/planning/Member" "coverage" "D" (.double (FP.ddiv (FP.i2d ci220) (4620693217682128896 : UInt64))) := Fld.keep F455 Kq470 (ninS ne409 nin0)
  have E481 : Exa Z T468.heap a386 "com/example/swathloom/swathloom/planning/Member" := Exa.keep E456 Kq470
  have F482 : Fld Z T468.heap a386 "com/example/swathloom/swathloom/planning/Member" "plan" "Lcom/example/swathloom/swathloom/planning/Plan;" .null := Fld.keep F457 Kq470 (ninS ne411 nin0)
  have F483 : Fld Z T468.heap a386 "com/example/swathloom/swathloom/planning/Member" "coverage" "D" (.double (0 : UInt64)) := Fld.keep F458 Kq470 (ninS ne411 nin0)
  have E484 : Exa Z T468.heap a408 "com/example/swathloom/swathloom/planning/Plan" := Exa.keep E459 Kq470
  have V485 : Dar Z T468.heap b437 .double 3 (fun _ => .double (0 : UInt64)) := Dar.keep V466 Kq470 (ninS (Ne.symm ne441) nin0)
  have Z486 : n0 ≤ T468.heap.size := Nat.le_trans Z465 Kq470.1
  have K487 : Keep h0 T468.heap [] := K447.trans Kq470 (allS (Or.inr gh416) all0)
  have A488 := (⟨X468, hx, hby⟩ : Ax _ _ _ _ _ _ _ _ _ _ _ _ _ _ _)
  rw [hn298] at F471
  refine g_iload A488 at_190 rfl (pc' := 192) rfl ?_
  refine g_i2d A488 at_192 (pc' := 193) rfl ?_
  refine g_ldcD A488 hZ hown (hw _ (List.mem_of_getElem? (i := 28) rfl)) at_193 (pc' := 196) rfl ?_
  refine g_ddiv A488 at_196 (own_nn _) (pc' := 197) rfl ?_
  obtain ⟨_, _, ⟨T489, L489, k489, n489⟩, -, X489, ⟨L489c, hQ489, l489, y489, z489⟩, st489⟩ := X468.specialBack hx (y := (⟨"com/example/swathloom/swathloom/planning/Member", "<init>", "(Lcom/example/swathloom/swathloom/planning/Plan;D)V"⟩ : MethodName)) rfl hown (mvT hZ (hw _ (List.mem_of_getElem? (i := 29) rfl))) (mvT hZ (hw _ (List.mem_of_getElem? (i := 30) rfl))) (mvT hZ (hw _ (List.mem_of_getElem? (i := 31) rfl))) (by decide) (backOf (W := 1) (rm4 l Z a0 hw [] a386 a408 (FP.ddiv (FP.i2d ci223) (4620693217682128896 : UInt64)) .null (.double (0 : UInt64)) T468.heap n0 Z486 E481 F482 F483 g392) hZ (hw _ (List.mem_of_getElem? (i := 31) rfl)) (hw _ (List.mem_of_getElem? (i := 4) rfl)) (by decide) (by decide)) (g := (mkF m 197 #[.val (.int p0), .val (.int p1), .val (.int p2), .val (.int p3), .val (.int ci220), .val (.int ci223), .val (.ref b227), .val (.ref b259), .val (.int n295), .val (.int n297), .val (.ref a300), .unset, .unset, .unset] [(.double (FP.ddiv (FP.i2d ci223) (4620693217682128896 : UInt64))), (.ref a408), (.ref a386), (.ref a386)])) rfl (by rw [hml]; rfl) (Steps.refl _) (a := a386) (argsL := [(.ref a408), (.double (FP.ddiv (FP.i2d ci223) (4620693217682128896 : UInt64)))]) (rest := [(.ref a386)]) (lenOf pd_3 rfl) rfl (by show 2 * 0 + _ ≤ _; exact Nat.le_of_eq rfl) (hb hby at_197) (fun _ _ => ⟨rfl, rfl, (by decide : 8 + 0 ≤ _), (by decide : 30 + 0 ≤ _)⟩)
  dsimp only [Pt.U, Pt.locs, Pt.cells, Pt.slots] at X489 l489 y489 z489 st489 hQ489
  subst l489 y489 z489
  obtain ⟨rfl, Nq490, Kq491, F492, F493⟩ := hQ489
  have N494 := Fr.app N472 Nq490
  refine Go.tr (g' := (mkF m 200 #[.val (.int p0), .val (.int p1), .val (.int p2), .val (.int p3), .val (.int ci220), .val (.int ci223), .val (.ref b227), .val (.ref b259), .val (.int n295), .val (.int n297), .val (.ref a300), .unset, .unset, .unset] [(.ref a386)])) st489 ?_
  have V495 : Dar Z T489.heap b227 .boolean 3 (fun j => if j = 2 then .int v250 else (fun j => if j = 1 then .int v242 else (fun j => if j = 0 then .int v234 else (fun _ => .int (0 : Int32)) j) j) j) := Dar.keep V473 Kq491 (ninS ne389 nin0)
  have V496 : Dar Z T489.heap b259 .boolean 3 (fun j => if j = 2 then .int v286 else (fun j => if j = 1 then .int v277 else (fun j => if j = 0 then .int v268 else (fun _ => .int (0 : Int32)) j) j) j) := Dar.keep V474 Kq491 (ninS ne390 nin0)
  have E497 : Exa Z T489.heap a300 "com/example/swathloom/swathloom/planning/Member" := Exa.keep E475 Kq491
  have E498 : Exa Z T489.heap a313 "com/example/swathloom/swathloom/planning/Plan" := Exa.keep E476 Kq491
  have V499 : Dar Z T489.heap b333 .double 3 (fun _ => .double (0 : UInt64)) := Dar.keep V477 Kq491 (ninS ne391 nin0)
  have F500 : Fld Z T489.heap a313 "com/example/swathloom/swathloom/planning/Plan" "strips" "I" (.int n295) := Fld.keep F478 Kq491 (ninS ne388 nin0)
  have F501 : Fld Z T489.heap a300 "com/example/swathloom/swathloom/planning/Member" "plan" "Lcom/example/swathloom/swathloom/planning/Plan;" (.ref a313) := Fld.keep F479 Kq491 (ninS ne387 nin0)
  have F502 : Fld Z T489.heap a300 "com/example/swathloom/swathloom/planning/Member" "coverage" "D" (.double (FP.ddiv (FP.i2d ci220) (4620693217682128896 : UInt64))) := Fld.keep F480 Kq491 (ninS ne387 nin0)
  have E503 : Exa Z T489.heap a386 "com/example/swathloom/swathloom/planning/Member" := Exa.keep E481 Kq491
  have E504 : Exa Z T489.heap a408 "com/example/swathloom/swathloom/planning/Plan" := Exa.keep E484 Kq491
  have V505 : Dar Z T489.heap b437 .double 3 (fun _ => .double (0 : UInt64)) := Dar.keep V485 Kq491 (ninS (Ne.symm ne440) nin0)
  have F506 : Fld Z T489.heap a408 "com/example/swathloom/swathloom/planning/Plan" "strips" "I" (.int n297) := Fld.keep F471 Kq491 (ninS (Ne.symm ne411) nin0)
  have Z507 : n0 ≤ T489.heap.size := Nat.le_trans Z486 Kq491.1
  have K508 : Keep h0 T489.heap [] := K487.trans Kq491 (allS (Or.inr gh393) all0)
  have A509 := (⟨X489, hx, hby⟩ : Ax _ _ _ _ _ _ _ _ _ _ _ _ _ _ _)
  refine g_astore A509 at_200 rfl (ls' := #[.val (.int p0), .val (.int p1), .val (.int p2), .val (.int p3), .val (.int ci220), .val (.int ci223), .val (.ref b227), .val (.ref b259), .val (.int n295), .val (.int n297), .val (.ref a300), .val (.ref a386), .unset, .unset]) rfl (pc' := 202) rfl ?_
  refine g_iload A509 at_202 rfl (pc' := 204) rfl ?_
  refine g_iload A509 at_204 rfl (pc' := 206) rfl ?_
  refine g_iload A509 at_206 rfl (pc' := 208) rfl ?_
  refine g_iload A509 at_208 rfl (pc' := 210) rfl ?_
  obtain ⟨_, _, ⟨T510, L510, k510, n510⟩, -, X510, ⟨L510c, hQ510, l510, y510, z510⟩, st510⟩ := Jvm.LawKit.callS X489 hx (y := (⟨"com/example/swathloom/swathloom/planning/MemberDominatesPinLaw", "expect", "(IIII)Z"⟩ : MethodName)) hown (mvT hZ (hw _ (List.mem_of_getElem? (i := 37) rfl))) (mvT hZ (hw _ (List.mem_of_getElem? (i := 38) rfl))) (mvT hZ (hw _ (List.mem_of_getElem? (i := 39) rfl))) (mvT hZ (hw _ (List.mem_of_getElem? (i := 40) rfl))) (by decide) (backOf (W := 0) (rm5 l Z a0 hw [] ci220 n295 ci223 n297 T489.heap n0 Z507 ) hZ (hw _ (List.mem_of_getElem? (i := 40) rfl)) (hw _ (List.mem_of_getElem? (i := 39) rfl)) (by decide) (by decide)) (g := (mkF m 210 #[.val (.int p0), .val (.int p1), .val (.int p2), .val (.int p3), .val (.int ci220), .val (.int ci223), .val (.ref b227), .val (.ref b259), .val (.int n295), .val (.int n297), .val (.ref a300), .val (.ref a386), .unset, .unset] [(.int n297), (.int ci223), (.int n295), (.int ci220)])) rfl (by rw [hml]; rfl) (argsL := [(.int ci220), (.int n295), (.int ci223), (.int n297)]) (rest := []) (lenOf pd_4 rfl) rfl (by show 2 * 0 + _ ≤ _; exact Nat.le_of_eq rfl) (hb hby at_210) (fun _ _ => ⟨rfl, rfl, (by decide : 8 + 0 ≤ _), (by decide : 30 + 0 ≤ _)⟩)
  dsimp only [Pt.U, Pt.locs, Pt.cells, Pt.slots] at X510 l510 y510 z510 st510 hQ510
  subst l510 y510 z510
  obtain ⟨rfl, Nq511, Kq512⟩ := hQ510
  have N513 := Fr.app N494 Nq511
  refine Go.of (g' := (mkF m 213 #[.val (.int p0), .val (.int p1), .val (.int p2), .val (.int p3), .val (.int ci220), .val (.int ci223), .val (.ref b227), .val (.ref b259), .val (.int n295), .val (.int n297), .val (.ref a300), .val (.ref a386), .unset, .unset] [(.int (own_r_rm5 ci220 n295 ci223 n297))])) st510 ?_
  have e514 : T510.heap = T489.heap := Kq512
  have A515 := (⟨X510, hx, hby⟩ : Ax _ _ _ _ _ _ _ _ _ _ _ _ _ _ _)
  refine g_istore A515 at_213 (ls' := #[.val (.int p0), .val (.int p1), .val (.int p2), .val (.int p3), .val (.int ci220), .val (.int ci223), .val (.ref b227), .val (.ref b259), .val (.int n295), .val (.int n297), .val (.ref a300), .val (.ref a386), .val (.int (own_r_rm5 ci220 n295 ci223 n297)), .unset]) rfl (pc' := 215) rfl ?_
  refine g_iload A515 at_215 rfl (pc' := 217) rfl ?_
  refine g_iload A515 at_217 rfl (pc' := 219) rfl ?_
  refine g_iload A515 at_219 rfl (pc' := 221) rfl ?_
  refine g_iload A515 at_221 rfl (pc' := 223) rfl ?_
  obtain ⟨_, _, ⟨T516, L516, k516, n516⟩, -, X516, ⟨L516c, hQ516, l516, y516, z516⟩, st516⟩ := Jvm.LawKit.callS X510 hx (y := (⟨"com/example/swathloom/swathloom/planning/MemberDominatesPinLaw", "expect", "(IIII)Z"⟩ : MethodName)) hown (mvT hZ (hw _ (List.mem_of_getElem? (i := 37) rfl))) (mvT hZ (hw _ (List.mem_of_getElem? (i := 38) rfl))) (mvT hZ (hw _ (List.mem_of_getElem? (i := 39) rfl))) (mvT hZ (hw _ (List.mem_of_getElem? (i := 40) rfl))) (by decide) (backOf (W := 0) (rm5 l Z a0 hw [] ci223 n297 ci220 n295 T489.heap n0 Z507 ) hZ (hw _ (List.mem_of_getElem? (i := 40) rfl)) (hw _ (List.mem_of_getElem? (i := 39) rfl)) (by decide) (by decide)) (g := (mkF m 223 #[.val (.int p0), .val (.int p1), .val (.int p2), .val (.int p3), .val (.int ci220), .val (.int ci223), .val (.ref b227), .val (.ref b259), .val (.int n295), .val (.int n297), .val (.ref a300), .val (.ref a386), .val (.int (own_r_rm5 ci220 n295 ci223 n297)), .unset] [(.int n295), (.int ci220), (.int n297), (.int ci223)])) rfl (by rw [hml]; rfl) (argsL := [(.int ci223), (.int n297), (.int ci220), (.int n295)]) (rest := []) (lenOf pd_4 rfl) rfl (by show 2 * 0 + _ ≤ _; exact Nat.le_of_eq rfl) (hb hby at_223) (fun _ _ => ⟨rfl, e514, (by decide : 8 + 0 ≤ _), (by decide : 30 + 0 ≤ _)⟩)
  dsimp only [Pt.U, Pt.locs, Pt.cells, Pt.slots] at X516 l516 y516 z516 st516 hQ516
  subst l516 y516 z516
  obtain ⟨rfl, Nq517, Kq518⟩ := hQ516
  have N519 := Fr.app N513 Nq517
  refine Go.of (g' := (mkF m 226 #[.val (.int p0), .val (.int p1), .val (.int p2), .val (.int p3), .val (.int ci220), .val (.int ci223), .val (.ref b227), .val (.ref b259), .val (.int n295), .val (.int n297), .val (.ref a300), .val (.ref a386), .val (.int (own_r_rm5 ci220 n295 ci223 n297)), .unset] [(.int (own_r_rm5 ci223 n297 ci220 n295))])) st516 ?_
  have e520 : T516.heap = T489.heap := Kq518
  have A521 := (⟨X516, hx, hby⟩ : Ax _ _ _ _ _ _ _ _ _ _ _ _ _ _ _)
  refine g_istore A521 at_226 (ls' := #[.val (.int p0), .val (.int p1), .val (.int p2), .val (.int p3), .val (.int ci220), .val (.int ci223), .val (.ref b227), .val (.ref b259), .val (.int n295), .val (.int n297), .val (.ref a300), .val (.ref a386), .val (.int (own_r_rm5 ci220 n295 ci223 n297)), .val (.int (own_r_rm5 ci223 n297 ci220 n295))]) rfl (pc' := 228) rfl ?_
  refine g_aload A521 at_228 rfl rfl (pc' := 230) rfl ?_
  refine g_aload A521 at_230 rfl rfl (pc' := 232) rfl ?_
  obtain ⟨cq523, kq523, q523a, q523b, q523c⟩ := isOf hZ e520 E497
  obtain ⟨_, _, ⟨T522, L522, k522, n522⟩, -, X522, ⟨L522c, hQ522, l522, y522, z522⟩, st522⟩ := X516.virtualBack hx (y := (⟨"com/example/swathloom/swathloom/planning/Member", "dominates", "(Lcom/example/swathloom/swathloom/planning/Member;)Z"⟩ : MethodName)) (z := (⟨"com/example/swathloom/swathloom/planning/Member", "dominates", "(Lcom/example/swathloom/swathloom/planning/Member;)Z"⟩ : MethodName)) hown (mvT hZ (hw _ (List.mem_of_getElem? (i := 41) rfl))) (mvT hZ (hw _ (List.mem_of_getElem? (i := 42) rfl))) (notFace_of_selects (args := #[]) (mvT hZ (hw _ (List.mem_of_getElem? (i := 44) rfl)))) (mvT hZ (hw _ (List.mem_of_getElem? (i := 44) rfl))) (mvT hZ (hw _ (List.mem_of_getElem? (i := 43) rfl))) (by decide) (backOf (W := 0) (rm6 l Z a0 hw [] a300 a386 a313 a408 (FP.ddiv (FP.i2d ci220) (4620693217682128896 : UInt64)) (FP.ddiv (FP.i2d ci223) (4620693217682128896 : UInt64)) n295 n297 T489.heap n0 Z507 E497 F502 F501 E498 F500 E503 F493 F492 E504 F506) hZ (hw _ (List.mem_of_getElem? (i := 45) rfl)) (hw _ (List.mem_of_getElem? (i := 4) rfl)) (by decide) (by decide)) q523a q523c (g := (mkF m 232 #[.val (.int p0), .val (.int p1), .val (.int p2), .val (.int p3), .val (.int ci220), .val (.int ci223), .val (.ref b227), .val (.ref b259), .val (.int n295), .val (.int n297), .val (.ref a300), .val (.ref a386), .val (.int (own_r_rm5 ci220 n295 ci223 n297)), .val (.int (own_r_rm5 ci223 n297 ci220 n295))] [(.ref a386), (.ref a300)])) rfl (by rw [hml]; rfl) (Steps.refl _) (argsL := [(.ref a386)]) (rest := []) (lenOf pd_5 rfl) rfl (by show 2 * 0 + _ ≤ _; exact Nat.le_of_eq rfl) (hb hby at_232) (fun _ _ => ⟨rfl, e520, (by decide : 8 + 0 ≤ _), (by decide : 30 + 0 ≤ _)⟩)
  dsimp only [Pt.U, Pt.locs, Pt.cells, Pt.slots] at X522 l522 y522 z522 st522 hQ522
  subst l522 y522 z522
  obtain ⟨rfl, Nq524, Kq525⟩ := hQ522
  have N526 := Fr.app N519 Nq524
  refine Go.tr (g' := (mkF m 235 #[.val (.int p0), .val (.int p1), .val (.int p2), .val (.int p3), .val (.int ci220), .val (.int ci223), .val (.ref b227), .val (.ref b259), .val (.int n295), .val (.int n297), .val (.ref a300), .val (.ref a386), .val (.int (own_r_rm5 ci220 n295 ci223 n297)), .val (.int (own_r_rm5 ci223 n297 ci220 n295))] [(.int (own_r_rm6 (FP.ddiv (FP.i2d ci220) (4620693217682128896 : UInt64)) (FP.ddiv (FP.i2d ci223) (4620693217682128896 : UInt64)) n295 n297))])) st522 ?_
  have e527 : T522.heap = T489.heap := Kq525
  have A528 := (⟨X522, hx, hby⟩ : Ax _ _ _ _ _ _ _ _ _ _ _ _ _ _ _)
  refine g_iload A528 at_235 rfl (pc' := 237) rfl ?_
  have h529 : (own_r_rm6 (FP.ddiv (FP.i2d ci220) (4620693217682128896 : UInt64)) (FP.ddiv (FP.i2d ci223) (4620693217682128896 : UInt64)) n295 n297) = (own_r_rm5 ci220 n295 ci223 n297) := by rw [hi222, hi225]; exact own_end i221 i224 _ _
  refine g_icN A528 at_237 (c2_ne_f h529) (pc' := 240) rfl ?_
  refine g_aload A528 at_240 rfl rfl (pc' := 242) rfl ?_
  refine g_aload A528 at_242 rfl rfl (pc' := 244) rfl ?_
  obtain ⟨cq531, kq531, q531a, q531b, q531c⟩ := isOf hZ e527 E503
  obtain ⟨_, _, ⟨T530, L530, k530, n530⟩, -, X530, ⟨L530c, hQ530, l530, y530, z530⟩, st530⟩ := X522.virtualBack hx (y := (⟨"com/example/swathloom/swathloom/planning/Member", "dominates", "(Lcom/example/swathloom/swathloom/planning/Member;)Z"⟩ : MethodName)) (z := (⟨"com/example/swathloom/swathloom/planning/Member", "dominates", "(Lcom/example/swathloom/swathloom/planning/Member;)Z"⟩ : MethodName)) hown (mvT hZ (hw _ (List.mem_of_getElem? (i := 41) rfl))) (mvT hZ (hw _ (List.mem_of_getElem? (i := 42) rfl))) (notFace_of_selects (args := #[]) (mvT hZ (hw _ (List.mem_of_getElem? (i := 44) rfl)))) (mvT hZ (hw _ (List.mem_of_getElem? (i := 44) rfl))) (mvT hZ (hw _ (List.mem_of_getElem? (i := 43) rfl))) (by decide) (backOf (W := 0) (rm6 l Z a0 hw [] a386 a300 a408 a313 (FP.ddiv (FP.i2d ci223) (4620693217682128896 : UInt64)) (FP.ddiv (FP.i2d ci220) (4620693217682128896 : UInt64)) n297 n295 T489.heap n0 Z507 E503 F493 F492 E504 F506 E497 F502 F501 E498 F500) hZ (hw _ (List.mem_of_getElem? (i := 45) rfl)) (hw _ (List.mem_of_getElem? (i := 4) rfl)) (by decide) (by decide)) q531a q531c (g := (mkF m 244 #[.val (.int p0), .val (.int p1), .val (.int p2), .val (.int p3), .val (.int ci220), .val (.int ci223), .val (.ref b227), .val (.ref b259), .val (.int n295), .val (.int n297), .val (.ref a300), .val (.ref a386), .val (.int (own_r_rm5 ci220 n295 ci223 n297)), .val (.int (own_r_rm5 ci223 n297 ci220 n295))] [(.ref a300), (.ref a386)])) rfl (by rw [hml]; rfl) (Steps.refl _) (argsL := [(.ref a300)]) (rest := []) (lenOf pd_5 rfl) rfl (by show 2 * 0 + _ ≤ _; exact Nat.le_of_eq rfl) (hb hby at_244) (fun _ _ => ⟨rfl, e527, (by decide : 8 + 0 ≤ _), (by decide : 30 + 0 ≤ _)⟩)
  dsimp only [Pt.U, Pt.locs, Pt.cells, Pt.slots] at X530 l530 y530 z530 st530 hQ530
  subst l530 y530 z530
  obtain ⟨rfl, Nq532, Kq533⟩ := hQ530
  have N534 := Fr.app N526 Nq532
  refine Go.tr (g' := (mkF m 247 #[.val (.int p0), .val (.int p1), .val (.int p2), .val (.int p3), .val (.int ci220), .val (.int ci223), .val (.ref b227), .val (.ref b259), .val (.int n295), .val (.int n297), .val (.ref a300), .val (.ref a386), .val (.int (own_r_rm5 ci220 n295 ci223 n297)), .val (.int (own_r_rm5 ci223 n297 ci220 n295))] [(.int (own_r_rm6 (FP.ddiv (FP.i2d ci223) (4620693217682128896 : UInt64)) (FP.ddiv (FP.i2d ci220) (4620693217682128896 : UInt64)) n297 n295))])) st530 ?_
  have e535 : T530.heap = T489.heap := Kq533
  have A536 := (⟨X530, hx, hby⟩ : Ax _ _ _ _ _ _ _ _ _ _ _ _ _ _ _)
  refine g_iload A536 at_247 rfl (pc' := 249) rfl ?_
  have h537 : (own_r_rm6 (FP.ddiv (FP.i2d ci223) (4620693217682128896 : UInt64)) (FP.ddiv (FP.i2d ci220) (4620693217682128896 : UInt64)) n297 n295) = (own_r_rm5 ci223 n297 ci220 n295) := by rw [hi225, hi222]; exact own_end i224 i221 _ _
  refine g_icN A536 at_249 (c2_ne_f h537) (pc' := 252) rfl ?_
  refine g_iconst A536 at_252 (v := (1 : Int32)) rfl (pc' := 253) rfl ?_
  refine g_goto A536 at_253 (pc' := 257) rfl ?_
  exact g_ret (Q := Q0 Z p0 p1 p2 p3 h0 n0) A536 at_257 Bd.notSynchronized Bd.returns rfl (Or.inl ⟨rfl, by simp, _, rfl⟩) (by decide) (by decide) (by rw [e535]; exact ⟨rfl, N534⟩)
set_option maxRecDepth 65536 in
set_option maxHeartbeats 40000000 in
theorem comes_1 {Post : Tables → Env → Array Value → State → Outcome → State → Prop} (hpost : ∀ tb e args s v u, (limb_1_1.after args s (.returned v) u = true ∧ limb_1_2.after args s (.returned v) u = true ∧ True) → FrameEnd s (.returned v) u (Jvm.fieldLocs frame_1_writes args s ++ Jvm.arrayLocs frame_1_arrays args s ++ Jvm.staticLocs frame_1_statics s) 24 128 → Post tb e args s (.returned v) u) :
    ArmFor flags0 classFile x code maxLocals ret World_1 tables_1 room_1 Calls_1 rest_1 Pre_1 Post := by
  intro l hfl _ _ p e ha hc hk s m args below hf hA hF happ hP
  obtain ⟨hcalls, hrest, hpre⟩ := hP
  obtain ⟨-, -, -, hnamed, -, -, -, hat⟩ := (Spec.applies_iff hf).mp happ
  obtain ⟨hg, hn⟩ := and_e (Cond.before_iff.mp (show (Jvm.Cond.and given_1 narrow_1).before args s = true from hpre))
  obtain ⟨g0, hg1⟩ := and_e hg
  obtain ⟨w0, w1, w2, w3, rfl⟩ : ∃ w0 w1 w2 w3 : Value, args = #[w0, w1, w2, w3] := by
    have hs : args.size = 4 := by simpa [Cond.value, given_1] using g0
    obtain ⟨L⟩ := args
    match L, hs with
    | [w0, w1, w2, w3], _ => exact ⟨w0, w1, w2, w3, rfl⟩
  have hw := fun d (hd : d ∈ tables_1) => atoms_spec (ws := Jvm.Cond.code x code maxLocals ret :: tables_1) hat d (List.mem_cons_of_mem _ hd)
  have hfit : Fit s := fun {y c} hc i hi => by
    obtain ⟨ha, rfl⟩ := Array.getElem?_eq_some_iff.mp hc
    have q := List.all_eq_true.mp ((Array.all_eq_true_iff_forall_mem.mp hF) _ (Array.getElem_mem ha)) i (List.mem_range.mpr hi)
    simpa [Array.getElem?_eq_getElem hi] using q
  obtain ⟨k0, hg2⟩ := and_e hg1
  obtain ⟨i0, j0⟩ := is_v k0
  obtain rfl : w0 = (.int i0) := Option.some.inj j0
  obtain ⟨k1, hg3⟩ := and_e hg2
  obtain ⟨i1, j1⟩ := is_v k1
  obtain rfl : w1 = (.int i1) := Option.some.inj j1
  obtain ⟨k2, hg4⟩ := and_e hg3
  obtain ⟨i2, j2⟩ := is_v k2
  obtain rfl : w2 = (.int i2) := Option.some.inj j2
  obtain ⟨i3, j3⟩ := is_v hg4
  obtain rfl : w3 = (.int i3) := Option.some.inj j3
  obtain ⟨n, o, h1, h2, h3, _, L, rfl, ⟨rfl, N⟩, hq⟩ := rm0 l s _ hw tables_1 i0 i1 i2 i3 s.heap s.heap.size (Nat.le_refl _)  p e ha hc hk s m _ below hf ((Spec.applies_iff_loose hf).mp happ).1 ⟨rfl, State.Warmed39.refl s, rfl⟩ trivial
  refine ⟨n, _, h1, h2, h3, hpost _ _ _ _ _ _ ⟨Cond.after_iff.mpr rfl, Cond.after_iff.mpr (eq_i res_at (Term.int_eval (1)) rfl), trivial⟩ ⟨hq.1, hq.2.1, (hq.2.2.sift fun y hy => Or.inr (N y hy)).mono (by decide) (by decide)⟩⟩
theorem main_1_1 : Claimed_1_1 := comes_1 fun _ _ _ _ _ _ h hF => ⟨h.1, hF⟩
theorem main_1_2 : Claimed_1_2 := comes_1 fun _ _ _ _ _ _ h hF => ⟨h.2.1, hF⟩
end Jvm.Pilot.@@N@@
namespace Jvm.Pilot.@@N@@
open Jvm Jvm.ClassFile Sem Op Lib Jvm.Free Jvm.Stand Jvm.Pilot.@@N@@.Jvm.D
/-! MADE BY PROGRAM (witnessworld.py) out of the Statement's table words and the real class files: 14 classes; the members and pool entries that the words name. The judged class is class 1, her method 1. -/
namespace start1
open Jvm.ClassFile
def u (s : String) : CpInfo := .utf8 (stringToUtf16 s)
/-- a pool by its gaps: so many unusable entries, then the entry; so many at the end -/
def gap : Nat → List CpInfo → List CpInfo
  | 0, r => r
  | n + 1, r => .unusable :: gap n r
def poolList (es : List (Nat × CpInfo)) (last : Nat) : List CpInfo := es.foldr (fun e r => gap e.1 (e.2 :: r)) (gap last [])
def pool (es : List (Nat × CpInfo)) (last : Nat) : Array CpInfo := ⟨poolList es last⟩
def fileOf (pool : Array CpInfo) (this : Nat) (attrs : Array Attribute := #[]) (ms : Array MethodInfo := #[]) (fl : Nat := 33) (sup : Nat := 0) (ifs : Array Nat := #[]) (fds : Array FieldInfo := #[]) : ClassFile where
  minorVersion := 0
  majorVersion := 65
  constantPool := pool
  accessFlags := fl
  thisClass := this
  superClass := sup
  interfaces := ifs
  fields := fds
  methods := ms
  attributes := attrs
def plain (name : String) (sup : Option ClassId) : Class where
  name := name
  kind := .ordinary
  loader := none
  accessFlags := 33
  super := sup
  interfaces := #[]
  cf := none
  fields := #[]
  methods := #[]
  instanceTypes := #[]
  staticTypes := #[]
  resolved := #[]
  callSites := []
  init := .initialized
  statics := none
  mirror := none

def pool0 : Array CpInfo := pool [(5, u "<init>"), (0, u "()V"), (1, .class_ 10), (1, u "java/lang/Object")] 113

def k0c0 : Code := { maxStack := 0, maxLocals := 1, code := object_method_1_code, exceptionTable := #[], attributes := #[] }
def k0m0 : Method := { name := "<init>", desc := "()V", sig := { parameters := [], returnType := none }, accessFlags := 1, code := some k0c0 }
/-- java/lang/Object -/
def k0 : Class := { plain "java/lang/Object" none with
  accessFlags := 33
  interfaces := #[]
  cf := some (fileOf pool0 8 #[] #[{ accessFlags := 1, nameIndex := 5, descriptorIndex := 6, attributes := #[] }] 33 0 #[] #[])
  fields := #[]
  methods := #[k0m0]
  instanceTypes := #[]
  staticTypes := #[]
  resolved := Array.replicate 124 none
  statics := none }

def pool1 : Array CpInfo := pool [(2, .class_ 4), (1, u "java/lang/Object"), (0, u "<init>"), (0, u "()V"), (0, .integer 2147483647), (0, .class_ 9), (0, u "com/example/swathloom/swathloom/planning/Member"), (0, .class_ 11), (0, u "com/example/swathloom/swathloom/planning/Plan"), (0, .methodref 10 13), (0, .nameAndType 5 14), (0, u "([D[Z)V"), (0, .double 4620693217682128896), (1, .methodref 8 18), (0, .nameAndType 5 19), (0, u "(Lcom/example/swathloom/swathloom/planning/Plan;D)V"), (0, .methodref 21 22), (0, .class_ 23), (0, .nameAndType 24 25), (0, u "com/example/swathloom/swathloom/planning/MemberDominatesPinLaw"), (0, u "expect"), (0, u "(IIII)Z"), (0, .methodref 8 27), (0, .nameAndType 28 29), (0, u "dominates"), (0, u "(Lcom/example/swathloom/swathloom/planning/Member;)Z"), (2, u "law")] 5

def k1m0 : Method := { name := "<init>", desc := "()V", sig := { parameters := [], returnType := none }, accessFlags := 1, code := none }
def k1c1 : Code := { maxStack := 7, maxLocals := 14, code := code, exceptionTable := #[], attributes := #[] }
def k1m1 : Method := { name := "law", desc := "(IIII)Z", sig := { parameters := [.int, .int, .int, .int], returnType := some .boolean }, accessFlags := 9, code := some k1c1 }
def k1c2 : Code := { maxStack := 2, maxLocals := 6, code := method_3_code, exceptionTable := #[], attributes := #[] }
def k1m2 : Method := { name := "expect", desc := "(IIII)Z", sig := { parameters := [.int, .int, .int, .int], returnType := some .boolean }, accessFlags := 10, code := some k1c2 }
/-- com/example/swathloom/swathloom/planning/MemberDominatesPinLaw -/
def k1 : Class := { plain "com/example/swathloom/swathloom/planning/MemberDominatesPinLaw" (some 0) with
  accessFlags := 49
  interfaces := #[]
  cf := some (fileOf pool1 21 #[] #[{ accessFlags := 1, nameIndex := 5, descriptorIndex := 6, attributes := #[] }, { accessFlags := 9, nameIndex := 32, descriptorIndex := 25, attributes := #[] }, { accessFlags := 10, nameIndex := 24, descriptorIndex := 25, attributes := #[] }] 49 2 #[] #[])
  fields := #[]
  methods := #[k1m0, k1m1, k1m2]
  instanceTypes := #[]
  staticTypes := #[]
  resolved := Array.replicate 38 none
  statics := none }

def pool2 : Array CpInfo := pool [(1, .methodref 2 3), (0, .class_ 4), (0, .nameAndType 5 6), (0, u "java/lang/Object"), (0, u "<init>"), (0, u "()V"), (0, .fieldref 8 9), (0, .class_ 10), (0, .nameAndType 11 12), (0, u "com/example/swathloom/swathloom/planning/Member"), (0, u "plan"), (0, u "Lcom/example/swathloom/swathloom/planning/Plan;"), (0, .fieldref 8 14), (0, .nameAndType 15 16), (0, u "coverage"), (0, u "D"), (0, .methodref 18 19), (0, .class_ 20), (0, .nameAndType 21 22), (0, u "com/example/swathloom/swathloom/planning/Plan"), (0, u "strips"), (0, u "()I"), (5, u "rank"), (0, u "I"), (2, u "diversity"), (0, .methodref 8 19), (0, u "(Lcom/example/swathloom/swathloom/planning/Plan;D)V"), (9, u "dominates"), (0, u "(Lcom/example/swathloom/swathloom/planning/Member;)Z")] 2

def k2c0 : Code := { maxStack := 3, maxLocals := 4, code := prog_17_method_1_code, exceptionTable := #[], attributes := #[] }
def k2m0 : Method := { name := "<init>", desc := "(Lcom/example/swathloom/swathloom/planning/Plan;D)V", sig := { parameters := [(.object "com/example/swathloom/swathloom/planning/Plan"), .double], returnType := none }, accessFlags := 0, code := some k2c0 }
def k2c1 : Code := { maxStack := 1, maxLocals := 1, code := prog_17_method_4_code, exceptionTable := #[], attributes := #[] }
def k2m1 : Method := { name := "strips", desc := "()I", sig := { parameters := [], returnType := some .int }, accessFlags := 0, code := some k2c1 }
def k2c2 : Code := { maxStack := 4, maxLocals := 2, code := prog_17_method_10_code, exceptionTable := #[], attributes := #[] }
def k2m2 : Method := { name := "dominates", desc := "(Lcom/example/swathloom/swathloom/planning/Member;)Z", sig := { parameters := [(.object "com/example/swathloom/swathloom/planning/Member")], returnType := some .boolean }, accessFlags := 0, code := some k2c2 }
/-- com/example/swathloom/swathloom/planning/Member -/
def k2 : Class := { plain "com/example/swathloom/swathloom/planning/Member" (some 0) with
  accessFlags := 48
  interfaces := #[]
  cf := some (fileOf pool2 8 #[] #[{ accessFlags := 0, nameIndex := 5, descriptorIndex := 34, attributes := #[] }, { accessFlags := 0, nameIndex := 21, descriptorIndex := 22, attributes := #[] }, { accessFlags := 0, nameIndex := 44, descriptorIndex := 45, attributes := #[] }] 48 2 #[] #[{ accessFlags := 18, nameIndex := 11, descriptorIndex := 12, attributes := #[] }, { accessFlags := 18, nameIndex := 15, descriptorIndex := 16, attributes := #[] }, { accessFlags := 2, nameIndex := 28, descriptorIndex := 29, attributes := #[] }, { accessFlags := 2, nameIndex := 32, descriptorIndex := 16, attributes := #[] }])
  fields := #[{ name := "plan", type := (.object "com/example/swathloom/swathloom/planning/Plan"), accessFlags := 18, slot := 0, constantValue := 0 }, { name := "coverage", type := .double, accessFlags := 18, slot := 1, constantValue := 0 }, { name := "rank", type := .int, accessFlags := 2, slot := 2, constantValue := 0 }, { name := "diversity", type := .double, accessFlags := 2, slot := 3, constantValue := 0 }]
  methods := #[k2m0, k2m1, k2m2]
  instanceTypes := #[(.object "com/example/swathloom/swathloom/planning/Plan"), .double, .int, .double]
  staticTypes := #[]
  resolved := Array.replicate 48 none
  statics := none }

def pool3 : Array CpInfo := pool [(1, .methodref 2 3), (0, .class_ 4), (0, .nameAndType 5 6), (0, u "com/example/swathloom/swathloom/planning/Plan"), (0, u "<init>"), (0, u "([D[Z[D[D)V"), (0, .methodref 8 9), (0, .class_ 10), (0, .nameAndType 5 11), (0, u "java/lang/Object"), (0, u "()V"), (12, .fieldref 2 25), (0, .nameAndType 26 27), (0, u "rolls"), (0, u "[D"), (0, .fieldref 2 29), (0, .nameAndType 30 31), (0, u "used"), (0, u "[Z"), (0, .fieldref 2 33), (0, .nameAndType 34 27), (0, u "rollVelocities"), (0, .fieldref 2 36), (0, .nameAndType 37 27), (0, u "selectionVelocities"), (0, .fieldref 2 39), (0, .nameAndType 40 41), (0, u "strips"), (0, u "I"), (7, u "([D[Z)V"), (4, u "()I")] 27

def k3c0 : Code := { maxStack := 5, maxLocals := 3, code := prog_20_method_1_code, exceptionTable := #[], attributes := #[] }
def k3m0 : Method := { name := "<init>", desc := "([D[Z)V", sig := { parameters := [(.array .double), (.array .boolean)], returnType := none }, accessFlags := 0, code := some k3c0 }
def k3c1 : Code := { maxStack := 4, maxLocals := 10, code := prog_20_method_2_code, exceptionTable := #[], attributes := #[] }
def k3m1 : Method := { name := "<init>", desc := "([D[Z[D[D)V", sig := { parameters := [(.array .double), (.array .boolean), (.array .double), (.array .double)], returnType := none }, accessFlags := 0, code := some k3c1 }
def k3c2 : Code := { maxStack := 1, maxLocals := 1, code := prog_20_method_8_code, exceptionTable := #[], attributes := #[] }
def k3m2 : Method := { name := "strips", desc := "()I", sig := { parameters := [], returnType := some .int }, accessFlags := 0, code := some k3c2 }
/-- com/example/swathloom/swathloom/planning/Plan -/
def k3 : Class := { plain "com/example/swathloom/swathloom/planning/Plan" (some 0) with
  accessFlags := 48
  interfaces := #[]
  cf := some (fileOf pool3 2 #[] #[{ accessFlags := 0, nameIndex := 5, descriptorIndex := 49, attributes := #[] }, { accessFlags := 0, nameIndex := 5, descriptorIndex := 6, attributes := #[] }, { accessFlags := 0, nameIndex := 40, descriptorIndex := 54, attributes := #[] }] 48 8 #[] #[{ accessFlags := 18, nameIndex := 26, descriptorIndex := 27, attributes := #[] }, { accessFlags := 18, nameIndex := 30, descriptorIndex := 31, attributes := #[] }, { accessFlags := 18, nameIndex := 34, descriptorIndex := 27, attributes := #[] }, { accessFlags := 18, nameIndex := 37, descriptorIndex := 27, attributes := #[] }, { accessFlags := 18, nameIndex := 40, descriptorIndex := 41, attributes := #[] }])
  fields := #[{ name := "rolls", type := (.array .double), accessFlags := 18, slot := 0, constantValue := 0 }, { name := "used", type := (.array .boolean), accessFlags := 18, slot := 1, constantValue := 0 }, { name := "rollVelocities", type := (.array .double), accessFlags := 18, slot := 2, constantValue := 0 }, { name := "selectionVelocities", type := (.array .double), accessFlags := 18, slot := 3, constantValue := 0 }, { name := "strips", type := .int, accessFlags := 18, slot := 4, constantValue := 0 }]
  methods := #[k3m0, k3m1, k3m2]
  instanceTypes := #[(.array .double), (.array .boolean), (.array .double), (.array .double), .int]
  staticTypes := #[]
  resolved := Array.replicate 82 none
  statics := none }

def pool4 : Array CpInfo := pool [(1, u "java/lang/Cloneable"), (0, .class_ 1), (0, u "java/lang/Object"), (0, .class_ 3)] 3

/-- java/lang/Cloneable -/
def k4 : Class := { plain "java/lang/Cloneable" (some 0) with
  accessFlags := 1537
  interfaces := #[]
  cf := some (fileOf pool4 2 #[] #[] 1537 4 #[] #[])
  fields := #[]
  methods := #[]
  instanceTypes := #[]
  staticTypes := #[]
  resolved := Array.replicate 8 none
  statics := none }

def pool5 : Array CpInfo := pool [(1, u "java/io/Serializable"), (0, .class_ 1), (0, u "java/lang/Object"), (0, .class_ 3)] 3

/-- java/io/Serializable -/
def k5 : Class := { plain "java/io/Serializable" (some 0) with
  accessFlags := 1537
  interfaces := #[]
  cf := some (fileOf pool5 2 #[] #[] 1537 4 #[] #[])
  fields := #[]
  methods := #[]
  instanceTypes := #[]
  staticTypes := #[]
  resolved := Array.replicate 8 none
  statics := none }

/-- the primitive boolean -/
def k6 : Class := { plain "boolean" none with kind := .primitive 'Z', accessFlags := 0x411 }
/-- [Z -/
def k7 : Class := { plain "[Z" (some 0) with kind := .array 6 .boolean, interfaces := #[4, 5], accessFlags := 1041 }

/-- the primitive byte -/
def k8 : Class := { plain "byte" none with kind := .primitive 'B', accessFlags := 0x411 }
/-- [B -/
def k9 : Class := { plain "[B" (some 0) with kind := .array 8 .byte, interfaces := #[4, 5], accessFlags := 1041 }

/-- the primitive double -/
def k10 : Class := { plain "double" none with kind := .primitive 'D', accessFlags := 0x411 }
/-- [D -/
def k11 : Class := { plain "[D" (some 0) with kind := .array 10 .double, interfaces := #[4, 5], accessFlags := 1041 }

/-- the primitive int -/
def k12 : Class := { plain "int" none with kind := .primitive 'I', accessFlags := 0x411 }
/-- [I -/
def k13 : Class := { plain "[I" (some 0) with kind := .array 12 .int, interfaces := #[4, 5], accessFlags := 1041 }

def heap : Heap := #[]
def classes : Array Class := #[k0, k1, k2, k3, k4, k5, k6, k7, k8, k9, k10, k11, k12, k13]
def interned : List (Array UInt16 × Addr) := []
def slotsUsed : Nat := 0
def theMethod : MethodId := ⟨1, 1⟩
def args0 : Array Value := #[.int 5, .int 3, .int 1, .int 9]
def aboutOver (below : List Frame) : State where
  vm := { classes := classes, interned := interned.toArray }
  heap := heap
  slotsUsed := slotsUsed
  threads := #[{ frames := .invoking theMethod args0 :: below }]
def below0 : List Frame := [.native { method := ⟨0, 0⟩, args := #[] }]
def about1 : State := aboutOver below0
def p0 : Program := .bare "" "" ""
def e0 : Env := launch0.env 0 0 0
theorem w_frames : about1.frames = Frame.invoking theMethod args0 :: below0 := rfl
set_option maxRecDepth 65536 in
theorem w_args : argsFit about1.vm theMethod args0 = true := by decide +kernel
set_option maxRecDepth 65536 in
theorem w_heap : heapFits about1 = true := by decide +kernel
set_option maxRecDepth 65536 in
theorem w_runnable : about1.curStatus? = some .runnable := by decide +kernel
set_option maxRecDepth 65536 in
theorem w_alone : about1.alone = true := by decide +kernel
set_option maxRecDepth 65536 in
theorem w_named : about1.methodNamed? x = some theMethod := by decide +kernel
set_option maxRecDepth 65536 in
theorem w_hears : about1.hears theMethod below0 = true := by decide +kernel
set_option maxRecDepth 65536 in
theorem w_ripe : about1.ripe theMethod args0 below0 = true := by decide +kernel
theorem w_running : about1.status = .running := rfl
set_option maxRecDepth 65536 in
theorem w_room : about1.hasRoom e0.platform room_1 = true :=
  launch0.hasRoom_least _ room_1 (by decide +kernel) (by decide +kernel) (by decide +kernel) (by decide +kernel) (by decide +kernel) (by decide +kernel)
theorem allAtoms_all (ts : List Jvm.Cond) (a : Array Jvm.Value) (st : Jvm.State) : (allAtoms ts).before a st = ts.all (fun c => c.before a st) := by
  induction ts with
  | nil => rfl
  | cons c t ih =>
    show (Jvm.Cond.and c (allAtoms t)).before a st = _
    rw [Jvm.Cond.before_and, ih, List.all_cons]
def words1 : List Jvm.Cond := Jvm.Cond.code x code maxLocals ret :: tables_1
/-- a 'code' word, met by the world's own term for the bytes: nothing is compared byte by byte -/
theorem code_word {y : MethodName} {bytes : ByteArray} {mx : Nat} {rt : Option FieldType} {a : Array Value} {s : State} {m : MethodId} {meth : Method} {c : Code} (h1 : s.methodNamed? y = some m) (h2 : s.vm.method? m = some meth) (h3 : meth.code = some c) (h4 : c.code = bytes)
    (h5 : (c.maxLocals == mx && c.exceptionTable.isEmpty && decide (c.maxStack ≤ mostOperands) && decide (meth.sig.returnType = rt) && !meth.locks && decide (parseMethodDescriptor y.desc = some meth.sig)) = true) : (Jvm.Cond.code y bytes mx rt).before a s = true := by
  simp only [Bool.and_eq_true, beq_iff_eq, Bool.not_eq_true', decide_eq_true_eq] at h5
  obtain ⟨⟨⟨⟨⟨g1, g2⟩, g3⟩, g4⟩, g5⟩, g6⟩ := h5
  simp [Cond.before, Cond.holds, Cond.value, h1, h2, h3, h4, g1, g2, g3, g4, g5, g6]
def isCode : Jvm.Cond → Bool
  | .code _ _ _ _ => true
  | _ => false
theorem all_split {L : List Jvm.Cond} {P : Jvm.Cond → Bool} (h1 : L.all (fun c => isCode c || P c) = true) (h2 : ∀ c ∈ L.filter isCode, P c = true) : L.all P = true := by
  refine List.all_eq_true.mpr fun c hc => ?_
  have h := List.all_eq_true.mp h1 c hc
  rcases Bool.eq_false_or_eq_true (isCode c) with hi | hi
  · exact h2 c (List.mem_filter.mpr ⟨hc, hi⟩)
  · simpa [hi] using h
set_option maxRecDepth 65536 in
theorem w_c0 : (Jvm.Cond.code x code maxLocals ret).before args0 about1 = true := code_word (m := ⟨1, 1⟩) (meth := k1m1) (c := k1c1) (by decide +kernel) rfl rfl rfl (by decide +kernel)
set_option maxRecDepth 65536 in
theorem w_c1 : (Jvm.Cond.code ({ cls := "com/example/swathloom/swathloom/planning/Plan", name := "<init>", desc := "([D[Z)V" } : Jvm.MethodName) prog_20_method_1_code (3 : Nat) (Option.none : Option Jvm.ClassFile.FieldType)).before args0 about1 = true := code_word (m := ⟨3, 0⟩) (meth := k3m0) (c := k3c0) (by decide +kernel) rfl rfl rfl (by decide +kernel)
set_option maxRecDepth 65536 in
theorem w_c2 : (Jvm.Cond.code ({ cls := "com/example/swathloom/swathloom/planning/Plan", name := "<init>", desc := "([D[Z[D[D)V" } : Jvm.MethodName) prog_20_method_2_code (10 : Nat) (Option.none : Option Jvm.ClassFile.FieldType)).before args0 about1 = true := code_word (m := ⟨3, 1⟩) (meth := k3m1) (c := k3c1) (by decide +kernel) rfl rfl rfl (by decide +kernel)
set_option maxRecDepth 65536 in
theorem w_c3 : (Jvm.Cond.code ({ cls := "java/lang/Object", name := "<init>", desc := "()V" } : Jvm.MethodName) object_method_1_code (1 : Nat) (Option.none : Option Jvm.ClassFile.FieldType)).before args0 about1 = true := code_word (m := ⟨0, 0⟩) (meth := k0m0) (c := k0c0) (by decide +kernel) rfl rfl rfl (by decide +kernel)
set_option maxRecDepth 65536 in
theorem w_c4 : (Jvm.Cond.code ({ cls := "com/example/swathloom/swathloom/planning/Member", name := "<init>", desc := "(Lcom/example/swathloom/swathloom/planning/Plan;D)V" } : Jvm.MethodName) prog_17_method_1_code (4 : Nat) (Option.none : Option Jvm.ClassFile.FieldType)).before args0 about1 = true := code_word (m := ⟨2, 0⟩) (meth := k2m0) (c := k2c0) (by decide +kernel) rfl rfl rfl (by decide +kernel)
set_option maxRecDepth 65536 in
theorem w_c5 : (Jvm.Cond.code ({ cls := "com/example/swathloom/swathloom/planning/MemberDominatesPinLaw", name := "expect", desc := "(IIII)Z" } : Jvm.MethodName) method_3_code (6 : Nat) (Option.some Jvm.ClassFile.FieldType.boolean)).before args0 about1 = true := code_word (m := ⟨1, 2⟩) (meth := k1m2) (c := k1c2) (by decide +kernel) rfl rfl rfl (by decide +kernel)
set_option maxRecDepth 65536 in
theorem w_c6 : (Jvm.Cond.code ({ cls := "com/example/swathloom/swathloom/planning/Member", name := "dominates", desc := "(Lcom/example/swathloom/swathloom/planning/Member;)Z" } : Jvm.MethodName) prog_17_method_10_code (2 : Nat) (Option.some Jvm.ClassFile.FieldType.boolean)).before args0 about1 = true := code_word (m := ⟨2, 2⟩) (meth := k2m2) (c := k2c2) (by decide +kernel) rfl rfl rfl (by decide +kernel)
set_option maxRecDepth 65536 in
theorem w_c7 : (Jvm.Cond.code ({ cls := "com/example/swathloom/swathloom/planning/Member", name := "strips", desc := "()I" } : Jvm.MethodName) prog_17_method_4_code (1 : Nat) (Option.some Jvm.ClassFile.FieldType.int)).before args0 about1 = true := code_word (m := ⟨2, 1⟩) (meth := k2m1) (c := k2c1) (by decide +kernel) rfl rfl rfl (by decide +kernel)
set_option maxRecDepth 65536 in
theorem w_c8 : (Jvm.Cond.code ({ cls := "com/example/swathloom/swathloom/planning/Plan", name := "strips", desc := "()I" } : Jvm.MethodName) prog_20_method_8_code (1 : Nat) (Option.some Jvm.ClassFile.FieldType.int)).before args0 about1 = true := code_word (m := ⟨3, 2⟩) (meth := k3m2) (c := k3c2) (by decide +kernel) rfl rfl rfl (by decide +kernel)
def codes1 : List Jvm.Cond := [Jvm.Cond.code x code maxLocals ret, Jvm.Cond.code ({ cls := "com/example/swathloom/swathloom/planning/Plan", name := "<init>", desc := "([D[Z)V" } : Jvm.MethodName) prog_20_method_1_code (3 : Nat) (Option.none : Option Jvm.ClassFile.FieldType), Jvm.Cond.code ({ cls := "com/example/swathloom/swathloom/planning/Plan", name := "<init>", desc := "([D[Z[D[D)V" } : Jvm.MethodName) prog_20_method_2_code (10 : Nat) (Option.none : Option Jvm.ClassFile.FieldType), Jvm.Cond.code ({ cls := "java/lang/Object", name := "<init>", desc := "()V" } : Jvm.MethodName) object_method_1_code (1 : Nat) (Option.none : Option Jvm.ClassFile.FieldType), Jvm.Cond.code ({ cls := "com/example/swathloom/swathloom/planning/Member", name := "<init>", desc := "(Lcom/example/swathloom/swathloom/planning/Plan;D)V" } : Jvm.MethodName) prog_17_method_1_code (4 : Nat) (Option.none : Option Jvm.ClassFile.FieldType), Jvm.Cond.code ({ cls := "com/example/swathloom/swathloom/planning/MemberDominatesPinLaw", name := "expect", desc := "(IIII)Z" } : Jvm.MethodName) method_3_code (6 : Nat) (Option.some Jvm.ClassFile.FieldType.boolean), Jvm.Cond.code ({ cls := "com/example/swathloom/swathloom/planning/Member", name := "dominates", desc := "(Lcom/example/swathloom/swathloom/planning/Member;)Z" } : Jvm.MethodName) prog_17_method_10_code (2 : Nat) (Option.some Jvm.ClassFile.FieldType.boolean), Jvm.Cond.code ({ cls := "com/example/swathloom/swathloom/planning/Member", name := "strips", desc := "()I" } : Jvm.MethodName) prog_17_method_4_code (1 : Nat) (Option.some Jvm.ClassFile.FieldType.int), Jvm.Cond.code ({ cls := "com/example/swathloom/swathloom/planning/Plan", name := "strips", desc := "()I" } : Jvm.MethodName) prog_20_method_8_code (1 : Nat) (Option.some Jvm.ClassFile.FieldType.int)]
set_option maxRecDepth 65536 in
theorem codes_eq : words1.filter isCode = codes1 := rfl
theorem w_codes : ∀ c ∈ words1.filter isCode, c.before args0 about1 = true := by
  rw [codes_eq]
  intro c hc
  simp only [codes1, List.mem_cons, List.not_mem_nil, or_false] at hc
  rcases hc with rfl | rfl | rfl | rfl | rfl | rfl | rfl | rfl | rfl
  · exact w_c0
  · exact w_c1
  · exact w_c2
  · exact w_c3
  · exact w_c4
  · exact w_c5
  · exact w_c6
  · exact w_c7
  · exact w_c8
set_option maxRecDepth 65536 in
theorem w_t1 : (words1.take 24).all (fun c => isCode c || c.before args0 about1) = true := by decide +kernel
set_option maxRecDepth 65536 in
theorem w_t2 : ((words1.drop 24).take 24).all (fun c => isCode c || c.before args0 about1) = true := by decide +kernel
set_option maxRecDepth 65536 in
theorem w_t3 : ((words1.drop 24).drop 24).all (fun c => isCode c || c.before args0 about1) = true := by decide +kernel
theorem w_tables : (allAtoms (Jvm.Cond.code x code maxLocals ret :: tables_1)).before args0 about1 = true := by
  rw [allAtoms_all]
  show words1.all (fun c => c.before args0 about1) = true
  refine all_split ?_ w_codes
  rw [← List.take_append_drop 24 words1, List.all_append, w_t1, ← List.take_append_drop 24 (words1.drop 24), List.all_append, w_t2, w_t3]
  rfl
set_option maxRecDepth 65536 in
theorem w_case : (Jvm.Cond.and given_1 narrow_1).before args0 about1 = true := by decide +kernel
theorem w_applies : (headSpec (Jvm.Cond.code x code maxLocals ret :: tables_1) room_1).applies x e0.platform about1 = true :=
  (Spec.applies_iff w_frames).mpr ⟨w_running, w_runnable, w_alone, w_named, w_hears, w_ripe, w_room, w_tables⟩
theorem atStart : AtStart classFile x code maxLocals ret World_1 tables_1 room_1 Calls_1 rest_1 Pre_1 launch0 p0 e0 about1 theMethod args0 below0 :=
  ⟨lists_1, trivial, launch0.admits_env _ _ _, launch0.least_env, fairChoices_fair.cas, fairChoices_fair.clock, w_frames, w_args, w_heap, w_applies, trivial, trivial, w_case⟩
end start1
theorem witness_1 : WitnessClaimed_1 := ⟨start1.p0, start1.e0, start1.about1, start1.theMethod, start1.args0, start1.below0, start1.atStart⟩
end Jvm.Pilot.@@N@@
