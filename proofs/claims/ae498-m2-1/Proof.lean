import JvmDerived
import JvmDerived.Pilot.@@N@@Statement
import JvmDerived.Pilot.@@N@@Code
set_option linter.unusedVariables false
set_option linter.unusedSimpArgs false
namespace Jvm.Pilot.@@N@@
open Jvm Jvm.ClassFile Sem Op Lib Jvm.Free Jvm.Free.Fl Jvm.Stand Jvm.LawKit Jvm.RoadKit Bundle Jvm.Pilot.@@N@@.Jvm.D
section own_go
/-- where the walk stands, with the two facts that every step asks -/
def Ax (p : Program) (l : Launch) (e : Env) (R : Room) (s : State) (m : MethodId) (args : Array Value) (below : List Frame) (meth : Method) (c : Code) (T : State) (locs : List Loc) (cells slots : Nat) (B : ByteArray) : Prop := Stand p l e R s m args below meth c T locs cells slots ∧ p.tables.exec = Jvm.exec ∧ c.code = B
/-- from this frame the run ends, and P holds of its end -/
def Go (p : Program) (e : Env) (below : List Frame) (P : State → Outcome → Prop) (T : State) (g : JFrame) : Prop := ∃ U o, Steps p.tables e below (T.setTop g) U ∧ U.status = .running ∧ Ended U below o ∧ P U o
variable {p : Program} {l : Launch} {e : Env} {R : Room} {s : State} {m : MethodId} {args : Array Value} {below : List Frame} {meth : Method} {c : Code} {T : State} {locs : List Loc} {cells slots : Nat} {P : State → Outcome → Prop} {B : ByteArray} {pc pc' : Nat} {ls ls' : Array Slot} {st : List Value}
theorem Go.of {T' : State} {g g' : JFrame} (k : ∀ t, Steps p.tables e below (T'.setTop g') t → Steps p.tables e below (T.setTop g) t) (h : Go p e below P T' g') : Go p e below P T g := by
  obtain ⟨U, o, h1, h2⟩ := h
  exact ⟨U, o, k _ h1, h2⟩
theorem Go.tr {T' : State} {g g' : JFrame} (k : Steps p.tables e below (T.setTop g) (T'.setTop g')) (h : Go p e below P T' g') : Go p e below P T g := Go.of (fun _ h => k.trans h) h
theorem Go.cast {g g' : JFrame} (q : g = g') (h : Go p e below P T g') : Go p e below P T g := q ▸ h

theorem g_iadd (A : Ax p l e R s m args below meth c T locs cells slots B) {x : Int32} {y : Int32} (hd : decode B pc = .ok (.iadd, 1)) (hp : pc + 1 = pc') (k : Go p e below P T (mkF m pc' ls (.int (x + y) :: st))) : Go p e below P T (mkF m pc ls (.int y :: .int x :: st)) := by
  subst hp; exact Go.of (fun _ k' => XS.iadd A.1.here A.2.1 rfl (hb A.2.2 hd) rfl k') k
theorem g_isub (A : Ax p l e R s m args below meth c T locs cells slots B) {x : Int32} {y : Int32} (hd : decode B pc = .ok (.isub, 1)) (hp : pc + 1 = pc') (k : Go p e below P T (mkF m pc' ls (.int (x - y) :: st))) : Go p e below P T (mkF m pc ls (.int y :: .int x :: st)) := by
  subst hp; exact Go.of (fun _ k' => XS.isub A.1.here A.2.1 rfl (hb A.2.2 hd) rfl k') k
theorem g_iand (A : Ax p l e R s m args below meth c T locs cells slots B) {x : Int32} {y : Int32} (hd : decode B pc = .ok (.iand, 1)) (hp : pc + 1 = pc') (k : Go p e below P T (mkF m pc' ls (.int (x &&& y) :: st))) : Go p e below P T (mkF m pc ls (.int y :: .int x :: st)) := by
  subst hp; exact Go.of (fun _ k' => XS.iand A.1.here A.2.1 rfl (hb A.2.2 hd) rfl k') k
theorem g_imul (A : Ax p l e R s m args below meth c T locs cells slots B) {x : Int32} {y : Int32} (hd : decode B pc = .ok (.imul, 1)) (hp : pc + 1 = pc') (k : Go p e below P T (mkF m pc' ls (.int (x * y) :: st))) : Go p e below P T (mkF m pc ls (.int y :: .int x :: st)) := by
  subst hp; exact Go.of (fun _ k' => XS.imul A.1.here A.2.1 rfl (hb A.2.2 hd) rfl k') k
theorem g_ixor (A : Ax p l e R s m args below meth c T locs cells slots B) {x : Int32} {y : Int32} (hd : decode B pc = .ok (.ixor, 1)) (hp : pc + 1 = pc') (k : Go p e below P T (mkF m pc' ls (.int (x ^^^ y) :: st))) : Go p e below P T (mkF m pc ls (.int y :: .int x :: st)) := by
  subst hp; exact Go.of (fun _ k' => XT.ixor A.1.here A.2.1 rfl (hb A.2.2 hd) rfl k') k
theorem g_ior (A : Ax p l e R s m args below meth c T locs cells slots B) {x : Int32} {y : Int32} (hd : decode B pc = .ok (.ior, 1)) (hp : pc + 1 = pc') (k : Go p e below P T (mkF m pc' ls (.int (x ||| y) :: st))) : Go p e below P T (mkF m pc ls (.int y :: .int x :: st)) := by
  subst hp; exact Go.of (fun _ k' => XT.ior A.1.here A.2.1 rfl (hb A.2.2 hd) rfl k') k
theorem g_ishl (A : Ax p l e R s m args below meth c T locs cells slots B) {x : Int32} {y : Int32} (hd : decode B pc = .ok (.ishl, 1)) (hp : pc + 1 = pc') (k : Go p e below P T (mkF m pc' ls (.int (x <<< (y &&& 31)) :: st))) : Go p e below P T (mkF m pc ls (.int y :: .int x :: st)) := by
  subst hp; exact Go.of (fun _ k' => XT.ishl A.1.here A.2.1 rfl (hb A.2.2 hd) rfl k') k
theorem g_ishr (A : Ax p l e R s m args below meth c T locs cells slots B) {x : Int32} {y : Int32} (hd : decode B pc = .ok (.ishr, 1)) (hp : pc + 1 = pc') (k : Go p e below P T (mkF m pc' ls (.int (x >>> (y &&& 31)) :: st))) : Go p e below P T (mkF m pc ls (.int y :: .int x :: st)) := by
  subst hp; exact Go.of (fun _ k' => XT.ishr A.1.here A.2.1 rfl (hb A.2.2 hd) rfl k') k
theorem g_iushr (A : Ax p l e R s m args below meth c T locs cells slots B) {x : Int32} {y : Int32} (hd : decode B pc = .ok (.iushr, 1)) (hp : pc + 1 = pc') (k : Go p e below P T (mkF m pc' ls (.int (XT.ushr x y) :: st))) : Go p e below P T (mkF m pc ls (.int y :: .int x :: st)) := by
  subst hp; exact Go.of (fun _ k' => XT.iushr A.1.here A.2.1 rfl (hb A.2.2 hd) rfl k') k
theorem g_idiv (A : Ax p l e R s m args below meth c T locs cells slots B) {x : Int32} {y : Int32} (hd : decode B pc = .ok (.idiv, 1)) (hy : y ≠ 0) (hp : pc + 1 = pc') (k : Go p e below P T (mkF m pc' ls (.int (x / y) :: st))) : Go p e below P T (mkF m pc ls (.int y :: .int x :: st)) := by
  subst hp; exact Go.of (fun _ k' => XS.idiv A.1.here A.2.1 rfl (hb A.2.2 hd) rfl hy k') k
theorem g_ladd (A : Ax p l e R s m args below meth c T locs cells slots B) {x : Int64} {y : Int64} (hd : decode B pc = .ok (.ladd, 1)) (hp : pc + 1 = pc') (k : Go p e below P T (mkF m pc' ls (.long (x + y) :: st))) : Go p e below P T (mkF m pc ls (.long y :: .long x :: st)) := by
  subst hp; exact Go.of (fun _ k' => XT.ladd A.1.here A.2.1 rfl (hb A.2.2 hd) rfl k') k
theorem g_lsub (A : Ax p l e R s m args below meth c T locs cells slots B) {x : Int64} {y : Int64} (hd : decode B pc = .ok (.lsub, 1)) (hp : pc + 1 = pc') (k : Go p e below P T (mkF m pc' ls (.long (x - y) :: st))) : Go p e below P T (mkF m pc ls (.long y :: .long x :: st)) := by
  subst hp; exact Go.of (fun _ k' => XT.lsub A.1.here A.2.1 rfl (hb A.2.2 hd) rfl k') k
theorem g_lmul (A : Ax p l e R s m args below meth c T locs cells slots B) {x : Int64} {y : Int64} (hd : decode B pc = .ok (.lmul, 1)) (hp : pc + 1 = pc') (k : Go p e below P T (mkF m pc' ls (.long (x * y) :: st))) : Go p e below P T (mkF m pc ls (.long y :: .long x :: st)) := by
  subst hp; exact Go.of (fun _ k' => XT.lmul A.1.here A.2.1 rfl (hb A.2.2 hd) rfl k') k
theorem g_land (A : Ax p l e R s m args below meth c T locs cells slots B) {x : Int64} {y : Int64} (hd : decode B pc = .ok (.land, 1)) (hp : pc + 1 = pc') (k : Go p e below P T (mkF m pc' ls (.long (x &&& y) :: st))) : Go p e below P T (mkF m pc ls (.long y :: .long x :: st)) := by
  subst hp; exact Go.of (fun _ k' => XT.land A.1.here A.2.1 rfl (hb A.2.2 hd) rfl k') k
theorem g_lor (A : Ax p l e R s m args below meth c T locs cells slots B) {x : Int64} {y : Int64} (hd : decode B pc = .ok (.lor, 1)) (hp : pc + 1 = pc') (k : Go p e below P T (mkF m pc' ls (.long (x ||| y) :: st))) : Go p e below P T (mkF m pc ls (.long y :: .long x :: st)) := by
  subst hp; exact Go.of (fun _ k' => XT.lor A.1.here A.2.1 rfl (hb A.2.2 hd) rfl k') k
theorem g_lxor (A : Ax p l e R s m args below meth c T locs cells slots B) {x : Int64} {y : Int64} (hd : decode B pc = .ok (.lxor, 1)) (hp : pc + 1 = pc') (k : Go p e below P T (mkF m pc' ls (.long (x ^^^ y) :: st))) : Go p e below P T (mkF m pc ls (.long y :: .long x :: st)) := by
  subst hp; exact Go.of (fun _ k' => XT.lxor A.1.here A.2.1 rfl (hb A.2.2 hd) rfl k') k
theorem g_lshl (A : Ax p l e R s m args below meth c T locs cells slots B) {x : Int64} {y : Int32} (hd : decode B pc = .ok (.lshl, 1)) (hp : pc + 1 = pc') (k : Go p e below P T (mkF m pc' ls (.long (x <<< (y.toInt64 &&& 63)) :: st))) : Go p e below P T (mkF m pc ls (.int y :: .long x :: st)) := by
  subst hp; exact Go.of (fun _ k' => XT.lshl A.1.here A.2.1 rfl (hb A.2.2 hd) rfl k') k
theorem g_lshr (A : Ax p l e R s m args below meth c T locs cells slots B) {x : Int64} {y : Int32} (hd : decode B pc = .ok (.lshr, 1)) (hp : pc + 1 = pc') (k : Go p e below P T (mkF m pc' ls (.long (x >>> (y.toInt64 &&& 63)) :: st))) : Go p e below P T (mkF m pc ls (.int y :: .long x :: st)) := by
  subst hp; exact Go.of (fun _ k' => XT.lshr A.1.here A.2.1 rfl (hb A.2.2 hd) rfl k') k
theorem g_lushr (A : Ax p l e R s m args below meth c T locs cells slots B) {x : Int64} {y : Int32} (hd : decode B pc = .ok (.lushr, 1)) (hp : pc + 1 = pc') (k : Go p e below P T (mkF m pc' ls (.long (XT.ushrL x y) :: st))) : Go p e below P T (mkF m pc ls (.int y :: .long x :: st)) := by
  subst hp; exact Go.of (fun _ k' => XT.lushr A.1.here A.2.1 rfl (hb A.2.2 hd) rfl k') k
theorem g_ldiv (A : Ax p l e R s m args below meth c T locs cells slots B) {x : Int64} {y : Int64} (hd : decode B pc = .ok (.ldiv, 1)) (hy : y ≠ 0) (hp : pc + 1 = pc') (k : Go p e below P T (mkF m pc' ls (.long (x / y) :: st))) : Go p e below P T (mkF m pc ls (.long y :: .long x :: st)) := by
  subst hp; exact Go.of (fun _ k' => XT.ldiv A.1.here A.2.1 rfl (hb A.2.2 hd) rfl hy k') k
theorem g_lrem (A : Ax p l e R s m args below meth c T locs cells slots B) {x y : Int64} (hd : decode B pc = .ok (.lrem, 1)) (hy : y ≠ 0) (hp : pc + 1 = pc') (k : Go p e below P T (mkF m pc' ls (.long (x % y) :: st))) : Go p e below P T (mkF m pc ls (.long y :: .long x :: st)) := by
  subst hp; rw [← lrem_mod] at k; exact Go.of (fun _ k' => XT.lrem A.1.here A.2.1 rfl (hb A.2.2 hd) rfl hy k') k
theorem g_i2s (A : Ax p l e R s m args below meth c T locs cells slots B) {x : Int32} (hd : decode B pc = .ok (.i2s, 1)) (hp : pc + 1 = pc') (k : Go p e below P T (mkF m pc' ls (.int (x.toInt16.toInt32) :: st))) : Go p e below P T (mkF m pc ls (.int x :: st)) := by
  subst hp; exact Go.of (fun _ k' => XT.i2s A.1.here A.2.1 rfl (hb A.2.2 hd) rfl k') k
theorem g_i2b (A : Ax p l e R s m args below meth c T locs cells slots B) {x : Int32} (hd : decode B pc = .ok (.i2b, 1)) (hp : pc + 1 = pc') (k : Go p e below P T (mkF m pc' ls (.int (x.toInt8.toInt32) :: st))) : Go p e below P T (mkF m pc ls (.int x :: st)) := by
  subst hp; exact Go.of (fun _ k' => XT.i2b A.1.here A.2.1 rfl (hb A.2.2 hd) rfl k') k
theorem g_i2c (A : Ax p l e R s m args below meth c T locs cells slots B) {x : Int32} (hd : decode B pc = .ok (.i2c, 1)) (hp : pc + 1 = pc') (k : Go p e below P T (mkF m pc' ls (.int (x.toUInt32.toUInt16.toUInt32.toInt32) :: st))) : Go p e below P T (mkF m pc ls (.int x :: st)) := by
  subst hp; exact Go.of (fun _ k' => XT.i2c A.1.here A.2.1 rfl (hb A.2.2 hd) rfl k') k
theorem g_ineg (A : Ax p l e R s m args below meth c T locs cells slots B) {x : Int32} (hd : decode B pc = .ok (.ineg, 1)) (hp : pc + 1 = pc') (k : Go p e below P T (mkF m pc' ls (.int (-x) :: st))) : Go p e below P T (mkF m pc ls (.int x :: st)) := by
  subst hp; exact Go.of (fun _ k' => XS.ineg A.1.here A.2.1 rfl (hb A.2.2 hd) rfl k') k
theorem g_lneg (A : Ax p l e R s m args below meth c T locs cells slots B) {x : Int64} (hd : decode B pc = .ok (.lneg, 1)) (hp : pc + 1 = pc') (k : Go p e below P T (mkF m pc' ls (.long (-x) :: st))) : Go p e below P T (mkF m pc ls (.long x :: st)) := by
  subst hp; exact Go.of (fun _ k' => XT.lneg A.1.here A.2.1 rfl (hb A.2.2 hd) rfl k') k
theorem g_i2l (A : Ax p l e R s m args below meth c T locs cells slots B) {x : Int32} (hd : decode B pc = .ok (.i2l, 1)) (hp : pc + 1 = pc') (k : Go p e below P T (mkF m pc' ls (.long (x.toInt64) :: st))) : Go p e below P T (mkF m pc ls (.int x :: st)) := by
  subst hp; exact Go.of (fun _ k' => XT.i2l A.1.here A.2.1 rfl (hb A.2.2 hd) rfl k') k
theorem g_l2i (A : Ax p l e R s m args below meth c T locs cells slots B) {x : Int64} (hd : decode B pc = .ok (.l2i, 1)) (hp : pc + 1 = pc') (k : Go p e below P T (mkF m pc' ls (.int (x.toInt32) :: st))) : Go p e below P T (mkF m pc ls (.long x :: st)) := by
  subst hp; exact Go.of (fun _ k' => XT.l2i A.1.here A.2.1 rfl (hb A.2.2 hd) rfl k') k
theorem g_irem (A : Ax p l e R s m args below meth c T locs cells slots B) {x y : Int32} (hd : decode B pc = .ok (.irem, 1)) (hy : y ≠ 0) (hp : pc + 1 = pc') (k : Go p e below P T (mkF m pc' ls (.int (x % y) :: st))) : Go p e below P T (mkF m pc ls (.int y :: .int x :: st)) := by
  subst hp; exact Go.of (fun _ k' => iremM A.1 A.2.1 rfl (hb A.2.2 hd) rfl hy k') k
theorem g_iloadN (A : Ax p l e R s m args below meth c T locs cells slots B) {k : Fin 4} {v : Int32} (hd : decode B pc = .ok (.iload_n k, 1)) (hl : ls[k.val]? = some (.val (.int v))) (hp : pc + 1 = pc') (k : Go p e below P T (mkF m pc' ls (.int v :: st))) : Go p e below P T (mkF m pc ls st) := by
  subst hp; exact Go.of (fun _ k' => XS.iloadN A.1.here A.2.1 rfl (hb A.2.2 hd) hl k') k
theorem g_iload (A : Ax p l e R s m args below meth c T locs cells slots B) {k : Nat} {v : Int32} (hd : decode B pc = .ok (.iload k, 2)) (hl : ls[k]? = some (.val (.int v))) (hp : pc + 2 = pc') (k : Go p e below P T (mkF m pc' ls (.int v :: st))) : Go p e below P T (mkF m pc ls st) := by
  subst hp; exact Go.of (fun _ k' => XS.iload A.1.here A.2.1 rfl (hb A.2.2 hd) hl k') k
theorem g_lloadN (A : Ax p l e R s m args below meth c T locs cells slots B) {k : Fin 4} {v : Int64} (hd : decode B pc = .ok (.lload_n k, 1)) (hl : ls[k.val]? = some (.val (.long v))) (hp : pc + 1 = pc') (k : Go p e below P T (mkF m pc' ls (.long v :: st))) : Go p e below P T (mkF m pc ls st) := by
  subst hp; exact Go.of (fun _ k' => XT.lloadN A.1.here A.2.1 rfl (hb A.2.2 hd) hl k') k
theorem g_lload (A : Ax p l e R s m args below meth c T locs cells slots B) {k : Nat} {v : Int64} (hd : decode B pc = .ok (.lload k, 2)) (hl : ls[k]? = some (.val (.long v))) (hp : pc + 2 = pc') (k : Go p e below P T (mkF m pc' ls (.long v :: st))) : Go p e below P T (mkF m pc ls st) := by
  subst hp; exact Go.of (fun _ k' => XT.lload A.1.here A.2.1 rfl (hb A.2.2 hd) hl k') k
theorem g_aloadN (A : Ax p l e R s m args below meth c T locs cells slots B) {k : Fin 4} {v : Value} (hd : decode B pc = .ok (.aload_n k, 1)) (hl : ls[k.val]? = some (.val v)) (hv : v.isRef = true) (hp : pc + 1 = pc') (k : Go p e below P T (mkF m pc' ls (v :: st))) : Go p e below P T (mkF m pc ls st) := by
  subst hp; exact Go.of (fun _ k' => XS.aloadN A.1.here A.2.1 rfl (hb A.2.2 hd) hl hv k') k
theorem g_aload (A : Ax p l e R s m args below meth c T locs cells slots B) {k : Nat} {v : Value} (hd : decode B pc = .ok (.aload k, 2)) (hl : ls[k]? = some (.val v)) (hv : v.isRef = true) (hp : pc + 2 = pc') (k : Go p e below P T (mkF m pc' ls (v :: st))) : Go p e below P T (mkF m pc ls st) := by
  subst hp; exact Go.of (fun _ k' => XS.aload A.1.here A.2.1 rfl (hb A.2.2 hd) hl hv k') k
theorem g_dloadN (A : Ax p l e R s m args below meth c T locs cells slots B) {k : Fin 4} {v : UInt64} (hd : decode B pc = .ok (.dload_n k, 1)) (hl : ls[k.val]? = some (.val (.double v))) (hp : pc + 1 = pc') (k : Go p e below P T (mkF m pc' ls (.double v :: st))) : Go p e below P T (mkF m pc ls st) := by
  subst hp
  refine Go.of (fun t k' => ?_) k
  have h := A.1.here
  have hx := A.2.1
  have hd' := hb A.2.2 hd
  show Steps p.tables e below (T.setTop { method := m, pc := pc, locals := ls, stack := st, locked := none }) _
  jvm_step h [h.top, hx, hd', hl]
  exact k'
theorem g_dload (A : Ax p l e R s m args below meth c T locs cells slots B) {k : Nat} {v : UInt64} (hd : decode B pc = .ok (.dload k, 2)) (hl : ls[k]? = some (.val (.double v))) (hp : pc + 2 = pc') (k : Go p e below P T (mkF m pc' ls (.double v :: st))) : Go p e below P T (mkF m pc ls st) := by
  subst hp
  refine Go.of (fun t k' => ?_) k
  have h := A.1.here
  have hx := A.2.1
  have hd' := hb A.2.2 hd
  show Steps p.tables e below (T.setTop { method := m, pc := pc, locals := ls, stack := st, locked := none }) _
  jvm_step h [h.top, hx, hd', hl]
  exact k'
theorem g_istoreN (A : Ax p l e R s m args below meth c T locs cells slots B) {k : Fin 4} {x : Int32} (hd : decode B pc = .ok (.istore_n k, 1)) (hl : storeLocals ls k.val (.int x) = some ls') (hp : pc + 1 = pc') (k : Go p e below P T (mkF m pc' ls' st)) : Go p e below P T (mkF m pc ls (.int x :: st)) := by
  subst hp; exact Go.of (fun _ k' => XS.istoreN A.1.here A.2.1 rfl (hb A.2.2 hd) rfl hl k') k
theorem g_istore (A : Ax p l e R s m args below meth c T locs cells slots B) {k : Nat} {x : Int32} (hd : decode B pc = .ok (.istore k, 2)) (hl : storeLocals ls k (.int x) = some ls') (hp : pc + 2 = pc') (k : Go p e below P T (mkF m pc' ls' st)) : Go p e below P T (mkF m pc ls (.int x :: st)) := by
  subst hp; exact Go.of (fun _ k' => XS.istore A.1.here A.2.1 rfl (hb A.2.2 hd) rfl hl k') k
theorem g_lstoreN (A : Ax p l e R s m args below meth c T locs cells slots B) {k : Fin 4} {x : Int64} (hd : decode B pc = .ok (.lstore_n k, 1)) (hl : storeLocals ls k.val (.long x) = some ls') (hp : pc + 1 = pc') (k : Go p e below P T (mkF m pc' ls' st)) : Go p e below P T (mkF m pc ls (.long x :: st)) := by
  subst hp; exact Go.of (fun _ k' => XT.lstoreN A.1.here A.2.1 rfl (hb A.2.2 hd) rfl hl k') k
theorem g_lstore (A : Ax p l e R s m args below meth c T locs cells slots B) {k : Nat} {x : Int64} (hd : decode B pc = .ok (.lstore k, 2)) (hl : storeLocals ls k (.long x) = some ls') (hp : pc + 2 = pc') (k : Go p e below P T (mkF m pc' ls' st)) : Go p e below P T (mkF m pc ls (.long x :: st)) := by
  subst hp; exact Go.of (fun _ k' => XT.lstore A.1.here A.2.1 rfl (hb A.2.2 hd) rfl hl k') k
theorem g_astoreN (A : Ax p l e R s m args below meth c T locs cells slots B) {k : Fin 4} {x : Value} (hd : decode B pc = .ok (.astore_n k, 1)) (hv : x.isRef = true) (hl : storeLocals ls k.val x = some ls') (hp : pc + 1 = pc') (k : Go p e below P T (mkF m pc' ls' st)) : Go p e below P T (mkF m pc ls (x :: st)) := by
  subst hp; exact Go.of (fun _ k' => XS.astoreN A.1.here A.2.1 rfl (hb A.2.2 hd) rfl hv hl k') k
theorem g_astore (A : Ax p l e R s m args below meth c T locs cells slots B) {k : Nat} {x : Value} (hd : decode B pc = .ok (.astore k, 2)) (hv : x.isRef = true) (hl : storeLocals ls k x = some ls') (hp : pc + 2 = pc') (k : Go p e below P T (mkF m pc' ls' st)) : Go p e below P T (mkF m pc ls (x :: st)) := by
  subst hp; exact Go.of (fun _ k' => XS.astore A.1.here A.2.1 rfl (hb A.2.2 hd) rfl hv hl k') k
theorem g_dstoreN (A : Ax p l e R s m args below meth c T locs cells slots B) {k : Fin 4} {x : UInt64} (hd : decode B pc = .ok (.dstore_n k, 1)) (hl : storeLocals ls k.val (.double x) = some ls') (hp : pc + 1 = pc') (k : Go p e below P T (mkF m pc' ls' st)) : Go p e below P T (mkF m pc ls (.double x :: st)) := by
  subst hp
  refine Go.of (fun t k' => ?_) k
  have h := A.1.here
  have hx := A.2.1
  have hd' := hb A.2.2 hd
  show Steps p.tables e below (T.setTop { method := m, pc := pc, locals := ls, stack := .double x :: st, locked := none }) _
  jvm_step h [h.top, hx, hd']
  exact ⟨ls', hl, k'⟩
theorem g_dstore (A : Ax p l e R s m args below meth c T locs cells slots B) {k : Nat} {x : UInt64} (hd : decode B pc = .ok (.dstore k, 2)) (hl : storeLocals ls k (.double x) = some ls') (hp : pc + 2 = pc') (k : Go p e below P T (mkF m pc' ls' st)) : Go p e below P T (mkF m pc ls (.double x :: st)) := by
  subst hp
  refine Go.of (fun t k' => ?_) k
  have h := A.1.here
  have hx := A.2.1
  have hd' := hb A.2.2 hd
  show Steps p.tables e below (T.setTop { method := m, pc := pc, locals := ls, stack := .double x :: st, locked := none }) _
  jvm_step h [h.top, hx, hd']
  exact ⟨ls', hl, k'⟩
theorem g_iconst (A : Ax p l e R s m args below meth c T locs cells slots B) {i : Int} {v : Int32} (hd : decode B pc = .ok (.iconst i, 1)) (hv : Int32.ofInt i = v) (hp : pc + 1 = pc') (k : Go p e below P T (mkF m pc' ls (.int v :: st))) : Go p e below P T (mkF m pc ls st) := by
  subst hp hv; exact Go.of (fun _ k' => XS.iconst A.1.here A.2.1 rfl (hb A.2.2 hd) k') k
theorem g_bipush (A : Ax p l e R s m args below meth c T locs cells slots B) {i : Int} {v : Int32} (hd : decode B pc = .ok (.bipush i, 2)) (hv : (Int8.ofInt i).toInt32 = v) (hp : pc + 2 = pc') (k : Go p e below P T (mkF m pc' ls (.int v :: st))) : Go p e below P T (mkF m pc ls st) := by
  subst hp hv; exact Go.of (fun _ k' => XS.bipush A.1.here A.2.1 rfl (hb A.2.2 hd) k') k
theorem g_sipush (A : Ax p l e R s m args below meth c T locs cells slots B) {i : Int} {v : Int32} (hd : decode B pc = .ok (.sipush i, 3)) (hv : (Int16.ofInt i).toInt32 = v) (hp : pc + 3 = pc') (k : Go p e below P T (mkF m pc' ls (.int v :: st))) : Go p e below P T (mkF m pc ls st) := by
  subst hp hv; exact Go.of (fun _ k' => XS.sipush A.1.here A.2.1 rfl (hb A.2.2 hd) k') k
theorem g_aconst (A : Ax p l e R s m args below meth c T locs cells slots B) (hd : decode B pc = .ok (.aconst_null, 1)) (hp : pc + 1 = pc') (k : Go p e below P T (mkF m pc' ls (.null :: st))) : Go p e below P T (mkF m pc ls st) := by
  subst hp; exact Go.of (fun _ k' => XS.aconstNull A.1.here A.2.1 rfl (hb A.2.2 hd) k') k
theorem g_lconst (A : Ax p l e R s m args below meth c T locs cells slots B) {i : Fin 2} {v : Int64} (hd : decode B pc = .ok (.lconst i, 1)) (hv : Int64.ofNat i = v) (hp : pc + 1 = pc') (k : Go p e below P T (mkF m pc' ls (.long v :: st))) : Go p e below P T (mkF m pc ls st) := by
  subst hp hv; exact Go.of (fun _ k' => XT.lconst A.1.here A.2.1 rfl (hb A.2.2 hd) k') k
theorem g_dconst0 (A : Ax p l e R s m args below meth c T locs cells slots B) (hd : decode B pc = .ok (.dconst 0, 1)) (hp : pc + 1 = pc') (k : Go p e below P T (mkF m pc' ls (.double (0 : UInt64) :: st))) : Go p e below P T (mkF m pc ls st) := by
  subst hp
  refine Go.of (fun t k' => ?_) k
  have h := A.1.here
  have hx := A.2.1
  have hd' := hb A.2.2 hd
  show Steps p.tables e below (T.setTop { method := m, pc := pc, locals := ls, stack := st, locked := none }) _
  jvm_step h [h.top, hx, hd']
  exact k'
theorem g_dconst1 (A : Ax p l e R s m args below meth c T locs cells slots B) (hd : decode B pc = .ok (.dconst 1, 1)) (hp : pc + 1 = pc') (k : Go p e below P T (mkF m pc' ls (.double (4607182418800017408 : UInt64) :: st))) : Go p e below P T (mkF m pc ls st) := by
  subst hp
  refine Go.of (fun t k' => ?_) k
  have h := A.1.here
  have hx := A.2.1
  have hd' := hb A.2.2 hd
  show Steps p.tables e below (T.setTop { method := m, pc := pc, locals := ls, stack := st, locked := none }) _
  jvm_step h [h.top, hx, hd']
  exact k'
theorem g_dadd (A : Ax p l e R s m args below meth c T locs cells slots B) {x y : UInt64} (hd : decode B pc = .ok (.dadd, 1)) (hn : NoNaN64 (FP.dadd x y)) (hp : pc + 1 = pc') (k : Go p e below P T (mkF m pc' ls (.double (FP.dadd x y) :: st))) : Go p e below P T (mkF m pc ls (.double y :: .double x :: st)) := by
  subst hp
  refine Go.of (fun t k' => ?_) k
  have h := A.1.here
  have hx := A.2.1
  have hd' := hb A.2.2 hd
  show Steps p.tables e below (T.setTop { method := m, pc := pc, locals := ls, stack := .double y :: .double x :: st, locked := none }) _
  jvm_step h [h.top, hx, hd', Op.dadd.at_number h.top hn]
  exact k'
theorem g_dsub (A : Ax p l e R s m args below meth c T locs cells slots B) {x y : UInt64} (hd : decode B pc = .ok (.dsub, 1)) (hn : NoNaN64 (FP.dsub x y)) (hp : pc + 1 = pc') (k : Go p e below P T (mkF m pc' ls (.double (FP.dsub x y) :: st))) : Go p e below P T (mkF m pc ls (.double y :: .double x :: st)) := by
  subst hp
  refine Go.of (fun t k' => ?_) k
  have h := A.1.here
  have hx := A.2.1
  have hd' := hb A.2.2 hd
  show Steps p.tables e below (T.setTop { method := m, pc := pc, locals := ls, stack := .double y :: .double x :: st, locked := none }) _
  jvm_step h [h.top, hx, hd', Op.dsub.at_number h.top hn]
  exact k'
theorem g_dmul (A : Ax p l e R s m args below meth c T locs cells slots B) {x y : UInt64} (hd : decode B pc = .ok (.dmul, 1)) (hn : NoNaN64 (FP.dmul x y)) (hp : pc + 1 = pc') (k : Go p e below P T (mkF m pc' ls (.double (FP.dmul x y) :: st))) : Go p e below P T (mkF m pc ls (.double y :: .double x :: st)) := by
  subst hp
  refine Go.of (fun t k' => ?_) k
  have h := A.1.here
  have hx := A.2.1
  have hd' := hb A.2.2 hd
  show Steps p.tables e below (T.setTop { method := m, pc := pc, locals := ls, stack := .double y :: .double x :: st, locked := none }) _
  jvm_step h [h.top, hx, hd', Op.dmul.at_number h.top hn]
  exact k'
theorem g_ddiv (A : Ax p l e R s m args below meth c T locs cells slots B) {x y : UInt64} (hd : decode B pc = .ok (.ddiv, 1)) (hn : NoNaN64 (FP.ddiv x y)) (hp : pc + 1 = pc') (k : Go p e below P T (mkF m pc' ls (.double (FP.ddiv x y) :: st))) : Go p e below P T (mkF m pc ls (.double y :: .double x :: st)) := by
  subst hp
  refine Go.of (fun t k' => ?_) k
  have h := A.1.here
  have hx := A.2.1
  have hd' := hb A.2.2 hd
  show Steps p.tables e below (T.setTop { method := m, pc := pc, locals := ls, stack := .double y :: .double x :: st, locked := none }) _
  jvm_step h [h.top, hx, hd', Op.ddiv.at_number h.top hn]
  exact k'
theorem g_dneg (A : Ax p l e R s m args below meth c T locs cells slots B) {x : UInt64} (hd : decode B pc = .ok (.dneg, 1)) (hp : pc + 1 = pc') (k : Go p e below P T (mkF m pc' ls (.double (FP.dneg x) :: st))) : Go p e below P T (mkF m pc ls (.double x :: st)) := by
  subst hp
  refine Go.of (fun t k' => ?_) k
  have h := A.1.here
  have hx := A.2.1
  have hd' := hb A.2.2 hd
  show Steps p.tables e below (T.setTop { method := m, pc := pc, locals := ls, stack := .double x :: st, locked := none }) _
  jvm_step h [h.top, hx, hd']
  exact k'
theorem g_i2d (A : Ax p l e R s m args below meth c T locs cells slots B) {x : Int32} (hd : decode B pc = .ok (.i2d, 1)) (hp : pc + 1 = pc') (k : Go p e below P T (mkF m pc' ls (.double (FP.i2d x) :: st))) : Go p e below P T (mkF m pc ls (.int x :: st)) := by
  subst hp
  refine Go.of (fun t k' => ?_) k
  have h := A.1.here
  have hx := A.2.1
  have hd' := hb A.2.2 hd
  show Steps p.tables e below (T.setTop { method := m, pc := pc, locals := ls, stack := .int x :: st, locked := none }) _
  jvm_step h [h.top, hx, hd']
  exact k'
theorem g_l2d (A : Ax p l e R s m args below meth c T locs cells slots B) {x : Int64} (hd : decode B pc = .ok (.l2d, 1)) (hp : pc + 1 = pc') (k : Go p e below P T (mkF m pc' ls (.double (FP.l2d x) :: st))) : Go p e below P T (mkF m pc ls (.long x :: st)) := by
  subst hp
  refine Go.of (fun t k' => ?_) k
  have h := A.1.here
  have hx := A.2.1
  have hd' := hb A.2.2 hd
  show Steps p.tables e below (T.setTop { method := m, pc := pc, locals := ls, stack := .long x :: st, locked := none }) _
  jvm_step h [h.top, hx, hd']
  exact k'
theorem g_dcmp (A : Ax p l e R s m args below meth c T locs cells slots B) {x y : UInt64} {op : CmpOp} (hd : decode B pc = .ok (.dcmp op, 1)) (hp : pc + 1 = pc') (k : Go p e below P T (mkF m pc' ls (.int (cmpValue (FP.dcmp x y) op) :: st))) : Go p e below P T (mkF m pc ls (.double y :: .double x :: st)) := by
  subst hp
  refine Go.of (fun t k' => ?_) k
  have h := A.1.here
  have hx := A.2.1
  have hd' := hb A.2.2 hd
  show Steps p.tables e below (T.setTop { method := m, pc := pc, locals := ls, stack := .double y :: .double x :: st, locked := none }) _
  jvm_step h [h.top, hx, hd']
  exact k'
theorem g_lcmp (A : Ax p l e R s m args below meth c T locs cells slots B) {x y : Int64} (hd : decode B pc = .ok (.lcmp, 1)) (hp : pc + 1 = pc') (k : Go p e below P T (mkF m pc' ls (.int (XT.cmpL x y) :: st))) : Go p e below P T (mkF m pc ls (.long y :: .long x :: st)) := by
  subst hp; exact Go.of (fun _ k' => XT.lcmp A.1.here A.2.1 rfl (hb A.2.2 hd) rfl k') k
theorem g_dup (A : Ax p l e R s m args below meth c T locs cells slots B) {x : Value} (hd : decode B pc = .ok (.dup, 1)) (hc : x.category = 1) (hp : pc + 1 = pc') (k : Go p e below P T (mkF m pc' ls (x :: x :: st))) : Go p e below P T (mkF m pc ls (x :: st)) := by
  subst hp; exact Go.of (fun _ k' => XS.dup A.1.here A.2.1 rfl (hb A.2.2 hd) rfl hc k') k
theorem g_pop (A : Ax p l e R s m args below meth c T locs cells slots B) {x : Value} (hd : decode B pc = .ok (.pop, 1)) (hc : x.category = 1) (hp : pc + 1 = pc') (k : Go p e below P T (mkF m pc' ls st)) : Go p e below P T (mkF m pc ls (x :: st)) := by
  subst hp; exact Go.of (fun _ k' => XT.pop A.1.here A.2.1 rfl (hb A.2.2 hd) rfl hc k') k
theorem g_iinc (A : Ax p l e R s m args below meth c T locs cells slots B) {k : Nat} {i : Int} {x y : Int32} (hd : decode B pc = .ok (.iinc k i, 3)) (hl : ls[k]? = some (.val (.int x))) (hy : x + Int32.ofInt i = y) (hl' : storeLocals ls k (.int y) = some ls') (hp : pc + 3 = pc') (k : Go p e below P T (mkF m pc' ls' st)) : Go p e below P T (mkF m pc ls st) := by
  subst hp hy; exact Go.of (fun _ k' => XS.iinc A.1.here A.2.1 rfl (hb A.2.2 hd) hl hl' k') k
theorem own_off {pc pc' : Nat} {o : Int} (h : (pc : Int) + o = (pc' : Int)) : 0 ≤ (pc : Int) + o ∧ ((pc : Int) + o).toNat = pc' := by omega
theorem g_goto (A : Ax p l e R s m args below meth c T locs cells slots B) {o : Int} (hd : decode B pc = .ok (.goto o, 3)) (hp : (pc : Int) + o = (pc' : Int)) (k : Go p e below P T (mkF m pc' ls st)) : Go p e below P T (mkF m pc ls st) := Go.of (fun _ k' => XS.goto A.1.here A.2.1 rfl rfl (hb A.2.2 hd) (own_off hp).1 (own_off hp).2 k') k
theorem g_ifY (A : Ax p l e R s m args below meth c T locs cells slots B) {o : Int} {cd : ClassFile.Cond} {x : Int32} (hd : decode B pc = .ok (.ifCond cd o, 3)) (hc : ifCond.holds cd x = true) (hp : (pc : Int) + o = (pc' : Int)) (k : Go p e below P T (mkF m pc' ls st)) : Go p e below P T (mkF m pc ls (.int x :: st)) := Go.of (fun _ k' => XS.ifYes A.1.here A.2.1 rfl rfl (hb A.2.2 hd) rfl hc (own_off hp).1 (own_off hp).2 k') k
theorem g_ifN (A : Ax p l e R s m args below meth c T locs cells slots B) {o : Int} {cd : ClassFile.Cond} {x : Int32} (hd : decode B pc = .ok (.ifCond cd o, 3)) (hc : ifCond.holds cd x = false) (hp : pc + 3 = pc') (k : Go p e below P T (mkF m pc' ls st)) : Go p e below P T (mkF m pc ls (.int x :: st)) := by
  subst hp; exact Go.of (fun _ k' => XS.ifNo A.1.here A.2.1 rfl (hb A.2.2 hd) rfl hc k') k
theorem g_icY (A : Ax p l e R s m args below meth c T locs cells slots B) {o : Int} {cd : ClassFile.Cond} {x y : Int32} (hd : decode B pc = .ok (.if_icmp cd o, 3)) (hc : if_icmp.holds cd x y = true) (hp : (pc : Int) + o = (pc' : Int)) (k : Go p e below P T (mkF m pc' ls st)) : Go p e below P T (mkF m pc ls (.int y :: .int x :: st)) := Go.of (fun _ k' => XS.icmpYes A.1.here A.2.1 rfl rfl (hb A.2.2 hd) rfl hc (own_off hp).1 (own_off hp).2 k') k
theorem g_icN (A : Ax p l e R s m args below meth c T locs cells slots B) {o : Int} {cd : ClassFile.Cond} {x y : Int32} (hd : decode B pc = .ok (.if_icmp cd o, 3)) (hc : if_icmp.holds cd x y = false) (hp : pc + 3 = pc') (k : Go p e below P T (mkF m pc' ls st)) : Go p e below P T (mkF m pc ls (.int y :: .int x :: st)) := by
  subst hp; exact Go.of (fun _ k' => XS.icmpNo A.1.here A.2.1 rfl (hb A.2.2 hd) rfl hc k') k
theorem c0_eq_t {x : Int32} (h : x = 0) : ifCond.holds .eq x = true := (if0 _ _).trans (teq h).1
theorem c0_eq_f {x : Int32} (h : ¬ x = 0) : ifCond.holds .eq x = false := (if0 _ _).trans (feq h).1
theorem c0_ne_t {x : Int32} (h : ¬ x = 0) : ifCond.holds .ne x = true := (if0 _ _).trans (feq h).2
theorem c0_ne_f {x : Int32} (h : x = 0) : ifCond.holds .ne x = false := (if0 _ _).trans (teq h).2
theorem c0_lt_t {x : Int32} (h : x < 0) : ifCond.holds .lt x = true := (if0 _ _).trans (tlt h).1
theorem c0_lt_f {x : Int32} (h : ¬ x < 0) : ifCond.holds .lt x = false := (if0 _ _).trans (flt h).1
theorem c0_ge_t {x : Int32} (h : ¬ x < 0) : ifCond.holds .ge x = true := (if0 _ _).trans (flt h).2.1
theorem c0_ge_f {x : Int32} (h : x < 0) : ifCond.holds .ge x = false := (if0 _ _).trans (tlt h).2.1
theorem c0_gt_t {x : Int32} (h : 0 < x) : ifCond.holds .gt x = true := (if0 _ _).trans (tlt h).2.2.1
theorem c0_gt_f {x : Int32} (h : ¬ 0 < x) : ifCond.holds .gt x = false := (if0 _ _).trans (flt h).2.2.1
theorem c0_le_t {x : Int32} (h : ¬ 0 < x) : ifCond.holds .le x = true := (if0 _ _).trans (flt h).2.2.2
theorem c0_le_f {x : Int32} (h : 0 < x) : ifCond.holds .le x = false := (if0 _ _).trans (tlt h).2.2.2
theorem c2_eq_t {x y : Int32} (h : x = y) : if_icmp.holds .eq x y = true := (teq h).1
theorem c2_eq_f {x y : Int32} (h : ¬ x = y) : if_icmp.holds .eq x y = false := (feq h).1
theorem c2_ne_t {x y : Int32} (h : ¬ x = y) : if_icmp.holds .ne x y = true := (feq h).2
theorem c2_ne_f {x y : Int32} (h : x = y) : if_icmp.holds .ne x y = false := (teq h).2
theorem c2_lt_t {x y : Int32} (h : x < y) : if_icmp.holds .lt x y = true := (tlt h).1
theorem c2_lt_f {x y : Int32} (h : ¬ x < y) : if_icmp.holds .lt x y = false := (flt h).1
theorem c2_ge_t {x y : Int32} (h : ¬ x < y) : if_icmp.holds .ge x y = true := (flt h).2.1
theorem c2_ge_f {x y : Int32} (h : x < y) : if_icmp.holds .ge x y = false := (tlt h).2.1
theorem c2_gt_t {x y : Int32} (h : y < x) : if_icmp.holds .gt x y = true := (tlt h).2.2.1
theorem c2_gt_f {x y : Int32} (h : ¬ y < x) : if_icmp.holds .gt x y = false := (flt h).2.2.1
theorem c2_le_t {x y : Int32} (h : ¬ y < x) : if_icmp.holds .le x y = true := (flt h).2.2.2
theorem c2_le_f {x y : Int32} (h : y < x) : if_icmp.holds .le x y = false := (tlt h).2.2.2
theorem b0_eq_t {C : Prop} [Decidable C] {v : Int32} (e : v = if C then 1 else 0) (h : ¬ C) : ifCond.holds .eq v = true := c0_eq_t (by rw [e, if_neg h])
theorem b0_eq_f {C : Prop} [Decidable C] {v : Int32} (e : v = if C then 1 else 0) (h : C) : ifCond.holds .eq v = false := c0_eq_f (by rw [e, if_pos h]; decide)
theorem b0_ne_t {C : Prop} [Decidable C] {v : Int32} (e : v = if C then 1 else 0) (h : C) : ifCond.holds .ne v = true := c0_ne_t (by rw [e, if_pos h]; decide)
theorem b0_ne_f {C : Prop} [Decidable C] {v : Int32} (e : v = if C then 1 else 0) (h : ¬ C) : ifCond.holds .ne v = false := c0_ne_f (by rw [e, if_neg h])
theorem own_b01 {C : Prop} [Decidable C] {v : Int32} (e : v = if C then 1 else 0) : narrow .boolean (.int v) = .int v := by
  subst e; by_cases h : C
  · rw [if_pos h]; rfl
  · rw [if_neg h]; rfl
theorem own_fb {C : Prop} [Decidable C] {v : Int32} (e : v = if C then 1 else 0) : fits .boolean (.int v) = true := by
  subst e; by_cases h : C
  · rw [if_pos h]; rfl
  · rw [if_neg h]; rfl
theorem own_ndadd {x y : UInt64} (h1 : Fin64 x) (h2 : Fin64 y) : NoNaN64 (FP.dadd x y) := dadd_out h1.noNaN h2
theorem own_ndsub {x y : UInt64} (h1 : Fin64 x) (h2 : Fin64 y) : NoNaN64 (FP.dsub x y) := dsub_out h1.noNaN h2
theorem own_ndmul {x y : UInt64} (h1 : Fin64 x) (h2 : Fin64 y) : NoNaN64 (FP.dmul x y) := dmul_out h1 h2
theorem own_fin {x : UInt64} : Fin64 x ↔ FP.Core.DFin x := fin64_core
theorem own_fneg {x : UInt64} (h : Fin64 x) : Fin64 (FP.dneg x) := by
  obtain ⟨s, c, q, e⟩ := fin64_core.mp h
  exact fin64_core.mpr ⟨!s, c, q, (FP.val64_dneg x).trans (by rw [e]; rfl)⟩
theorem own_self {x : UInt64} (h : Fin64 x) : FP.dcmp x x = some .eq := FP.Core.dcmp_self (fin64_core.mp h).ne_nan
theorem own_sgt {x : UInt64} (h : Fin64 x) : ¬ FP.dcmp x x = some .gt := by rw [own_self h]; decide
theorem own_slt {x : UInt64} (h : Fin64 x) : ¬ FP.dcmp x x = some .lt := by rw [own_self h]; decide
theorem own_and {c d : Jvm.Cond} {a : Array Value} {s : State} (h1 : c.before a s = true) (h2 : d.before a s = true) : (Jvm.Cond.and c d).before a s = true := by rw [Cond.before_and, h1, h2]; rfl
theorem own_isfin {x : UInt64} (h : Fin64 x) : some (Value.int (if Jvm.Free.Fl.relLe (FP.dcmp (x &&& 0x7fffffffffffffff) Jvm.Free.Fl.maxD) = true then (1 : Int32) else 0)) = some (.int (1 : Int32)) := by rw [if_pos ((le_max_iff h.noNaN).mpr h)]
theorem own_isinf {x : UInt64} (h : Fin64 x) : some (Value.int (if Jvm.Free.Fl.relGt (FP.dcmp (x &&& 0x7fffffffffffffff) Jvm.Free.Fl.maxD) = true then (1 : Int32) else 0)) = some (.int (0 : Int32)) := by rw [if_neg (fun h4 => (gt_max_iff h.noNaN).mp h4 h)]
theorem own_dfin {i : Int} {x : UInt64} (h : FP.Core.DInt i x) : Fin64 x := by
  refine fin64_core.mpr ?_
  have q : FP.Core.Whole i (FP.Core.val64 x) := h
  cases e : FP.Core.val64 x with
  | nan => rw [e] at q; exact q.elim
  | inf s => rw [e] at q; exact q.elim
  | fin s c q => exact ⟨s, c, q, e⟩
theorem own_fn {v : Int32} (h : narrow .boolean (.int v) = .int v) : fits .boolean (.int v) = true := by
  have q : v &&& 1 = v := Value.int.inj h
  rcases and_one v with z | z <;> rw [z] at q <;> subst q <;> rfl
/-- a double less than, equal to .. another, as the code asks it -/
abbrev oGe (o : Option Ordering) : Prop := o = some .gt ∨ o = some .eq
abbrev oLe (o : Option Ordering) : Prop := o = some .lt ∨ o = some .eq
theorem d_l_eq_t {o : Option Ordering} (h : o = some .eq) : ifCond.holds .eq (cmpValue o .l) = true := by
  rcases o with _ | _ | _ | _ <;> first | rfl | decide | (exfalso; revert h; decide)
theorem d_l_eq_f {o : Option Ordering} (h : ¬ o = some .eq) : ifCond.holds .eq (cmpValue o .l) = false := by
  rcases o with _ | _ | _ | _ <;> first | rfl | decide | (exfalso; revert h; decide)
theorem d_l_ne_t {o : Option Ordering} (h : ¬ o = some .eq) : ifCond.holds .ne (cmpValue o .l) = true := by
  rcases o with _ | _ | _ | _ <;> first | rfl | decide | (exfalso; revert h; decide)
theorem d_l_ne_f {o : Option Ordering} (h : o = some .eq) : ifCond.holds .ne (cmpValue o .l) = false := by
  rcases o with _ | _ | _ | _ <;> first | rfl | decide | (exfalso; revert h; decide)
theorem d_g_eq_t {o : Option Ordering} (h : o = some .eq) : ifCond.holds .eq (cmpValue o .g) = true := by
  rcases o with _ | _ | _ | _ <;> first | rfl | decide | (exfalso; revert h; decide)
theorem d_g_eq_f {o : Option Ordering} (h : ¬ o = some .eq) : ifCond.holds .eq (cmpValue o .g) = false := by
  rcases o with _ | _ | _ | _ <;> first | rfl | decide | (exfalso; revert h; decide)
theorem d_g_ne_t {o : Option Ordering} (h : ¬ o = some .eq) : ifCond.holds .ne (cmpValue o .g) = true := by
  rcases o with _ | _ | _ | _ <;> first | rfl | decide | (exfalso; revert h; decide)
theorem d_g_ne_f {o : Option Ordering} (h : o = some .eq) : ifCond.holds .ne (cmpValue o .g) = false := by
  rcases o with _ | _ | _ | _ <;> first | rfl | decide | (exfalso; revert h; decide)
theorem d_l_lt_t {o : Option Ordering} (h : ¬ oGe o) : ifCond.holds .lt (cmpValue o .l) = true := by
  rcases o with _ | _ | _ | _ <;> first | rfl | decide | (exfalso; revert h; decide)
theorem d_l_lt_f {o : Option Ordering} (h : oGe o) : ifCond.holds .lt (cmpValue o .l) = false := by
  rcases o with _ | _ | _ | _ <;> first | rfl | decide | (exfalso; revert h; decide)
theorem d_l_ge_t {o : Option Ordering} (h : oGe o) : ifCond.holds .ge (cmpValue o .l) = true := by
  rcases o with _ | _ | _ | _ <;> first | rfl | decide | (exfalso; revert h; decide)
theorem d_l_ge_f {o : Option Ordering} (h : ¬ oGe o) : ifCond.holds .ge (cmpValue o .l) = false := by
  rcases o with _ | _ | _ | _ <;> first | rfl | decide | (exfalso; revert h; decide)
theorem d_l_gt_t {o : Option Ordering} (h : o = some .gt) : ifCond.holds .gt (cmpValue o .l) = true := by
  rcases o with _ | _ | _ | _ <;> first | rfl | decide | (exfalso; revert h; decide)
theorem d_l_gt_f {o : Option Ordering} (h : ¬ o = some .gt) : ifCond.holds .gt (cmpValue o .l) = false := by
  rcases o with _ | _ | _ | _ <;> first | rfl | decide | (exfalso; revert h; decide)
theorem d_l_le_t {o : Option Ordering} (h : ¬ o = some .gt) : ifCond.holds .le (cmpValue o .l) = true := by
  rcases o with _ | _ | _ | _ <;> first | rfl | decide | (exfalso; revert h; decide)
theorem d_l_le_f {o : Option Ordering} (h : o = some .gt) : ifCond.holds .le (cmpValue o .l) = false := by
  rcases o with _ | _ | _ | _ <;> first | rfl | decide | (exfalso; revert h; decide)
theorem d_g_lt_t {o : Option Ordering} (h : o = some .lt) : ifCond.holds .lt (cmpValue o .g) = true := by
  rcases o with _ | _ | _ | _ <;> first | rfl | decide | (exfalso; revert h; decide)
theorem d_g_lt_f {o : Option Ordering} (h : ¬ o = some .lt) : ifCond.holds .lt (cmpValue o .g) = false := by
  rcases o with _ | _ | _ | _ <;> first | rfl | decide | (exfalso; revert h; decide)
theorem d_g_ge_t {o : Option Ordering} (h : ¬ o = some .lt) : ifCond.holds .ge (cmpValue o .g) = true := by
  rcases o with _ | _ | _ | _ <;> first | rfl | decide | (exfalso; revert h; decide)
theorem d_g_ge_f {o : Option Ordering} (h : o = some .lt) : ifCond.holds .ge (cmpValue o .g) = false := by
  rcases o with _ | _ | _ | _ <;> first | rfl | decide | (exfalso; revert h; decide)
theorem d_g_gt_t {o : Option Ordering} (h : ¬ oLe o) : ifCond.holds .gt (cmpValue o .g) = true := by
  rcases o with _ | _ | _ | _ <;> first | rfl | decide | (exfalso; revert h; decide)
theorem d_g_gt_f {o : Option Ordering} (h : oLe o) : ifCond.holds .gt (cmpValue o .g) = false := by
  rcases o with _ | _ | _ | _ <;> first | rfl | decide | (exfalso; revert h; decide)
theorem d_g_le_t {o : Option Ordering} (h : oLe o) : ifCond.holds .le (cmpValue o .g) = true := by
  rcases o with _ | _ | _ | _ <;> first | rfl | decide | (exfalso; revert h; decide)
theorem d_g_le_f {o : Option Ordering} (h : ¬ oLe o) : ifCond.holds .le (cmpValue o .g) = false := by
  rcases o with _ | _ | _ | _ <;> first | rfl | decide | (exfalso; revert h; decide)
theorem l_eq (x y : Int64) : XT.cmpL x y = 0 ↔ x = y := lw_eq x y
theorem l_lt (x y : Int64) : XT.cmpL x y < 0 ↔ x < y := lw_lt x y
theorem l_gt (x y : Int64) : 0 < XT.cmpL x y ↔ y < x := lw_gt x y
theorem g_ret (A : Ax p l e R s m args below meth c T locs cells slots B) {w : Value} {t : FieldType} {i : Instr} {Q : Option Value → Heap → List Loc → Prop} {K S : Nat} (hd : decode B pc = .ok (i, 1)) (hlk : meth.locks = false) (hret : meth.sig.returnType = some t) (hn : narrow t w = w)
    (hi : (i = .ireturn ∧ (t = .int ∨ t = .boolean ∨ t = .byte ∨ t = .char ∨ t = .short) ∧ ∃ z, w = .int z) ∨ (i = .lreturn ∧ t = .long ∧ ∃ z, w = .long z) ∨ (i = .dreturn ∧ t = .double ∧ ∃ z, w = .double z) ∨ (i = .freturn ∧ t = .float ∧ ∃ z, w = .float z) ∨ (i = .areturn ∧ t.isReference = true ∧ w.isRef = true))
    (hK : cells ≤ K) (hS : slots ≤ S) (hQ : Q (some w) T.heap locs) : Go p e below (fun U o => ∃ v L, o = .returned v ∧ Q v U.heap L ∧ FrameEnd s o U L K S) T (mkF m pc ls (w :: st)) := by
  obtain ⟨fs, hr, hrun, hended, hW, hsame⟩ := A.1.leave (v := some w) (fun h => by rw [hret] at h; cases h) hlk
  exact ⟨_, _, retOut A.1 A.2.1 hret hn hi (hb A.2.2 hd) hr, hrun, hended, _, _, rfl, hQ, ⟨_, rfl⟩, hW, hsame.mono hK hS⟩
theorem g_retV (A : Ax p l e R s m args below meth c T locs cells slots B) {Q : Option Value → Heap → List Loc → Prop} {K S : Nat} (hd : decode B pc = .ok (.return_, 1)) (hlk : meth.locks = false) (hret : meth.sig.returnType = none)
    (hK : cells ≤ K) (hS : slots ≤ S) (hQ : Q none T.heap locs) : Go p e below (fun U o => ∃ v L, o = .returned v ∧ Q v U.heap L ∧ FrameEnd s o U L K S) T (mkF m pc ls []) := by
  obtain ⟨fs, hr, hrun, hended, hW, hsame⟩ := A.1.leave (v := none) (fun _ => rfl) hlk
  exact ⟨_, _, A.1.returnOut A.2.1 hret (hb A.2.2 hd) hr, hrun, hended, _, _, rfl, hQ, ⟨_, rfl⟩, hW, hsame.mono hK hS⟩
theorem g_ldcI (A : Ax p l e R s m args below meth c T locs cells slots B) {Z : State} {a0 : Array Value} {own : String} {i : Nat} {v : Int32} (hZ : Z.Warmed39 s.vm) (hown : s.vm.findClass own = some m.cls) (w : (Jvm.Cond.constant own i v).before a0 Z = true) (hd : decode B pc = .ok (.ldc i, 2)) (hp : pc + 2 = pc') (k : Go p e below P T (mkF m pc' ls (.int v :: st))) : Go p e below P T (mkF m pc ls st) := by
  subst hp; exact Go.of (A.1.ldcInt A.2.1 hown (mvT hZ w) (g := mkF m pc ls st) rfl (hb A.2.2 hd)) k
theorem g_ldcD (A : Ax p l e R s m args below meth c T locs cells slots B) {Z : State} {a0 : Array Value} {own : String} {i : Nat} {v : UInt64} (hZ : Z.Warmed39 s.vm) (hown : s.vm.findClass own = some m.cls) (w : (Jvm.Cond.constantDouble own i v).before a0 Z = true) (hd : decode B pc = .ok (.ldc2_w i, 3)) (hp : pc + 3 = pc') (k : Go p e below P T (mkF m pc' ls (.double v :: st))) : Go p e below P T (mkF m pc ls st) := by
  subst hp; exact Go.of (A.1.ldc2DoubleC A.2.1 hown (mvT hZ w) (g := mkF m pc ls st) rfl (hb A.2.2 hd)) k
theorem g_ldcL (A : Ax p l e R s m args below meth c T locs cells slots B) {Z : State} {a0 : Array Value} {own : String} {i : Nat} {v : Int64} (hZ : Z.Warmed39 s.vm) (hown : s.vm.findClass own = some m.cls) (w : (Jvm.Cond.constantLong own i v).before a0 Z = true) (hd : decode B pc = .ok (.ldc2_w i, 3)) (hp : pc + 3 = pc') (k : Go p e below P T (mkF m pc' ls (.long v :: st))) : Go p e below P T (mkF m pc ls st) := by
  subst hp; exact Go.of (A.1.ldc2Long A.2.1 hown (mvT hZ w) (g := mkF m pc ls st) rfl (hb A.2.2 hd)) k
theorem g_nnY (A : Ax p l e R s m args below meth c T locs cells slots B) {o : Int} {b : Addr} (hd : decode B pc = .ok (.ifnonnull o, 3)) (hp : (pc : Int) + o = (pc' : Int)) (k : Go p e below P T (mkF m pc' ls st)) : Go p e below P T (mkF m pc ls (.ref b :: st)) := Go.of (fun _ k' => XT.ifnonnullYes A.1.here A.2.1 rfl rfl (hb A.2.2 hd) rfl (own_off hp).1 (own_off hp).2 k') k
theorem g_nnN (A : Ax p l e R s m args below meth c T locs cells slots B) {o : Int} (hd : decode B pc = .ok (.ifnonnull o, 3)) (hp : pc + 3 = pc') (k : Go p e below P T (mkF m pc' ls st)) : Go p e below P T (mkF m pc ls (.null :: st)) := by
  subst hp; exact Go.of (fun _ k' => XT.ifnonnullNo A.1.here A.2.1 rfl (hb A.2.2 hd) rfl k') k
theorem g_nuY (A : Ax p l e R s m args below meth c T locs cells slots B) {o : Int} (hd : decode B pc = .ok (.ifnull o, 3)) (hp : (pc : Int) + o = (pc' : Int)) (k : Go p e below P T (mkF m pc' ls st)) : Go p e below P T (mkF m pc ls (.null :: st)) := Go.of (fun _ k' => XS.ifnullYes A.1.here A.2.1 rfl rfl (hb A.2.2 hd) rfl (own_off hp).1 (own_off hp).2 k') k
theorem g_nuN (A : Ax p l e R s m args below meth c T locs cells slots B) {o : Int} {b : Addr} (hd : decode B pc = .ok (.ifnull o, 3)) (hp : pc + 3 = pc') (k : Go p e below P T (mkF m pc' ls st)) : Go p e below P T (mkF m pc ls (.ref b :: st)) := by
  subst hp; exact Go.of (fun _ k' => XS.ifnullNo A.1.here A.2.1 rfl (hb A.2.2 hd) rfl k') k
theorem g_acY (A : Ax p l e R s m args below meth c T locs cells slots B) {o : Int} {cd : ClassFile.ACond} {x y : Value} (hd : decode B pc = .ok (.if_acmp cd o, 3)) (h1 : x.isRef = true) (h2 : y.isRef = true) (hc : XT.acmp cd x y = true) (hp : (pc : Int) + o = (pc' : Int)) (k : Go p e below P T (mkF m pc' ls st)) : Go p e below P T (mkF m pc ls (y :: x :: st)) := Go.of (fun _ k' => XT.acmpYes A.1.here A.2.1 rfl rfl (hb A.2.2 hd) rfl h1 h2 hc (own_off hp).1 (own_off hp).2 k') k
theorem g_acN (A : Ax p l e R s m args below meth c T locs cells slots B) {o : Int} {cd : ClassFile.ACond} {x y : Value} (hd : decode B pc = .ok (.if_acmp cd o, 3)) (h1 : x.isRef = true) (h2 : y.isRef = true) (hc : XT.acmp cd x y = false) (hp : pc + 3 = pc') (k : Go p e below P T (mkF m pc' ls st)) : Go p e below P T (mkF m pc ls (y :: x :: st)) := by
  subst hp; exact Go.of (fun _ k' => XT.acmpNo A.1.here A.2.1 rfl (hb A.2.2 hd) rfl h1 h2 hc k') k
/-- an array of n places: its i-th holds f i -/
def Dar (Z : State) (h : Heap) (a : Addr) (ty : FieldType) (n : Nat) (f : Nat → Value) : Prop := ∃ cl : Cell, RoadKit.Arr Z h a cl ty ∧ cl.slots.size = n ∧ n < 2147483648 ∧ ∀ i, i < n → cl.slots[i]? = some (f i)
variable {Z : State} {h h' : Heap} {a b : Addr} {ty : FieldType} {n : Nat} {f g : Nat → Value} {sl : Nat} {v : Value} {ws : List Addr}
theorem Dar.lt (F : Dar Z h a ty n f) : a < h.size := by obtain ⟨cl, A, -⟩ := F; exact A.lt
theorem Dar.ext (E : Ext h h') (F : Dar Z h a ty n f) : Dar Z h' a ty n f := by obtain ⟨cl, A, r⟩ := F; exact ⟨cl, A.ext E, r⟩
theorem Dar.other (W : Wr h h' b sl v) (F : Dar Z h a ty n f) (q : a ≠ b) : Dar Z h' a ty n f := by obtain ⟨cl, A, r⟩ := F; exact ⟨cl, A.other W q, r⟩
theorem Dar.keep (F : Dar Z h a ty n f) (K : Keep h h' ws) (q : a ∉ ws) : Dar Z h' a ty n f := by obtain ⟨cl, A, r⟩ := F; exact ⟨cl, ⟨K.2.1 a cl A.1 q, A.2⟩, r⟩
theorem Dar.congr (F : Dar Z h a ty n f) (q : ∀ i, i < n → f i = g i) : Dar Z h a ty n g := by obtain ⟨cl, A, r1, r2, r3⟩ := F; exact ⟨cl, A, r1, r2, fun i hi => by rw [← q i hi]; exact r3 i hi⟩
theorem Dar.new {cA : ClassId} {z : Int32} (A : RoadKit.Arr Z h a (newA cA ty z) ty) (hz : z.toNatClampNeg = n) : Dar Z h a ty n (fun _ => defaultValue ty) := by
  refine ⟨_, A, (sz_new _ _ _).trans hz, ?_, fun i hi => by subst hz; simp [newA, hi]⟩
  have := z.toInt_lt
  rw [← hz, Int32.toNatClampNeg]; omega
theorem Dar.ne_exa {a0 : Array Value} {k : Nat} {C : String} (F : Dar Z h a ty n f) (E : Exa Z h b C) (wi : (Jvm.Cond.instantiable C k).before a0 Z = true) : a ≠ b := by obtain ⟨cl, A, -⟩ := F; exact fun q => ne_arr E wi A q.symm
theorem own_ne {a b : Nat} {h : Heap} (g : a = h.size) (q : b < h.size) : b ≠ a := by rw [g]; exact Nat.ne_of_lt q
theorem own_clamp {i : Nat} (hi : i < 2147483648) : (Int32.ofNat i).toNatClampNeg = i ∧ ¬ Int32.ofNat i < 0 := by
  have e : (Int32.ofNat i).toInt = i := Int32.toInt_ofNat_of_lt hi
  refine ⟨by rw [Int32.toNatClampNeg, e]; omega, fun q => ?_⟩
  rw [Int32.lt_iff_toInt_lt, e] at q
  have : (0 : Int32).toInt = 0 := rfl
  omega
theorem Dar.set {i : Nat} (F : Dar Z h a ty n f) (W : Wr h h' a i v) (q : ∀ j, j < n → g j = if j = i then v else f j) : Dar Z h' a ty n g := by
  obtain ⟨cl, A, r1, r2, r3⟩ := F
  refine ⟨_, A.same W, (sz_set _ _ _).trans r1, r2, fun j hj => ?_⟩
  rw [q j hj]
  by_cases e : j = i
  · subst e; rw [if_pos rfl]; simp [Cell.setSlot, r1, hj]
  · rw [if_neg e]; exact (Array.getElem?_setIfInBounds_ne (Ne.symm e)).trans (r3 j hj)
theorem own_in {cl : Cell} {i : Nat} (S : cl.slots.size = n) (hn : n < 2147483648) (hi : i < n) : ¬ (Int32.ofNat i < 0 ∨ cl.slots.size ≤ (Int32.ofNat i).toNatClampNeg) := by
  obtain ⟨q1, q2⟩ := own_clamp (i := i) (by omega)
  rw [q1, S]; exact fun z => z.elim q2 (by omega)
theorem g_daload (A : Ax p l e R s m args below meth c T locs cells slots B) (hZ : Z.Warmed39 s.vm) (eT : T.heap = h) {j : Int32} {i : Nat} {x : UInt64} (F : Dar Z h a .double n f) (hi : i < n) (hj : j = Int32.ofNat i) (hv : f i = .double x) (hd : decode B pc = .ok (.daload, 1)) (hp : pc + 1 = pc') (k : Go p e below P T (mkF m pc' ls (.double x :: st))) : Go p e below P T (mkF m pc ls (.int j :: .ref a :: st)) := by
  subst hp hj
  obtain ⟨cl, A2, r1, r2, r3⟩ := F
  have q := (own_clamp (i := i) (by omega)).1
  exact Go.of (fun t k' => A.1.daload A.2.1 (j := Int32.ofNat i) (v := .double x) (by rw [eT]; exact A2.1) (State.isArrayOf_alike hZ.alike A2.2.1) A2.2.2 (own_in r1 r2 hi) (by rw [q, ← hv]; exact r3 i hi) (g := mkF m pc ls (.int (Int32.ofNat i) :: .ref a :: st)) rfl rfl (hb A.2.2 hd) t k') k
theorem g_iaload (A : Ax p l e R s m args below meth c T locs cells slots B) (hZ : Z.Warmed39 s.vm) (eT : T.heap = h) {j : Int32} {i : Nat} {x : Int32} (F : Dar Z h a .int n f) (hi : i < n) (hj : j = Int32.ofNat i) (hv : f i = .int x) (hd : decode B pc = .ok (.iaload, 1)) (hp : pc + 1 = pc') (k : Go p e below P T (mkF m pc' ls (.int x :: st))) : Go p e below P T (mkF m pc ls (.int j :: .ref a :: st)) := by
  subst hp hj
  obtain ⟨cl, A2, r1, r2, r3⟩ := F
  have q := (own_clamp (i := i) (by omega)).1
  exact Go.of (fun t k' => A.1.iaload A.2.1 (j := Int32.ofNat i) (v := .int x) (by rw [eT]; exact A2.1) (State.isArrayOf_alike hZ.alike A2.2.1) A2.2.2 (own_in r1 r2 hi) (by rw [q, ← hv]; exact r3 i hi) (g := mkF m pc ls (.int (Int32.ofNat i) :: .ref a :: st)) rfl rfl (hb A.2.2 hd) t k') k
theorem g_baload (A : Ax p l e R s m args below meth c T locs cells slots B) (hZ : Z.Warmed39 s.vm) (eT : T.heap = h) {j : Int32} {i : Nat} {x : Int32} (F : Dar Z h a .boolean n f) (hi : i < n) (hj : j = Int32.ofNat i) (hv : f i = .int x) (hd : decode B pc = .ok (.baload, 1)) (hp : pc + 1 = pc') (k : Go p e below P T (mkF m pc' ls (.int x :: st))) : Go p e below P T (mkF m pc ls (.int j :: .ref a :: st)) := by
  subst hp hj
  obtain ⟨cl, A2, r1, r2, r3⟩ := F
  have q := (own_clamp (i := i) (by omega)).1
  exact Go.of (fun t k' => A.1.baloadBooleans A.2.1 (j := Int32.ofNat i) (v := .int x) (by rw [eT]; exact A2.1) (State.isArrayOf_alike hZ.alike A2.2.1) A2.2.2 (own_in r1 r2 hi) (by rw [q, ← hv]; exact r3 i hi) (g := mkF m pc ls (.int (Int32.ofNat i) :: .ref a :: st)) rfl rfl (hb A.2.2 hd) t k') k
theorem g_alen (A : Ax p l e R s m args below meth c T locs cells slots B) (hZ : Z.Warmed39 s.vm) (eT : T.heap = h) (F : Dar Z h a ty n f) (hd : decode B pc = .ok (.arraylength, 1)) {z : Int32} (hz : Int32.ofNat n = z) (hp : pc + 1 = pc') (k : Go p e below P T (mkF m pc' ls (.int z :: st))) : Go p e below P T (mkF m pc ls (.ref a :: st)) := by
  subst hp hz
  obtain ⟨cl, A2, r1, r2, r3⟩ := F
  exact Go.of (fun t k' => A.1.arraylength A.2.1 (cell := cl) (by rw [eT]; exact A2.1) (State.isArrayOf_alike hZ.alike A2.2.1) (g := mkF m pc ls (.ref a :: st)) rfl (rest := st) rfl (hb A.2.2 hd) t (by rw [r1]; exact k')) k
theorem s_dastore (A : Ax p l e R s m args below meth c T locs cells slots B) (hZ : Z.Warmed39 s.vm) (eT : T.heap = h) {j : Int32} {i : Nat} {x : UInt64} (F : Dar Z h a .double n f) (hi : i < n) (hj : j = Int32.ofNat i) (hd : decode B pc = .ok (.dastore, 1)) (hp : pc + 1 = pc') :
    ∃ T' h', Ax p l e R s m args below meth c T' (locs ++ [⟨a, i⟩]) cells slots B ∧ T'.heap = h' ∧ Wr h h' a i (.double x) ∧ ∀ {P : State → Outcome → Prop}, Go p e below P T' (mkF m pc' ls st) → Go p e below P T (mkF m pc ls (.double x :: .int j :: .ref a :: st)) := by
  subst hp hj
  obtain ⟨cl, A2, r1, r2, r3⟩ := F
  have q := (own_clamp (i := i) (by omega)).1
  obtain ⟨X', st'⟩ := A.1.dastore A.2.1 (by rw [eT]; exact A2.1) (State.isArrayOf_alike hZ.alike A2.2.1) A2.2.2 (own_in r1 r2 hi) (x := x) (g := mkF m pc ls (.double x :: .int (Int32.ofNat i) :: .ref a :: st)) rfl rfl (hb A.2.2 hd)
  rw [q] at X' st'
  exact ⟨_, _, ⟨X', A.2⟩, rfl, ⟨cl, A2.1, A2.plain, by rw [r1]; exact hi, by rw [← eT]; rfl⟩, fun k => Go.of st' k⟩
theorem s_iastore (A : Ax p l e R s m args below meth c T locs cells slots B) (hZ : Z.Warmed39 s.vm) (eT : T.heap = h) {j : Int32} {i : Nat} {x : Int32} (F : Dar Z h a .int n f) (hi : i < n) (hj : j = Int32.ofNat i) (hd : decode B pc = .ok (.iastore, 1)) (hp : pc + 1 = pc') :
    ∃ T' h', Ax p l e R s m args below meth c T' (locs ++ [⟨a, i⟩]) cells slots B ∧ T'.heap = h' ∧ Wr h h' a i (.int x) ∧ ∀ {P : State → Outcome → Prop}, Go p e below P T' (mkF m pc' ls st) → Go p e below P T (mkF m pc ls (.int x :: .int j :: .ref a :: st)) := by
  subst hp hj
  obtain ⟨cl, A2, r1, r2, r3⟩ := F
  have q := (own_clamp (i := i) (by omega)).1
  obtain ⟨T', h', X', e', W, st'⟩ := stI A.1 A.2.1 hZ eT A2 (own_in r1 r2 hi) (x := x) (g := mkF m pc ls (.int x :: .int (Int32.ofNat i) :: .ref a :: st)) rfl rfl (hb A.2.2 hd)
  rw [q] at X' W
  exact ⟨_, _, ⟨X', A.2⟩, e', W, fun k => Go.of st' k⟩
theorem s_zastore (A : Ax p l e R s m args below meth c T locs cells slots B) (hZ : Z.Warmed39 s.vm) (eT : T.heap = h) {j : Int32} {i : Nat} {x : Int32} (F : Dar Z h a .boolean n f) (hi : i < n) (hj : j = Int32.ofNat i) (hx1 : narrow .boolean (.int x) = .int x) (hd : decode B pc = .ok (.bastore, 1)) (hp : pc + 1 = pc') :
    ∃ T' h', Ax p l e R s m args below meth c T' (locs ++ [⟨a, i⟩]) cells slots B ∧ T'.heap = h' ∧ Wr h h' a i (.int x) ∧ ∀ {P : State → Outcome → Prop}, Go p e below P T' (mkF m pc' ls st) → Go p e below P T (mkF m pc ls (.int x :: .int j :: .ref a :: st)) := by
  subst hp hj
  obtain ⟨cl, A2, r1, r2, r3⟩ := F
  have q := (own_clamp (i := i) (by omega)).1
  obtain ⟨T', h', X', e', W, st'⟩ := stZ A.1 A.2.1 hZ eT A2 (own_in r1 r2 hi) (x := x) (g := mkF m pc ls (.int x :: .int (Int32.ofNat i) :: .ref a :: st)) rfl rfl (hb A.2.2 hd)
  have q2 : nar .boolean x = x := Value.int.inj hx1
  rw [q] at X' W; rw [q2] at W
  exact ⟨_, _, ⟨X', A.2⟩, e', W, fun k => Go.of st' k⟩
end own_go
theorem own_mod (x y : Int32) (n : Nat) (h0 : 0 < n) (hn : n < 2147483648) (hy : y.toInt = n) (hx : 0 ≤ x.toInt) : ∃ i : Nat, i < n ∧ x % y = Int32.ofNat i := by
  have h2 := (c_irem x y n hy).1 hx
  have b1 := Int.emod_nonneg x.toInt (show (n : Int) ≠ 0 by omega)
  have b2 := Int.emod_lt_of_pos x.toInt (show (0 : Int) < n by omega)
  refine ⟨(x % y).toInt.toNat, by omega, ?_⟩
  apply Int32.toInt_inj.mp
  rw [Int32.toInt_ofNat_of_lt (by omega)]
  omega
theorem own_m31 (p : Int32) : 0 ≤ (p &&& (2147483647 : Int32)).toInt := by
  have h := c_and p 2147483647 (by decide)
  exact h.1
theorem own_k9 (p : Int32) : ∃ i : Fin 9, ((p &&& (2147483647 : Int32)) % (9 : Int32)) = Int32.ofNat i.1 := by
  obtain ⟨i, hi, e⟩ := own_mod (p &&& (2147483647 : Int32)) 9 9 (by decide) (by decide) rfl (own_m31 p)
  exact ⟨⟨i, hi⟩, e⟩
def own_t (i : Nat) : Nat := 3 * (i % 3) + i / 3
def own_c : Nat → UInt64
  | 0 => 0 | 1 => 4607182418800017408 | 2 => 4611686018427387904 | 3 => 4613937818241073152 | 4 => 4616189618054758400 | 5 => 4617315517961601024 | 6 => 4618441417868443648 | 7 => 4619567317775286272 | _ => 4620693217682128896
def own_m (b : UInt64) : Nat → UInt64
  | 0 => b
  | n + 1 => FP.dadd b (own_c (n + 1))
theorem own_ct : ∀ i : Fin 9, own_c i.1 = FP.i2d (Int32.ofNat i.1) := by decide +kernel
theorem own_tl : ∀ i : Fin 9, own_t i.1 < 9 := by decide
theorem own_ofn {i : Nat} (h : i < 9) : (Int32.ofNat i).toInt = i := Int32.toInt_ofNat_of_lt (by omega)
theorem own_mi (p : Int32) (i : Nat) (hi : i < 9) : FP.Core.DInt (p.toInt + i) (own_m (FP.i2d p) i) := by
  have hp := FP.Core.i2d_int p
  have r := rng32 p
  cases i with
  | zero => show FP.Core.DInt (p.toInt + (0 : Nat)) (FP.i2d p); rw [show p.toInt + ((0 : Nat) : Int) = p.toInt by omega]; exact hp
  | succ n =>
    show FP.Core.DInt _ (FP.dadd (FP.i2d p) (own_c (n + 1)))
    rw [own_ct ⟨n + 1, hi⟩]
    have q := FP.Core.i2d_int (Int32.ofNat (n + 1))
    rw [own_ofn hi] at q
    exact FP.Core.dadd_int hp q (by omega)
theorem own_cmp (p : Int32) (i : Nat) (hi : i < 9) (z : Int32) (hz : z = Int32.ofNat i) : FP.dcmp (own_m (FP.i2d p) i) (FP.dadd (FP.i2d p) (FP.i2d z)) = some .eq := by
  subst hz
  have r := rng32 p
  have q := FP.Core.i2d_int (Int32.ofNat i)
  rw [own_ofn hi] at q
  have h := FP.Core.dcmp_int (own_mi p i hi) (FP.Core.dadd_int (FP.Core.i2d_int p) q (by omega))
  exact h.trans (congrArg some ((FP.Core.compare_eq_iff _ _).mpr rfl))
theorem own_i1 : ∀ i : Fin 9, ((3 : Int32) * (Int32.ofNat i.1 / (3 : Int32))) + (Int32.ofNat i.1 % (3 : Int32)) = Int32.ofNat i.1 := by decide +kernel
theorem own_i2 : ∀ i : Fin 9, ((3 : Int32) * (Int32.ofNat i.1 % (3 : Int32))) + (Int32.ofNat i.1 / (3 : Int32)) = Int32.ofNat (own_t i.1) := by decide +kernel
theorem d1_0 : decode prog_7_method_4_code 0 = .ok (.bipush 9, 2) := by decide +kernel
theorem d1_2 : decode prog_7_method_4_code 2 = .ok (.newarray .double, 2) := by decide +kernel
theorem d1_4 : decode prog_7_method_4_code 4 = .ok (.dup, 1) := by decide +kernel
theorem d1_5 : decode prog_7_method_4_code 5 = .ok (.iconst 0, 1) := by decide +kernel
theorem d1_6 : decode prog_7_method_4_code 6 = .ok (.aload_n 0, 1) := by decide +kernel
theorem d1_7 : decode prog_7_method_4_code 7 = .ok (.iconst 0, 1) := by decide +kernel
theorem d1_8 : decode prog_7_method_4_code 8 = .ok (.daload, 1) := by decide +kernel
theorem d1_9 : decode prog_7_method_4_code 9 = .ok (.dastore, 1) := by decide +kernel
theorem d1_10 : decode prog_7_method_4_code 10 = .ok (.dup, 1) := by decide +kernel
theorem d1_11 : decode prog_7_method_4_code 11 = .ok (.iconst 1, 1) := by decide +kernel
theorem d1_12 : decode prog_7_method_4_code 12 = .ok (.aload_n 0, 1) := by decide +kernel
theorem d1_13 : decode prog_7_method_4_code 13 = .ok (.iconst 3, 1) := by decide +kernel
theorem d1_14 : decode prog_7_method_4_code 14 = .ok (.daload, 1) := by decide +kernel
theorem d1_15 : decode prog_7_method_4_code 15 = .ok (.dastore, 1) := by decide +kernel
theorem d1_16 : decode prog_7_method_4_code 16 = .ok (.dup, 1) := by decide +kernel
theorem d1_17 : decode prog_7_method_4_code 17 = .ok (.iconst 2, 1) := by decide +kernel
theorem d1_18 : decode prog_7_method_4_code 18 = .ok (.aload_n 0, 1) := by decide +kernel
theorem d1_19 : decode prog_7_method_4_code 19 = .ok (.bipush 6, 2) := by decide +kernel
theorem d1_21 : decode prog_7_method_4_code 21 = .ok (.daload, 1) := by decide +kernel
theorem d1_22 : decode prog_7_method_4_code 22 = .ok (.dastore, 1) := by decide +kernel
theorem d1_23 : decode prog_7_method_4_code 23 = .ok (.dup, 1) := by decide +kernel
theorem d1_24 : decode prog_7_method_4_code 24 = .ok (.iconst 3, 1) := by decide +kernel
theorem d1_25 : decode prog_7_method_4_code 25 = .ok (.aload_n 0, 1) := by decide +kernel
theorem d1_26 : decode prog_7_method_4_code 26 = .ok (.iconst 1, 1) := by decide +kernel
theorem d1_27 : decode prog_7_method_4_code 27 = .ok (.daload, 1) := by decide +kernel
theorem d1_28 : decode prog_7_method_4_code 28 = .ok (.dastore, 1) := by decide +kernel
theorem d1_29 : decode prog_7_method_4_code 29 = .ok (.dup, 1) := by decide +kernel
theorem d1_30 : decode prog_7_method_4_code 30 = .ok (.iconst 4, 1) := by decide +kernel
theorem d1_31 : decode prog_7_method_4_code 31 = .ok (.aload_n 0, 1) := by decide +kernel
theorem d1_32 : decode prog_7_method_4_code 32 = .ok (.iconst 4, 1) := by decide +kernel
theorem d1_33 : decode prog_7_method_4_code 33 = .ok (.daload, 1) := by decide +kernel
theorem d1_34 : decode prog_7_method_4_code 34 = .ok (.dastore, 1) := by decide +kernel
theorem d1_35 : decode prog_7_method_4_code 35 = .ok (.dup, 1) := by decide +kernel
theorem d1_36 : decode prog_7_method_4_code 36 = .ok (.iconst 5, 1) := by decide +kernel
theorem d1_37 : decode prog_7_method_4_code 37 = .ok (.aload_n 0, 1) := by decide +kernel
theorem d1_38 : decode prog_7_method_4_code 38 = .ok (.bipush 7, 2) := by decide +kernel
theorem d1_40 : decode prog_7_method_4_code 40 = .ok (.daload, 1) := by decide +kernel
theorem d1_41 : decode prog_7_method_4_code 41 = .ok (.dastore, 1) := by decide +kernel
theorem d1_42 : decode prog_7_method_4_code 42 = .ok (.dup, 1) := by decide +kernel
theorem d1_43 : decode prog_7_method_4_code 43 = .ok (.bipush 6, 2) := by decide +kernel
theorem d1_45 : decode prog_7_method_4_code 45 = .ok (.aload_n 0, 1) := by decide +kernel
theorem d1_46 : decode prog_7_method_4_code 46 = .ok (.iconst 2, 1) := by decide +kernel
theorem d1_47 : decode prog_7_method_4_code 47 = .ok (.daload, 1) := by decide +kernel
theorem d1_48 : decode prog_7_method_4_code 48 = .ok (.dastore, 1) := by decide +kernel
theorem d1_49 : decode prog_7_method_4_code 49 = .ok (.dup, 1) := by decide +kernel
theorem d1_50 : decode prog_7_method_4_code 50 = .ok (.bipush 7, 2) := by decide +kernel
theorem d1_52 : decode prog_7_method_4_code 52 = .ok (.aload_n 0, 1) := by decide +kernel
theorem d1_53 : decode prog_7_method_4_code 53 = .ok (.iconst 5, 1) := by decide +kernel
theorem d1_54 : decode prog_7_method_4_code 54 = .ok (.daload, 1) := by decide +kernel
theorem d1_55 : decode prog_7_method_4_code 55 = .ok (.dastore, 1) := by decide +kernel
theorem d1_56 : decode prog_7_method_4_code 56 = .ok (.dup, 1) := by decide +kernel
theorem d1_57 : decode prog_7_method_4_code 57 = .ok (.bipush 8, 2) := by decide +kernel
theorem d1_59 : decode prog_7_method_4_code 59 = .ok (.aload_n 0, 1) := by decide +kernel
theorem d1_60 : decode prog_7_method_4_code 60 = .ok (.bipush 8, 2) := by decide +kernel
theorem d1_62 : decode prog_7_method_4_code 62 = .ok (.daload, 1) := by decide +kernel
theorem d1_63 : decode prog_7_method_4_code 63 = .ok (.dastore, 1) := by decide +kernel
theorem d1_64 : decode prog_7_method_4_code 64 = .ok (.areturn, 1) := by decide +kernel
theorem pn_0 : plainName "com/example/orientry/orientry/Matrices" = true := by first | (simp [plainName, overriddenIn]; done) | decide +kernel
theorem ef1 (m : MethodId) (a1 : Addr) (g : Nat → UInt64) : entryFrame m #[(.ref a1)] 1 = mkF m 0 #[.val (.ref a1)] [] := by first | (simp [entryFrame, mkF, argsToLocals, Value.category]; done) | rfl
def Q1 (Z : State) (a1 : Addr) (g : Nat → UInt64) (h0 : Heap) (n0 : Nat) (v : Option Value) (h : Heap) (L : List Loc) : Prop := ∃ r : Addr, v = some (.ref r) ∧ Fr n0 L ∧ Keep h0 h [] ∧ h0.size ≤ r ∧ Dar Z h r .double 9 (fun i => .double (g (own_t i)))
set_option maxRecDepth 65536 in
set_option maxHeartbeats 40000000 in
theorem rm1 (l : Launch) (Z : State) (a0 : Array Value) (hw : ∀ d ∈ tables_1, d.before a0 Z = true) (ws : List Jvm.Cond) (a1 : Addr) (g : Nat → UInt64) (h0 : Heap) (n0 : Nat) (Z0 : n0 ≤ h0.size) (V2 : Dar Z h0 a1 .double 9 (fun i => .double (g i))) :
    MetFree l (⟨"com/example/orientry/orientry/Matrices", "transpose", "([D)[D"⟩ : MethodName) (head1 (Jvm.Cond.code (⟨"com/example/orientry/orientry/Matrices", "transpose", "([D)[D"⟩ : MethodName) prog_7_method_4_code 1 (some (.array .double)) :: ws) ({ frames := 0, cells := 1, slots := 9, locals := 0 } : Room)) (fun a U => a = #[(.ref a1)] ∧ Z.Warmed39 U.vm ∧ U.heap = h0) (fun _ _ _ _ _ => True) (fun _ U o U' => ∃ v L, o = .returned v ∧ Q1 Z a1 g h0 n0 v U'.heap L ∧ FrameEnd U o U' L 1 9) := by
  refine MetFree.of_bodySF (plainFor_of_name pn_0) hisR ?_
  intro p e s m args below meth c s₁ Bd hml0 hP hK
  obtain ⟨rfl, hZ, hh⟩ := hP
  have hx := Bd.exec
  have hby := Bd.bytes
  have hml : c.maxLocals = 1 := hml0
  have hown : s.vm.findClass "com/example/orientry/orientry/Matrices" = some m.cls := findClass_of_methodNamed Bd.named
  have hnm := (name_of_methodNamed Bd.named Bd.method).1
  have X0 : Stand p l e ({ frames := 0, cells := 1, slots := 9, locals := 0 } : Room) s m #[(.ref a1)] below meth c s₁ [] 0 0 := Stand.of_body Bd
  have e0 : s₁.heap = h0 := by rw [← hh, Bd.state]; rfl
  have N0 := Fr.nil n0
  have A0 := (⟨X0, hx, hby⟩ : Ax _ _ _ _ _ _ _ _ _ _ _ _ _ _ _)
  show Go p e below (fun U o => ∃ v L, o = .returned v ∧ Q1 Z a1 g h0 n0 v U.heap L ∧ FrameEnd s o U L 1 9) s₁ (entryFrame m #[(.ref a1)] 1)
  refine Go.cast (ef1 m a1 g) ?_
  refine g_bipush A0 d1_0 (v := (9 : Int32)) rfl (pc' := 2) rfl ?_
  obtain ⟨T3, h3, k3, X3, e3, E3, Ar3, st3⟩ := newP X0 hx hZ (hw _ (List.mem_of_getElem? (i := 0) rfl)) e0 (g := (mkF m 2 #[.val (.ref a1)] [(.int (9 : Int32))])) rfl (hb hby d1_2) rfl (by decide) (cap := 9) (by decide) (by decide) (by decide) (by decide)
  obtain ⟨b4, eb4⟩ : ∃ z, z = h0.size := ⟨_, rfl⟩
  rw [← eb4] at Ar3 st3
  have ne5 : a1 ≠ b4 := own_ne eb4 V2.lt
  have g6 : n0 ≤ b4 := by rw [eb4]; exact Z0
  have gh7 : h0.size ≤ b4 := by rw [eb4]; exact (Keep.refl h0 []).1
  have K8 : Keep h0 h3 [] := (Keep.refl h0 []).ext E3
  have V9 : Dar Z h3 a1 .double 9 (fun i => .double (g i)) := Dar.ext E3 V2
  have Z10 : n0 ≤ h3.size := Nat.le_trans Z0 E3.1
  have V11 : Dar Z h3 b4 .double 9 (fun _ => .double (0 : UInt64)) := Dar.new Ar3 (by decide)
  refine Go.of (g' := (mkF m 4 #[.val (.ref a1)] [(.ref b4)])) st3 ?_
  have A12 := (⟨X3, hx, hby⟩ : Ax _ _ _ _ _ _ _ _ _ _ _ _ _ _ _)
  refine g_dup A12 d1_4 rfl (pc' := 5) rfl ?_
  refine g_iconst A12 d1_5 (v := (0 : Int32)) rfl (pc' := 6) rfl ?_
  refine g_aloadN A12 d1_6 rfl rfl (pc' := 7) rfl ?_
  refine g_iconst A12 d1_7 (v := (0 : Int32)) rfl (pc' := 8) rfl ?_
  refine g_daload A12 hZ e3 V9 (i := 0) (by decide) rfl (x := (g 0)) rfl d1_8 (pc' := 9) rfl ?_
  obtain ⟨T13, h13, A13, e13, W13, st13⟩ := s_dastore A12 hZ e3 (ls := #[.val (.ref a1)]) (st := [(.ref b4)]) (x := (g 0)) V11 (i := 0) (by decide) (j := (0 : Int32)) rfl d1_9 (pc' := 10) rfl
  have N14 := Fr.snoc A13.1 N0 g6
  have K15 : Keep h0 h13 [] := K8.wr W13 (Or.inr gh7)
  have V16 : Dar Z h13 a1 .double 9 (fun i => .double (g i)) := Dar.other W13 V9 ne5
  have V17 : Dar Z h13 b4 .double 9 (fun j => if j = 0 then .double (g 0) else (fun _ => .double (0 : UInt64)) j) := Dar.set V11 W13 (fun _ _ => rfl)
  have Z18 : n0 ≤ h13.size := by rw [W13.size]; exact Z10
  refine st13 ?_
  refine g_dup A13 d1_10 rfl (pc' := 11) rfl ?_
  refine g_iconst A13 d1_11 (v := (1 : Int32)) rfl (pc' := 12) rfl ?_
  refine g_aloadN A13 d1_12 rfl rfl (pc' := 13) rfl ?_
  refine g_iconst A13 d1_13 (v := (3 : Int32)) rfl (pc' := 14) rfl ?_
  refine g_daload A13 hZ e13 V16 (i := 3) (by decide) rfl (x := (g 3)) rfl d1_14 (pc' := 15) rfl ?_
  obtain ⟨T19, h19, A19, e19, W19, st19⟩ := s_dastore A13 hZ e13 (ls := #[.val (.ref a1)]) (st := [(.ref b4)]) (x := (g 3)) V17 (i := 1) (by decide) (j := (1 : Int32)) rfl d1_15 (pc' := 16) rfl
  have N20 := Fr.snoc A19.1 N14 g6
  have K21 : Keep h0 h19 [] := K15.wr W19 (Or.inr gh7)
  have V22 : Dar Z h19 a1 .double 9 (fun i => .double (g i)) := Dar.other W19 V16 ne5
  have V23 : Dar Z h19 b4 .double 9 (fun j => if j = 1 then .double (g 3) else (fun j => if j = 0 then .double (g 0) else (fun _ => .double (0 : UInt64)) j) j) := Dar.set V17 W19 (fun _ _ => rfl)
  have Z24 : n0 ≤ h19.size := by rw [W19.size]; exact Z18
  refine st19 ?_
  refine g_dup A19 d1_16 rfl (pc' := 17) rfl ?_
  refine g_iconst A19 d1_17 (v := (2 : Int32)) rfl (pc' := 18) rfl ?_
  refine g_aloadN A19 d1_18 rfl rfl (pc' := 19) rfl ?_
  refine g_bipush A19 d1_19 (v := (6 : Int32)) rfl (pc' := 21) rfl ?_
  refine g_daload A19 hZ e19 V22 (i := 6) (by decide) rfl (x := (g 6)) rfl d1_21 (pc' := 22) rfl ?_
  obtain ⟨T25, h25, A25, e25, W25, st25⟩ := s_dastore A19 hZ e19 (ls := #[.val (.ref a1)]) (st := [(.ref b4)]) (x := (g 6)) V23 (i := 2) (by decide) (j := (2 : Int32)) rfl d1_22 (pc' := 23) rfl
  have N26 := Fr.snoc A25.1 N20 g6
  have K27 : Keep h0 h25 [] := K21.wr W25 (Or.inr gh7)
  have V28 : Dar Z h25 a1 .double 9 (fun i => .double (g i)) := Dar.other W25 V22 ne5
  have V29 : Dar Z h25 b4 .double 9 (fun j => if j = 2 then .double (g 6) else (fun j => if j = 1 then .double (g 3) else (fun j => if j = 0 then .double (g 0) else (fun _ => .double (0 : UInt64)) j) j) j) := Dar.set V23 W25 (fun _ _ => rfl)
  have Z30 : n0 ≤ h25.size := by rw [W25.size]; exact Z24
  refine st25 ?_
  refine g_dup A25 d1_23 rfl (pc' := 24) rfl ?_
  refine g_iconst A25 d1_24 (v := (3 : Int32)) rfl (pc' := 25) rfl ?_
  refine g_aloadN A25 d1_25 rfl rfl (pc' := 26) rfl ?_
  refine g_iconst A25 d1_26 (v := (1 : Int32)) rfl (pc' := 27) rfl ?_
  refine g_daload A25 hZ e25 V28 (i := 1) (by decide) rfl (x := (g 1)) rfl d1_27 (pc' := 28) rfl ?_
  obtain ⟨T31, h31, A31, e31, W31, st31⟩ := s_dastore A25 hZ e25 (ls := #[.val (.ref a1)]) (st := [(.ref b4)]) (x := (g 1)) V29 (i := 3) (by decide) (j := (3 : Int32)) rfl d1_28 (pc' := 29) rfl
  have N32 := Fr.snoc A31.1 N26 g6
  have K33 : Keep h0 h31 [] := K27.wr W31 (Or.inr gh7)
  have V34 : Dar Z h31 a1 .double 9 (fun i => .double (g i)) := Dar.other W31 V28 ne5
  have V35 : Dar Z h31 b4 .double 9 (fun j => if j = 3 then .double (g 1) else (fun j => if j = 2 then .double (g 6) else (fun j => if j = 1 then .double (g 3) else (fun j => if j = 0 then .double (g 0) else (fun _ => .double (0 : UInt64)) j) j) j) j) := Dar.set V29 W31 (fun _ _ => rfl)
  have Z36 : n0 ≤ h31.size := by rw [W31.size]; exact Z30
  refine st31 ?_
  refine g_dup A31 d1_29 rfl (pc' := 30) rfl ?_
  refine g_iconst A31 d1_30 (v := (4 : Int32)) rfl (pc' := 31) rfl ?_
  refine g_aloadN A31 d1_31 rfl rfl (pc' := 32) rfl ?_
  refine g_iconst A31 d1_32 (v := (4 : Int32)) rfl (pc' := 33) rfl ?_
  refine g_daload A31 hZ e31 V34 (i := 4) (by decide) rfl (x := (g 4)) rfl d1_33 (pc' := 34) rfl ?_
  obtain ⟨T37, h37, A37, e37, W37, st37⟩ := s_dastore A31 hZ e31 (ls := #[.val (.ref a1)]) (st := [(.ref b4)]) (x := (g 4)) V35 (i := 4) (by decide) (j := (4 : Int32)) rfl d1_34 (pc' := 35) rfl
  have N38 := Fr.snoc A37.1 N32 g6
  have K39 : Keep h0 h37 [] := K33.wr W37 (Or.inr gh7)
  have V40 : Dar Z h37 a1 .double 9 (fun i => .double (g i)) := Dar.other W37 V34 ne5
  have V41 : Dar Z h37 b4 .double 9 (fun j => if j = 4 then .double (g 4) else (fun j => if j = 3 then .double (g 1) else (fun j => if j = 2 then .double (g 6) else (fun j => if j = 1 then .double (g 3) else (fun j => if j = 0 then .double (g 0) else (fun _ => .double (0 : UInt64)) j) j) j) j) j) := Dar.set V35 W37 (fun _ _ => rfl)
  have Z42 : n0 ≤ h37.size := by rw [W37.size]; exact Z36
  refine st37 ?_
  refine g_dup A37 d1_35 rfl (pc' := 36) rfl ?_
  refine g_iconst A37 d1_36 (v := (5 : Int32)) rfl (pc' := 37) rfl ?_
  refine g_aloadN A37 d1_37 rfl rfl (pc' := 38) rfl ?_
  refine g_bipush A37 d1_38 (v := (7 : Int32)) rfl (pc' := 40) rfl ?_
  refine g_daload A37 hZ e37 V40 (i := 7) (by decide) rfl (x := (g 7)) rfl d1_40 (pc' := 41) rfl ?_
  obtain ⟨T43, h43, A43, e43, W43, st43⟩ := s_dastore A37 hZ e37 (ls := #[.val (.ref a1)]) (st := [(.ref b4)]) (x := (g 7)) V41 (i := 5) (by decide) (j := (5 : Int32)) rfl d1_41 (pc' := 42) rfl
  have N44 := Fr.snoc A43.1 N38 g6
  have K45 : Keep h0 h43 [] := K39.wr W43 (Or.inr gh7)
  have V46 : Dar Z h43 a1 .double 9 (fun i => .double (g i)) := Dar.other W43 V40 ne5
  have V47 : Dar Z h43 b4 .double 9 (fun j => if j = 5 then .double (g 7) else (fun j => if j = 4 then .double (g 4) else (fun j => if j = 3 then .double (g 1) else (fun j => if j = 2 then .double (g 6) else (fun j => if j = 1 then .double (g 3) else (fun j => if j = 0 then .double (g 0) else (fun _ => .double (0 : UInt64)) j) j) j) j) j) j) := Dar.set V41 W43 (fun _ _ => rfl)
  have Z48 : n0 ≤ h43.size := by rw [W43.size]; exact Z42
  refine st43 ?_
  refine g_dup A43 d1_42 rfl (pc' := 43) rfl ?_
  refine g_bipush A43 d1_43 (v := (6 : Int32)) rfl (pc' := 45) rfl ?_
  refine g_aloadN A43 d1_45 rfl rfl (pc' := 46) rfl ?_
  refine g_iconst A43 d1_46 (v := (2 : Int32)) rfl (pc' := 47) rfl ?_
  refine g_daload A43 hZ e43 V46 (i := 2) (by decide) rfl (x := (g 2)) rfl d1_47 (pc' := 48) rfl ?_
  obtain ⟨T49, h49, A49, e49, W49, st49⟩ := s_dastore A43 hZ e43 (ls := #[.val (.ref a1)]) (st := [(.ref b4)]) (x := (g 2)) V47 (i := 6) (by decide) (j := (6 : Int32)) rfl d1_48 (pc' := 49) rfl
  have N50 := Fr.snoc A49.1 N44 g6
  have K51 : Keep h0 h49 [] := K45.wr W49 (Or.inr gh7)
  have V52 : Dar Z h49 a1 .double 9 (fun i => .double (g i)) := Dar.other W49 V46 ne5
  have V53 : Dar Z h49 b4 .double 9 (fun j => if j = 6 then .double (g 2) else (fun j => if j = 5 then .double (g 7) else (fun j => if j = 4 then .double (g 4) else (fun j => if j = 3 then .double (g 1) else (fun j => if j = 2 then .double (g 6) else (fun j => if j = 1 then .double (g 3) else (fun j => if j = 0 then .double (g 0) else (fun _ => .double (0 : UInt64)) j) j) j) j) j) j) j) := Dar.set V47 W49 (fun _ _ => rfl)
  have Z54 : n0 ≤ h49.size := by rw [W49.size]; exact Z48
  refine st49 ?_
  refine g_dup A49 d1_49 rfl (pc' := 50) rfl ?_
  refine g_bipush A49 d1_50 (v := (7 : Int32)) rfl (pc' := 52) rfl ?_
  refine g_aloadN A49 d1_52 rfl rfl (pc' := 53) rfl ?_
  refine g_iconst A49 d1_53 (v := (5 : Int32)) rfl (pc' := 54) rfl ?_
  refine g_daload A49 hZ e49 V52 (i := 5) (by decide) rfl (x := (g 5)) rfl d1_54 (pc' := 55) rfl ?_
  obtain ⟨T55, h55, A55, e55, W55, st55⟩ := s_dastore A49 hZ e49 (ls := #[.val (.ref a1)]) (st := [(.ref b4)]) (x := (g 5)) V53 (i := 7) (by decide) (j := (7 : Int32)) rfl d1_55 (pc' := 56) rfl
  have N56 := Fr.snoc A55.1 N50 g6
  have K57 : Keep h0 h55 [] := K51.wr W55 (Or.inr gh7)
  have V58 : Dar Z h55 a1 .double 9 (fun i => .double (g i)) := Dar.other W55 V52 ne5
  have V59 : Dar Z h55 b4 .double 9 (fun j => if j = 7 then .double (g 5) else (fun j => if j = 6 then .double (g 2) else (fun j => if j = 5 then .double (g 7) else (fun j => if j = 4 then .double (g 4) else (fun j => if j = 3 then .double (g 1) else (fun j => if j = 2 then .double (g 6) else (fun j => if j = 1 then .double (g 3) else (fun j => if j = 0 then .double (g 0) else (fun _ => .double (0 : UInt64)) j) j) j) j) j) j) j) j) := Dar.set V53 W55 (fun _ _ => rfl)
  have Z60 : n0 ≤ h55.size := by rw [W55.size]; exact Z54
  refine st55 ?_
  refine g_dup A55 d1_56 rfl (pc' := 57) rfl ?_
  refine g_bipush A55 d1_57 (v := (8 : Int32)) rfl (pc' := 59) rfl ?_
  refine g_aloadN A55 d1_59 rfl rfl (pc' := 60) rfl ?_
  refine g_bipush A55 d1_60 (v := (8 : Int32)) rfl (pc' := 62) rfl ?_
  refine g_daload A55 hZ e55 V58 (i := 8) (by decide) rfl (x := (g 8)) rfl d1_62 (pc' := 63) rfl ?_
  obtain ⟨T61, h61, A61, e61, W61, st61⟩ := s_dastore A55 hZ e55 (ls := #[.val (.ref a1)]) (st := [(.ref b4)]) (x := (g 8)) V59 (i := 8) (by decide) (j := (8 : Int32)) rfl d1_63 (pc' := 64) rfl
  have N62 := Fr.snoc A61.1 N56 g6
  have K63 : Keep h0 h61 [] := K57.wr W61 (Or.inr gh7)
  have V64 : Dar Z h61 a1 .double 9 (fun i => .double (g i)) := Dar.other W61 V58 ne5
  have V65 : Dar Z h61 b4 .double 9 (fun j => if j = 8 then .double (g 8) else (fun j => if j = 7 then .double (g 5) else (fun j => if j = 6 then .double (g 2) else (fun j => if j = 5 then .double (g 7) else (fun j => if j = 4 then .double (g 4) else (fun j => if j = 3 then .double (g 1) else (fun j => if j = 2 then .double (g 6) else (fun j => if j = 1 then .double (g 3) else (fun j => if j = 0 then .double (g 0) else (fun _ => .double (0 : UInt64)) j) j) j) j) j) j) j) j) j) := Dar.set V59 W61 (fun _ _ => rfl)
  have Z66 : n0 ≤ h61.size := by rw [W61.size]; exact Z60
  refine st61 ?_
  have V67 : Dar Z h61 b4 .double 9 (fun i => .double (g (own_t i))) := Dar.congr V65 (fun i hi => by
      match i, hi with
      | 0, _ => rfl
      | 1, _ => rfl
      | 2, _ => rfl
      | 3, _ => rfl
      | 4, _ => rfl
      | 5, _ => rfl
      | 6, _ => rfl
      | 7, _ => rfl
      | 8, _ => rfl)
  exact g_ret (Q := Q1 Z a1 g h0 n0) A61 d1_64 Bd.notSynchronized Bd.returns rfl (Or.inr (Or.inr (Or.inr (Or.inr ⟨rfl, rfl, rfl⟩)))) (by decide) (by decide) (by rw [e61]; exact ⟨b4, rfl, N62, K63, gh7, V67⟩)
theorem pn_1 : plainName "com/example/orientry/orientry/MatricesTransposePinLaw" = true := by first | (simp [plainName, overriddenIn]; done) | decide +kernel
theorem ef68 (m : MethodId) (p0 : Int32) (p1 : Int32) : entryFrame m #[(.int p0), (.int p1)] maxLocals = mkF m 0 #[.val (.int p0), .val (.int p1), .unset, .unset, .unset, .unset, .unset, .unset, .unset, .unset, .unset] [] := by first | (simp [entryFrame, mkF, argsToLocals, Value.category, maxLocals]; done) | rfl
def Q0 (Z : State) (p0 : Int32) (p1 : Int32) (h0 : Heap) (n0 : Nat) (v : Option Value) (h : Heap) (L : List Loc) : Prop := v = some (.int 1) ∧ Fr n0 L
theorem pd_0 : parseMethodDescriptor "([D)[D" = some ⟨[(.array .double)], some (.array .double)⟩ := by decide +kernel
set_option maxRecDepth 65536 in
set_option maxHeartbeats 40000000 in
theorem rm0 (l : Launch) (Z : State) (a0 : Array Value) (hw : ∀ d ∈ tables_1, d.before a0 Z = true) (ws : List Jvm.Cond) (p0 : Int32) (p1 : Int32) (h0 : Heap) (n0 : Nat) (Z0 : n0 ≤ h0.size)  :
    MetFree l x (head1 (Jvm.Cond.code x code maxLocals ret :: ws) room_1) (fun a U => a = #[(.int p0), (.int p1)] ∧ Z.Warmed39 U.vm ∧ U.heap = h0) (fun _ _ _ _ _ => True) (fun _ U o U' => ∃ v L, o = .returned v ∧ Q0 Z p0 p1 h0 n0 v U'.heap L ∧ FrameEnd U o U' L 2 18) := by
  refine MetFree.of_bodySF (plainFor_of_name pn_1) hisR ?_
  intro p e s m args below meth c s₁ Bd hml0 hP hK
  obtain ⟨rfl, hZ, hh⟩ := hP
  have hx := Bd.exec
  have hby := Bd.bytes
  have hml : c.maxLocals = 11 := hml0
  have hown : s.vm.findClass "com/example/orientry/orientry/MatricesTransposePinLaw" = some m.cls := findClass_of_methodNamed Bd.named
  have hnm := (name_of_methodNamed Bd.named Bd.method).1
  have X0 : Stand p l e room_1 s m #[(.int p0), (.int p1)] below meth c s₁ [] 0 0 := Stand.of_body Bd
  have e0 : s₁.heap = h0 := by rw [← hh, Bd.state]; rfl
  have N0 := Fr.nil n0
  have A0 := (⟨X0, hx, hby⟩ : Ax _ _ _ _ _ _ _ _ _ _ _ _ _ _ _)
  show Go p e below (fun U o => ∃ v L, o = .returned v ∧ Q0 Z p0 p1 h0 n0 v U.heap L ∧ FrameEnd s o U L 2 18) s₁ (entryFrame m #[(.int p0), (.int p1)] maxLocals)
  refine Go.cast (ef68 m p0 p1) ?_
  refine g_iloadN A0 at_0 rfl (pc' := 1) rfl ?_
  refine g_i2d A0 at_1 (pc' := 2) rfl ?_
  refine g_dstoreN A0 at_2 (ls' := #[.val (.int p0), .val (.int p1), .val (.double (FP.i2d p0)), .second, .unset, .unset, .unset, .unset, .unset, .unset, .unset]) rfl (pc' := 3) rfl ?_
  refine g_bipush A0 at_3 (v := (9 : Int32)) rfl (pc' := 5) rfl ?_
  obtain ⟨T69, h69, k69, X69, e69, E69, Ar69, st69⟩ := newP X0 hx hZ (hw _ (List.mem_of_getElem? (i := 0) rfl)) e0 (g := (mkF m 5 #[.val (.int p0), .val (.int p1), .val (.double (FP.i2d p0)), .second, .unset, .unset, .unset, .unset, .unset, .unset, .unset] [(.int (9 : Int32))])) rfl (hb hby at_5) rfl (by decide) (cap := 9) (by decide) (by decide) (by decide) (by decide)
  obtain ⟨b70, eb70⟩ : ∃ z, z = h0.size := ⟨_, rfl⟩
  rw [← eb70] at Ar69 st69
  have g71 : n0 ≤ b70 := by rw [eb70]; exact Z0
  have gh72 : h0.size ≤ b70 := by rw [eb70]; exact (Keep.refl h0 []).1
  have K73 : Keep h0 h69 [] := (Keep.refl h0 []).ext E69
  have Z74 : n0 ≤ h69.size := Nat.le_trans Z0 E69.1
  have V75 : Dar Z h69 b70 .double 9 (fun _ => .double (0 : UInt64)) := Dar.new Ar69 (by decide)
  refine Go.of (g' := (mkF m 7 #[.val (.int p0), .val (.int p1), .val (.double (FP.i2d p0)), .second, .unset, .unset, .unset, .unset, .unset, .unset, .unset] [(.ref b70)])) st69 ?_
  have A76 := (⟨X69, hx, hby⟩ : Ax _ _ _ _ _ _ _ _ _ _ _ _ _ _ _)
  refine g_astore A76 at_7 rfl (ls' := #[.val (.int p0), .val (.int p1), .val (.double (FP.i2d p0)), .second, .val (.ref b70), .unset, .unset, .unset, .unset, .unset, .unset]) rfl (pc' := 9) rfl ?_
  refine g_aload A76 at_9 rfl rfl (pc' := 11) rfl ?_
  refine g_iconst A76 at_11 (v := (0 : Int32)) rfl (pc' := 12) rfl ?_
  refine g_dloadN A76 at_12 rfl (pc' := 13) rfl ?_
  obtain ⟨T77, h77, A77, e77, W77, st77⟩ := s_dastore A76 hZ e69 (ls := #[.val (.int p0), .val (.int p1), .val (.double (FP.i2d p0)), .second, .val (.ref b70), .unset, .unset, .unset, .unset, .unset, .unset]) (st := []) (x := (FP.i2d p0)) V75 (i := 0) (by decide) (j := (0 : Int32)) rfl at_13 (pc' := 14) rfl
  have N78 := Fr.snoc A77.1 N0 g71
  have K79 : Keep h0 h77 [] := K73.wr W77 (Or.inr gh72)
  have V80 : Dar Z h77 b70 .double 9 (fun j => if j = 0 then .double (FP.i2d p0) else (fun _ => .double (0 : UInt64)) j) := Dar.set V75 W77 (fun _ _ => rfl)
  have Z81 : n0 ≤ h77.size := by rw [W77.size]; exact Z74
  refine st77 ?_
  refine g_aload A77 at_14 rfl rfl (pc' := 16) rfl ?_
  refine g_iconst A77 at_16 (v := (1 : Int32)) rfl (pc' := 17) rfl ?_
  refine g_dloadN A77 at_17 rfl (pc' := 18) rfl ?_
  refine g_dconst1 A77 at_18 (pc' := 19) rfl ?_
  refine g_dadd A77 at_19 (own_ndadd (i2d_fin p0) (by unfold Fin64; decide : Fin64 (4607182418800017408 : UInt64))) (pc' := 20) rfl ?_
  obtain ⟨T82, h82, A82, e82, W82, st82⟩ := s_dastore A77 hZ e77 (ls := #[.val (.int p0), .val (.int p1), .val (.double (FP.i2d p0)), .second, .val (.ref b70), .unset, .unset, .unset, .unset, .unset, .unset]) (st := []) (x := (FP.dadd (FP.i2d p0) (4607182418800017408 : UInt64))) V80 (i := 1) (by decide) (j := (1 : Int32)) rfl at_20 (pc' := 21) rfl
  have N83 := Fr.snoc A82.1 N78 g71
  have K84 : Keep h0 h82 [] := K79.wr W82 (Or.inr gh72)
  have V85 : Dar Z h82 b70 .double 9 (fun j => if j = 1 then .double (FP.dadd (FP.i2d p0) (4607182418800017408 : UInt64)) else (fun j => if j = 0 then .double (FP.i2d p0) else (fun _ => .double (0 : UInt64)) j) j) := Dar.set V80 W82 (fun _ _ => rfl)
  have Z86 : n0 ≤ h82.size := by rw [W82.size]; exact Z81
  refine st82 ?_
  refine g_aload A82 at_21 rfl rfl (pc' := 23) rfl ?_
  refine g_iconst A82 at_23 (v := (2 : Int32)) rfl (pc' := 24) rfl ?_
  refine g_dloadN A82 at_24 rfl (pc' := 25) rfl ?_
  refine g_ldcD A82 hZ hown (hw _ (List.mem_of_getElem? (i := 1) rfl)) at_25 (pc' := 28) rfl ?_
  refine g_dadd A82 at_28 (own_ndadd (i2d_fin p0) (by unfold Fin64; decide : Fin64 (4611686018427387904 : UInt64))) (pc' := 29) rfl ?_
  obtain ⟨T87, h87, A87, e87, W87, st87⟩ := s_dastore A82 hZ e82 (ls := #[.val (.int p0), .val (.int p1), .val (.double (FP.i2d p0)), .second, .val (.ref b70), .unset, .unset, .unset, .unset, .unset, .unset]) (st := []) (x := (FP.dadd (FP.i2d p0) (4611686018427387904 : UInt64))) V85 (i := 2) (by decide) (j := (2 : Int32)) rfl at_29 (pc' := 30) rfl
  have N88 := Fr.snoc A87.1 N83 g71
  have K89 : Keep h0 h87 [] := K84.wr W87 (Or.inr gh72)
  have V90 : Dar Z h87 b70 .double 9 (fun j => if j = 2 then .double (FP.dadd (FP.i2d p0) (4611686018427387904 : UInt64)) else (fun j => if j = 1 then .double (FP.dadd (FP.i2d p0) (4607182418800017408 : UInt64)) else (fun j => if j = 0 then .double (FP.i2d p0) else (fun _ => .double (0 : UInt64)) j) j) j) := Dar.set V85 W87 (fun _ _ => rfl)
  have Z91 : n0 ≤ h87.size := by rw [W87.size]; exact Z86
  refine st87 ?_
  refine g_aload A87 at_30 rfl rfl (pc' := 32) rfl ?_
  refine g_iconst A87 at_32 (v := (3 : Int32)) rfl (pc' := 33) rfl ?_
  refine g_dloadN A87 at_33 rfl (pc' := 34) rfl ?_
  refine g_ldcD A87 hZ hown (hw _ (List.mem_of_getElem? (i := 2) rfl)) at_34 (pc' := 37) rfl ?_
  refine g_dadd A87 at_37 (own_ndadd (i2d_fin p0) (by unfold Fin64; decide : Fin64 (4613937818241073152 : UInt64))) (pc' := 38) rfl ?_
  obtain ⟨T92, h92, A92, e92, W92, st92⟩ := s_dastore A87 hZ e87 (ls := #[.val (.int p0), .val (.int p1), .val (.double (FP.i2d p0)), .second, .val (.ref b70), .unset, .unset, .unset, .unset, .unset, .unset]) (st := []) (x := (FP.dadd (FP.i2d p0) (4613937818241073152 : UInt64))) V90 (i := 3) (by decide) (j := (3 : Int32)) rfl at_38 (pc' := 39) rfl
  have N93 := Fr.snoc A92.1 N88 g71
  have K94 : Keep h0 h92 [] := K89.wr W92 (Or.inr gh72)
  have V95 : Dar Z h92 b70 .double 9 (fun j => if j = 3 then .double (FP.dadd (FP.i2d p0) (4613937818241073152 : UInt64)) else (fun j => if j = 2 then .double (FP.dadd (FP.i2d p0) (4611686018427387904 : UInt64)) else (fun j => if j = 1 then .double (FP.dadd (FP.i2d p0) (4607182418800017408 : UInt64)) else (fun j => if j = 0 then .double (FP.i2d p0) else (fun _ => .double (0 : UInt64)) j) j) j) j) := Dar.set V90 W92 (fun _ _ => rfl)
  have Z96 : n0 ≤ h92.size := by rw [W92.size]; exact Z91
  refine st92 ?_
  refine g_aload A92 at_39 rfl rfl (pc' := 41) rfl ?_
  refine g_iconst A92 at_41 (v := (4 : Int32)) rfl (pc' := 42) rfl ?_
  refine g_dloadN A92 at_42 rfl (pc' := 43) rfl ?_
  refine g_ldcD A92 hZ hown (hw _ (List.mem_of_getElem? (i := 3) rfl)) at_43 (pc' := 46) rfl ?_
  refine g_dadd A92 at_46 (own_ndadd (i2d_fin p0) (by unfold Fin64; decide : Fin64 (4616189618054758400 : UInt64))) (pc' := 47) rfl ?_
  obtain ⟨T97, h97, A97, e97, W97, st97⟩ := s_dastore A92 hZ e92 (ls := #[.val (.int p0), .val (.int p1), .val (.double (FP.i2d p0)), .second, .val (.ref b70), .unset, .unset, .unset, .unset, .unset, .unset]) (st := []) (x := (FP.dadd (FP.i2d p0) (4616189618054758400 : UInt64))) V95 (i := 4) (by decide) (j := (4 : Int32)) rfl at_47 (pc' := 48) rfl
  have N98 := Fr.snoc A97.1 N93 g71
  have K99 : Keep h0 h97 [] := K94.wr W97 (Or.inr gh72)
  have V100 : Dar Z h97 b70 .double 9 (fun j => if j = 4 then .double (FP.dadd (FP.i2d p0) (4616189618054758400 : UInt64)) else (fun j => if j = 3 then .double (FP.dadd (FP.i2d p0) (4613937818241073152 : UInt64)) else (fun j => if j = 2 then .double (FP.dadd (FP.i2d p0) (4611686018427387904 : UInt64)) else (fun j => if j = 1 then .double (FP.dadd (FP.i2d p0) (4607182418800017408 : UInt64)) else (fun j => if j = 0 then .double (FP.i2d p0) else (fun _ => .double (0 : UInt64)) j) j) j) j) j) := Dar.set V95 W97 (fun _ _ => rfl)
  have Z101 : n0 ≤ h97.size := by rw [W97.size]; exact Z96
  refine st97 ?_
  refine g_aload A97 at_48 rfl rfl (pc' := 50) rfl ?_
  refine g_iconst A97 at_50 (v := (5 : Int32)) rfl (pc' := 51) rfl ?_
  refine g_dloadN A97 at_51 rfl (pc' := 52) rfl ?_
  refine g_ldcD A97 hZ hown (hw _ (List.mem_of_getElem? (i := 4) rfl)) at_52 (pc' := 55) rfl ?_
  refine g_dadd A97 at_55 (own_ndadd (i2d_fin p0) (by unfold Fin64; decide : Fin64 (4617315517961601024 : UInt64))) (pc' := 56) rfl ?_
  obtain ⟨T102, h102, A102, e102, W102, st102⟩ := s_dastore A97 hZ e97 (ls := #[.val (.int p0), .val (.int p1), .val (.double (FP.i2d p0)), .second, .val (.ref b70), .unset, .unset, .unset, .unset, .unset, .unset]) (st := []) (x := (FP.dadd (FP.i2d p0) (4617315517961601024 : UInt64))) V100 (i := 5) (by decide) (j := (5 : Int32)) rfl at_56 (pc' := 57) rfl
  have N103 := Fr.snoc A102.1 N98 g71
  have K104 : Keep h0 h102 [] := K99.wr W102 (Or.inr gh72)
  have V105 : Dar Z h102 b70 .double 9 (fun j => if j = 5 then .double (FP.dadd (FP.i2d p0) (4617315517961601024 : UInt64)) else (fun j => if j = 4 then .double (FP.dadd (FP.i2d p0) (4616189618054758400 : UInt64)) else (fun j => if j = 3 then .double (FP.dadd (FP.i2d p0) (4613937818241073152 : UInt64)) else (fun j => if j = 2 then .double (FP.dadd (FP.i2d p0) (4611686018427387904 : UInt64)) else (fun j => if j = 1 then .double (FP.dadd (FP.i2d p0) (4607182418800017408 : UInt64)) else (fun j => if j = 0 then .double (FP.i2d p0) else (fun _ => .double (0 : UInt64)) j) j) j) j) j) j) := Dar.set V100 W102 (fun _ _ => rfl)
  have Z106 : n0 ≤ h102.size := by rw [W102.size]; exact Z101
  refine st102 ?_
  refine g_aload A102 at_57 rfl rfl (pc' := 59) rfl ?_
  refine g_bipush A102 at_59 (v := (6 : Int32)) rfl (pc' := 61) rfl ?_
  refine g_dloadN A102 at_61 rfl (pc' := 62) rfl ?_
  refine g_ldcD A102 hZ hown (hw _ (List.mem_of_getElem? (i := 5) rfl)) at_62 (pc' := 65) rfl ?_
  refine g_dadd A102 at_65 (own_ndadd (i2d_fin p0) (by unfold Fin64; decide : Fin64 (4618441417868443648 : UInt64))) (pc' := 66) rfl ?_
  obtain ⟨T107, h107, A107, e107, W107, st107⟩ := s_dastore A102 hZ e102 (ls := #[.val (.int p0), .val (.int p1), .val (.double (FP.i2d p0)), .second, .val (.ref b70), .unset, .unset, .unset, .unset, .unset, .unset]) (st := []) (x := (FP.dadd (FP.i2d p0) (4618441417868443648 : UInt64))) V105 (i := 6) (by decide) (j := (6 : Int32)) rfl at_66 (pc' := 67) rfl
  have N108 := Fr.snoc A107.1 N103 g71
  have K109 : Keep h0 h107 [] := K104.wr W107 (Or.inr gh72)
  have V110 : Dar Z h107 b70 .double 9 (fun j => if j = 6 then .double (FP.dadd (FP.i2d p0) (4618441417868443648 : UInt64)) else (fun j => if j = 5 then .double (FP.dadd (FP.i2d p0) (4617315517961601024 : UInt64)) else (fun j => if j = 4 then .double (FP.dadd (FP.i2d p0) (4616189618054758400 : UInt64)) else (fun j => if j = 3 then .double (FP.dadd (FP.i2d p0) (4613937818241073152 : UInt64)) else (fun j => if j = 2 then .double (FP.dadd (FP.i2d p0) (4611686018427387904 : UInt64)) else (fun j => if j = 1 then .double (FP.dadd (FP.i2d p0) (4607182418800017408 : UInt64)) else (fun j => if j = 0 then .double (FP.i2d p0) else (fun _ => .double (0 : UInt64)) j) j) j) j) j) j) j) := Dar.set V105 W107 (fun _ _ => rfl)
  have Z111 : n0 ≤ h107.size := by rw [W107.size]; exact Z106
  refine st107 ?_
  refine g_aload A107 at_67 rfl rfl (pc' := 69) rfl ?_
  refine g_bipush A107 at_69 (v := (7 : Int32)) rfl (pc' := 71) rfl ?_
  refine g_dloadN A107 at_71 rfl (pc' := 72) rfl ?_
  refine g_ldcD A107 hZ hown (hw _ (List.mem_of_getElem? (i := 6) rfl)) at_72 (pc' := 75) rfl ?_
  refine g_dadd A107 at_75 (own_ndadd (i2d_fin p0) (by unfold Fin64; decide : Fin64 (4619567317775286272 : UInt64))) (pc' := 76) rfl ?_
  obtain ⟨T112, h112, A112, e112, W112, st112⟩ := s_dastore A107 hZ e107 (ls := #[.val (.int p0), .val (.int p1), .val (.double (FP.i2d p0)), .second, .val (.ref b70), .unset, .unset, .unset, .unset, .unset, .unset]) (st := []) (x := (FP.dadd (FP.i2d p0) (4619567317775286272 : UInt64))) V110 (i := 7) (by decide) (j := (7 : Int32)) rfl at_76 (pc' := 77) rfl
  have N113 := Fr.snoc A112.1 N108 g71
  have K114 : Keep h0 h112 [] := K109.wr W112 (Or.inr gh72)
  have V115 : Dar Z h112 b70 .double 9 (fun j => if j = 7 then .double (FP.dadd (FP.i2d p0) (4619567317775286272 : UInt64)) else (fun j => if j = 6 then .double (FP.dadd (FP.i2d p0) (4618441417868443648 : UInt64)) else (fun j => if j = 5 then .double (FP.dadd (FP.i2d p0) (4617315517961601024 : UInt64)) else (fun j => if j = 4 then .double (FP.dadd (FP.i2d p0) (4616189618054758400 : UInt64)) else (fun j => if j = 3 then .double (FP.dadd (FP.i2d p0) (4613937818241073152 : UInt64)) else (fun j => if j = 2 then .double (FP.dadd (FP.i2d p0) (4611686018427387904 : UInt64)) else (fun j => if j = 1 then .double (FP.dadd (FP.i2d p0) (4607182418800017408 : UInt64)) else (fun j => if j = 0 then .double (FP.i2d p0) else (fun _ => .double (0 : UInt64)) j) j) j) j) j) j) j) j) := Dar.set V110 W112 (fun _ _ => rfl)
  have Z116 : n0 ≤ h112.size := by rw [W112.size]; exact Z111
  refine st112 ?_
  refine g_aload A112 at_77 rfl rfl (pc' := 79) rfl ?_
  refine g_bipush A112 at_79 (v := (8 : Int32)) rfl (pc' := 81) rfl ?_
  refine g_dloadN A112 at_81 rfl (pc' := 82) rfl ?_
  refine g_ldcD A112 hZ hown (hw _ (List.mem_of_getElem? (i := 7) rfl)) at_82 (pc' := 85) rfl ?_
  refine g_dadd A112 at_85 (own_ndadd (i2d_fin p0) (by unfold Fin64; decide : Fin64 (4620693217682128896 : UInt64))) (pc' := 86) rfl ?_
  obtain ⟨T117, h117, A117, e117, W117, st117⟩ := s_dastore A112 hZ e112 (ls := #[.val (.int p0), .val (.int p1), .val (.double (FP.i2d p0)), .second, .val (.ref b70), .unset, .unset, .unset, .unset, .unset, .unset]) (st := []) (x := (FP.dadd (FP.i2d p0) (4620693217682128896 : UInt64))) V115 (i := 8) (by decide) (j := (8 : Int32)) rfl at_86 (pc' := 87) rfl
  have N118 := Fr.snoc A117.1 N113 g71
  have K119 : Keep h0 h117 [] := K114.wr W117 (Or.inr gh72)
  have V120 : Dar Z h117 b70 .double 9 (fun j => if j = 8 then .double (FP.dadd (FP.i2d p0) (4620693217682128896 : UInt64)) else (fun j => if j = 7 then .double (FP.dadd (FP.i2d p0) (4619567317775286272 : UInt64)) else (fun j => if j = 6 then .double (FP.dadd (FP.i2d p0) (4618441417868443648 : UInt64)) else (fun j => if j = 5 then .double (FP.dadd (FP.i2d p0) (4617315517961601024 : UInt64)) else (fun j => if j = 4 then .double (FP.dadd (FP.i2d p0) (4616189618054758400 : UInt64)) else (fun j => if j = 3 then .double (FP.dadd (FP.i2d p0) (4613937818241073152 : UInt64)) else (fun j => if j = 2 then .double (FP.dadd (FP.i2d p0) (4611686018427387904 : UInt64)) else (fun j => if j = 1 then .double (FP.dadd (FP.i2d p0) (4607182418800017408 : UInt64)) else (fun j => if j = 0 then .double (FP.i2d p0) else (fun _ => .double (0 : UInt64)) j) j) j) j) j) j) j) j) j) := Dar.set V115 W117 (fun _ _ => rfl)
  have Z121 : n0 ≤ h117.size := by rw [W117.size]; exact Z116
  refine st117 ?_
  refine g_aload A117 at_87 rfl rfl (pc' := 89) rfl ?_
  have V122 : Dar Z h117 b70 .double 9 (fun i => .double (own_m (FP.i2d p0) i)) := Dar.congr V120 (fun i hi => by
      match i, hi with
      | 0, _ => rfl
      | 1, _ => rfl
      | 2, _ => rfl
      | 3, _ => rfl
      | 4, _ => rfl
      | 5, _ => rfl
      | 6, _ => rfl
      | 7, _ => rfl
      | 8, _ => rfl)
  obtain ⟨_, _, ⟨T123, L123, k123, n123⟩, -, X123, ⟨L123c, hQ123, l123, y123, z123⟩, st123⟩ := Jvm.LawKit.callS A117.1 hx (y := (⟨"com/example/orientry/orientry/Matrices", "transpose", "([D)[D"⟩ : MethodName)) hown (mvT hZ (hw _ (List.mem_of_getElem? (i := 8) rfl))) (mvT hZ (hw _ (List.mem_of_getElem? (i := 9) rfl))) (mvT hZ (hw _ (List.mem_of_getElem? (i := 10) rfl))) (mvT hZ (hw _ (List.mem_of_getElem? (i := 11) rfl))) (by decide) (backOf (W := 0) (rm1 l Z a0 hw [] b70 (own_m (FP.i2d p0)) h117 n0 Z121 V122) hZ (hw _ (List.mem_of_getElem? (i := 11) rfl)) (hw _ (List.mem_of_getElem? (i := 10) rfl)) (by decide) (by decide)) (g := (mkF m 89 #[.val (.int p0), .val (.int p1), .val (.double (FP.i2d p0)), .second, .val (.ref b70), .unset, .unset, .unset, .unset, .unset, .unset] [(.ref b70)])) rfl (by rw [hml]; rfl) (argsL := [(.ref b70)]) (rest := []) (lenOf pd_0 rfl) rfl (by show 2 * 0 + _ ≤ _; exact Nat.le_of_eq rfl) (hb hby at_89) (fun _ _ => ⟨rfl, e117, (by decide : 1 + 1 ≤ _), (by decide : 9 + 9 ≤ _)⟩)
  dsimp only [Pt.U, Pt.locs, Pt.cells, Pt.slots] at X123 l123 y123 z123 st123 hQ123
  subst l123 y123 z123
  obtain ⟨r124, rfl, Nq125, Kq126, gx127, V128⟩ := hQ123
  have N129 := Fr.app N118 Nq125
  refine Go.of (g' := (mkF m 92 #[.val (.int p0), .val (.int p1), .val (.double (FP.i2d p0)), .second, .val (.ref b70), .unset, .unset, .unset, .unset, .unset, .unset] [(.ref r124)])) st123 ?_
  have V130 : Dar Z T123.heap b70 .double 9 (fun i => .double (own_m (FP.i2d p0) i)) := Dar.keep V122 Kq126 nin0
  have Z131 : n0 ≤ T123.heap.size := Nat.le_trans Z121 Kq126.1
  have K132 : Keep h0 T123.heap [] := K119.trans Kq126 all0
  have A133 := (⟨X123, hx, hby⟩ : Ax _ _ _ _ _ _ _ _ _ _ _ _ _ _ _)
  have g134 : n0 ≤ r124 := Nat.le_trans Z121 gx127
  have gh135 : h0.size ≤ r124 := Nat.le_trans K119.1 gx127
  have ne136 : b70 ≠ r124 := Nat.ne_of_lt (Nat.lt_of_lt_of_le V122.lt gx127)
  refine g_astore A133 at_92 rfl (ls' := #[.val (.int p0), .val (.int p1), .val (.double (FP.i2d p0)), .second, .val (.ref b70), .val (.ref r124), .unset, .unset, .unset, .unset, .unset]) rfl (pc' := 94) rfl ?_
  refine g_aload A133 at_94 rfl rfl (pc' := 96) rfl ?_
  refine g_aload A133 at_96 rfl rfl (pc' := 98) rfl ?_
  refine g_acN A133 at_98 rfl rfl (by simp [XT.acmp, (Ne.symm ne136)]) (pc' := 101) rfl ?_
  refine g_aload A133 at_101 rfl rfl (pc' := 103) rfl ?_
  refine g_alen A133 hZ rfl V128 at_103 (z := (9 : Int32)) rfl (pc' := 104) rfl ?_
  refine g_bipush A133 at_104 (v := (9 : Int32)) rfl (pc' := 106) rfl ?_
  refine g_icY A133 at_106 (c2_eq_t rfl) (pc' := 111) rfl ?_
  refine g_iloadN A133 at_111 rfl (pc' := 112) rfl ?_
  refine g_ldcI A133 hZ hown (hw _ (List.mem_of_getElem? (i := 12) rfl)) at_112 (pc' := 114) rfl ?_
  refine g_iand A133 at_114 (pc' := 115) rfl ?_
  refine g_bipush A133 at_115 (v := (9 : Int32)) rfl (pc' := 117) rfl ?_
  refine g_irem A133 at_117 (by decide) (pc' := 118) rfl ?_
  obtain ⟨k137, hk137⟩ : ∃ z : Int32, z = ((p1 &&& (2147483647 : Int32)) % (9 : Int32)) := ⟨_, rfl⟩
  rw [← hk137]
  obtain ⟨i138, hi139⟩ := own_k9 p1
  rw [← hk137] at hi139
  rw [hi139]
  refine g_istore A133 at_118 (ls' := #[.val (.int p0), .val (.int p1), .val (.double (FP.i2d p0)), .second, .val (.ref b70), .val (.ref r124), .val (.int (Int32.ofNat i138.1)), .unset, .unset, .unset, .unset]) rfl (pc' := 120) rfl ?_
  refine g_iload A133 at_120 rfl (pc' := 122) rfl ?_
  refine g_iconst A133 at_122 (v := (3 : Int32)) rfl (pc' := 123) rfl ?_
  refine g_idiv A133 at_123 (by decide) (pc' := 124) rfl ?_
  refine g_istore A133 at_124 (ls' := #[.val (.int p0), .val (.int p1), .val (.double (FP.i2d p0)), .second, .val (.ref b70), .val (.ref r124), .val (.int (Int32.ofNat i138.1)), .val (.int ((Int32.ofNat i138.1) / (3 : Int32))), .unset, .unset, .unset]) rfl (pc' := 126) rfl ?_
  refine g_iload A133 at_126 rfl (pc' := 128) rfl ?_
  refine g_iconst A133 at_128 (v := (3 : Int32)) rfl (pc' := 129) rfl ?_
  refine g_irem A133 at_129 (by decide) (pc' := 130) rfl ?_
  refine g_istore A133 at_130 (ls' := #[.val (.int p0), .val (.int p1), .val (.double (FP.i2d p0)), .second, .val (.ref b70), .val (.ref r124), .val (.int (Int32.ofNat i138.1)), .val (.int ((Int32.ofNat i138.1) / (3 : Int32))), .val (.int ((Int32.ofNat i138.1) % (3 : Int32))), .unset, .unset]) rfl (pc' := 132) rfl ?_
  refine g_aload A133 at_132 rfl rfl (pc' := 134) rfl ?_
  refine g_iconst A133 at_134 (v := (3 : Int32)) rfl (pc' := 135) rfl ?_
  refine g_iload A133 at_135 rfl (pc' := 137) rfl ?_
  refine g_imul A133 at_137 (pc' := 138) rfl ?_
  refine g_iload A133 at_138 rfl (pc' := 140) rfl ?_
  refine g_iadd A133 at_140 (pc' := 141) rfl ?_
  refine g_daload A133 hZ rfl V128 (i := i138.1) i138.2 (own_i1 i138) (x := (own_m (FP.i2d p0) (own_t i138.1))) rfl at_141 (pc' := 142) rfl ?_
  refine g_dloadN A133 at_142 rfl (pc' := 143) rfl ?_
  refine g_iconst A133 at_143 (v := (3 : Int32)) rfl (pc' := 144) rfl ?_
  refine g_iload A133 at_144 rfl (pc' := 146) rfl ?_
  refine g_imul A133 at_146 (pc' := 147) rfl ?_
  refine g_iload A133 at_147 rfl (pc' := 149) rfl ?_
  refine g_iadd A133 at_149 (pc' := 150) rfl ?_
  refine g_i2d A133 at_150 (pc' := 151) rfl ?_
  refine g_dadd A133 at_151 (own_ndadd (i2d_fin p0) (i2d_fin (((3 : Int32) * ((Int32.ofNat i138.1) % (3 : Int32))) + ((Int32.ofNat i138.1) / (3 : Int32))))) (pc' := 152) rfl ?_
  refine g_dcmp A133 at_152 (pc' := 153) rfl ?_
  refine g_ifN A133 at_153 (d_l_ne_f (own_cmp p0 (own_t i138.1) (own_tl i138) _ (own_i2 i138))) (pc' := 156) rfl ?_
  refine g_iconst A133 at_156 (v := (1 : Int32)) rfl (pc' := 157) rfl ?_
  refine g_goto A133 at_157 (pc' := 161) rfl ?_
  refine g_istore A133 at_161 (ls' := #[.val (.int p0), .val (.int p1), .val (.double (FP.i2d p0)), .second, .val (.ref b70), .val (.ref r124), .val (.int (Int32.ofNat i138.1)), .val (.int ((Int32.ofNat i138.1) / (3 : Int32))), .val (.int ((Int32.ofNat i138.1) % (3 : Int32))), .val (.int (1 : Int32)), .unset]) rfl (pc' := 163) rfl ?_
  refine g_aload A133 at_163 rfl rfl (pc' := 165) rfl ?_
  refine g_iload A133 at_165 rfl (pc' := 167) rfl ?_
  refine g_daload A133 hZ rfl V130 (i := i138.1) i138.2 rfl (x := (own_m (FP.i2d p0) i138.1)) rfl at_167 (pc' := 168) rfl ?_
  refine g_dloadN A133 at_168 rfl (pc' := 169) rfl ?_
  refine g_iload A133 at_169 rfl (pc' := 171) rfl ?_
  refine g_i2d A133 at_171 (pc' := 172) rfl ?_
  refine g_dadd A133 at_172 (own_ndadd (i2d_fin p0) (i2d_fin (Int32.ofNat i138.1))) (pc' := 173) rfl ?_
  refine g_dcmp A133 at_173 (pc' := 174) rfl ?_
  refine g_ifN A133 at_174 (d_l_ne_f (own_cmp p0 i138.1 i138.2 _ rfl)) (pc' := 177) rfl ?_
  refine g_iconst A133 at_177 (v := (1 : Int32)) rfl (pc' := 178) rfl ?_
  refine g_goto A133 at_178 (pc' := 182) rfl ?_
  refine g_istore A133 at_182 (ls' := #[.val (.int p0), .val (.int p1), .val (.double (FP.i2d p0)), .second, .val (.ref b70), .val (.ref r124), .val (.int (Int32.ofNat i138.1)), .val (.int ((Int32.ofNat i138.1) / (3 : Int32))), .val (.int ((Int32.ofNat i138.1) % (3 : Int32))), .val (.int (1 : Int32)), .val (.int (1 : Int32))]) rfl (pc' := 184) rfl ?_
  refine g_iload A133 at_184 rfl (pc' := 186) rfl ?_
  refine g_ifN A133 at_186 (c0_eq_f (by decide)) (pc' := 189) rfl ?_
  refine g_iload A133 at_189 rfl (pc' := 191) rfl ?_
  refine g_ifN A133 at_191 (c0_eq_f (by decide)) (pc' := 194) rfl ?_
  refine g_iconst A133 at_194 (v := (1 : Int32)) rfl (pc' := 195) rfl ?_
  refine g_goto A133 at_195 (pc' := 199) rfl ?_
  exact g_ret (Q := Q0 Z p0 p1 h0 n0) A133 at_199 Bd.notSynchronized Bd.returns rfl (Or.inl ⟨rfl, by simp, _, rfl⟩) (by decide) (by decide) ⟨rfl, N129⟩
set_option maxRecDepth 65536 in
set_option maxHeartbeats 40000000 in
theorem comes_1 {Post : Tables → Env → Array Value → State → Outcome → State → Prop} (hpost : ∀ tb e args s v u, (limb_1_1.after args s (.returned v) u = true ∧ limb_1_2.after args s (.returned v) u = true ∧ True) → FrameEnd s (.returned v) u (Jvm.fieldLocs frame_1_writes args s ++ Jvm.arrayLocs frame_1_arrays args s ++ Jvm.staticLocs frame_1_statics s) 16 128 → Post tb e args s (.returned v) u) :
    ArmFor flags0 classFile x code maxLocals ret World_1 tables_1 room_1 Calls_1 rest_1 Pre_1 Post := by
  intro l hfl _ _ p e ha hc hk s m args below hf hA hF happ hP
  obtain ⟨hcalls, hrest, hpre⟩ := hP
  obtain ⟨-, -, -, hnamed, -, -, -, hat⟩ := (Spec.applies_iff hf).mp happ
  obtain ⟨hg, hn⟩ := and_e (Cond.before_iff.mp (show (Jvm.Cond.and given_1 narrow_1).before args s = true from hpre))
  obtain ⟨g0, hg1⟩ := and_e hg
  obtain ⟨w0, w1, rfl⟩ : ∃ w0 w1 : Value, args = #[w0, w1] := by
    have hs : args.size = 2 := by simpa [Cond.value, given_1] using g0
    obtain ⟨L⟩ := args
    match L, hs with
    | [w0, w1], _ => exact ⟨w0, w1, rfl⟩
  have hw := fun d (hd : d ∈ tables_1) => atoms_spec (ws := Jvm.Cond.code x code maxLocals ret :: tables_1) hat d (List.mem_cons_of_mem _ hd)
  have hfit : Fit s := fun {y c} hc i hi => by
    obtain ⟨ha, rfl⟩ := Array.getElem?_eq_some_iff.mp hc
    have q := List.all_eq_true.mp ((Array.all_eq_true_iff_forall_mem.mp hF) _ (Array.getElem_mem ha)) i (List.mem_range.mpr hi)
    simpa [Array.getElem?_eq_getElem hi] using q
  obtain ⟨k0, hg2⟩ := and_e hg1
  obtain ⟨i0, j0⟩ := is_v k0
  obtain rfl : w0 = (.int i0) := Option.some.inj j0
  obtain ⟨i1, j1⟩ := is_v hg2
  obtain rfl : w1 = (.int i1) := Option.some.inj j1
  obtain ⟨n, o, h1, h2, h3, _, L, rfl, ⟨rfl, N⟩, hq⟩ := rm0 l s _ hw tables_1 i0 i1 s.heap s.heap.size (Nat.le_refl _)  p e ha hc hk s m _ below hf ((Spec.applies_iff_loose hf).mp happ).1 ⟨rfl, State.Warmed39.refl s, rfl⟩ trivial
  refine ⟨n, _, h1, h2, h3, hpost _ _ _ _ _ _ ⟨Cond.after_iff.mpr rfl, Cond.after_iff.mpr (eq_i res_at (Term.int_eval (1)) rfl), trivial⟩ ⟨hq.1, hq.2.1, (hq.2.2.sift fun y hy => Or.inr (N y hy)).mono (by decide) (by decide)⟩⟩
theorem main_1_1 : Claimed_1_1 := comes_1 fun _ _ _ _ _ _ h hF => ⟨h.1, hF⟩
theorem main_1_2 : Claimed_1_2 := comes_1 fun _ _ _ _ _ _ h hF => ⟨h.2.1, hF⟩
end Jvm.Pilot.@@N@@
namespace Jvm.Pilot.@@N@@
open Jvm Jvm.ClassFile Sem Op Lib Jvm.Free Jvm.Stand Jvm.Pilot.@@N@@.Jvm.D
/-! MADE BY PROGRAM (witnessworld.py) out of the Statement's table words and the real class files: 11 classes; the members and pool entries that the words name. The judged class is class 1, her method 1. -/
namespace start1
open Jvm.ClassFile
def u (s : String) : CpInfo := .utf8 (stringToUtf16 s)
/-- a pool by its gaps: so many unusable entries, then the entry; so many at the end -/
def gap : Nat → List CpInfo → List CpInfo
  | 0, r => r
  | n + 1, r => .unusable :: gap n r
def poolList (es : List (Nat × CpInfo)) (last : Nat) : List CpInfo := es.foldr (fun e r => gap e.1 (e.2 :: r)) (gap last [])
def pool (es : List (Nat × CpInfo)) (last : Nat) : Array CpInfo := ⟨poolList es last⟩
def fileOf (pool : Array CpInfo) (this : Nat) (attrs : Array Attribute := #[]) (ms : Array MethodInfo := #[]) (fl : Nat := 33) (sup : Nat := 0) (ifs : Array Nat := #[]) (fds : Array FieldInfo := #[]) : ClassFile where
  minorVersion := 0
  majorVersion := 65
  constantPool := pool
  accessFlags := fl
  thisClass := this
  superClass := sup
  interfaces := ifs
  fields := fds
  methods := ms
  attributes := attrs
def plain (name : String) (sup : Option ClassId) : Class where
  name := name
  kind := .ordinary
  loader := none
  accessFlags := 33
  super := sup
  interfaces := #[]
  cf := none
  fields := #[]
  methods := #[]
  instanceTypes := #[]
  staticTypes := #[]
  resolved := #[]
  callSites := []
  init := .initialized
  statics := none
  mirror := none

def pool0 : Array CpInfo := pool [(5, u "<init>"), (0, u "()V"), (1, .class_ 10), (1, u "java/lang/Object")] 113

def k0m0 : Method := { name := "<init>", desc := "()V", sig := { parameters := [], returnType := none }, accessFlags := 1, code := none }
/-- java/lang/Object -/
def k0 : Class := { plain "java/lang/Object" none with
  accessFlags := 33
  interfaces := #[]
  cf := some (fileOf pool0 8 #[] #[{ accessFlags := 1, nameIndex := 5, descriptorIndex := 6, attributes := #[] }] 33 0 #[] #[])
  fields := #[]
  methods := #[k0m0]
  instanceTypes := #[]
  staticTypes := #[]
  resolved := Array.replicate 124 none
  statics := none }

def pool1 : Array CpInfo := pool [(2, .class_ 4), (1, u "java/lang/Object"), (0, u "<init>"), (0, u "()V"), (0, .double 4611686018427387904), (1, .double 4613937818241073152), (1, .double 4616189618054758400), (1, .double 4617315517961601024), (1, .double 4618441417868443648), (1, .double 4619567317775286272), (1, .double 4620693217682128896), (1, .methodref 22 23), (0, .class_ 24), (0, .nameAndType 25 26), (0, u "com/example/orientry/orientry/Matrices"), (0, u "transpose"), (0, u "([D)[D"), (0, .integer 2147483647), (0, .class_ 29), (0, u "com/example/orientry/orientry/MatricesTransposePinLaw"), (2, u "law"), (0, u "(II)Z")] 5

def k1m0 : Method := { name := "<init>", desc := "()V", sig := { parameters := [], returnType := none }, accessFlags := 2, code := none }
def k1c1 : Code := { maxStack := 6, maxLocals := 11, code := code, exceptionTable := #[], attributes := #[] }
def k1m1 : Method := { name := "law", desc := "(II)Z", sig := { parameters := [.int, .int], returnType := some .boolean }, accessFlags := 9, code := some k1c1 }
/-- com/example/orientry/orientry/MatricesTransposePinLaw -/
def k1 : Class := { plain "com/example/orientry/orientry/MatricesTransposePinLaw" (some 0) with
  accessFlags := 49
  interfaces := #[]
  cf := some (fileOf pool1 28 #[] #[{ accessFlags := 2, nameIndex := 5, descriptorIndex := 6, attributes := #[] }, { accessFlags := 9, nameIndex := 32, descriptorIndex := 33, attributes := #[] }] 49 2 #[] #[])
  fields := #[]
  methods := #[k1m0, k1m1]
  instanceTypes := #[]
  staticTypes := #[]
  resolved := Array.replicate 39 none
  statics := none }

def pool2 : Array CpInfo := pool [(2, .class_ 4), (1, u "java/lang/Object"), (0, u "<init>"), (0, u "()V"), (12, .class_ 20), (0, u "com/example/orientry/orientry/Matrices"), (17, u "ONE_STEP_DEPARTURE"), (0, u "D"), (1, u "ROUNDING_DEPARTURE"), (8, u "transpose"), (0, u "([D)[D")] 4

def k2m0 : Method := { name := "<init>", desc := "()V", sig := { parameters := [], returnType := none }, accessFlags := 2, code := none }
def k2c1 : Code := { maxStack := 5, maxLocals := 1, code := prog_7_method_4_code, exceptionTable := #[], attributes := #[] }
def k2m1 : Method := { name := "transpose", desc := "([D)[D", sig := { parameters := [(.array .double)], returnType := some (.array .double) }, accessFlags := 8, code := some k2c1 }
/-- com/example/orientry/orientry/Matrices -/
def k2 : Class := { plain "com/example/orientry/orientry/Matrices" (some 0) with
  accessFlags := 48
  interfaces := #[]
  cf := some (fileOf pool2 19 #[] #[{ accessFlags := 2, nameIndex := 5, descriptorIndex := 6, attributes := #[] }, { accessFlags := 8, nameIndex := 50, descriptorIndex := 51, attributes := #[] }] 48 2 #[] #[{ accessFlags := 26, nameIndex := 38, descriptorIndex := 39, attributes := #[] }, { accessFlags := 26, nameIndex := 41, descriptorIndex := 39, attributes := #[] }])
  fields := #[{ name := "ONE_STEP_DEPARTURE", type := .double, accessFlags := 26, slot := 0, constantValue := 0 }, { name := "ROUNDING_DEPARTURE", type := .double, accessFlags := 26, slot := 1, constantValue := 0 }]
  methods := #[k2m0, k2m1]
  instanceTypes := #[]
  staticTypes := #[.double, .double]
  resolved := Array.replicate 56 none
  statics := none }

def pool3 : Array CpInfo := pool [(1, u "java/lang/Cloneable"), (0, .class_ 1), (0, u "java/lang/Object"), (0, .class_ 3)] 3

/-- java/lang/Cloneable -/
def k3 : Class := { plain "java/lang/Cloneable" (some 0) with
  accessFlags := 1537
  interfaces := #[]
  cf := some (fileOf pool3 2 #[] #[] 1537 4 #[] #[])
  fields := #[]
  methods := #[]
  instanceTypes := #[]
  staticTypes := #[]
  resolved := Array.replicate 8 none
  statics := none }

def pool4 : Array CpInfo := pool [(1, u "java/io/Serializable"), (0, .class_ 1), (0, u "java/lang/Object"), (0, .class_ 3)] 3

/-- java/io/Serializable -/
def k4 : Class := { plain "java/io/Serializable" (some 0) with
  accessFlags := 1537
  interfaces := #[]
  cf := some (fileOf pool4 2 #[] #[] 1537 4 #[] #[])
  fields := #[]
  methods := #[]
  instanceTypes := #[]
  staticTypes := #[]
  resolved := Array.replicate 8 none
  statics := none }

/-- the primitive byte -/
def k5 : Class := { plain "byte" none with kind := .primitive 'B', accessFlags := 0x411 }
/-- [B -/
def k6 : Class := { plain "[B" (some 0) with kind := .array 5 .byte, interfaces := #[3, 4], accessFlags := 1041 }

/-- the primitive double -/
def k7 : Class := { plain "double" none with kind := .primitive 'D', accessFlags := 0x411 }
/-- [D -/
def k8 : Class := { plain "[D" (some 0) with kind := .array 7 .double, interfaces := #[3, 4], accessFlags := 1041 }

/-- the primitive int -/
def k9 : Class := { plain "int" none with kind := .primitive 'I', accessFlags := 0x411 }
/-- [I -/
def k10 : Class := { plain "[I" (some 0) with kind := .array 9 .int, interfaces := #[3, 4], accessFlags := 1041 }

def heap : Heap := #[]
def classes : Array Class := #[k0, k1, k2, k3, k4, k5, k6, k7, k8, k9, k10]
def interned : List (Array UInt16 × Addr) := []
def slotsUsed : Nat := 0
def theMethod : MethodId := ⟨1, 1⟩
def args0 : Array Value := #[.int 5, .int 3]
def aboutOver (below : List Frame) : State where
  vm := { classes := classes, interned := interned.toArray }
  heap := heap
  slotsUsed := slotsUsed
  threads := #[{ frames := .invoking theMethod args0 :: below }]
def below0 : List Frame := [.native { method := ⟨0, 0⟩, args := #[] }]
def about1 : State := aboutOver below0
def p0 : Program := .bare "" "" ""
def e0 : Env := launch0.env 0 0 0
theorem w_frames : about1.frames = Frame.invoking theMethod args0 :: below0 := rfl
set_option maxRecDepth 65536 in
theorem w_args : argsFit about1.vm theMethod args0 = true := by decide +kernel
set_option maxRecDepth 65536 in
theorem w_heap : heapFits about1 = true := by decide +kernel
set_option maxRecDepth 65536 in
theorem w_runnable : about1.curStatus? = some .runnable := by decide +kernel
set_option maxRecDepth 65536 in
theorem w_alone : about1.alone = true := by decide +kernel
set_option maxRecDepth 65536 in
theorem w_named : about1.methodNamed? x = some theMethod := by decide +kernel
set_option maxRecDepth 65536 in
theorem w_hears : about1.hears theMethod below0 = true := by decide +kernel
set_option maxRecDepth 65536 in
theorem w_ripe : about1.ripe theMethod args0 below0 = true := by decide +kernel
theorem w_running : about1.status = .running := rfl
set_option maxRecDepth 65536 in
theorem w_room : about1.hasRoom e0.platform room_1 = true :=
  launch0.hasRoom_least _ room_1 (by decide +kernel) (by decide +kernel) (by decide +kernel) (by decide +kernel) (by decide +kernel) (by decide +kernel)
theorem allAtoms_all (ts : List Jvm.Cond) (a : Array Jvm.Value) (st : Jvm.State) : (allAtoms ts).before a st = ts.all (fun c => c.before a st) := by
  induction ts with
  | nil => rfl
  | cons c t ih =>
    show (Jvm.Cond.and c (allAtoms t)).before a st = _
    rw [Jvm.Cond.before_and, ih, List.all_cons]
def words1 : List Jvm.Cond := Jvm.Cond.code x code maxLocals ret :: tables_1
/-- a 'code' word, met by the world's own term for the bytes: nothing is compared byte by byte -/
theorem code_word {y : MethodName} {bytes : ByteArray} {mx : Nat} {rt : Option FieldType} {a : Array Value} {s : State} {m : MethodId} {meth : Method} {c : Code} (h1 : s.methodNamed? y = some m) (h2 : s.vm.method? m = some meth) (h3 : meth.code = some c) (h4 : c.code = bytes)
    (h5 : (c.maxLocals == mx && c.exceptionTable.isEmpty && decide (c.maxStack ≤ mostOperands) && decide (meth.sig.returnType = rt) && !meth.locks && decide (parseMethodDescriptor y.desc = some meth.sig)) = true) : (Jvm.Cond.code y bytes mx rt).before a s = true := by
  simp only [Bool.and_eq_true, beq_iff_eq, Bool.not_eq_true', decide_eq_true_eq] at h5
  obtain ⟨⟨⟨⟨⟨g1, g2⟩, g3⟩, g4⟩, g5⟩, g6⟩ := h5
  simp [Cond.before, Cond.holds, Cond.value, h1, h2, h3, h4, g1, g2, g3, g4, g5, g6]
def isCode : Jvm.Cond → Bool
  | .code _ _ _ _ => true
  | _ => false
theorem all_split {L : List Jvm.Cond} {P : Jvm.Cond → Bool} (h1 : L.all (fun c => isCode c || P c) = true) (h2 : ∀ c ∈ L.filter isCode, P c = true) : L.all P = true := by
  refine List.all_eq_true.mpr fun c hc => ?_
  have h := List.all_eq_true.mp h1 c hc
  rcases Bool.eq_false_or_eq_true (isCode c) with hi | hi
  · exact h2 c (List.mem_filter.mpr ⟨hc, hi⟩)
  · simpa [hi] using h
set_option maxRecDepth 65536 in
theorem w_c0 : (Jvm.Cond.code x code maxLocals ret).before args0 about1 = true := code_word (m := ⟨1, 1⟩) (meth := k1m1) (c := k1c1) (by decide +kernel) rfl rfl rfl (by decide +kernel)
set_option maxRecDepth 65536 in
theorem w_c1 : (Jvm.Cond.code ({ cls := "com/example/orientry/orientry/Matrices", name := "transpose", desc := "([D)[D" } : Jvm.MethodName) prog_7_method_4_code (1 : Nat) (Option.some (Jvm.ClassFile.FieldType.array Jvm.ClassFile.FieldType.double))).before args0 about1 = true := code_word (m := ⟨2, 1⟩) (meth := k2m1) (c := k2c1) (by decide +kernel) rfl rfl rfl (by decide +kernel)
def codes1 : List Jvm.Cond := [Jvm.Cond.code x code maxLocals ret, Jvm.Cond.code ({ cls := "com/example/orientry/orientry/Matrices", name := "transpose", desc := "([D)[D" } : Jvm.MethodName) prog_7_method_4_code (1 : Nat) (Option.some (Jvm.ClassFile.FieldType.array Jvm.ClassFile.FieldType.double))]
set_option maxRecDepth 65536 in
theorem codes_eq : words1.filter isCode = codes1 := rfl
theorem w_codes : ∀ c ∈ words1.filter isCode, c.before args0 about1 = true := by
  rw [codes_eq]
  intro c hc
  simp only [codes1, List.mem_cons, List.not_mem_nil, or_false] at hc
  rcases hc with rfl | rfl
  · exact w_c0
  · exact w_c1
set_option maxRecDepth 65536 in
theorem w_t1 : words1.all (fun c => isCode c || c.before args0 about1) = true := by decide +kernel
theorem w_tables : (allAtoms (Jvm.Cond.code x code maxLocals ret :: tables_1)).before args0 about1 = true := by
  rw [allAtoms_all]
  show words1.all (fun c => c.before args0 about1) = true
  refine all_split ?_ w_codes
  rw [w_t1]
set_option maxRecDepth 65536 in
theorem w_case : (Jvm.Cond.and given_1 narrow_1).before args0 about1 = true := by decide +kernel
theorem w_applies : (headSpec (Jvm.Cond.code x code maxLocals ret :: tables_1) room_1).applies x e0.platform about1 = true :=
  (Spec.applies_iff w_frames).mpr ⟨w_running, w_runnable, w_alone, w_named, w_hears, w_ripe, w_room, w_tables⟩
theorem atStart : AtStart classFile x code maxLocals ret World_1 tables_1 room_1 Calls_1 rest_1 Pre_1 launch0 p0 e0 about1 theMethod args0 below0 :=
  ⟨lists_1, trivial, launch0.admits_env _ _ _, launch0.least_env, fairChoices_fair.cas, fairChoices_fair.clock, w_frames, w_args, w_heap, w_applies, trivial, trivial, w_case⟩
end start1
theorem witness_1 : WitnessClaimed_1 := ⟨start1.p0, start1.e0, start1.about1, start1.theMethod, start1.args0, start1.below0, start1.atStart⟩
end Jvm.Pilot.@@N@@
