import JvmDerived
import JvmDerived.Pilot.@@N@@Statement
import JvmDerived.Pilot.@@N@@Code
set_option linter.unusedVariables false
set_option linter.unusedSimpArgs false
namespace Jvm.Pilot.@@N@@
open Jvm Jvm.ClassFile Sem Op Lib Jvm.Free Jvm.Free.Fl Jvm.Stand Jvm.LawKit Jvm.RoadKit Bundle Jvm.Pilot.@@N@@.Jvm.D
section own_go
/-- where the walk stands, with the two facts that every step asks -/
def Ax (p : Program) (l : Launch) (e : Env) (R : Room) (s : State) (m : MethodId) (args : Array Value) (below : List Frame) (meth : Method) (c : Code) (T : State) (locs : List Loc) (cells slots : Nat) (B : ByteArray) : Prop := Stand p l e R s m args below meth c T locs cells slots ∧ p.tables.exec = Jvm.exec ∧ c.code = B
/-- from this frame the run ends, and P holds of its end -/
def Go (p : Program) (e : Env) (below : List Frame) (P : State → Outcome → Prop) (T : State) (g : JFrame) : Prop := ∃ U o, Steps p.tables e below (T.setTop g) U ∧ U.status = .running ∧ Ended U below o ∧ P U o
variable {p : Program} {l : Launch} {e : Env} {R : Room} {s : State} {m : MethodId} {args : Array Value} {below : List Frame} {meth : Method} {c : Code} {T : State} {locs : List Loc} {cells slots : Nat} {P : State → Outcome → Prop} {B : ByteArray} {pc pc' : Nat} {ls ls' : Array Slot} {st : List Value}
theorem Go.of {T' : State} {g g' : JFrame} (k : ∀ t, Steps p.tables e below (T'.setTop g') t → Steps p.tables e below (T.setTop g) t) (h : Go p e below P T' g') : Go p e below P T g := by
  obtain ⟨U, o, h1, h2⟩ := h
  exact ⟨U, o, k _ h1, h2⟩
theorem Go.tr {T' : State} {g g' : JFrame} (k : Steps p.tables e below (T.setTop g) (T'.setTop g')) (h : Go p e below P T' g') : Go p e below P T g := Go.of (fun _ h => k.trans h) h
theorem Go.cast {g g' : JFrame} (q : g = g') (h : Go p e below P T g') : Go p e below P T g := q ▸ h

theorem g_iadd (A : Ax p l e R s m args below meth c T locs cells slots B) {x : Int32} {y : Int32} (hd : decode B pc = .ok (.iadd, 1)) (hp : pc + 1 = pc') (k : Go p e below P T (mkF m pc' ls (.int (x + y) :: st))) : Go p e below P T (mkF m pc ls (.int y :: .int x :: st)) := by
  subst hp; exact Go.of (fun _ k' => XS.iadd A.1.here A.2.1 rfl (hb A.2.2 hd) rfl k') k
theorem g_isub (A : Ax p l e R s m args below meth c T locs cells slots B) {x : Int32} {y : Int32} (hd : decode B pc = .ok (.isub, 1)) (hp : pc + 1 = pc') (k : Go p e below P T (mkF m pc' ls (.int (x - y) :: st))) : Go p e below P T (mkF m pc ls (.int y :: .int x :: st)) := by
  subst hp; exact Go.of (fun _ k' => XS.isub A.1.here A.2.1 rfl (hb A.2.2 hd) rfl k') k
theorem g_iand (A : Ax p l e R s m args below meth c T locs cells slots B) {x : Int32} {y : Int32} (hd : decode B pc = .ok (.iand, 1)) (hp : pc + 1 = pc') (k : Go p e below P T (mkF m pc' ls (.int (x &&& y) :: st))) : Go p e below P T (mkF m pc ls (.int y :: .int x :: st)) := by
  subst hp; exact Go.of (fun _ k' => XS.iand A.1.here A.2.1 rfl (hb A.2.2 hd) rfl k') k
theorem g_imul (A : Ax p l e R s m args below meth c T locs cells slots B) {x : Int32} {y : Int32} (hd : decode B pc = .ok (.imul, 1)) (hp : pc + 1 = pc') (k : Go p e below P T (mkF m pc' ls (.int (x * y) :: st))) : Go p e below P T (mkF m pc ls (.int y :: .int x :: st)) := by
  subst hp; exact Go.of (fun _ k' => XS.imul A.1.here A.2.1 rfl (hb A.2.2 hd) rfl k') k
theorem g_ixor (A : Ax p l e R s m args below meth c T locs cells slots B) {x : Int32} {y : Int32} (hd : decode B pc = .ok (.ixor, 1)) (hp : pc + 1 = pc') (k : Go p e below P T (mkF m pc' ls (.int (x ^^^ y) :: st))) : Go p e below P T (mkF m pc ls (.int y :: .int x :: st)) := by
  subst hp; exact Go.of (fun _ k' => XT.ixor A.1.here A.2.1 rfl (hb A.2.2 hd) rfl k') k
theorem g_ior (A : Ax p l e R s m args below meth c T locs cells slots B) {x : Int32} {y : Int32} (hd : decode B pc = .ok (.ior, 1)) (hp : pc + 1 = pc') (k : Go p e below P T (mkF m pc' ls (.int (x ||| y) :: st))) : Go p e below P T (mkF m pc ls (.int y :: .int x :: st)) := by
  subst hp; exact Go.of (fun _ k' => XT.ior A.1.here A.2.1 rfl (hb A.2.2 hd) rfl k') k
theorem g_ishl (A : Ax p l e R s m args below meth c T locs cells slots B) {x : Int32} {y : Int32} (hd : decode B pc = .ok (.ishl, 1)) (hp : pc + 1 = pc') (k : Go p e below P T (mkF m pc' ls (.int (x <<< (y &&& 31)) :: st))) : Go p e below P T (mkF m pc ls (.int y :: .int x :: st)) := by
  subst hp; exact Go.of (fun _ k' => XT.ishl A.1.here A.2.1 rfl (hb A.2.2 hd) rfl k') k
theorem g_ishr (A : Ax p l e R s m args below meth c T locs cells slots B) {x : Int32} {y : Int32} (hd : decode B pc = .ok (.ishr, 1)) (hp : pc + 1 = pc') (k : Go p e below P T (mkF m pc' ls (.int (x >>> (y &&& 31)) :: st))) : Go p e below P T (mkF m pc ls (.int y :: .int x :: st)) := by
  subst hp; exact Go.of (fun _ k' => XT.ishr A.1.here A.2.1 rfl (hb A.2.2 hd) rfl k') k
theorem g_iushr (A : Ax p l e R s m args below meth c T locs cells slots B) {x : Int32} {y : Int32} (hd : decode B pc = .ok (.iushr, 1)) (hp : pc + 1 = pc') (k : Go p e below P T (mkF m pc' ls (.int (XT.ushr x y) :: st))) : Go p e below P T (mkF m pc ls (.int y :: .int x :: st)) := by
  subst hp; exact Go.of (fun _ k' => XT.iushr A.1.here A.2.1 rfl (hb A.2.2 hd) rfl k') k
theorem g_idiv (A : Ax p l e R s m args below meth c T locs cells slots B) {x : Int32} {y : Int32} (hd : decode B pc = .ok (.idiv, 1)) (hy : y ≠ 0) (hp : pc + 1 = pc') (k : Go p e below P T (mkF m pc' ls (.int (x / y) :: st))) : Go p e below P T (mkF m pc ls (.int y :: .int x :: st)) := by
  subst hp; exact Go.of (fun _ k' => XS.idiv A.1.here A.2.1 rfl (hb A.2.2 hd) rfl hy k') k
theorem g_ladd (A : Ax p l e R s m args below meth c T locs cells slots B) {x : Int64} {y : Int64} (hd : decode B pc = .ok (.ladd, 1)) (hp : pc + 1 = pc') (k : Go p e below P T (mkF m pc' ls (.long (x + y) :: st))) : Go p e below P T (mkF m pc ls (.long y :: .long x :: st)) := by
  subst hp; exact Go.of (fun _ k' => XT.ladd A.1.here A.2.1 rfl (hb A.2.2 hd) rfl k') k
theorem g_lsub (A : Ax p l e R s m args below meth c T locs cells slots B) {x : Int64} {y : Int64} (hd : decode B pc = .ok (.lsub, 1)) (hp : pc + 1 = pc') (k : Go p e below P T (mkF m pc' ls (.long (x - y) :: st))) : Go p e below P T (mkF m pc ls (.long y :: .long x :: st)) := by
  subst hp; exact Go.of (fun _ k' => XT.lsub A.1.here A.2.1 rfl (hb A.2.2 hd) rfl k') k
theorem g_lmul (A : Ax p l e R s m args below meth c T locs cells slots B) {x : Int64} {y : Int64} (hd : decode B pc = .ok (.lmul, 1)) (hp : pc + 1 = pc') (k : Go p e below P T (mkF m pc' ls (.long (x * y) :: st))) : Go p e below P T (mkF m pc ls (.long y :: .long x :: st)) := by
  subst hp; exact Go.of (fun _ k' => XT.lmul A.1.here A.2.1 rfl (hb A.2.2 hd) rfl k') k
theorem g_land (A : Ax p l e R s m args below meth c T locs cells slots B) {x : Int64} {y : Int64} (hd : decode B pc = .ok (.land, 1)) (hp : pc + 1 = pc') (k : Go p e below P T (mkF m pc' ls (.long (x &&& y) :: st))) : Go p e below P T (mkF m pc ls (.long y :: .long x :: st)) := by
  subst hp; exact Go.of (fun _ k' => XT.land A.1.here A.2.1 rfl (hb A.2.2 hd) rfl k') k
theorem g_lor (A : Ax p l e R s m args below meth c T locs cells slots B) {x : Int64} {y : Int64} (hd : decode B pc = .ok (.lor, 1)) (hp : pc + 1 = pc') (k : Go p e below P T (mkF m pc' ls (.long (x ||| y) :: st))) : Go p e below P T (mkF m pc ls (.long y :: .long x :: st)) := by
  subst hp; exact Go.of (fun _ k' => XT.lor A.1.here A.2.1 rfl (hb A.2.2 hd) rfl k') k
theorem g_lxor (A : Ax p l e R s m args below meth c T locs cells slots B) {x : Int64} {y : Int64} (hd : decode B pc = .ok (.lxor, 1)) (hp : pc + 1 = pc') (k : Go p e below P T (mkF m pc' ls (.long (x ^^^ y) :: st))) : Go p e below P T (mkF m pc ls (.long y :: .long x :: st)) := by
  subst hp; exact Go.of (fun _ k' => XT.lxor A.1.here A.2.1 rfl (hb A.2.2 hd) rfl k') k
theorem g_lshl (A : Ax p l e R s m args below meth c T locs cells slots B) {x : Int64} {y : Int32} (hd : decode B pc = .ok (.lshl, 1)) (hp : pc + 1 = pc') (k : Go p e below P T (mkF m pc' ls (.long (x <<< (y.toInt64 &&& 63)) :: st))) : Go p e below P T (mkF m pc ls (.int y :: .long x :: st)) := by
  subst hp; exact Go.of (fun _ k' => XT.lshl A.1.here A.2.1 rfl (hb A.2.2 hd) rfl k') k
theorem g_lshr (A : Ax p l e R s m args below meth c T locs cells slots B) {x : Int64} {y : Int32} (hd : decode B pc = .ok (.lshr, 1)) (hp : pc + 1 = pc') (k : Go p e below P T (mkF m pc' ls (.long (x >>> (y.toInt64 &&& 63)) :: st))) : Go p e below P T (mkF m pc ls (.int y :: .long x :: st)) := by
  subst hp; exact Go.of (fun _ k' => XT.lshr A.1.here A.2.1 rfl (hb A.2.2 hd) rfl k') k
theorem g_lushr (A : Ax p l e R s m args below meth c T locs cells slots B) {x : Int64} {y : Int32} (hd : decode B pc = .ok (.lushr, 1)) (hp : pc + 1 = pc') (k : Go p e below P T (mkF m pc' ls (.long (XT.ushrL x y) :: st))) : Go p e below P T (mkF m pc ls (.int y :: .long x :: st)) := by
  subst hp; exact Go.of (fun _ k' => XT.lushr A.1.here A.2.1 rfl (hb A.2.2 hd) rfl k') k
theorem g_ldiv (A : Ax p l e R s m args below meth c T locs cells slots B) {x : Int64} {y : Int64} (hd : decode B pc = .ok (.ldiv, 1)) (hy : y ≠ 0) (hp : pc + 1 = pc') (k : Go p e below P T (mkF m pc' ls (.long (x / y) :: st))) : Go p e below P T (mkF m pc ls (.long y :: .long x :: st)) := by
  subst hp; exact Go.of (fun _ k' => XT.ldiv A.1.here A.2.1 rfl (hb A.2.2 hd) rfl hy k') k
theorem g_lrem (A : Ax p l e R s m args below meth c T locs cells slots B) {x y : Int64} (hd : decode B pc = .ok (.lrem, 1)) (hy : y ≠ 0) (hp : pc + 1 = pc') (k : Go p e below P T (mkF m pc' ls (.long (x % y) :: st))) : Go p e below P T (mkF m pc ls (.long y :: .long x :: st)) := by
  subst hp; rw [← lrem_mod] at k; exact Go.of (fun _ k' => XT.lrem A.1.here A.2.1 rfl (hb A.2.2 hd) rfl hy k') k
theorem g_i2s (A : Ax p l e R s m args below meth c T locs cells slots B) {x : Int32} (hd : decode B pc = .ok (.i2s, 1)) (hp : pc + 1 = pc') (k : Go p e below P T (mkF m pc' ls (.int (x.toInt16.toInt32) :: st))) : Go p e below P T (mkF m pc ls (.int x :: st)) := by
  subst hp; exact Go.of (fun _ k' => XT.i2s A.1.here A.2.1 rfl (hb A.2.2 hd) rfl k') k
theorem g_i2b (A : Ax p l e R s m args below meth c T locs cells slots B) {x : Int32} (hd : decode B pc = .ok (.i2b, 1)) (hp : pc + 1 = pc') (k : Go p e below P T (mkF m pc' ls (.int (x.toInt8.toInt32) :: st))) : Go p e below P T (mkF m pc ls (.int x :: st)) := by
  subst hp; exact Go.of (fun _ k' => XT.i2b A.1.here A.2.1 rfl (hb A.2.2 hd) rfl k') k
theorem g_i2c (A : Ax p l e R s m args below meth c T locs cells slots B) {x : Int32} (hd : decode B pc = .ok (.i2c, 1)) (hp : pc + 1 = pc') (k : Go p e below P T (mkF m pc' ls (.int (x.toUInt32.toUInt16.toUInt32.toInt32) :: st))) : Go p e below P T (mkF m pc ls (.int x :: st)) := by
  subst hp; exact Go.of (fun _ k' => XT.i2c A.1.here A.2.1 rfl (hb A.2.2 hd) rfl k') k
theorem g_ineg (A : Ax p l e R s m args below meth c T locs cells slots B) {x : Int32} (hd : decode B pc = .ok (.ineg, 1)) (hp : pc + 1 = pc') (k : Go p e below P T (mkF m pc' ls (.int (-x) :: st))) : Go p e below P T (mkF m pc ls (.int x :: st)) := by
  subst hp; exact Go.of (fun _ k' => XS.ineg A.1.here A.2.1 rfl (hb A.2.2 hd) rfl k') k
theorem g_lneg (A : Ax p l e R s m args below meth c T locs cells slots B) {x : Int64} (hd : decode B pc = .ok (.lneg, 1)) (hp : pc + 1 = pc') (k : Go p e below P T (mkF m pc' ls (.long (-x) :: st))) : Go p e below P T (mkF m pc ls (.long x :: st)) := by
  subst hp; exact Go.of (fun _ k' => XT.lneg A.1.here A.2.1 rfl (hb A.2.2 hd) rfl k') k
theorem g_i2l (A : Ax p l e R s m args below meth c T locs cells slots B) {x : Int32} (hd : decode B pc = .ok (.i2l, 1)) (hp : pc + 1 = pc') (k : Go p e below P T (mkF m pc' ls (.long (x.toInt64) :: st))) : Go p e below P T (mkF m pc ls (.int x :: st)) := by
  subst hp; exact Go.of (fun _ k' => XT.i2l A.1.here A.2.1 rfl (hb A.2.2 hd) rfl k') k
theorem g_l2i (A : Ax p l e R s m args below meth c T locs cells slots B) {x : Int64} (hd : decode B pc = .ok (.l2i, 1)) (hp : pc + 1 = pc') (k : Go p e below P T (mkF m pc' ls (.int (x.toInt32) :: st))) : Go p e below P T (mkF m pc ls (.long x :: st)) := by
  subst hp; exact Go.of (fun _ k' => XT.l2i A.1.here A.2.1 rfl (hb A.2.2 hd) rfl k') k
theorem g_irem (A : Ax p l e R s m args below meth c T locs cells slots B) {x y : Int32} (hd : decode B pc = .ok (.irem, 1)) (hy : y ≠ 0) (hp : pc + 1 = pc') (k : Go p e below P T (mkF m pc' ls (.int (x % y) :: st))) : Go p e below P T (mkF m pc ls (.int y :: .int x :: st)) := by
  subst hp; exact Go.of (fun _ k' => iremM A.1 A.2.1 rfl (hb A.2.2 hd) rfl hy k') k
theorem g_iloadN (A : Ax p l e R s m args below meth c T locs cells slots B) {k : Fin 4} {v : Int32} (hd : decode B pc = .ok (.iload_n k, 1)) (hl : ls[k.val]? = some (.val (.int v))) (hp : pc + 1 = pc') (k : Go p e below P T (mkF m pc' ls (.int v :: st))) : Go p e below P T (mkF m pc ls st) := by
  subst hp; exact Go.of (fun _ k' => XS.iloadN A.1.here A.2.1 rfl (hb A.2.2 hd) hl k') k
theorem g_iload (A : Ax p l e R s m args below meth c T locs cells slots B) {k : Nat} {v : Int32} (hd : decode B pc = .ok (.iload k, 2)) (hl : ls[k]? = some (.val (.int v))) (hp : pc + 2 = pc') (k : Go p e below P T (mkF m pc' ls (.int v :: st))) : Go p e below P T (mkF m pc ls st) := by
  subst hp; exact Go.of (fun _ k' => XS.iload A.1.here A.2.1 rfl (hb A.2.2 hd) hl k') k
theorem g_lloadN (A : Ax p l e R s m args below meth c T locs cells slots B) {k : Fin 4} {v : Int64} (hd : decode B pc = .ok (.lload_n k, 1)) (hl : ls[k.val]? = some (.val (.long v))) (hp : pc + 1 = pc') (k : Go p e below P T (mkF m pc' ls (.long v :: st))) : Go p e below P T (mkF m pc ls st) := by
  subst hp; exact Go.of (fun _ k' => XT.lloadN A.1.here A.2.1 rfl (hb A.2.2 hd) hl k') k
theorem g_lload (A : Ax p l e R s m args below meth c T locs cells slots B) {k : Nat} {v : Int64} (hd : decode B pc = .ok (.lload k, 2)) (hl : ls[k]? = some (.val (.long v))) (hp : pc + 2 = pc') (k : Go p e below P T (mkF m pc' ls (.long v :: st))) : Go p e below P T (mkF m pc ls st) := by
  subst hp; exact Go.of (fun _ k' => XT.lload A.1.here A.2.1 rfl (hb A.2.2 hd) hl k') k
theorem g_aloadN (A : Ax p l e R s m args below meth c T locs cells slots B) {k : Fin 4} {v : Value} (hd : decode B pc = .ok (.aload_n k, 1)) (hl : ls[k.val]? = some (.val v)) (hv : v.isRef = true) (hp : pc + 1 = pc') (k : Go p e below P T (mkF m pc' ls (v :: st))) : Go p e below P T (mkF m pc ls st) := by
  subst hp; exact Go.of (fun _ k' => XS.aloadN A.1.here A.2.1 rfl (hb A.2.2 hd) hl hv k') k
theorem g_aload (A : Ax p l e R s m args below meth c T locs cells slots B) {k : Nat} {v : Value} (hd : decode B pc = .ok (.aload k, 2)) (hl : ls[k]? = some (.val v)) (hv : v.isRef = true) (hp : pc + 2 = pc') (k : Go p e below P T (mkF m pc' ls (v :: st))) : Go p e below P T (mkF m pc ls st) := by
  subst hp; exact Go.of (fun _ k' => XS.aload A.1.here A.2.1 rfl (hb A.2.2 hd) hl hv k') k
theorem g_dloadN (A : Ax p l e R s m args below meth c T locs cells slots B) {k : Fin 4} {v : UInt64} (hd : decode B pc = .ok (.dload_n k, 1)) (hl : ls[k.val]? = some (.val (.double v))) (hp : pc + 1 = pc') (k : Go p e below P T (mkF m pc' ls (.double v :: st))) : Go p e below P T (mkF m pc ls st) := by
  subst hp
  refine Go.of (fun t k' => ?_) k
  have h := A.1.here
  have hx := A.2.1
  have hd' := hb A.2.2 hd
  show Steps p.tables e below (T.setTop { method := m, pc := pc, locals := ls, stack := st, locked := none }) _
  jvm_step h [h.top, hx, hd', hl]
  exact k'
theorem g_dload (A : Ax p l e R s m args below meth c T locs cells slots B) {k : Nat} {v : UInt64} (hd : decode B pc = .ok (.dload k, 2)) (hl : ls[k]? = some (.val (.double v))) (hp : pc + 2 = pc') (k : Go p e below P T (mkF m pc' ls (.double v :: st))) : Go p e below P T (mkF m pc ls st) := by
  subst hp
  refine Go.of (fun t k' => ?_) k
  have h := A.1.here
  have hx := A.2.1
  have hd' := hb A.2.2 hd
  show Steps p.tables e below (T.setTop { method := m, pc := pc, locals := ls, stack := st, locked := none }) _
  jvm_step h [h.top, hx, hd', hl]
  exact k'
theorem g_istoreN (A : Ax p l e R s m args below meth c T locs cells slots B) {k : Fin 4} {x : Int32} (hd : decode B pc = .ok (.istore_n k, 1)) (hl : storeLocals ls k.val (.int x) = some ls') (hp : pc + 1 = pc') (k : Go p e below P T (mkF m pc' ls' st)) : Go p e below P T (mkF m pc ls (.int x :: st)) := by
  subst hp; exact Go.of (fun _ k' => XS.istoreN A.1.here A.2.1 rfl (hb A.2.2 hd) rfl hl k') k
theorem g_istore (A : Ax p l e R s m args below meth c T locs cells slots B) {k : Nat} {x : Int32} (hd : decode B pc = .ok (.istore k, 2)) (hl : storeLocals ls k (.int x) = some ls') (hp : pc + 2 = pc') (k : Go p e below P T (mkF m pc' ls' st)) : Go p e below P T (mkF m pc ls (.int x :: st)) := by
  subst hp; exact Go.of (fun _ k' => XS.istore A.1.here A.2.1 rfl (hb A.2.2 hd) rfl hl k') k
theorem g_lstoreN (A : Ax p l e R s m args below meth c T locs cells slots B) {k : Fin 4} {x : Int64} (hd : decode B pc = .ok (.lstore_n k, 1)) (hl : storeLocals ls k.val (.long x) = some ls') (hp : pc + 1 = pc') (k : Go p e below P T (mkF m pc' ls' st)) : Go p e below P T (mkF m pc ls (.long x :: st)) := by
  subst hp; exact Go.of (fun _ k' => XT.lstoreN A.1.here A.2.1 rfl (hb A.2.2 hd) rfl hl k') k
theorem g_lstore (A : Ax p l e R s m args below meth c T locs cells slots B) {k : Nat} {x : Int64} (hd : decode B pc = .ok (.lstore k, 2)) (hl : storeLocals ls k (.long x) = some ls') (hp : pc + 2 = pc') (k : Go p e below P T (mkF m pc' ls' st)) : Go p e below P T (mkF m pc ls (.long x :: st)) := by
  subst hp; exact Go.of (fun _ k' => XT.lstore A.1.here A.2.1 rfl (hb A.2.2 hd) rfl hl k') k
theorem g_astoreN (A : Ax p l e R s m args below meth c T locs cells slots B) {k : Fin 4} {x : Value} (hd : decode B pc = .ok (.astore_n k, 1)) (hv : x.isRef = true) (hl : storeLocals ls k.val x = some ls') (hp : pc + 1 = pc') (k : Go p e below P T (mkF m pc' ls' st)) : Go p e below P T (mkF m pc ls (x :: st)) := by
  subst hp; exact Go.of (fun _ k' => XS.astoreN A.1.here A.2.1 rfl (hb A.2.2 hd) rfl hv hl k') k
theorem g_astore (A : Ax p l e R s m args below meth c T locs cells slots B) {k : Nat} {x : Value} (hd : decode B pc = .ok (.astore k, 2)) (hv : x.isRef = true) (hl : storeLocals ls k x = some ls') (hp : pc + 2 = pc') (k : Go p e below P T (mkF m pc' ls' st)) : Go p e below P T (mkF m pc ls (x :: st)) := by
  subst hp; exact Go.of (fun _ k' => XS.astore A.1.here A.2.1 rfl (hb A.2.2 hd) rfl hv hl k') k
theorem g_dstoreN (A : Ax p l e R s m args below meth c T locs cells slots B) {k : Fin 4} {x : UInt64} (hd : decode B pc = .ok (.dstore_n k, 1)) (hl : storeLocals ls k.val (.double x) = some ls') (hp : pc + 1 = pc') (k : Go p e below P T (mkF m pc' ls' st)) : Go p e below P T (mkF m pc ls (.double x :: st)) := by
  subst hp
  refine Go.of (fun t k' => ?_) k
  have h := A.1.here
  have hx := A.2.1
  have hd' := hb A.2.2 hd
  show Steps p.tables e below (T.setTop { method := m, pc := pc, locals := ls, stack := .double x :: st, locked := none }) _
  jvm_step h [h.top, hx, hd']
  exact ⟨ls', hl, k'⟩
theorem g_dstore (A : Ax p l e R s m args below meth c T locs cells slots B) {k : Nat} {x : UInt64} (hd : decode B pc = .ok (.dstore k, 2)) (hl : storeLocals ls k (.double x) = some ls') (hp : pc + 2 = pc') (k : Go p e below P T (mkF m pc' ls' st)) : Go p e below P T (mkF m pc ls (.double x :: st)) := by
  subst hp
  refine Go.of (fun t k' => ?_) k
  have h := A.1.here
  have hx := A.2.1
  have hd' := hb A.2.2 hd
  show Steps p.tables e below (T.setTop { method := m, pc := pc, locals := ls, stack := .double x :: st, locked := none }) _
  jvm_step h [h.top, hx, hd']
  exact ⟨ls', hl, k'⟩
theorem g_iconst (A : Ax p l e R s m args below meth c T locs cells slots B) {i : Int} {v : Int32} (hd : decode B pc = .ok (.iconst i, 1)) (hv : Int32.ofInt i = v) (hp : pc + 1 = pc') (k : Go p e below P T (mkF m pc' ls (.int v :: st))) : Go p e below P T (mkF m pc ls st) := by
  subst hp hv; exact Go.of (fun _ k' => XS.iconst A.1.here A.2.1 rfl (hb A.2.2 hd) k') k
theorem g_bipush (A : Ax p l e R s m args below meth c T locs cells slots B) {i : Int} {v : Int32} (hd : decode B pc = .ok (.bipush i, 2)) (hv : (Int8.ofInt i).toInt32 = v) (hp : pc + 2 = pc') (k : Go p e below P T (mkF m pc' ls (.int v :: st))) : Go p e below P T (mkF m pc ls st) := by
  subst hp hv; exact Go.of (fun _ k' => XS.bipush A.1.here A.2.1 rfl (hb A.2.2 hd) k') k
theorem g_sipush (A : Ax p l e R s m args below meth c T locs cells slots B) {i : Int} {v : Int32} (hd : decode B pc = .ok (.sipush i, 3)) (hv : (Int16.ofInt i).toInt32 = v) (hp : pc + 3 = pc') (k : Go p e below P T (mkF m pc' ls (.int v :: st))) : Go p e below P T (mkF m pc ls st) := by
  subst hp hv; exact Go.of (fun _ k' => XS.sipush A.1.here A.2.1 rfl (hb A.2.2 hd) k') k
theorem g_aconst (A : Ax p l e R s m args below meth c T locs cells slots B) (hd : decode B pc = .ok (.aconst_null, 1)) (hp : pc + 1 = pc') (k : Go p e below P T (mkF m pc' ls (.null :: st))) : Go p e below P T (mkF m pc ls st) := by
  subst hp; exact Go.of (fun _ k' => XS.aconstNull A.1.here A.2.1 rfl (hb A.2.2 hd) k') k
theorem g_lconst (A : Ax p l e R s m args below meth c T locs cells slots B) {i : Fin 2} {v : Int64} (hd : decode B pc = .ok (.lconst i, 1)) (hv : Int64.ofNat i = v) (hp : pc + 1 = pc') (k : Go p e below P T (mkF m pc' ls (.long v :: st))) : Go p e below P T (mkF m pc ls st) := by
  subst hp hv; exact Go.of (fun _ k' => XT.lconst A.1.here A.2.1 rfl (hb A.2.2 hd) k') k
theorem g_dconst0 (A : Ax p l e R s m args below meth c T locs cells slots B) (hd : decode B pc = .ok (.dconst 0, 1)) (hp : pc + 1 = pc') (k : Go p e below P T (mkF m pc' ls (.double (0 : UInt64) :: st))) : Go p e below P T (mkF m pc ls st) := by
  subst hp
  refine Go.of (fun t k' => ?_) k
  have h := A.1.here
  have hx := A.2.1
  have hd' := hb A.2.2 hd
  show Steps p.tables e below (T.setTop { method := m, pc := pc, locals := ls, stack := st, locked := none }) _
  jvm_step h [h.top, hx, hd']
  exact k'
theorem g_dconst1 (A : Ax p l e R s m args below meth c T locs cells slots B) (hd : decode B pc = .ok (.dconst 1, 1)) (hp : pc + 1 = pc') (k : Go p e below P T (mkF m pc' ls (.double (4607182418800017408 : UInt64) :: st))) : Go p e below P T (mkF m pc ls st) := by
  subst hp
  refine Go.of (fun t k' => ?_) k
  have h := A.1.here
  have hx := A.2.1
  have hd' := hb A.2.2 hd
  show Steps p.tables e below (T.setTop { method := m, pc := pc, locals := ls, stack := st, locked := none }) _
  jvm_step h [h.top, hx, hd']
  exact k'
theorem g_dadd (A : Ax p l e R s m args below meth c T locs cells slots B) {x y : UInt64} (hd : decode B pc = .ok (.dadd, 1)) (hn : NoNaN64 (FP.dadd x y)) (hp : pc + 1 = pc') (k : Go p e below P T (mkF m pc' ls (.double (FP.dadd x y) :: st))) : Go p e below P T (mkF m pc ls (.double y :: .double x :: st)) := by
  subst hp
  refine Go.of (fun t k' => ?_) k
  have h := A.1.here
  have hx := A.2.1
  have hd' := hb A.2.2 hd
  show Steps p.tables e below (T.setTop { method := m, pc := pc, locals := ls, stack := .double y :: .double x :: st, locked := none }) _
  jvm_step h [h.top, hx, hd', Op.dadd.at_number h.top hn]
  exact k'
theorem g_dsub (A : Ax p l e R s m args below meth c T locs cells slots B) {x y : UInt64} (hd : decode B pc = .ok (.dsub, 1)) (hn : NoNaN64 (FP.dsub x y)) (hp : pc + 1 = pc') (k : Go p e below P T (mkF m pc' ls (.double (FP.dsub x y) :: st))) : Go p e below P T (mkF m pc ls (.double y :: .double x :: st)) := by
  subst hp
  refine Go.of (fun t k' => ?_) k
  have h := A.1.here
  have hx := A.2.1
  have hd' := hb A.2.2 hd
  show Steps p.tables e below (T.setTop { method := m, pc := pc, locals := ls, stack := .double y :: .double x :: st, locked := none }) _
  jvm_step h [h.top, hx, hd', Op.dsub.at_number h.top hn]
  exact k'
theorem g_dmul (A : Ax p l e R s m args below meth c T locs cells slots B) {x y : UInt64} (hd : decode B pc = .ok (.dmul, 1)) (hn : NoNaN64 (FP.dmul x y)) (hp : pc + 1 = pc') (k : Go p e below P T (mkF m pc' ls (.double (FP.dmul x y) :: st))) : Go p e below P T (mkF m pc ls (.double y :: .double x :: st)) := by
  subst hp
  refine Go.of (fun t k' => ?_) k
  have h := A.1.here
  have hx := A.2.1
  have hd' := hb A.2.2 hd
  show Steps p.tables e below (T.setTop { method := m, pc := pc, locals := ls, stack := .double y :: .double x :: st, locked := none }) _
  jvm_step h [h.top, hx, hd', Op.dmul.at_number h.top hn]
  exact k'
theorem g_ddiv (A : Ax p l e R s m args below meth c T locs cells slots B) {x y : UInt64} (hd : decode B pc = .ok (.ddiv, 1)) (hn : NoNaN64 (FP.ddiv x y)) (hp : pc + 1 = pc') (k : Go p e below P T (mkF m pc' ls (.double (FP.ddiv x y) :: st))) : Go p e below P T (mkF m pc ls (.double y :: .double x :: st)) := by
  subst hp
  refine Go.of (fun t k' => ?_) k
  have h := A.1.here
  have hx := A.2.1
  have hd' := hb A.2.2 hd
  show Steps p.tables e below (T.setTop { method := m, pc := pc, locals := ls, stack := .double y :: .double x :: st, locked := none }) _
  jvm_step h [h.top, hx, hd', Op.ddiv.at_number h.top hn]
  exact k'
theorem g_dneg (A : Ax p l e R s m args below meth c T locs cells slots B) {x : UInt64} (hd : decode B pc = .ok (.dneg, 1)) (hp : pc + 1 = pc') (k : Go p e below P T (mkF m pc' ls (.double (FP.dneg x) :: st))) : Go p e below P T (mkF m pc ls (.double x :: st)) := by
  subst hp
  refine Go.of (fun t k' => ?_) k
  have h := A.1.here
  have hx := A.2.1
  have hd' := hb A.2.2 hd
  show Steps p.tables e below (T.setTop { method := m, pc := pc, locals := ls, stack := .double x :: st, locked := none }) _
  jvm_step h [h.top, hx, hd']
  exact k'
theorem g_i2d (A : Ax p l e R s m args below meth c T locs cells slots B) {x : Int32} (hd : decode B pc = .ok (.i2d, 1)) (hp : pc + 1 = pc') (k : Go p e below P T (mkF m pc' ls (.double (FP.i2d x) :: st))) : Go p e below P T (mkF m pc ls (.int x :: st)) := by
  subst hp
  refine Go.of (fun t k' => ?_) k
  have h := A.1.here
  have hx := A.2.1
  have hd' := hb A.2.2 hd
  show Steps p.tables e below (T.setTop { method := m, pc := pc, locals := ls, stack := .int x :: st, locked := none }) _
  jvm_step h [h.top, hx, hd']
  exact k'
theorem g_l2d (A : Ax p l e R s m args below meth c T locs cells slots B) {x : Int64} (hd : decode B pc = .ok (.l2d, 1)) (hp : pc + 1 = pc') (k : Go p e below P T (mkF m pc' ls (.double (FP.l2d x) :: st))) : Go p e below P T (mkF m pc ls (.long x :: st)) := by
  subst hp
  refine Go.of (fun t k' => ?_) k
  have h := A.1.here
  have hx := A.2.1
  have hd' := hb A.2.2 hd
  show Steps p.tables e below (T.setTop { method := m, pc := pc, locals := ls, stack := .long x :: st, locked := none }) _
  jvm_step h [h.top, hx, hd']
  exact k'
theorem g_dcmp (A : Ax p l e R s m args below meth c T locs cells slots B) {x y : UInt64} {op : CmpOp} (hd : decode B pc = .ok (.dcmp op, 1)) (hp : pc + 1 = pc') (k : Go p e below P T (mkF m pc' ls (.int (cmpValue (FP.dcmp x y) op) :: st))) : Go p e below P T (mkF m pc ls (.double y :: .double x :: st)) := by
  subst hp
  refine Go.of (fun t k' => ?_) k
  have h := A.1.here
  have hx := A.2.1
  have hd' := hb A.2.2 hd
  show Steps p.tables e below (T.setTop { method := m, pc := pc, locals := ls, stack := .double y :: .double x :: st, locked := none }) _
  jvm_step h [h.top, hx, hd']
  exact k'
theorem g_lcmp (A : Ax p l e R s m args below meth c T locs cells slots B) {x y : Int64} (hd : decode B pc = .ok (.lcmp, 1)) (hp : pc + 1 = pc') (k : Go p e below P T (mkF m pc' ls (.int (XT.cmpL x y) :: st))) : Go p e below P T (mkF m pc ls (.long y :: .long x :: st)) := by
  subst hp; exact Go.of (fun _ k' => XT.lcmp A.1.here A.2.1 rfl (hb A.2.2 hd) rfl k') k
theorem g_dup (A : Ax p l e R s m args below meth c T locs cells slots B) {x : Value} (hd : decode B pc = .ok (.dup, 1)) (hc : x.category = 1) (hp : pc + 1 = pc') (k : Go p e below P T (mkF m pc' ls (x :: x :: st))) : Go p e below P T (mkF m pc ls (x :: st)) := by
  subst hp; exact Go.of (fun _ k' => XS.dup A.1.here A.2.1 rfl (hb A.2.2 hd) rfl hc k') k
theorem g_pop (A : Ax p l e R s m args below meth c T locs cells slots B) {x : Value} (hd : decode B pc = .ok (.pop, 1)) (hc : x.category = 1) (hp : pc + 1 = pc') (k : Go p e below P T (mkF m pc' ls st)) : Go p e below P T (mkF m pc ls (x :: st)) := by
  subst hp; exact Go.of (fun _ k' => XT.pop A.1.here A.2.1 rfl (hb A.2.2 hd) rfl hc k') k
theorem g_iinc (A : Ax p l e R s m args below meth c T locs cells slots B) {k : Nat} {i : Int} {x y : Int32} (hd : decode B pc = .ok (.iinc k i, 3)) (hl : ls[k]? = some (.val (.int x))) (hy : x + Int32.ofInt i = y) (hl' : storeLocals ls k (.int y) = some ls') (hp : pc + 3 = pc') (k : Go p e below P T (mkF m pc' ls' st)) : Go p e below P T (mkF m pc ls st) := by
  subst hp hy; exact Go.of (fun _ k' => XS.iinc A.1.here A.2.1 rfl (hb A.2.2 hd) hl hl' k') k
theorem own_off {pc pc' : Nat} {o : Int} (h : (pc : Int) + o = (pc' : Int)) : 0 ≤ (pc : Int) + o ∧ ((pc : Int) + o).toNat = pc' := by omega
theorem g_goto (A : Ax p l e R s m args below meth c T locs cells slots B) {o : Int} (hd : decode B pc = .ok (.goto o, 3)) (hp : (pc : Int) + o = (pc' : Int)) (k : Go p e below P T (mkF m pc' ls st)) : Go p e below P T (mkF m pc ls st) := Go.of (fun _ k' => XS.goto A.1.here A.2.1 rfl rfl (hb A.2.2 hd) (own_off hp).1 (own_off hp).2 k') k
theorem g_ifY (A : Ax p l e R s m args below meth c T locs cells slots B) {o : Int} {cd : ClassFile.Cond} {x : Int32} (hd : decode B pc = .ok (.ifCond cd o, 3)) (hc : ifCond.holds cd x = true) (hp : (pc : Int) + o = (pc' : Int)) (k : Go p e below P T (mkF m pc' ls st)) : Go p e below P T (mkF m pc ls (.int x :: st)) := Go.of (fun _ k' => XS.ifYes A.1.here A.2.1 rfl rfl (hb A.2.2 hd) rfl hc (own_off hp).1 (own_off hp).2 k') k
theorem g_ifN (A : Ax p l e R s m args below meth c T locs cells slots B) {o : Int} {cd : ClassFile.Cond} {x : Int32} (hd : decode B pc = .ok (.ifCond cd o, 3)) (hc : ifCond.holds cd x = false) (hp : pc + 3 = pc') (k : Go p e below P T (mkF m pc' ls st)) : Go p e below P T (mkF m pc ls (.int x :: st)) := by
  subst hp; exact Go.of (fun _ k' => XS.ifNo A.1.here A.2.1 rfl (hb A.2.2 hd) rfl hc k') k
theorem g_icY (A : Ax p l e R s m args below meth c T locs cells slots B) {o : Int} {cd : ClassFile.Cond} {x y : Int32} (hd : decode B pc = .ok (.if_icmp cd o, 3)) (hc : if_icmp.holds cd x y = true) (hp : (pc : Int) + o = (pc' : Int)) (k : Go p e below P T (mkF m pc' ls st)) : Go p e below P T (mkF m pc ls (.int y :: .int x :: st)) := Go.of (fun _ k' => XS.icmpYes A.1.here A.2.1 rfl rfl (hb A.2.2 hd) rfl hc (own_off hp).1 (own_off hp).2 k') k
theorem g_icN (A : Ax p l e R s m args below meth c T locs cells slots B) {o : Int} {cd : ClassFile.Cond} {x y : Int32} (hd : decode B pc = .ok (.if_icmp cd o, 3)) (hc : if_icmp.holds cd x y = false) (hp : pc + 3 = pc') (k : Go p e below P T (mkF m pc' ls st)) : Go p e below P T (mkF m pc ls (.int y :: .int x :: st)) := by
  subst hp; exact Go.of (fun _ k' => XS.icmpNo A.1.here A.2.1 rfl (hb A.2.2 hd) rfl hc k') k
theorem c0_eq_t {x : Int32} (h : x = 0) : ifCond.holds .eq x = true := (if0 _ _).trans (teq h).1
theorem c0_eq_f {x : Int32} (h : ¬ x = 0) : ifCond.holds .eq x = false := (if0 _ _).trans (feq h).1
theorem c0_ne_t {x : Int32} (h : ¬ x = 0) : ifCond.holds .ne x = true := (if0 _ _).trans (feq h).2
theorem c0_ne_f {x : Int32} (h : x = 0) : ifCond.holds .ne x = false := (if0 _ _).trans (teq h).2
theorem c0_lt_t {x : Int32} (h : x < 0) : ifCond.holds .lt x = true := (if0 _ _).trans (tlt h).1
theorem c0_lt_f {x : Int32} (h : ¬ x < 0) : ifCond.holds .lt x = false := (if0 _ _).trans (flt h).1
theorem c0_ge_t {x : Int32} (h : ¬ x < 0) : ifCond.holds .ge x = true := (if0 _ _).trans (flt h).2.1
theorem c0_ge_f {x : Int32} (h : x < 0) : ifCond.holds .ge x = false := (if0 _ _).trans (tlt h).2.1
theorem c0_gt_t {x : Int32} (h : 0 < x) : ifCond.holds .gt x = true := (if0 _ _).trans (tlt h).2.2.1
theorem c0_gt_f {x : Int32} (h : ¬ 0 < x) : ifCond.holds .gt x = false := (if0 _ _).trans (flt h).2.2.1
theorem c0_le_t {x : Int32} (h : ¬ 0 < x) : ifCond.holds .le x = true := (if0 _ _).trans (flt h).2.2.2
theorem c0_le_f {x : Int32} (h : 0 < x) : ifCond.holds .le x = false := (if0 _ _).trans (tlt h).2.2.2
theorem c2_eq_t {x y : Int32} (h : x = y) : if_icmp.holds .eq x y = true := (teq h).1
theorem c2_eq_f {x y : Int32} (h : ¬ x = y) : if_icmp.holds .eq x y = false := (feq h).1
theorem c2_ne_t {x y : Int32} (h : ¬ x = y) : if_icmp.holds .ne x y = true := (feq h).2
theorem c2_ne_f {x y : Int32} (h : x = y) : if_icmp.holds .ne x y = false := (teq h).2
theorem c2_lt_t {x y : Int32} (h : x < y) : if_icmp.holds .lt x y = true := (tlt h).1
theorem c2_lt_f {x y : Int32} (h : ¬ x < y) : if_icmp.holds .lt x y = false := (flt h).1
theorem c2_ge_t {x y : Int32} (h : ¬ x < y) : if_icmp.holds .ge x y = true := (flt h).2.1
theorem c2_ge_f {x y : Int32} (h : x < y) : if_icmp.holds .ge x y = false := (tlt h).2.1
theorem c2_gt_t {x y : Int32} (h : y < x) : if_icmp.holds .gt x y = true := (tlt h).2.2.1
theorem c2_gt_f {x y : Int32} (h : ¬ y < x) : if_icmp.holds .gt x y = false := (flt h).2.2.1
theorem c2_le_t {x y : Int32} (h : ¬ y < x) : if_icmp.holds .le x y = true := (flt h).2.2.2
theorem c2_le_f {x y : Int32} (h : y < x) : if_icmp.holds .le x y = false := (tlt h).2.2.2
theorem b0_eq_t {C : Prop} [Decidable C] {v : Int32} (e : v = if C then 1 else 0) (h : ¬ C) : ifCond.holds .eq v = true := c0_eq_t (by rw [e, if_neg h])
theorem b0_eq_f {C : Prop} [Decidable C] {v : Int32} (e : v = if C then 1 else 0) (h : C) : ifCond.holds .eq v = false := c0_eq_f (by rw [e, if_pos h]; decide)
theorem b0_ne_t {C : Prop} [Decidable C] {v : Int32} (e : v = if C then 1 else 0) (h : C) : ifCond.holds .ne v = true := c0_ne_t (by rw [e, if_pos h]; decide)
theorem b0_ne_f {C : Prop} [Decidable C] {v : Int32} (e : v = if C then 1 else 0) (h : ¬ C) : ifCond.holds .ne v = false := c0_ne_f (by rw [e, if_neg h])
theorem own_b01 {C : Prop} [Decidable C] {v : Int32} (e : v = if C then 1 else 0) : narrow .boolean (.int v) = .int v := by
  subst e; by_cases h : C
  · rw [if_pos h]; rfl
  · rw [if_neg h]; rfl
theorem own_fb {C : Prop} [Decidable C] {v : Int32} (e : v = if C then 1 else 0) : fits .boolean (.int v) = true := by
  subst e; by_cases h : C
  · rw [if_pos h]; rfl
  · rw [if_neg h]; rfl
theorem own_ndadd {x y : UInt64} (h1 : Fin64 x) (h2 : Fin64 y) : NoNaN64 (FP.dadd x y) := dadd_out h1.noNaN h2
theorem own_ndsub {x y : UInt64} (h1 : Fin64 x) (h2 : Fin64 y) : NoNaN64 (FP.dsub x y) := dsub_out h1.noNaN h2
theorem own_ndmul {x y : UInt64} (h1 : Fin64 x) (h2 : Fin64 y) : NoNaN64 (FP.dmul x y) := dmul_out h1 h2
theorem own_fin {x : UInt64} : Fin64 x ↔ FP.Core.DFin x := fin64_core
theorem own_fneg {x : UInt64} (h : Fin64 x) : Fin64 (FP.dneg x) := by
  obtain ⟨s, c, q, e⟩ := fin64_core.mp h
  exact fin64_core.mpr ⟨!s, c, q, (FP.val64_dneg x).trans (by rw [e]; rfl)⟩
theorem own_self {x : UInt64} (h : Fin64 x) : FP.dcmp x x = some .eq := FP.Core.dcmp_self (fin64_core.mp h).ne_nan
theorem own_sgt {x : UInt64} (h : Fin64 x) : ¬ FP.dcmp x x = some .gt := by rw [own_self h]; decide
theorem own_slt {x : UInt64} (h : Fin64 x) : ¬ FP.dcmp x x = some .lt := by rw [own_self h]; decide
theorem own_and {c d : Jvm.Cond} {a : Array Value} {s : State} (h1 : c.before a s = true) (h2 : d.before a s = true) : (Jvm.Cond.and c d).before a s = true := by rw [Cond.before_and, h1, h2]; rfl
theorem own_isfin {x : UInt64} (h : Fin64 x) : some (Value.int (if Jvm.Free.Fl.relLe (FP.dcmp (x &&& 0x7fffffffffffffff) Jvm.Free.Fl.maxD) = true then (1 : Int32) else 0)) = some (.int (1 : Int32)) := by rw [if_pos ((le_max_iff h.noNaN).mpr h)]
theorem own_isinf {x : UInt64} (h : Fin64 x) : some (Value.int (if Jvm.Free.Fl.relGt (FP.dcmp (x &&& 0x7fffffffffffffff) Jvm.Free.Fl.maxD) = true then (1 : Int32) else 0)) = some (.int (0 : Int32)) := by rw [if_neg (fun h4 => (gt_max_iff h.noNaN).mp h4 h)]
theorem own_dfin {i : Int} {x : UInt64} (h : FP.Core.DInt i x) : Fin64 x := by
  refine fin64_core.mpr ?_
  have q : FP.Core.Whole i (FP.Core.val64 x) := h
  cases e : FP.Core.val64 x with
  | nan => rw [e] at q; exact q.elim
  | inf s => rw [e] at q; exact q.elim
  | fin s c q => exact ⟨s, c, q, e⟩
theorem own_fn {v : Int32} (h : narrow .boolean (.int v) = .int v) : fits .boolean (.int v) = true := by
  have q : v &&& 1 = v := Value.int.inj h
  rcases and_one v with z | z <;> rw [z] at q <;> subst q <;> rfl
/-- a double less than, equal to .. another, as the code asks it -/
abbrev oGe (o : Option Ordering) : Prop := o = some .gt ∨ o = some .eq
abbrev oLe (o : Option Ordering) : Prop := o = some .lt ∨ o = some .eq
theorem d_l_eq_t {o : Option Ordering} (h : o = some .eq) : ifCond.holds .eq (cmpValue o .l) = true := by
  rcases o with _ | _ | _ | _ <;> first | rfl | decide | (exfalso; revert h; decide)
theorem d_l_eq_f {o : Option Ordering} (h : ¬ o = some .eq) : ifCond.holds .eq (cmpValue o .l) = false := by
  rcases o with _ | _ | _ | _ <;> first | rfl | decide | (exfalso; revert h; decide)
theorem d_l_ne_t {o : Option Ordering} (h : ¬ o = some .eq) : ifCond.holds .ne (cmpValue o .l) = true := by
  rcases o with _ | _ | _ | _ <;> first | rfl | decide | (exfalso; revert h; decide)
theorem d_l_ne_f {o : Option Ordering} (h : o = some .eq) : ifCond.holds .ne (cmpValue o .l) = false := by
  rcases o with _ | _ | _ | _ <;> first | rfl | decide | (exfalso; revert h; decide)
theorem d_g_eq_t {o : Option Ordering} (h : o = some .eq) : ifCond.holds .eq (cmpValue o .g) = true := by
  rcases o with _ | _ | _ | _ <;> first | rfl | decide | (exfalso; revert h; decide)
theorem d_g_eq_f {o : Option Ordering} (h : ¬ o = some .eq) : ifCond.holds .eq (cmpValue o .g) = false := by
  rcases o with _ | _ | _ | _ <;> first | rfl | decide | (exfalso; revert h; decide)
theorem d_g_ne_t {o : Option Ordering} (h : ¬ o = some .eq) : ifCond.holds .ne (cmpValue o .g) = true := by
  rcases o with _ | _ | _ | _ <;> first | rfl | decide | (exfalso; revert h; decide)
theorem d_g_ne_f {o : Option Ordering} (h : o = some .eq) : ifCond.holds .ne (cmpValue o .g) = false := by
  rcases o with _ | _ | _ | _ <;> first | rfl | decide | (exfalso; revert h; decide)
theorem d_l_lt_t {o : Option Ordering} (h : ¬ oGe o) : ifCond.holds .lt (cmpValue o .l) = true := by
  rcases o with _ | _ | _ | _ <;> first | rfl | decide | (exfalso; revert h; decide)
theorem d_l_lt_f {o : Option Ordering} (h : oGe o) : ifCond.holds .lt (cmpValue o .l) = false := by
  rcases o with _ | _ | _ | _ <;> first | rfl | decide | (exfalso; revert h; decide)
theorem d_l_ge_t {o : Option Ordering} (h : oGe o) : ifCond.holds .ge (cmpValue o .l) = true := by
  rcases o with _ | _ | _ | _ <;> first | rfl | decide | (exfalso; revert h; decide)
theorem d_l_ge_f {o : Option Ordering} (h : ¬ oGe o) : ifCond.holds .ge (cmpValue o .l) = false := by
  rcases o with _ | _ | _ | _ <;> first | rfl | decide | (exfalso; revert h; decide)
theorem d_l_gt_t {o : Option Ordering} (h : o = some .gt) : ifCond.holds .gt (cmpValue o .l) = true := by
  rcases o with _ | _ | _ | _ <;> first | rfl | decide | (exfalso; revert h; decide)
theorem d_l_gt_f {o : Option Ordering} (h : ¬ o = some .gt) : ifCond.holds .gt (cmpValue o .l) = false := by
  rcases o with _ | _ | _ | _ <;> first | rfl | decide | (exfalso; revert h; decide)
theorem d_l_le_t {o : Option Ordering} (h : ¬ o = some .gt) : ifCond.holds .le (cmpValue o .l) = true := by
  rcases o with _ | _ | _ | _ <;> first | rfl | decide | (exfalso; revert h; decide)
theorem d_l_le_f {o : Option Ordering} (h : o = some .gt) : ifCond.holds .le (cmpValue o .l) = false := by
  rcases o with _ | _ | _ | _ <;> first | rfl | decide | (exfalso; revert h; decide)
theorem d_g_lt_t {o : Option Ordering} (h : o = some .lt) : ifCond.holds .lt (cmpValue o .g) = true := by
  rcases o with _ | _ | _ | _ <;> first | rfl | decide | (exfalso; revert h; decide)
theorem d_g_lt_f {o : Option Ordering} (h : ¬ o = some .lt) : ifCond.holds .lt (cmpValue o .g) = false := by
  rcases o with _ | _ | _ | _ <;> first | rfl | decide | (exfalso; revert h; decide)
theorem d_g_ge_t {o : Option Ordering} (h : ¬ o = some .lt) : ifCond.holds .ge (cmpValue o .g) = true := by
  rcases o with _ | _ | _ | _ <;> first | rfl | decide | (exfalso; revert h; decide)
theorem d_g_ge_f {o : Option Ordering} (h : o = some .lt) : ifCond.holds .ge (cmpValue o .g) = false := by
  rcases o with _ | _ | _ | _ <;> first | rfl | decide | (exfalso; revert h; decide)
theorem d_g_gt_t {o : Option Ordering} (h : ¬ oLe o) : ifCond.holds .gt (cmpValue o .g) = true := by
  rcases o with _ | _ | _ | _ <;> first | rfl | decide | (exfalso; revert h; decide)
theorem d_g_gt_f {o : Option Ordering} (h : oLe o) : ifCond.holds .gt (cmpValue o .g) = false := by
  rcases o with _ | _ | _ | _ <;> first | rfl | decide | (exfalso; revert h; decide)
theorem d_g_le_t {o : Option Ordering} (h : oLe o) : ifCond.holds .le (cmpValue o .g) = true := by
  rcases o with _ | _ | _ | _ <;> first | rfl | decide | (exfalso; revert h; decide)
theorem d_g_le_f {o : Option Ordering} (h : ¬ oLe o) : ifCond.holds .le (cmpValue o .g) = false := by
  rcases o with _ | _ | _ | _ <;> first | rfl | decide | (exfalso; revert h; decide)
theorem l_eq (x y : Int64) : XT.cmpL x y = 0 ↔ x = y := lw_eq x y
theorem l_lt (x y : Int64) : XT.cmpL x y < 0 ↔ x < y := lw_lt x y
theorem l_gt (x y : Int64) : 0 < XT.cmpL x y ↔ y < x := lw_gt x y
theorem g_ret (A : Ax p l e R s m args below meth c T locs cells slots B) {w : Value} {t : FieldType} {i : Instr} {Q : Option Value → Heap → List Loc → Prop} {K S : Nat} (hd : decode B pc = .ok (i, 1)) (hlk : meth.locks = false) (hret : meth.sig.returnType = some t) (hn : narrow t w = w)
    (hi : (i = .ireturn ∧ (t = .int ∨ t = .boolean ∨ t = .byte ∨ t = .char ∨ t = .short) ∧ ∃ z, w = .int z) ∨ (i = .lreturn ∧ t = .long ∧ ∃ z, w = .long z) ∨ (i = .dreturn ∧ t = .double ∧ ∃ z, w = .double z) ∨ (i = .freturn ∧ t = .float ∧ ∃ z, w = .float z) ∨ (i = .areturn ∧ t.isReference = true ∧ w.isRef = true))
    (hK : cells ≤ K) (hS : slots ≤ S) (hQ : Q (some w) T.heap locs) : Go p e below (fun U o => ∃ v L, o = .returned v ∧ Q v U.heap L ∧ FrameEnd s o U L K S) T (mkF m pc ls (w :: st)) := by
  obtain ⟨fs, hr, hrun, hended, hW, hsame⟩ := A.1.leave (v := some w) (fun h => by rw [hret] at h; cases h) hlk
  exact ⟨_, _, retOut A.1 A.2.1 hret hn hi (hb A.2.2 hd) hr, hrun, hended, _, _, rfl, hQ, ⟨_, rfl⟩, hW, hsame.mono hK hS⟩
theorem g_retV (A : Ax p l e R s m args below meth c T locs cells slots B) {Q : Option Value → Heap → List Loc → Prop} {K S : Nat} (hd : decode B pc = .ok (.return_, 1)) (hlk : meth.locks = false) (hret : meth.sig.returnType = none)
    (hK : cells ≤ K) (hS : slots ≤ S) (hQ : Q none T.heap locs) : Go p e below (fun U o => ∃ v L, o = .returned v ∧ Q v U.heap L ∧ FrameEnd s o U L K S) T (mkF m pc ls []) := by
  obtain ⟨fs, hr, hrun, hended, hW, hsame⟩ := A.1.leave (v := none) (fun _ => rfl) hlk
  exact ⟨_, _, A.1.returnOut A.2.1 hret (hb A.2.2 hd) hr, hrun, hended, _, _, rfl, hQ, ⟨_, rfl⟩, hW, hsame.mono hK hS⟩
theorem g_ldcI (A : Ax p l e R s m args below meth c T locs cells slots B) {Z : State} {a0 : Array Value} {own : String} {i : Nat} {v : Int32} (hZ : Z.Warmed39 s.vm) (hown : s.vm.findClass own = some m.cls) (w : (Jvm.Cond.constant own i v).before a0 Z = true) (hd : decode B pc = .ok (.ldc i, 2)) (hp : pc + 2 = pc') (k : Go p e below P T (mkF m pc' ls (.int v :: st))) : Go p e below P T (mkF m pc ls st) := by
  subst hp; exact Go.of (A.1.ldcInt A.2.1 hown (mvT hZ w) (g := mkF m pc ls st) rfl (hb A.2.2 hd)) k
theorem g_ldcD (A : Ax p l e R s m args below meth c T locs cells slots B) {Z : State} {a0 : Array Value} {own : String} {i : Nat} {v : UInt64} (hZ : Z.Warmed39 s.vm) (hown : s.vm.findClass own = some m.cls) (w : (Jvm.Cond.constantDouble own i v).before a0 Z = true) (hd : decode B pc = .ok (.ldc2_w i, 3)) (hp : pc + 3 = pc') (k : Go p e below P T (mkF m pc' ls (.double v :: st))) : Go p e below P T (mkF m pc ls st) := by
  subst hp; exact Go.of (A.1.ldc2DoubleC A.2.1 hown (mvT hZ w) (g := mkF m pc ls st) rfl (hb A.2.2 hd)) k
theorem g_ldcL (A : Ax p l e R s m args below meth c T locs cells slots B) {Z : State} {a0 : Array Value} {own : String} {i : Nat} {v : Int64} (hZ : Z.Warmed39 s.vm) (hown : s.vm.findClass own = some m.cls) (w : (Jvm.Cond.constantLong own i v).before a0 Z = true) (hd : decode B pc = .ok (.ldc2_w i, 3)) (hp : pc + 3 = pc') (k : Go p e below P T (mkF m pc' ls (.long v :: st))) : Go p e below P T (mkF m pc ls st) := by
  subst hp; exact Go.of (A.1.ldc2Long A.2.1 hown (mvT hZ w) (g := mkF m pc ls st) rfl (hb A.2.2 hd)) k
theorem g_nnY (A : Ax p l e R s m args below meth c T locs cells slots B) {o : Int} {b : Addr} (hd : decode B pc = .ok (.ifnonnull o, 3)) (hp : (pc : Int) + o = (pc' : Int)) (k : Go p e below P T (mkF m pc' ls st)) : Go p e below P T (mkF m pc ls (.ref b :: st)) := Go.of (fun _ k' => XT.ifnonnullYes A.1.here A.2.1 rfl rfl (hb A.2.2 hd) rfl (own_off hp).1 (own_off hp).2 k') k
theorem g_nnN (A : Ax p l e R s m args below meth c T locs cells slots B) {o : Int} (hd : decode B pc = .ok (.ifnonnull o, 3)) (hp : pc + 3 = pc') (k : Go p e below P T (mkF m pc' ls st)) : Go p e below P T (mkF m pc ls (.null :: st)) := by
  subst hp; exact Go.of (fun _ k' => XT.ifnonnullNo A.1.here A.2.1 rfl (hb A.2.2 hd) rfl k') k
theorem g_nuY (A : Ax p l e R s m args below meth c T locs cells slots B) {o : Int} (hd : decode B pc = .ok (.ifnull o, 3)) (hp : (pc : Int) + o = (pc' : Int)) (k : Go p e below P T (mkF m pc' ls st)) : Go p e below P T (mkF m pc ls (.null :: st)) := Go.of (fun _ k' => XS.ifnullYes A.1.here A.2.1 rfl rfl (hb A.2.2 hd) rfl (own_off hp).1 (own_off hp).2 k') k
theorem g_nuN (A : Ax p l e R s m args below meth c T locs cells slots B) {o : Int} {b : Addr} (hd : decode B pc = .ok (.ifnull o, 3)) (hp : pc + 3 = pc') (k : Go p e below P T (mkF m pc' ls st)) : Go p e below P T (mkF m pc ls (.ref b :: st)) := by
  subst hp; exact Go.of (fun _ k' => XS.ifnullNo A.1.here A.2.1 rfl (hb A.2.2 hd) rfl k') k
theorem g_acY (A : Ax p l e R s m args below meth c T locs cells slots B) {o : Int} {cd : ClassFile.ACond} {x y : Value} (hd : decode B pc = .ok (.if_acmp cd o, 3)) (h1 : x.isRef = true) (h2 : y.isRef = true) (hc : XT.acmp cd x y = true) (hp : (pc : Int) + o = (pc' : Int)) (k : Go p e below P T (mkF m pc' ls st)) : Go p e below P T (mkF m pc ls (y :: x :: st)) := Go.of (fun _ k' => XT.acmpYes A.1.here A.2.1 rfl rfl (hb A.2.2 hd) rfl h1 h2 hc (own_off hp).1 (own_off hp).2 k') k
theorem g_acN (A : Ax p l e R s m args below meth c T locs cells slots B) {o : Int} {cd : ClassFile.ACond} {x y : Value} (hd : decode B pc = .ok (.if_acmp cd o, 3)) (h1 : x.isRef = true) (h2 : y.isRef = true) (hc : XT.acmp cd x y = false) (hp : pc + 3 = pc') (k : Go p e below P T (mkF m pc' ls st)) : Go p e below P T (mkF m pc ls (y :: x :: st)) := by
  subst hp; exact Go.of (fun _ k' => XT.acmpNo A.1.here A.2.1 rfl (hb A.2.2 hd) rfl h1 h2 hc k') k
/-- an array of n places: its i-th holds f i -/
def Dar (Z : State) (h : Heap) (a : Addr) (ty : FieldType) (n : Nat) (f : Nat → Value) : Prop := ∃ cl : Cell, RoadKit.Arr Z h a cl ty ∧ cl.slots.size = n ∧ n < 2147483648 ∧ ∀ i, i < n → cl.slots[i]? = some (f i)
variable {Z : State} {h h' : Heap} {a b : Addr} {ty : FieldType} {n : Nat} {f g : Nat → Value} {sl : Nat} {v : Value} {ws : List Addr}
theorem Dar.lt (F : Dar Z h a ty n f) : a < h.size := by obtain ⟨cl, A, -⟩ := F; exact A.lt
theorem Dar.ext (E : Ext h h') (F : Dar Z h a ty n f) : Dar Z h' a ty n f := by obtain ⟨cl, A, r⟩ := F; exact ⟨cl, A.ext E, r⟩
theorem Dar.other (W : Wr h h' b sl v) (F : Dar Z h a ty n f) (q : a ≠ b) : Dar Z h' a ty n f := by obtain ⟨cl, A, r⟩ := F; exact ⟨cl, A.other W q, r⟩
theorem Dar.keep (F : Dar Z h a ty n f) (K : Keep h h' ws) (q : a ∉ ws) : Dar Z h' a ty n f := by obtain ⟨cl, A, r⟩ := F; exact ⟨cl, ⟨K.2.1 a cl A.1 q, A.2⟩, r⟩
theorem Dar.congr (F : Dar Z h a ty n f) (q : ∀ i, i < n → f i = g i) : Dar Z h a ty n g := by obtain ⟨cl, A, r1, r2, r3⟩ := F; exact ⟨cl, A, r1, r2, fun i hi => by rw [← q i hi]; exact r3 i hi⟩
theorem Dar.new {cA : ClassId} {z : Int32} (A : RoadKit.Arr Z h a (newA cA ty z) ty) (hz : z.toNatClampNeg = n) : Dar Z h a ty n (fun _ => defaultValue ty) := by
  refine ⟨_, A, (sz_new _ _ _).trans hz, ?_, fun i hi => by subst hz; simp [newA, hi]⟩
  have := z.toInt_lt
  rw [← hz, Int32.toNatClampNeg]; omega
theorem Dar.ne_exa {a0 : Array Value} {k : Nat} {C : String} (F : Dar Z h a ty n f) (E : Exa Z h b C) (wi : (Jvm.Cond.instantiable C k).before a0 Z = true) : a ≠ b := by obtain ⟨cl, A, -⟩ := F; exact fun q => ne_arr E wi A q.symm
theorem own_ne {a b : Nat} {h : Heap} (g : a = h.size) (q : b < h.size) : b ≠ a := by rw [g]; exact Nat.ne_of_lt q
theorem own_clamp {i : Nat} (hi : i < 2147483648) : (Int32.ofNat i).toNatClampNeg = i ∧ ¬ Int32.ofNat i < 0 := by
  have e : (Int32.ofNat i).toInt = i := Int32.toInt_ofNat_of_lt hi
  refine ⟨by rw [Int32.toNatClampNeg, e]; omega, fun q => ?_⟩
  rw [Int32.lt_iff_toInt_lt, e] at q
  have : (0 : Int32).toInt = 0 := rfl
  omega
theorem Dar.set {i : Nat} (F : Dar Z h a ty n f) (W : Wr h h' a i v) (q : ∀ j, j < n → g j = if j = i then v else f j) : Dar Z h' a ty n g := by
  obtain ⟨cl, A, r1, r2, r3⟩ := F
  refine ⟨_, A.same W, (sz_set _ _ _).trans r1, r2, fun j hj => ?_⟩
  rw [q j hj]
  by_cases e : j = i
  · subst e; rw [if_pos rfl]; simp [Cell.setSlot, r1, hj]
  · rw [if_neg e]; exact (Array.getElem?_setIfInBounds_ne (Ne.symm e)).trans (r3 j hj)
theorem own_in {cl : Cell} {i : Nat} (S : cl.slots.size = n) (hn : n < 2147483648) (hi : i < n) : ¬ (Int32.ofNat i < 0 ∨ cl.slots.size ≤ (Int32.ofNat i).toNatClampNeg) := by
  obtain ⟨q1, q2⟩ := own_clamp (i := i) (by omega)
  rw [q1, S]; exact fun z => z.elim q2 (by omega)
theorem g_daload (A : Ax p l e R s m args below meth c T locs cells slots B) (hZ : Z.Warmed39 s.vm) (eT : T.heap = h) {j : Int32} {i : Nat} {x : UInt64} (F : Dar Z h a .double n f) (hi : i < n) (hj : j = Int32.ofNat i) (hv : f i = .double x) (hd : decode B pc = .ok (.daload, 1)) (hp : pc + 1 = pc') (k : Go p e below P T (mkF m pc' ls (.double x :: st))) : Go p e below P T (mkF m pc ls (.int j :: .ref a :: st)) := by
  subst hp hj
  obtain ⟨cl, A2, r1, r2, r3⟩ := F
  have q := (own_clamp (i := i) (by omega)).1
  exact Go.of (fun t k' => A.1.daload A.2.1 (j := Int32.ofNat i) (v := .double x) (by rw [eT]; exact A2.1) (State.isArrayOf_alike hZ.alike A2.2.1) A2.2.2 (own_in r1 r2 hi) (by rw [q, ← hv]; exact r3 i hi) (g := mkF m pc ls (.int (Int32.ofNat i) :: .ref a :: st)) rfl rfl (hb A.2.2 hd) t k') k
theorem g_iaload (A : Ax p l e R s m args below meth c T locs cells slots B) (hZ : Z.Warmed39 s.vm) (eT : T.heap = h) {j : Int32} {i : Nat} {x : Int32} (F : Dar Z h a .int n f) (hi : i < n) (hj : j = Int32.ofNat i) (hv : f i = .int x) (hd : decode B pc = .ok (.iaload, 1)) (hp : pc + 1 = pc') (k : Go p e below P T (mkF m pc' ls (.int x :: st))) : Go p e below P T (mkF m pc ls (.int j :: .ref a :: st)) := by
  subst hp hj
  obtain ⟨cl, A2, r1, r2, r3⟩ := F
  have q := (own_clamp (i := i) (by omega)).1
  exact Go.of (fun t k' => A.1.iaload A.2.1 (j := Int32.ofNat i) (v := .int x) (by rw [eT]; exact A2.1) (State.isArrayOf_alike hZ.alike A2.2.1) A2.2.2 (own_in r1 r2 hi) (by rw [q, ← hv]; exact r3 i hi) (g := mkF m pc ls (.int (Int32.ofNat i) :: .ref a :: st)) rfl rfl (hb A.2.2 hd) t k') k
theorem g_baload (A : Ax p l e R s m args below meth c T locs cells slots B) (hZ : Z.Warmed39 s.vm) (eT : T.heap = h) {j : Int32} {i : Nat} {x : Int32} (F : Dar Z h a .boolean n f) (hi : i < n) (hj : j = Int32.ofNat i) (hv : f i = .int x) (hd : decode B pc = .ok (.baload, 1)) (hp : pc + 1 = pc') (k : Go p e below P T (mkF m pc' ls (.int x :: st))) : Go p e below P T (mkF m pc ls (.int j :: .ref a :: st)) := by
  subst hp hj
  obtain ⟨cl, A2, r1, r2, r3⟩ := F
  have q := (own_clamp (i := i) (by omega)).1
  exact Go.of (fun t k' => A.1.baloadBooleans A.2.1 (j := Int32.ofNat i) (v := .int x) (by rw [eT]; exact A2.1) (State.isArrayOf_alike hZ.alike A2.2.1) A2.2.2 (own_in r1 r2 hi) (by rw [q, ← hv]; exact r3 i hi) (g := mkF m pc ls (.int (Int32.ofNat i) :: .ref a :: st)) rfl rfl (hb A.2.2 hd) t k') k
theorem g_alen (A : Ax p l e R s m args below meth c T locs cells slots B) (hZ : Z.Warmed39 s.vm) (eT : T.heap = h) (F : Dar Z h a ty n f) (hd : decode B pc = .ok (.arraylength, 1)) {z : Int32} (hz : Int32.ofNat n = z) (hp : pc + 1 = pc') (k : Go p e below P T (mkF m pc' ls (.int z :: st))) : Go p e below P T (mkF m pc ls (.ref a :: st)) := by
  subst hp hz
  obtain ⟨cl, A2, r1, r2, r3⟩ := F
  exact Go.of (fun t k' => A.1.arraylength A.2.1 (cell := cl) (by rw [eT]; exact A2.1) (State.isArrayOf_alike hZ.alike A2.2.1) (g := mkF m pc ls (.ref a :: st)) rfl (rest := st) rfl (hb A.2.2 hd) t (by rw [r1]; exact k')) k
theorem s_dastore (A : Ax p l e R s m args below meth c T locs cells slots B) (hZ : Z.Warmed39 s.vm) (eT : T.heap = h) {j : Int32} {i : Nat} {x : UInt64} (F : Dar Z h a .double n f) (hi : i < n) (hj : j = Int32.ofNat i) (hd : decode B pc = .ok (.dastore, 1)) (hp : pc + 1 = pc') :
    ∃ T' h', Ax p l e R s m args below meth c T' (locs ++ [⟨a, i⟩]) cells slots B ∧ T'.heap = h' ∧ Wr h h' a i (.double x) ∧ ∀ {P : State → Outcome → Prop}, Go p e below P T' (mkF m pc' ls st) → Go p e below P T (mkF m pc ls (.double x :: .int j :: .ref a :: st)) := by
  subst hp hj
  obtain ⟨cl, A2, r1, r2, r3⟩ := F
  have q := (own_clamp (i := i) (by omega)).1
  obtain ⟨X', st'⟩ := A.1.dastore A.2.1 (by rw [eT]; exact A2.1) (State.isArrayOf_alike hZ.alike A2.2.1) A2.2.2 (own_in r1 r2 hi) (x := x) (g := mkF m pc ls (.double x :: .int (Int32.ofNat i) :: .ref a :: st)) rfl rfl (hb A.2.2 hd)
  rw [q] at X' st'
  exact ⟨_, _, ⟨X', A.2⟩, rfl, ⟨cl, A2.1, A2.plain, by rw [r1]; exact hi, by rw [← eT]; rfl⟩, fun k => Go.of st' k⟩
theorem s_iastore (A : Ax p l e R s m args below meth c T locs cells slots B) (hZ : Z.Warmed39 s.vm) (eT : T.heap = h) {j : Int32} {i : Nat} {x : Int32} (F : Dar Z h a .int n f) (hi : i < n) (hj : j = Int32.ofNat i) (hd : decode B pc = .ok (.iastore, 1)) (hp : pc + 1 = pc') :
    ∃ T' h', Ax p l e R s m args below meth c T' (locs ++ [⟨a, i⟩]) cells slots B ∧ T'.heap = h' ∧ Wr h h' a i (.int x) ∧ ∀ {P : State → Outcome → Prop}, Go p e below P T' (mkF m pc' ls st) → Go p e below P T (mkF m pc ls (.int x :: .int j :: .ref a :: st)) := by
  subst hp hj
  obtain ⟨cl, A2, r1, r2, r3⟩ := F
  have q := (own_clamp (i := i) (by omega)).1
  obtain ⟨T', h', X', e', W, st'⟩ := stI A.1 A.2.1 hZ eT A2 (own_in r1 r2 hi) (x := x) (g := mkF m pc ls (.int x :: .int (Int32.ofNat i) :: .ref a :: st)) rfl rfl (hb A.2.2 hd)
  rw [q] at X' W
  exact ⟨_, _, ⟨X', A.2⟩, e', W, fun k => Go.of st' k⟩
theorem s_zastore (A : Ax p l e R s m args below meth c T locs cells slots B) (hZ : Z.Warmed39 s.vm) (eT : T.heap = h) {j : Int32} {i : Nat} {x : Int32} (F : Dar Z h a .boolean n f) (hi : i < n) (hj : j = Int32.ofNat i) (hx1 : narrow .boolean (.int x) = .int x) (hd : decode B pc = .ok (.bastore, 1)) (hp : pc + 1 = pc') :
    ∃ T' h', Ax p l e R s m args below meth c T' (locs ++ [⟨a, i⟩]) cells slots B ∧ T'.heap = h' ∧ Wr h h' a i (.int x) ∧ ∀ {P : State → Outcome → Prop}, Go p e below P T' (mkF m pc' ls st) → Go p e below P T (mkF m pc ls (.int x :: .int j :: .ref a :: st)) := by
  subst hp hj
  obtain ⟨cl, A2, r1, r2, r3⟩ := F
  have q := (own_clamp (i := i) (by omega)).1
  obtain ⟨T', h', X', e', W, st'⟩ := stZ A.1 A.2.1 hZ eT A2 (own_in r1 r2 hi) (x := x) (g := mkF m pc ls (.int x :: .int (Int32.ofNat i) :: .ref a :: st)) rfl rfl (hb A.2.2 hd)
  have q2 : nar .boolean x = x := Value.int.inj hx1
  rw [q] at X' W; rw [q2] at W
  exact ⟨_, _, ⟨X', A.2⟩, e', W, fun k => Go.of st' k⟩
end own_go
def own_r_rm1 (q0 : Int32) (q1 : Int32) : UInt64 := (if (q0 &&& (3 : Int32)) = 0 then (if q1 = 0 then (0 : UInt64) else (FP.dneg (0 : UInt64))) else (if q1 = 0 then (FP.i2d (q0 >>> ((2 : Int32) &&& 31))) else (FP.dneg (FP.i2d (q0 >>> ((2 : Int32) &&& 31))))))
theorem d1_0 : decode method_2_code 0 = .ok (.iload_n 0, 1) := by decide +kernel
theorem d1_1 : decode method_2_code 1 = .ok (.iconst 3, 1) := by decide +kernel
theorem d1_2 : decode method_2_code 2 = .ok (.iand, 1) := by decide +kernel
theorem d1_3 : decode method_2_code 3 = .ok (.ifCond .ne 7, 3) := by decide +kernel
theorem d1_6 : decode method_2_code 6 = .ok (.dconst 0, 1) := by decide +kernel
theorem d1_7 : decode method_2_code 7 = .ok (.goto 7, 3) := by decide +kernel
theorem d1_10 : decode method_2_code 10 = .ok (.iload_n 0, 1) := by decide +kernel
theorem d1_11 : decode method_2_code 11 = .ok (.iconst 2, 1) := by decide +kernel
theorem d1_12 : decode method_2_code 12 = .ok (.ishr, 1) := by decide +kernel
theorem d1_13 : decode method_2_code 13 = .ok (.i2d, 1) := by decide +kernel
theorem d1_14 : decode method_2_code 14 = .ok (.dstore_n 2, 1) := by decide +kernel
theorem d1_15 : decode method_2_code 15 = .ok (.iload_n 1, 1) := by decide +kernel
theorem d1_16 : decode method_2_code 16 = .ok (.ifCond .eq 8, 3) := by decide +kernel
theorem d1_19 : decode method_2_code 19 = .ok (.dload_n 2, 1) := by decide +kernel
theorem d1_20 : decode method_2_code 20 = .ok (.dneg, 1) := by decide +kernel
theorem d1_21 : decode method_2_code 21 = .ok (.goto 4, 3) := by decide +kernel
theorem d1_24 : decode method_2_code 24 = .ok (.dload_n 2, 1) := by decide +kernel
theorem d1_25 : decode method_2_code 25 = .ok (.dreturn, 1) := by decide +kernel
theorem pn_0 : plainName "com/example/orientry/orientry/VectorsFirstNonZeroPinLaw" = true := by first | (simp [plainName, overriddenIn]; done) | decide +kernel
theorem ef1 (m : MethodId) (q0 : Int32) (q1 : Int32) : entryFrame m #[(.int q0), (.int q1)] 4 = mkF m 0 #[.val (.int q0), .val (.int q1), .unset, .unset] [] := by first | (simp [entryFrame, mkF, argsToLocals, Value.category]; done) | rfl
def Q1 (Z : State) (q0 : Int32) (q1 : Int32) (h0 : Heap) (n0 : Nat) (v : Option Value) (h : Heap) (L : List Loc) : Prop := v = some (.double (own_r_rm1 q0 q1)) ∧ Fr n0 L ∧ h = h0
set_option maxRecDepth 65536 in
set_option maxHeartbeats 40000000 in
theorem rm1 (l : Launch) (Z : State) (a0 : Array Value) (hw : ∀ d ∈ tables_1, d.before a0 Z = true) (ws : List Jvm.Cond) (q0 : Int32) (q1 : Int32) (h0 : Heap) (n0 : Nat) (Z0 : n0 ≤ h0.size)  :
    MetFree l (⟨"com/example/orientry/orientry/VectorsFirstNonZeroPinLaw", "comp", "(IZ)D"⟩ : MethodName) (head1 (Jvm.Cond.code (⟨"com/example/orientry/orientry/VectorsFirstNonZeroPinLaw", "comp", "(IZ)D"⟩ : MethodName) method_2_code 4 (some .double) :: ws) ({ frames := 0, cells := 0, slots := 0, locals := 0 } : Room)) (fun a U => a = #[(.int q0), (.int q1)] ∧ Z.Warmed39 U.vm ∧ U.heap = h0) (fun _ _ _ _ _ => True) (fun _ U o U' => ∃ v L, o = .returned v ∧ Q1 Z q0 q1 h0 n0 v U'.heap L ∧ FrameEnd U o U' L 0 0) := by
  refine MetFree.of_bodySF (plainFor_of_name pn_0) hisR ?_
  intro p e s m args below meth c s₁ Bd hml0 hP hK
  obtain ⟨rfl, hZ, hh⟩ := hP
  have hx := Bd.exec
  have hby := Bd.bytes
  have hml : c.maxLocals = 4 := hml0
  have hown : s.vm.findClass "com/example/orientry/orientry/VectorsFirstNonZeroPinLaw" = some m.cls := findClass_of_methodNamed Bd.named
  have hnm := (name_of_methodNamed Bd.named Bd.method).1
  have X0 : Stand p l e ({ frames := 0, cells := 0, slots := 0, locals := 0 } : Room) s m #[(.int q0), (.int q1)] below meth c s₁ [] 0 0 := Stand.of_body Bd
  have e0 : s₁.heap = h0 := by rw [← hh, Bd.state]; rfl
  have N0 := Fr.nil n0
  have A0 := (⟨X0, hx, hby⟩ : Ax _ _ _ _ _ _ _ _ _ _ _ _ _ _ _)
  show Go p e below (fun U o => ∃ v L, o = .returned v ∧ Q1 Z q0 q1 h0 n0 v U.heap L ∧ FrameEnd s o U L 0 0) s₁ (entryFrame m #[(.int q0), (.int q1)] 4)
  refine Go.cast (ef1 m q0 q1) ?_
  refine g_iloadN A0 d1_0 rfl (pc' := 1) rfl ?_
  refine g_iconst A0 d1_1 (v := (3 : Int32)) rfl (pc' := 2) rfl ?_
  refine g_iand A0 d1_2 (pc' := 3) rfl ?_
  by_cases hc2 : (q0 &&& (3 : Int32)) = 0
  · skip
    refine g_ifN A0 d1_3 (c0_ne_f hc2) (pc' := 6) rfl ?_
    refine g_dconst0 A0 d1_6 (pc' := 7) rfl ?_
    refine g_goto A0 d1_7 (pc' := 14) rfl ?_
    refine g_dstoreN A0 d1_14 (ls' := #[.val (.int q0), .val (.int q1), .val (.double (0 : UInt64)), .second]) rfl (pc' := 15) rfl ?_
    refine g_iloadN A0 d1_15 rfl (pc' := 16) rfl ?_
    by_cases hc3 : q1 = 0
    · skip
      refine g_ifY A0 d1_16 (c0_eq_t hc3) (pc' := 24) rfl ?_
      refine g_dloadN A0 d1_24 rfl (pc' := 25) rfl ?_
      exact g_ret (Q := Q1 Z q0 q1 h0 n0) A0 d1_25 Bd.notSynchronized Bd.returns rfl (Or.inr (Or.inr (Or.inl ⟨rfl, rfl, _, rfl⟩))) (by decide) (by decide) (by rw [e0]; exact ⟨(congrArg (fun z => some (Value.double z)) (by rw [own_r_rm1, if_pos hc2, if_pos hc3])), N0, rfl⟩)
    · skip
      refine g_ifN A0 d1_16 (c0_eq_f hc3) (pc' := 19) rfl ?_
      refine g_dloadN A0 d1_19 rfl (pc' := 20) rfl ?_
      refine g_dneg A0 d1_20 (pc' := 21) rfl ?_
      refine g_goto A0 d1_21 (pc' := 25) rfl ?_
      exact g_ret (Q := Q1 Z q0 q1 h0 n0) A0 d1_25 Bd.notSynchronized Bd.returns rfl (Or.inr (Or.inr (Or.inl ⟨rfl, rfl, _, rfl⟩))) (by decide) (by decide) (by rw [e0]; exact ⟨(congrArg (fun z => some (Value.double z)) (by rw [own_r_rm1, if_pos hc2, if_neg hc3])), N0, rfl⟩)
  · skip
    refine g_ifY A0 d1_3 (c0_ne_t hc2) (pc' := 10) rfl ?_
    refine g_iloadN A0 d1_10 rfl (pc' := 11) rfl ?_
    refine g_iconst A0 d1_11 (v := (2 : Int32)) rfl (pc' := 12) rfl ?_
    refine g_ishr A0 d1_12 (pc' := 13) rfl ?_
    refine g_i2d A0 d1_13 (pc' := 14) rfl ?_
    refine g_dstoreN A0 d1_14 (ls' := #[.val (.int q0), .val (.int q1), .val (.double (FP.i2d (q0 >>> ((2 : Int32) &&& 31)))), .second]) rfl (pc' := 15) rfl ?_
    refine g_iloadN A0 d1_15 rfl (pc' := 16) rfl ?_
    by_cases hc4 : q1 = 0
    · skip
      refine g_ifY A0 d1_16 (c0_eq_t hc4) (pc' := 24) rfl ?_
      refine g_dloadN A0 d1_24 rfl (pc' := 25) rfl ?_
      exact g_ret (Q := Q1 Z q0 q1 h0 n0) A0 d1_25 Bd.notSynchronized Bd.returns rfl (Or.inr (Or.inr (Or.inl ⟨rfl, rfl, _, rfl⟩))) (by decide) (by decide) (by rw [e0]; exact ⟨(congrArg (fun z => some (Value.double z)) (by rw [own_r_rm1, if_neg hc2, if_pos hc4])), N0, rfl⟩)
    · skip
      refine g_ifN A0 d1_16 (c0_eq_f hc4) (pc' := 19) rfl ?_
      refine g_dloadN A0 d1_19 rfl (pc' := 20) rfl ?_
      refine g_dneg A0 d1_20 (pc' := 21) rfl ?_
      refine g_goto A0 d1_21 (pc' := 25) rfl ?_
      exact g_ret (Q := Q1 Z q0 q1 h0 n0) A0 d1_25 Bd.notSynchronized Bd.returns rfl (Or.inr (Or.inr (Or.inl ⟨rfl, rfl, _, rfl⟩))) (by decide) (by decide) (by rw [e0]; exact ⟨(congrArg (fun z => some (Value.double z)) (by rw [own_r_rm1, if_neg hc2, if_neg hc4])), N0, rfl⟩)
def own_r_rm2 (x0 : UInt64) (x1 : UInt64) (x2 : UInt64) (x3 : UInt64) : UInt64 := (if FP.dcmp x0 (0 : UInt64) = some .eq then (if FP.dcmp x1 (0 : UInt64) = some .eq then (if FP.dcmp x2 (0 : UInt64) = some .eq then x3 else x2) else x1) else x0)
theorem d2_0 : decode prog_12_method_5_code 0 = .ok (.dload_n 0, 1) := by decide +kernel
theorem d2_1 : decode prog_12_method_5_code 1 = .ok (.dconst 0, 1) := by decide +kernel
theorem d2_2 : decode prog_12_method_5_code 2 = .ok (.dcmp .l, 1) := by decide +kernel
theorem d2_3 : decode prog_12_method_5_code 3 = .ok (.ifCond .eq 9, 3) := by decide +kernel
theorem d2_6 : decode prog_12_method_5_code 6 = .ok (.dload_n 0, 1) := by decide +kernel
theorem d2_7 : decode prog_12_method_5_code 7 = .ok (.dstore 8, 2) := by decide +kernel
theorem d2_9 : decode prog_12_method_5_code 9 = .ok (.goto 33, 3) := by decide +kernel
theorem d2_12 : decode prog_12_method_5_code 12 = .ok (.dload_n 2, 1) := by decide +kernel
theorem d2_13 : decode prog_12_method_5_code 13 = .ok (.dconst 0, 1) := by decide +kernel
theorem d2_14 : decode prog_12_method_5_code 14 = .ok (.dcmp .l, 1) := by decide +kernel
theorem d2_15 : decode prog_12_method_5_code 15 = .ok (.ifCond .eq 9, 3) := by decide +kernel
theorem d2_18 : decode prog_12_method_5_code 18 = .ok (.dload_n 2, 1) := by decide +kernel
theorem d2_19 : decode prog_12_method_5_code 19 = .ok (.dstore 8, 2) := by decide +kernel
theorem d2_21 : decode prog_12_method_5_code 21 = .ok (.goto 21, 3) := by decide +kernel
theorem d2_24 : decode prog_12_method_5_code 24 = .ok (.dload 4, 2) := by decide +kernel
theorem d2_26 : decode prog_12_method_5_code 26 = .ok (.dconst 0, 1) := by decide +kernel
theorem d2_27 : decode prog_12_method_5_code 27 = .ok (.dcmp .l, 1) := by decide +kernel
theorem d2_28 : decode prog_12_method_5_code 28 = .ok (.ifCond .eq 10, 3) := by decide +kernel
theorem d2_31 : decode prog_12_method_5_code 31 = .ok (.dload 4, 2) := by decide +kernel
theorem d2_33 : decode prog_12_method_5_code 33 = .ok (.dstore 8, 2) := by decide +kernel
theorem d2_35 : decode prog_12_method_5_code 35 = .ok (.goto 7, 3) := by decide +kernel
theorem d2_38 : decode prog_12_method_5_code 38 = .ok (.dload 6, 2) := by decide +kernel
theorem d2_40 : decode prog_12_method_5_code 40 = .ok (.dstore 8, 2) := by decide +kernel
theorem d2_42 : decode prog_12_method_5_code 42 = .ok (.dload 8, 2) := by decide +kernel
theorem d2_44 : decode prog_12_method_5_code 44 = .ok (.dreturn, 1) := by decide +kernel
theorem pn_1 : plainName "com/example/orientry/orientry/Vectors" = true := by first | (simp [plainName, overriddenIn]; done) | decide +kernel
theorem ef5 (m : MethodId) (x0 : UInt64) (x1 : UInt64) (x2 : UInt64) (x3 : UInt64) : entryFrame m #[(.double x0), (.double x1), (.double x2), (.double x3)] 10 = mkF m 0 #[.val (.double x0), .second, .val (.double x1), .second, .val (.double x2), .second, .val (.double x3), .second, .unset, .unset] [] := by first | (simp [entryFrame, mkF, argsToLocals, Value.category]; done) | rfl
def Q2 (Z : State) (x0 : UInt64) (x1 : UInt64) (x2 : UInt64) (x3 : UInt64) (h0 : Heap) (n0 : Nat) (v : Option Value) (h : Heap) (L : List Loc) : Prop := v = some (.double (own_r_rm2 x0 x1 x2 x3)) ∧ Fr n0 L ∧ h = h0
set_option maxRecDepth 65536 in
set_option maxHeartbeats 40000000 in
theorem rm2 (l : Launch) (Z : State) (a0 : Array Value) (hw : ∀ d ∈ tables_1, d.before a0 Z = true) (ws : List Jvm.Cond) (x0 : UInt64) (x1 : UInt64) (x2 : UInt64) (x3 : UInt64) (h0 : Heap) (n0 : Nat) (Z0 : n0 ≤ h0.size)  :
    MetFree l (⟨"com/example/orientry/orientry/Vectors", "firstNonZero", "(DDDD)D"⟩ : MethodName) (head1 (Jvm.Cond.code (⟨"com/example/orientry/orientry/Vectors", "firstNonZero", "(DDDD)D"⟩ : MethodName) prog_12_method_5_code 10 (some .double) :: ws) ({ frames := 0, cells := 0, slots := 0, locals := 0 } : Room)) (fun a U => a = #[(.double x0), (.double x1), (.double x2), (.double x3)] ∧ Z.Warmed39 U.vm ∧ U.heap = h0) (fun _ _ _ _ _ => True) (fun _ U o U' => ∃ v L, o = .returned v ∧ Q2 Z x0 x1 x2 x3 h0 n0 v U'.heap L ∧ FrameEnd U o U' L 0 0) := by
  refine MetFree.of_bodySF (plainFor_of_name pn_1) hisR ?_
  intro p e s m args below meth c s₁ Bd hml0 hP hK
  obtain ⟨rfl, hZ, hh⟩ := hP
  have hx := Bd.exec
  have hby := Bd.bytes
  have hml : c.maxLocals = 10 := hml0
  have hown : s.vm.findClass "com/example/orientry/orientry/Vectors" = some m.cls := findClass_of_methodNamed Bd.named
  have hnm := (name_of_methodNamed Bd.named Bd.method).1
  have X0 : Stand p l e ({ frames := 0, cells := 0, slots := 0, locals := 0 } : Room) s m #[(.double x0), (.double x1), (.double x2), (.double x3)] below meth c s₁ [] 0 0 := Stand.of_body Bd
  have e0 : s₁.heap = h0 := by rw [← hh, Bd.state]; rfl
  have N0 := Fr.nil n0
  have A0 := (⟨X0, hx, hby⟩ : Ax _ _ _ _ _ _ _ _ _ _ _ _ _ _ _)
  show Go p e below (fun U o => ∃ v L, o = .returned v ∧ Q2 Z x0 x1 x2 x3 h0 n0 v U.heap L ∧ FrameEnd s o U L 0 0) s₁ (entryFrame m #[(.double x0), (.double x1), (.double x2), (.double x3)] 10)
  refine Go.cast (ef5 m x0 x1 x2 x3) ?_
  refine g_dloadN A0 d2_0 rfl (pc' := 1) rfl ?_
  refine g_dconst0 A0 d2_1 (pc' := 2) rfl ?_
  refine g_dcmp A0 d2_2 (pc' := 3) rfl ?_
  by_cases hc6 : FP.dcmp x0 (0 : UInt64) = some .eq
  · skip
    refine g_ifY A0 d2_3 (d_l_eq_t hc6) (pc' := 12) rfl ?_
    refine g_dloadN A0 d2_12 rfl (pc' := 13) rfl ?_
    refine g_dconst0 A0 d2_13 (pc' := 14) rfl ?_
    refine g_dcmp A0 d2_14 (pc' := 15) rfl ?_
    by_cases hc7 : FP.dcmp x1 (0 : UInt64) = some .eq
    · skip
      refine g_ifY A0 d2_15 (d_l_eq_t hc7) (pc' := 24) rfl ?_
      refine g_dload A0 d2_24 rfl (pc' := 26) rfl ?_
      refine g_dconst0 A0 d2_26 (pc' := 27) rfl ?_
      refine g_dcmp A0 d2_27 (pc' := 28) rfl ?_
      by_cases hc8 : FP.dcmp x2 (0 : UInt64) = some .eq
      · skip
        refine g_ifY A0 d2_28 (d_l_eq_t hc8) (pc' := 38) rfl ?_
        refine g_dload A0 d2_38 rfl (pc' := 40) rfl ?_
        refine g_dstore A0 d2_40 (ls' := #[.val (.double x0), .second, .val (.double x1), .second, .val (.double x2), .second, .val (.double x3), .second, .val (.double x3), .second]) rfl (pc' := 42) rfl ?_
        refine g_dload A0 d2_42 rfl (pc' := 44) rfl ?_
        exact g_ret (Q := Q2 Z x0 x1 x2 x3 h0 n0) A0 d2_44 Bd.notSynchronized Bd.returns rfl (Or.inr (Or.inr (Or.inl ⟨rfl, rfl, _, rfl⟩))) (by decide) (by decide) (by rw [e0]; exact ⟨(congrArg (fun z => some (Value.double z)) (by rw [own_r_rm2, if_pos hc6, if_pos hc7, if_pos hc8])), N0, rfl⟩)
      · skip
        refine g_ifN A0 d2_28 (d_l_eq_f hc8) (pc' := 31) rfl ?_
        refine g_dload A0 d2_31 rfl (pc' := 33) rfl ?_
        refine g_dstore A0 d2_33 (ls' := #[.val (.double x0), .second, .val (.double x1), .second, .val (.double x2), .second, .val (.double x3), .second, .val (.double x2), .second]) rfl (pc' := 35) rfl ?_
        refine g_goto A0 d2_35 (pc' := 42) rfl ?_
        refine g_dload A0 d2_42 rfl (pc' := 44) rfl ?_
        exact g_ret (Q := Q2 Z x0 x1 x2 x3 h0 n0) A0 d2_44 Bd.notSynchronized Bd.returns rfl (Or.inr (Or.inr (Or.inl ⟨rfl, rfl, _, rfl⟩))) (by decide) (by decide) (by rw [e0]; exact ⟨(congrArg (fun z => some (Value.double z)) (by rw [own_r_rm2, if_pos hc6, if_pos hc7, if_neg hc8])), N0, rfl⟩)
    · skip
      refine g_ifN A0 d2_15 (d_l_eq_f hc7) (pc' := 18) rfl ?_
      refine g_dloadN A0 d2_18 rfl (pc' := 19) rfl ?_
      refine g_dstore A0 d2_19 (ls' := #[.val (.double x0), .second, .val (.double x1), .second, .val (.double x2), .second, .val (.double x3), .second, .val (.double x1), .second]) rfl (pc' := 21) rfl ?_
      refine g_goto A0 d2_21 (pc' := 42) rfl ?_
      refine g_dload A0 d2_42 rfl (pc' := 44) rfl ?_
      exact g_ret (Q := Q2 Z x0 x1 x2 x3 h0 n0) A0 d2_44 Bd.notSynchronized Bd.returns rfl (Or.inr (Or.inr (Or.inl ⟨rfl, rfl, _, rfl⟩))) (by decide) (by decide) (by rw [e0]; exact ⟨(congrArg (fun z => some (Value.double z)) (by rw [own_r_rm2, if_pos hc6, if_neg hc7])), N0, rfl⟩)
  · skip
    refine g_ifN A0 d2_3 (d_l_eq_f hc6) (pc' := 6) rfl ?_
    refine g_dloadN A0 d2_6 rfl (pc' := 7) rfl ?_
    refine g_dstore A0 d2_7 (ls' := #[.val (.double x0), .second, .val (.double x1), .second, .val (.double x2), .second, .val (.double x3), .second, .val (.double x0), .second]) rfl (pc' := 9) rfl ?_
    refine g_goto A0 d2_9 (pc' := 42) rfl ?_
    refine g_dload A0 d2_42 rfl (pc' := 44) rfl ?_
    exact g_ret (Q := Q2 Z x0 x1 x2 x3 h0 n0) A0 d2_44 Bd.notSynchronized Bd.returns rfl (Or.inr (Or.inr (Or.inl ⟨rfl, rfl, _, rfl⟩))) (by decide) (by decide) (by rw [e0]; exact ⟨(congrArg (fun z => some (Value.double z)) (by rw [own_r_rm2, if_neg hc6])), N0, rfl⟩)
theorem own_cf (a b : Int32) : Fin64 (own_r_rm1 a b) := by
  have z : Fin64 (0 : UInt64) := by unfold Fin64; decide
  rw [own_r_rm1]
  split <;> split <;> first | exact z | exact own_fneg z | exact i2d_fin _ | exact own_fneg (i2d_fin _)
theorem ef9 (m : MethodId) (p0 : Int32) (p1 : Int32) (p2 : Int32) (p3 : Int32) (p4 : Int32) : entryFrame m #[(.int p0), (.int p1), (.int p2), (.int p3), (.int p4)] maxLocals = mkF m 0 #[.val (.int p0), .val (.int p1), .val (.int p2), .val (.int p3), .val (.int p4), .unset, .unset, .unset, .unset, .unset, .unset, .unset, .unset, .unset, .unset, .unset, .unset, .unset, .unset, .unset, .unset, .unset, .unset, .unset] [] := by first | (simp [entryFrame, mkF, argsToLocals, Value.category, maxLocals]; done) | rfl
def Q0 (Z : State) (p0 : Int32) (p1 : Int32) (p2 : Int32) (p3 : Int32) (p4 : Int32) (h0 : Heap) (n0 : Nat) (v : Option Value) (h : Heap) (L : List Loc) : Prop := v = some (.int 1) ∧ Fr n0 L
theorem pd_0 : parseMethodDescriptor "(IZ)D" = some ⟨[.int, .boolean], some .double⟩ := by decide +kernel
theorem pd_1 : parseMethodDescriptor "(DDDD)D" = some ⟨[.double, .double, .double, .double], some .double⟩ := by decide +kernel
set_option maxRecDepth 65536 in
set_option maxHeartbeats 40000000 in
theorem rm0 (l : Launch) (Z : State) (a0 : Array Value) (hw : ∀ d ∈ tables_1, d.before a0 Z = true) (ws : List Jvm.Cond) (p0 : Int32) (p1 : Int32) (p2 : Int32) (p3 : Int32) (p4 : Int32) (h0 : Heap) (n0 : Nat) (Z0 : n0 ≤ h0.size)  :
    MetFree l x (head1 (Jvm.Cond.code x code maxLocals ret :: ws) room_1) (fun a U => a = #[(.int p0), (.int p1), (.int p2), (.int p3), (.int p4)] ∧ Z.Warmed39 U.vm ∧ U.heap = h0) (fun _ _ _ _ _ => True) (fun _ U o U' => ∃ v L, o = .returned v ∧ Q0 Z p0 p1 p2 p3 p4 h0 n0 v U'.heap L ∧ FrameEnd U o U' L 0 0) := by
  refine MetFree.of_bodySF (plainFor_of_name pn_0) hisR ?_
  intro p e s m args below meth c s₁ Bd hml0 hP hK
  obtain ⟨rfl, hZ, hh⟩ := hP
  have hx := Bd.exec
  have hby := Bd.bytes
  have hml : c.maxLocals = 24 := hml0
  have hown : s.vm.findClass "com/example/orientry/orientry/VectorsFirstNonZeroPinLaw" = some m.cls := findClass_of_methodNamed Bd.named
  have hnm := (name_of_methodNamed Bd.named Bd.method).1
  have X0 : Stand p l e room_1 s m #[(.int p0), (.int p1), (.int p2), (.int p3), (.int p4)] below meth c s₁ [] 0 0 := Stand.of_body Bd
  have e0 : s₁.heap = h0 := by rw [← hh, Bd.state]; rfl
  have N0 := Fr.nil n0
  have A0 := (⟨X0, hx, hby⟩ : Ax _ _ _ _ _ _ _ _ _ _ _ _ _ _ _)
  show Go p e below (fun U o => ∃ v L, o = .returned v ∧ Q0 Z p0 p1 p2 p3 p4 h0 n0 v U.heap L ∧ FrameEnd s o U L 0 0) s₁ (entryFrame m #[(.int p0), (.int p1), (.int p2), (.int p3), (.int p4)] maxLocals)
  refine Go.cast (ef9 m p0 p1 p2 p3 p4) ?_
  refine g_iloadN A0 at_0 rfl (pc' := 1) rfl ?_
  refine g_iload A0 at_1 rfl (pc' := 3) rfl ?_
  refine g_iconst A0 at_3 (v := (1 : Int32)) rfl (pc' := 4) rfl ?_
  refine g_iand A0 at_4 (pc' := 5) rfl ?_
  obtain ⟨v10, hv10⟩ : ∃ z : Int32, z = if ¬ ((p4 &&& (1 : Int32)) = 0) then (1 : Int32) else 0 := ⟨_, rfl⟩
  have sg11 : ∀ {P : State → Outcome → Prop}, Go p e below P s₁ (mkF m 13 #[.val (.int p0), .val (.int p1), .val (.int p2), .val (.int p3), .val (.int p4), .unset, .unset, .unset, .unset, .unset, .unset, .unset, .unset, .unset, .unset, .unset, .unset, .unset, .unset, .unset, .unset, .unset, .unset, .unset] [(.int v10), (.int p0)]) → Go p e below P s₁ (mkF m 5 #[.val (.int p0), .val (.int p1), .val (.int p2), .val (.int p3), .val (.int p4), .unset, .unset, .unset, .unset, .unset, .unset, .unset, .unset, .unset, .unset, .unset, .unset, .unset, .unset, .unset, .unset, .unset, .unset, .unset] [(.int (p4 &&& (1 : Int32))), (.int p0)]) := by
    intro P hr
    by_cases c12 : (p4 &&& (1 : Int32)) = 0
    · skip
      refine g_ifY A0 at_5 (c0_eq_t c12) (pc' := 12) rfl ?_
      refine g_iconst A0 at_12 (v := (0 : Int32)) rfl (pc' := 13) rfl ?_
      obtain rfl : v10 = (0 : Int32) := hv10.trans (if_neg (fun q => q c12))
      exact hr
    · skip
      refine g_ifN A0 at_5 (c0_eq_f c12) (pc' := 8) rfl ?_
      refine g_iconst A0 at_8 (v := (1 : Int32)) rfl (pc' := 9) rfl ?_
      refine g_goto A0 at_9 (pc' := 13) rfl ?_
      obtain rfl : v10 = (1 : Int32) := hv10.trans (if_pos c12)
      exact hr
  refine sg11 ?_
  obtain ⟨_, _, ⟨T13, L13, k13, n13⟩, -, X13, ⟨L13c, hQ13, l13, y13, z13⟩, st13⟩ := Jvm.LawKit.callS X0 hx (y := (⟨"com/example/orientry/orientry/VectorsFirstNonZeroPinLaw", "comp", "(IZ)D"⟩ : MethodName)) hown (mvT hZ (hw _ (List.mem_of_getElem? (i := 0) rfl))) (mvT hZ (hw _ (List.mem_of_getElem? (i := 1) rfl))) (mvT hZ (hw _ (List.mem_of_getElem? (i := 2) rfl))) (mvT hZ (hw _ (List.mem_of_getElem? (i := 3) rfl))) (by decide) (backOf (W := 0) (rm1 l Z a0 hw [] p0 v10 h0 n0 Z0 ) hZ (hw _ (List.mem_of_getElem? (i := 3) rfl)) (hw _ (List.mem_of_getElem? (i := 2) rfl)) (by decide) (by decide)) (g := (mkF m 13 #[.val (.int p0), .val (.int p1), .val (.int p2), .val (.int p3), .val (.int p4), .unset, .unset, .unset, .unset, .unset, .unset, .unset, .unset, .unset, .unset, .unset, .unset, .unset, .unset, .unset, .unset, .unset, .unset, .unset] [(.int v10), (.int p0)])) rfl (by rw [hml]; rfl) (argsL := [(.int p0), (.int v10)]) (rest := []) (lenOf pd_0 rfl) rfl (by show 2 * 0 + _ ≤ _; exact Nat.le_of_eq rfl) (hb hby at_13) (fun _ _ => ⟨rfl, e0, (by decide : 0 + 0 ≤ _), (by decide : 0 + 0 ≤ _)⟩)
  dsimp only [Pt.U, Pt.locs, Pt.cells, Pt.slots] at X13 l13 y13 z13 st13 hQ13
  subst l13 y13 z13
  obtain ⟨rfl, Nq14, Kq15⟩ := hQ13
  have N16 := Fr.app N0 Nq14
  refine Go.of (g' := (mkF m 16 #[.val (.int p0), .val (.int p1), .val (.int p2), .val (.int p3), .val (.int p4), .unset, .unset, .unset, .unset, .unset, .unset, .unset, .unset, .unset, .unset, .unset, .unset, .unset, .unset, .unset, .unset, .unset, .unset, .unset] [(.double (own_r_rm1 p0 v10))])) st13 ?_
  have e17 : T13.heap = h0 := Kq15
  have A18 := (⟨X13, hx, hby⟩ : Ax _ _ _ _ _ _ _ _ _ _ _ _ _ _ _)
  obtain ⟨x19, hx19⟩ : ∃ z : UInt64, z = (own_r_rm1 p0 v10) := ⟨_, rfl⟩
  rw [← hx19]
  have f20 : Fin64 x19 := by rw [hx19]; exact own_cf _ _
  refine g_dstore A18 at_16 (ls' := #[.val (.int p0), .val (.int p1), .val (.int p2), .val (.int p3), .val (.int p4), .val (.double x19), .second, .unset, .unset, .unset, .unset, .unset, .unset, .unset, .unset, .unset, .unset, .unset, .unset, .unset, .unset, .unset, .unset, .unset]) rfl (pc' := 18) rfl ?_
  refine g_iloadN A18 at_18 rfl (pc' := 19) rfl ?_
  refine g_iload A18 at_19 rfl (pc' := 21) rfl ?_
  refine g_iconst A18 at_21 (v := (2 : Int32)) rfl (pc' := 22) rfl ?_
  refine g_iand A18 at_22 (pc' := 23) rfl ?_
  obtain ⟨v21, hv21⟩ : ∃ z : Int32, z = if ¬ ((p4 &&& (2 : Int32)) = 0) then (1 : Int32) else 0 := ⟨_, rfl⟩
  have sg22 : ∀ {P : State → Outcome → Prop}, Go p e below P T13 (mkF m 31 #[.val (.int p0), .val (.int p1), .val (.int p2), .val (.int p3), .val (.int p4), .val (.double x19), .second, .unset, .unset, .unset, .unset, .unset, .unset, .unset, .unset, .unset, .unset, .unset, .unset, .unset, .unset, .unset, .unset, .unset] [(.int v21), (.int p1)]) → Go p e below P T13 (mkF m 23 #[.val (.int p0), .val (.int p1), .val (.int p2), .val (.int p3), .val (.int p4), .val (.double x19), .second, .unset, .unset, .unset, .unset, .unset, .unset, .unset, .unset, .unset, .unset, .unset, .unset, .unset, .unset, .unset, .unset, .unset] [(.int (p4 &&& (2 : Int32))), (.int p1)]) := by
    intro P hr
    by_cases c23 : (p4 &&& (2 : Int32)) = 0
    · skip
      refine g_ifY A18 at_23 (c0_eq_t c23) (pc' := 30) rfl ?_
      refine g_iconst A18 at_30 (v := (0 : Int32)) rfl (pc' := 31) rfl ?_
      obtain rfl : v21 = (0 : Int32) := hv21.trans (if_neg (fun q => q c23))
      exact hr
    · skip
      refine g_ifN A18 at_23 (c0_eq_f c23) (pc' := 26) rfl ?_
      refine g_iconst A18 at_26 (v := (1 : Int32)) rfl (pc' := 27) rfl ?_
      refine g_goto A18 at_27 (pc' := 31) rfl ?_
      obtain rfl : v21 = (1 : Int32) := hv21.trans (if_pos c23)
      exact hr
  refine sg22 ?_
  obtain ⟨_, _, ⟨T24, L24, k24, n24⟩, -, X24, ⟨L24c, hQ24, l24, y24, z24⟩, st24⟩ := Jvm.LawKit.callS X13 hx (y := (⟨"com/example/orientry/orientry/VectorsFirstNonZeroPinLaw", "comp", "(IZ)D"⟩ : MethodName)) hown (mvT hZ (hw _ (List.mem_of_getElem? (i := 0) rfl))) (mvT hZ (hw _ (List.mem_of_getElem? (i := 1) rfl))) (mvT hZ (hw _ (List.mem_of_getElem? (i := 2) rfl))) (mvT hZ (hw _ (List.mem_of_getElem? (i := 3) rfl))) (by decide) (backOf (W := 0) (rm1 l Z a0 hw [] p1 v21 h0 n0 Z0 ) hZ (hw _ (List.mem_of_getElem? (i := 3) rfl)) (hw _ (List.mem_of_getElem? (i := 2) rfl)) (by decide) (by decide)) (g := (mkF m 31 #[.val (.int p0), .val (.int p1), .val (.int p2), .val (.int p3), .val (.int p4), .val (.double x19), .second, .unset, .unset, .unset, .unset, .unset, .unset, .unset, .unset, .unset, .unset, .unset, .unset, .unset, .unset, .unset, .unset, .unset] [(.int v21), (.int p1)])) rfl (by rw [hml]; rfl) (argsL := [(.int p1), (.int v21)]) (rest := []) (lenOf pd_0 rfl) rfl (by show 2 * 0 + _ ≤ _; exact Nat.le_of_eq rfl) (hb hby at_31) (fun _ _ => ⟨rfl, e17, (by decide : 0 + 0 ≤ _), (by decide : 0 + 0 ≤ _)⟩)
  dsimp only [Pt.U, Pt.locs, Pt.cells, Pt.slots] at X24 l24 y24 z24 st24 hQ24
  subst l24 y24 z24
  obtain ⟨rfl, Nq25, Kq26⟩ := hQ24
  have N27 := Fr.app N16 Nq25
  refine Go.of (g' := (mkF m 34 #[.val (.int p0), .val (.int p1), .val (.int p2), .val (.int p3), .val (.int p4), .val (.double x19), .second, .unset, .unset, .unset, .unset, .unset, .unset, .unset, .unset, .unset, .unset, .unset, .unset, .unset, .unset, .unset, .unset, .unset] [(.double (own_r_rm1 p1 v21))])) st24 ?_
  have e28 : T24.heap = h0 := Kq26
  have A29 := (⟨X24, hx, hby⟩ : Ax _ _ _ _ _ _ _ _ _ _ _ _ _ _ _)
  obtain ⟨x30, hx30⟩ : ∃ z : UInt64, z = (own_r_rm1 p1 v21) := ⟨_, rfl⟩
  rw [← hx30]
  have f31 : Fin64 x30 := by rw [hx30]; exact own_cf _ _
  refine g_dstore A29 at_34 (ls' := #[.val (.int p0), .val (.int p1), .val (.int p2), .val (.int p3), .val (.int p4), .val (.double x19), .second, .val (.double x30), .second, .unset, .unset, .unset, .unset, .unset, .unset, .unset, .unset, .unset, .unset, .unset, .unset, .unset, .unset, .unset]) rfl (pc' := 36) rfl ?_
  refine g_iloadN A29 at_36 rfl (pc' := 37) rfl ?_
  refine g_iload A29 at_37 rfl (pc' := 39) rfl ?_
  refine g_iconst A29 at_39 (v := (4 : Int32)) rfl (pc' := 40) rfl ?_
  refine g_iand A29 at_40 (pc' := 41) rfl ?_
  obtain ⟨v32, hv32⟩ : ∃ z : Int32, z = if ¬ ((p4 &&& (4 : Int32)) = 0) then (1 : Int32) else 0 := ⟨_, rfl⟩
  have sg33 : ∀ {P : State → Outcome → Prop}, Go p e below P T24 (mkF m 49 #[.val (.int p0), .val (.int p1), .val (.int p2), .val (.int p3), .val (.int p4), .val (.double x19), .second, .val (.double x30), .second, .unset, .unset, .unset, .unset, .unset, .unset, .unset, .unset, .unset, .unset, .unset, .unset, .unset, .unset, .unset] [(.int v32), (.int p2)]) → Go p e below P T24 (mkF m 41 #[.val (.int p0), .val (.int p1), .val (.int p2), .val (.int p3), .val (.int p4), .val (.double x19), .second, .val (.double x30), .second, .unset, .unset, .unset, .unset, .unset, .unset, .unset, .unset, .unset, .unset, .unset, .unset, .unset, .unset, .unset] [(.int (p4 &&& (4 : Int32))), (.int p2)]) := by
    intro P hr
    by_cases c34 : (p4 &&& (4 : Int32)) = 0
    · skip
      refine g_ifY A29 at_41 (c0_eq_t c34) (pc' := 48) rfl ?_
      refine g_iconst A29 at_48 (v := (0 : Int32)) rfl (pc' := 49) rfl ?_
      obtain rfl : v32 = (0 : Int32) := hv32.trans (if_neg (fun q => q c34))
      exact hr
    · skip
      refine g_ifN A29 at_41 (c0_eq_f c34) (pc' := 44) rfl ?_
      refine g_iconst A29 at_44 (v := (1 : Int32)) rfl (pc' := 45) rfl ?_
      refine g_goto A29 at_45 (pc' := 49) rfl ?_
      obtain rfl : v32 = (1 : Int32) := hv32.trans (if_pos c34)
      exact hr
  refine sg33 ?_
  obtain ⟨_, _, ⟨T35, L35, k35, n35⟩, -, X35, ⟨L35c, hQ35, l35, y35, z35⟩, st35⟩ := Jvm.LawKit.callS X24 hx (y := (⟨"com/example/orientry/orientry/VectorsFirstNonZeroPinLaw", "comp", "(IZ)D"⟩ : MethodName)) hown (mvT hZ (hw _ (List.mem_of_getElem? (i := 0) rfl))) (mvT hZ (hw _ (List.mem_of_getElem? (i := 1) rfl))) (mvT hZ (hw _ (List.mem_of_getElem? (i := 2) rfl))) (mvT hZ (hw _ (List.mem_of_getElem? (i := 3) rfl))) (by decide) (backOf (W := 0) (rm1 l Z a0 hw [] p2 v32 h0 n0 Z0 ) hZ (hw _ (List.mem_of_getElem? (i := 3) rfl)) (hw _ (List.mem_of_getElem? (i := 2) rfl)) (by decide) (by decide)) (g := (mkF m 49 #[.val (.int p0), .val (.int p1), .val (.int p2), .val (.int p3), .val (.int p4), .val (.double x19), .second, .val (.double x30), .second, .unset, .unset, .unset, .unset, .unset, .unset, .unset, .unset, .unset, .unset, .unset, .unset, .unset, .unset, .unset] [(.int v32), (.int p2)])) rfl (by rw [hml]; rfl) (argsL := [(.int p2), (.int v32)]) (rest := []) (lenOf pd_0 rfl) rfl (by show 2 * 0 + _ ≤ _; exact Nat.le_of_eq rfl) (hb hby at_49) (fun _ _ => ⟨rfl, e28, (by decide : 0 + 0 ≤ _), (by decide : 0 + 0 ≤ _)⟩)
  dsimp only [Pt.U, Pt.locs, Pt.cells, Pt.slots] at X35 l35 y35 z35 st35 hQ35
  subst l35 y35 z35
  obtain ⟨rfl, Nq36, Kq37⟩ := hQ35
  have N38 := Fr.app N27 Nq36
  refine Go.of (g' := (mkF m 52 #[.val (.int p0), .val (.int p1), .val (.int p2), .val (.int p3), .val (.int p4), .val (.double x19), .second, .val (.double x30), .second, .unset, .unset, .unset, .unset, .unset, .unset, .unset, .unset, .unset, .unset, .unset, .unset, .unset, .unset, .unset] [(.double (own_r_rm1 p2 v32))])) st35 ?_
  have e39 : T35.heap = h0 := Kq37
  have A40 := (⟨X35, hx, hby⟩ : Ax _ _ _ _ _ _ _ _ _ _ _ _ _ _ _)
  obtain ⟨x41, hx41⟩ : ∃ z : UInt64, z = (own_r_rm1 p2 v32) := ⟨_, rfl⟩
  rw [← hx41]
  have f42 : Fin64 x41 := by rw [hx41]; exact own_cf _ _
  refine g_dstore A40 at_52 (ls' := #[.val (.int p0), .val (.int p1), .val (.int p2), .val (.int p3), .val (.int p4), .val (.double x19), .second, .val (.double x30), .second, .val (.double x41), .second, .unset, .unset, .unset, .unset, .unset, .unset, .unset, .unset, .unset, .unset, .unset, .unset, .unset]) rfl (pc' := 54) rfl ?_
  refine g_iloadN A40 at_54 rfl (pc' := 55) rfl ?_
  refine g_iload A40 at_55 rfl (pc' := 57) rfl ?_
  refine g_bipush A40 at_57 (v := (8 : Int32)) rfl (pc' := 59) rfl ?_
  refine g_iand A40 at_59 (pc' := 60) rfl ?_
  obtain ⟨v43, hv43⟩ : ∃ z : Int32, z = if ¬ ((p4 &&& (8 : Int32)) = 0) then (1 : Int32) else 0 := ⟨_, rfl⟩
  have sg44 : ∀ {P : State → Outcome → Prop}, Go p e below P T35 (mkF m 68 #[.val (.int p0), .val (.int p1), .val (.int p2), .val (.int p3), .val (.int p4), .val (.double x19), .second, .val (.double x30), .second, .val (.double x41), .second, .unset, .unset, .unset, .unset, .unset, .unset, .unset, .unset, .unset, .unset, .unset, .unset, .unset] [(.int v43), (.int p3)]) → Go p e below P T35 (mkF m 60 #[.val (.int p0), .val (.int p1), .val (.int p2), .val (.int p3), .val (.int p4), .val (.double x19), .second, .val (.double x30), .second, .val (.double x41), .second, .unset, .unset, .unset, .unset, .unset, .unset, .unset, .unset, .unset, .unset, .unset, .unset, .unset] [(.int (p4 &&& (8 : Int32))), (.int p3)]) := by
    intro P hr
    by_cases c45 : (p4 &&& (8 : Int32)) = 0
    · skip
      refine g_ifY A40 at_60 (c0_eq_t c45) (pc' := 67) rfl ?_
      refine g_iconst A40 at_67 (v := (0 : Int32)) rfl (pc' := 68) rfl ?_
      obtain rfl : v43 = (0 : Int32) := hv43.trans (if_neg (fun q => q c45))
      exact hr
    · skip
      refine g_ifN A40 at_60 (c0_eq_f c45) (pc' := 63) rfl ?_
      refine g_iconst A40 at_63 (v := (1 : Int32)) rfl (pc' := 64) rfl ?_
      refine g_goto A40 at_64 (pc' := 68) rfl ?_
      obtain rfl : v43 = (1 : Int32) := hv43.trans (if_pos c45)
      exact hr
  refine sg44 ?_
  obtain ⟨_, _, ⟨T46, L46, k46, n46⟩, -, X46, ⟨L46c, hQ46, l46, y46, z46⟩, st46⟩ := Jvm.LawKit.callS X35 hx (y := (⟨"com/example/orientry/orientry/VectorsFirstNonZeroPinLaw", "comp", "(IZ)D"⟩ : MethodName)) hown (mvT hZ (hw _ (List.mem_of_getElem? (i := 0) rfl))) (mvT hZ (hw _ (List.mem_of_getElem? (i := 1) rfl))) (mvT hZ (hw _ (List.mem_of_getElem? (i := 2) rfl))) (mvT hZ (hw _ (List.mem_of_getElem? (i := 3) rfl))) (by decide) (backOf (W := 0) (rm1 l Z a0 hw [] p3 v43 h0 n0 Z0 ) hZ (hw _ (List.mem_of_getElem? (i := 3) rfl)) (hw _ (List.mem_of_getElem? (i := 2) rfl)) (by decide) (by decide)) (g := (mkF m 68 #[.val (.int p0), .val (.int p1), .val (.int p2), .val (.int p3), .val (.int p4), .val (.double x19), .second, .val (.double x30), .second, .val (.double x41), .second, .unset, .unset, .unset, .unset, .unset, .unset, .unset, .unset, .unset, .unset, .unset, .unset, .unset] [(.int v43), (.int p3)])) rfl (by rw [hml]; rfl) (argsL := [(.int p3), (.int v43)]) (rest := []) (lenOf pd_0 rfl) rfl (by show 2 * 0 + _ ≤ _; exact Nat.le_of_eq rfl) (hb hby at_68) (fun _ _ => ⟨rfl, e39, (by decide : 0 + 0 ≤ _), (by decide : 0 + 0 ≤ _)⟩)
  dsimp only [Pt.U, Pt.locs, Pt.cells, Pt.slots] at X46 l46 y46 z46 st46 hQ46
  subst l46 y46 z46
  obtain ⟨rfl, Nq47, Kq48⟩ := hQ46
  have N49 := Fr.app N38 Nq47
  refine Go.of (g' := (mkF m 71 #[.val (.int p0), .val (.int p1), .val (.int p2), .val (.int p3), .val (.int p4), .val (.double x19), .second, .val (.double x30), .second, .val (.double x41), .second, .unset, .unset, .unset, .unset, .unset, .unset, .unset, .unset, .unset, .unset, .unset, .unset, .unset] [(.double (own_r_rm1 p3 v43))])) st46 ?_
  have e50 : T46.heap = h0 := Kq48
  have A51 := (⟨X46, hx, hby⟩ : Ax _ _ _ _ _ _ _ _ _ _ _ _ _ _ _)
  obtain ⟨x52, hx52⟩ : ∃ z : UInt64, z = (own_r_rm1 p3 v43) := ⟨_, rfl⟩
  rw [← hx52]
  have f53 : Fin64 x52 := by rw [hx52]; exact own_cf _ _
  refine g_dstore A51 at_71 (ls' := #[.val (.int p0), .val (.int p1), .val (.int p2), .val (.int p3), .val (.int p4), .val (.double x19), .second, .val (.double x30), .second, .val (.double x41), .second, .val (.double x52), .second, .unset, .unset, .unset, .unset, .unset, .unset, .unset, .unset, .unset, .unset, .unset]) rfl (pc' := 73) rfl ?_
  refine g_dload A51 at_73 rfl (pc' := 75) rfl ?_
  refine g_dload A51 at_75 rfl (pc' := 77) rfl ?_
  refine g_dload A51 at_77 rfl (pc' := 79) rfl ?_
  refine g_dload A51 at_79 rfl (pc' := 81) rfl ?_
  obtain ⟨_, _, ⟨T54, L54, k54, n54⟩, -, X54, ⟨L54c, hQ54, l54, y54, z54⟩, st54⟩ := Jvm.LawKit.callS X46 hx (y := (⟨"com/example/orientry/orientry/Vectors", "firstNonZero", "(DDDD)D"⟩ : MethodName)) hown (mvT hZ (hw _ (List.mem_of_getElem? (i := 4) rfl))) (mvT hZ (hw _ (List.mem_of_getElem? (i := 5) rfl))) (mvT hZ (hw _ (List.mem_of_getElem? (i := 6) rfl))) (mvT hZ (hw _ (List.mem_of_getElem? (i := 7) rfl))) (by decide) (backOf (W := 0) (rm2 l Z a0 hw [] x19 x30 x41 x52 h0 n0 Z0 ) hZ (hw _ (List.mem_of_getElem? (i := 7) rfl)) (hw _ (List.mem_of_getElem? (i := 6) rfl)) (by decide) (by decide)) (g := (mkF m 81 #[.val (.int p0), .val (.int p1), .val (.int p2), .val (.int p3), .val (.int p4), .val (.double x19), .second, .val (.double x30), .second, .val (.double x41), .second, .val (.double x52), .second, .unset, .unset, .unset, .unset, .unset, .unset, .unset, .unset, .unset, .unset, .unset] [(.double x52), (.double x41), (.double x30), (.double x19)])) rfl (by rw [hml]; rfl) (argsL := [(.double x19), (.double x30), (.double x41), (.double x52)]) (rest := []) (lenOf pd_1 rfl) rfl (by show 2 * 0 + _ ≤ _; exact Nat.le_of_eq rfl) (hb hby at_81) (fun _ _ => ⟨rfl, e50, (by decide : 0 + 0 ≤ _), (by decide : 0 + 0 ≤ _)⟩)
  dsimp only [Pt.U, Pt.locs, Pt.cells, Pt.slots] at X54 l54 y54 z54 st54 hQ54
  subst l54 y54 z54
  obtain ⟨rfl, Nq55, Kq56⟩ := hQ54
  have N57 := Fr.app N49 Nq55
  refine Go.of (g' := (mkF m 84 #[.val (.int p0), .val (.int p1), .val (.int p2), .val (.int p3), .val (.int p4), .val (.double x19), .second, .val (.double x30), .second, .val (.double x41), .second, .val (.double x52), .second, .unset, .unset, .unset, .unset, .unset, .unset, .unset, .unset, .unset, .unset, .unset] [(.double (own_r_rm2 x19 x30 x41 x52))])) st54 ?_
  have e58 : T54.heap = h0 := Kq56
  have A59 := (⟨X54, hx, hby⟩ : Ax _ _ _ _ _ _ _ _ _ _ _ _ _ _ _)
  obtain ⟨r60, hr60⟩ : ∃ z : UInt64, z = (own_r_rm2 x19 x30 x41 x52) := ⟨_, rfl⟩
  rw [← hr60]
  by_cases za : FP.dcmp x19 (0 : UInt64) = some .eq
  · skip
    by_cases zb : FP.dcmp x30 (0 : UInt64) = some .eq
    · skip
      by_cases zc : FP.dcmp x41 (0 : UInt64) = some .eq
      · skip
        by_cases zd : FP.dcmp x52 (0 : UInt64) = some .eq
        · skip
          have e61 : r60 = x52 := by rw [hr60, own_r_rm2, if_pos za, if_pos zb, if_pos zc]
          rw [e61]
          refine g_dstore A59 at_84 (ls' := #[.val (.int p0), .val (.int p1), .val (.int p2), .val (.int p3), .val (.int p4), .val (.double x19), .second, .val (.double x30), .second, .val (.double x41), .second, .val (.double x52), .second, .val (.double x52), .second, .unset, .unset, .unset, .unset, .unset, .unset, .unset, .unset, .unset]) rfl (pc' := 86) rfl ?_
          refine g_dload A59 at_86 rfl (pc' := 88) rfl ?_
          refine g_dconst0 A59 at_88 (pc' := 89) rfl ?_
          refine g_dcmp A59 at_89 (pc' := 90) rfl ?_
          refine g_ifN A59 at_90 (d_l_ne_f za) (pc' := 93) rfl ?_
          refine g_iconst A59 at_93 (v := (1 : Int32)) rfl (pc' := 94) rfl ?_
          refine g_goto A59 at_94 (pc' := 98) rfl ?_
          refine g_istore A59 at_98 (ls' := #[.val (.int p0), .val (.int p1), .val (.int p2), .val (.int p3), .val (.int p4), .val (.double x19), .second, .val (.double x30), .second, .val (.double x41), .second, .val (.double x52), .second, .val (.double x52), .second, .val (.int (1 : Int32)), .unset, .unset, .unset, .unset, .unset, .unset, .unset, .unset]) rfl (pc' := 100) rfl ?_
          refine g_dload A59 at_100 rfl (pc' := 102) rfl ?_
          refine g_dconst0 A59 at_102 (pc' := 103) rfl ?_
          refine g_dcmp A59 at_103 (pc' := 104) rfl ?_
          refine g_ifN A59 at_104 (d_l_ne_f zb) (pc' := 107) rfl ?_
          refine g_iconst A59 at_107 (v := (1 : Int32)) rfl (pc' := 108) rfl ?_
          refine g_goto A59 at_108 (pc' := 112) rfl ?_
          refine g_istore A59 at_112 (ls' := #[.val (.int p0), .val (.int p1), .val (.int p2), .val (.int p3), .val (.int p4), .val (.double x19), .second, .val (.double x30), .second, .val (.double x41), .second, .val (.double x52), .second, .val (.double x52), .second, .val (.int (1 : Int32)), .val (.int (1 : Int32)), .unset, .unset, .unset, .unset, .unset, .unset, .unset]) rfl (pc' := 114) rfl ?_
          refine g_dload A59 at_114 rfl (pc' := 116) rfl ?_
          refine g_dconst0 A59 at_116 (pc' := 117) rfl ?_
          refine g_dcmp A59 at_117 (pc' := 118) rfl ?_
          refine g_ifN A59 at_118 (d_l_ne_f zc) (pc' := 121) rfl ?_
          refine g_iconst A59 at_121 (v := (1 : Int32)) rfl (pc' := 122) rfl ?_
          refine g_goto A59 at_122 (pc' := 126) rfl ?_
          refine g_istore A59 at_126 (ls' := #[.val (.int p0), .val (.int p1), .val (.int p2), .val (.int p3), .val (.int p4), .val (.double x19), .second, .val (.double x30), .second, .val (.double x41), .second, .val (.double x52), .second, .val (.double x52), .second, .val (.int (1 : Int32)), .val (.int (1 : Int32)), .val (.int (1 : Int32)), .unset, .unset, .unset, .unset, .unset, .unset]) rfl (pc' := 128) rfl ?_
          refine g_dload A59 at_128 rfl (pc' := 130) rfl ?_
          refine g_dconst0 A59 at_130 (pc' := 131) rfl ?_
          refine g_dcmp A59 at_131 (pc' := 132) rfl ?_
          refine g_ifN A59 at_132 (d_l_ne_f zd) (pc' := 135) rfl ?_
          refine g_iconst A59 at_135 (v := (1 : Int32)) rfl (pc' := 136) rfl ?_
          refine g_goto A59 at_136 (pc' := 140) rfl ?_
          refine g_istore A59 at_140 (ls' := #[.val (.int p0), .val (.int p1), .val (.int p2), .val (.int p3), .val (.int p4), .val (.double x19), .second, .val (.double x30), .second, .val (.double x41), .second, .val (.double x52), .second, .val (.double x52), .second, .val (.int (1 : Int32)), .val (.int (1 : Int32)), .val (.int (1 : Int32)), .val (.int (1 : Int32)), .unset, .unset, .unset, .unset, .unset]) rfl (pc' := 142) rfl ?_
          refine g_iload A59 at_142 rfl (pc' := 144) rfl ?_
          refine g_ifY A59 at_144 (c0_ne_t (by decide)) (pc' := 155) rfl ?_
          refine g_iconst A59 at_155 (v := (1 : Int32)) rfl (pc' := 156) rfl ?_
          refine g_goto A59 at_156 (pc' := 160) rfl ?_
          refine g_istore A59 at_160 (ls' := #[.val (.int p0), .val (.int p1), .val (.int p2), .val (.int p3), .val (.int p4), .val (.double x19), .second, .val (.double x30), .second, .val (.double x41), .second, .val (.double x52), .second, .val (.double x52), .second, .val (.int (1 : Int32)), .val (.int (1 : Int32)), .val (.int (1 : Int32)), .val (.int (1 : Int32)), .val (.int (1 : Int32)), .unset, .unset, .unset, .unset]) rfl (pc' := 162) rfl ?_
          refine g_iload A59 at_162 rfl (pc' := 164) rfl ?_
          refine g_ifN A59 at_164 (c0_eq_f (by decide)) (pc' := 167) rfl ?_
          refine g_iload A59 at_167 rfl (pc' := 169) rfl ?_
          refine g_ifY A59 at_169 (c0_ne_t (by decide)) (pc' := 180) rfl ?_
          refine g_iconst A59 at_180 (v := (1 : Int32)) rfl (pc' := 181) rfl ?_
          refine g_goto A59 at_181 (pc' := 185) rfl ?_
          refine g_istore A59 at_185 (ls' := #[.val (.int p0), .val (.int p1), .val (.int p2), .val (.int p3), .val (.int p4), .val (.double x19), .second, .val (.double x30), .second, .val (.double x41), .second, .val (.double x52), .second, .val (.double x52), .second, .val (.int (1 : Int32)), .val (.int (1 : Int32)), .val (.int (1 : Int32)), .val (.int (1 : Int32)), .val (.int (1 : Int32)), .val (.int (1 : Int32)), .unset, .unset, .unset]) rfl (pc' := 187) rfl ?_
          refine g_iload A59 at_187 rfl (pc' := 189) rfl ?_
          refine g_ifN A59 at_189 (c0_eq_f (by decide)) (pc' := 192) rfl ?_
          refine g_iload A59 at_192 rfl (pc' := 194) rfl ?_
          refine g_ifN A59 at_194 (c0_eq_f (by decide)) (pc' := 197) rfl ?_
          refine g_iload A59 at_197 rfl (pc' := 199) rfl ?_
          refine g_ifY A59 at_199 (c0_ne_t (by decide)) (pc' := 210) rfl ?_
          refine g_iconst A59 at_210 (v := (1 : Int32)) rfl (pc' := 211) rfl ?_
          refine g_goto A59 at_211 (pc' := 215) rfl ?_
          refine g_istore A59 at_215 (ls' := #[.val (.int p0), .val (.int p1), .val (.int p2), .val (.int p3), .val (.int p4), .val (.double x19), .second, .val (.double x30), .second, .val (.double x41), .second, .val (.double x52), .second, .val (.double x52), .second, .val (.int (1 : Int32)), .val (.int (1 : Int32)), .val (.int (1 : Int32)), .val (.int (1 : Int32)), .val (.int (1 : Int32)), .val (.int (1 : Int32)), .val (.int (1 : Int32)), .unset, .unset]) rfl (pc' := 217) rfl ?_
          refine g_iload A59 at_217 rfl (pc' := 219) rfl ?_
          refine g_ifN A59 at_219 (c0_eq_f (by decide)) (pc' := 222) rfl ?_
          refine g_iload A59 at_222 rfl (pc' := 224) rfl ?_
          refine g_ifN A59 at_224 (c0_eq_f (by decide)) (pc' := 227) rfl ?_
          refine g_iload A59 at_227 rfl (pc' := 229) rfl ?_
          refine g_ifN A59 at_229 (c0_eq_f (by decide)) (pc' := 232) rfl ?_
          refine g_dload A59 at_232 rfl (pc' := 234) rfl ?_
          refine g_dload A59 at_234 rfl (pc' := 236) rfl ?_
          refine g_dcmp A59 at_236 (pc' := 237) rfl ?_
          refine g_ifN A59 at_237 (d_l_ne_f (own_self f53)) (pc' := 240) rfl ?_
          refine g_iconst A59 at_240 (v := (1 : Int32)) rfl (pc' := 241) rfl ?_
          refine g_goto A59 at_241 (pc' := 245) rfl ?_
          refine g_istore A59 at_245 (ls' := #[.val (.int p0), .val (.int p1), .val (.int p2), .val (.int p3), .val (.int p4), .val (.double x19), .second, .val (.double x30), .second, .val (.double x41), .second, .val (.double x52), .second, .val (.double x52), .second, .val (.int (1 : Int32)), .val (.int (1 : Int32)), .val (.int (1 : Int32)), .val (.int (1 : Int32)), .val (.int (1 : Int32)), .val (.int (1 : Int32)), .val (.int (1 : Int32)), .val (.int (1 : Int32)), .unset]) rfl (pc' := 247) rfl ?_
          refine g_dload A59 at_247 rfl (pc' := 249) rfl ?_
          refine g_dconst0 A59 at_249 (pc' := 250) rfl ?_
          refine g_dcmp A59 at_250 (pc' := 251) rfl ?_
          refine g_ifY A59 at_251 (d_l_eq_t zd) (pc' := 258) rfl ?_
          refine g_iconst A59 at_258 (v := (0 : Int32)) rfl (pc' := 259) rfl ?_
          refine g_iload A59 at_259 rfl (pc' := 261) rfl ?_
          refine g_ifN A59 at_261 (c0_eq_f (by decide)) (pc' := 264) rfl ?_
          refine g_iload A59 at_264 rfl (pc' := 266) rfl ?_
          refine g_ifN A59 at_266 (c0_eq_f (by decide)) (pc' := 269) rfl ?_
          refine g_iload A59 at_269 rfl (pc' := 271) rfl ?_
          refine g_ifN A59 at_271 (c0_eq_f (by decide)) (pc' := 274) rfl ?_
          refine g_iload A59 at_274 rfl (pc' := 276) rfl ?_
          refine g_ifY A59 at_276 (c0_ne_t (by decide)) (pc' := 283) rfl ?_
          refine g_iconst A59 at_283 (v := (0 : Int32)) rfl (pc' := 284) rfl ?_
          refine g_icN A59 at_284 (c2_ne_f rfl) (pc' := 287) rfl ?_
          refine g_iconst A59 at_287 (v := (1 : Int32)) rfl (pc' := 288) rfl ?_
          refine g_goto A59 at_288 (pc' := 292) rfl ?_
          refine g_istore A59 at_292 (ls' := #[.val (.int p0), .val (.int p1), .val (.int p2), .val (.int p3), .val (.int p4), .val (.double x19), .second, .val (.double x30), .second, .val (.double x41), .second, .val (.double x52), .second, .val (.double x52), .second, .val (.int (1 : Int32)), .val (.int (1 : Int32)), .val (.int (1 : Int32)), .val (.int (1 : Int32)), .val (.int (1 : Int32)), .val (.int (1 : Int32)), .val (.int (1 : Int32)), .val (.int (1 : Int32)), .val (.int (1 : Int32))]) rfl (pc' := 294) rfl ?_
          refine g_iload A59 at_294 rfl (pc' := 296) rfl ?_
          refine g_ifN A59 at_296 (c0_eq_f (by decide)) (pc' := 299) rfl ?_
          refine g_iload A59 at_299 rfl (pc' := 301) rfl ?_
          refine g_ifN A59 at_301 (c0_eq_f (by decide)) (pc' := 304) rfl ?_
          refine g_iload A59 at_304 rfl (pc' := 306) rfl ?_
          refine g_ifN A59 at_306 (c0_eq_f (by decide)) (pc' := 309) rfl ?_
          refine g_iload A59 at_309 rfl (pc' := 311) rfl ?_
          refine g_ifN A59 at_311 (c0_eq_f (by decide)) (pc' := 314) rfl ?_
          refine g_iload A59 at_314 rfl (pc' := 316) rfl ?_
          refine g_ifN A59 at_316 (c0_eq_f (by decide)) (pc' := 319) rfl ?_
          refine g_iconst A59 at_319 (v := (1 : Int32)) rfl (pc' := 320) rfl ?_
          refine g_goto A59 at_320 (pc' := 324) rfl ?_
          exact g_ret (Q := Q0 Z p0 p1 p2 p3 p4 h0 n0) A59 at_324 Bd.notSynchronized Bd.returns rfl (Or.inl ⟨rfl, by simp, _, rfl⟩) (by decide) (by decide) (by rw [e58]; exact ⟨rfl, N57⟩)
        · skip
          have e62 : r60 = x52 := by rw [hr60, own_r_rm2, if_pos za, if_pos zb, if_pos zc]
          rw [e62]
          refine g_dstore A59 at_84 (ls' := #[.val (.int p0), .val (.int p1), .val (.int p2), .val (.int p3), .val (.int p4), .val (.double x19), .second, .val (.double x30), .second, .val (.double x41), .second, .val (.double x52), .second, .val (.double x52), .second, .unset, .unset, .unset, .unset, .unset, .unset, .unset, .unset, .unset]) rfl (pc' := 86) rfl ?_
          refine g_dload A59 at_86 rfl (pc' := 88) rfl ?_
          refine g_dconst0 A59 at_88 (pc' := 89) rfl ?_
          refine g_dcmp A59 at_89 (pc' := 90) rfl ?_
          refine g_ifN A59 at_90 (d_l_ne_f za) (pc' := 93) rfl ?_
          refine g_iconst A59 at_93 (v := (1 : Int32)) rfl (pc' := 94) rfl ?_
          refine g_goto A59 at_94 (pc' := 98) rfl ?_
          refine g_istore A59 at_98 (ls' := #[.val (.int p0), .val (.int p1), .val (.int p2), .val (.int p3), .val (.int p4), .val (.double x19), .second, .val (.double x30), .second, .val (.double x41), .second, .val (.double x52), .second, .val (.double x52), .second, .val (.int (1 : Int32)), .unset, .unset, .unset, .unset, .unset, .unset, .unset, .unset]) rfl (pc' := 100) rfl ?_
          refine g_dload A59 at_100 rfl (pc' := 102) rfl ?_
          refine g_dconst0 A59 at_102 (pc' := 103) rfl ?_
          refine g_dcmp A59 at_103 (pc' := 104) rfl ?_
          refine g_ifN A59 at_104 (d_l_ne_f zb) (pc' := 107) rfl ?_
          refine g_iconst A59 at_107 (v := (1 : Int32)) rfl (pc' := 108) rfl ?_
          refine g_goto A59 at_108 (pc' := 112) rfl ?_
          refine g_istore A59 at_112 (ls' := #[.val (.int p0), .val (.int p1), .val (.int p2), .val (.int p3), .val (.int p4), .val (.double x19), .second, .val (.double x30), .second, .val (.double x41), .second, .val (.double x52), .second, .val (.double x52), .second, .val (.int (1 : Int32)), .val (.int (1 : Int32)), .unset, .unset, .unset, .unset, .unset, .unset, .unset]) rfl (pc' := 114) rfl ?_
          refine g_dload A59 at_114 rfl (pc' := 116) rfl ?_
          refine g_dconst0 A59 at_116 (pc' := 117) rfl ?_
          refine g_dcmp A59 at_117 (pc' := 118) rfl ?_
          refine g_ifN A59 at_118 (d_l_ne_f zc) (pc' := 121) rfl ?_
          refine g_iconst A59 at_121 (v := (1 : Int32)) rfl (pc' := 122) rfl ?_
          refine g_goto A59 at_122 (pc' := 126) rfl ?_
          refine g_istore A59 at_126 (ls' := #[.val (.int p0), .val (.int p1), .val (.int p2), .val (.int p3), .val (.int p4), .val (.double x19), .second, .val (.double x30), .second, .val (.double x41), .second, .val (.double x52), .second, .val (.double x52), .second, .val (.int (1 : Int32)), .val (.int (1 : Int32)), .val (.int (1 : Int32)), .unset, .unset, .unset, .unset, .unset, .unset]) rfl (pc' := 128) rfl ?_
          refine g_dload A59 at_128 rfl (pc' := 130) rfl ?_
          refine g_dconst0 A59 at_130 (pc' := 131) rfl ?_
          refine g_dcmp A59 at_131 (pc' := 132) rfl ?_
          refine g_ifY A59 at_132 (d_l_ne_t zd) (pc' := 139) rfl ?_
          refine g_iconst A59 at_139 (v := (0 : Int32)) rfl (pc' := 140) rfl ?_
          refine g_istore A59 at_140 (ls' := #[.val (.int p0), .val (.int p1), .val (.int p2), .val (.int p3), .val (.int p4), .val (.double x19), .second, .val (.double x30), .second, .val (.double x41), .second, .val (.double x52), .second, .val (.double x52), .second, .val (.int (1 : Int32)), .val (.int (1 : Int32)), .val (.int (1 : Int32)), .val (.int (0 : Int32)), .unset, .unset, .unset, .unset, .unset]) rfl (pc' := 142) rfl ?_
          refine g_iload A59 at_142 rfl (pc' := 144) rfl ?_
          refine g_ifY A59 at_144 (c0_ne_t (by decide)) (pc' := 155) rfl ?_
          refine g_iconst A59 at_155 (v := (1 : Int32)) rfl (pc' := 156) rfl ?_
          refine g_goto A59 at_156 (pc' := 160) rfl ?_
          refine g_istore A59 at_160 (ls' := #[.val (.int p0), .val (.int p1), .val (.int p2), .val (.int p3), .val (.int p4), .val (.double x19), .second, .val (.double x30), .second, .val (.double x41), .second, .val (.double x52), .second, .val (.double x52), .second, .val (.int (1 : Int32)), .val (.int (1 : Int32)), .val (.int (1 : Int32)), .val (.int (0 : Int32)), .val (.int (1 : Int32)), .unset, .unset, .unset, .unset]) rfl (pc' := 162) rfl ?_
          refine g_iload A59 at_162 rfl (pc' := 164) rfl ?_
          refine g_ifN A59 at_164 (c0_eq_f (by decide)) (pc' := 167) rfl ?_
          refine g_iload A59 at_167 rfl (pc' := 169) rfl ?_
          refine g_ifY A59 at_169 (c0_ne_t (by decide)) (pc' := 180) rfl ?_
          refine g_iconst A59 at_180 (v := (1 : Int32)) rfl (pc' := 181) rfl ?_
          refine g_goto A59 at_181 (pc' := 185) rfl ?_
          refine g_istore A59 at_185 (ls' := #[.val (.int p0), .val (.int p1), .val (.int p2), .val (.int p3), .val (.int p4), .val (.double x19), .second, .val (.double x30), .second, .val (.double x41), .second, .val (.double x52), .second, .val (.double x52), .second, .val (.int (1 : Int32)), .val (.int (1 : Int32)), .val (.int (1 : Int32)), .val (.int (0 : Int32)), .val (.int (1 : Int32)), .val (.int (1 : Int32)), .unset, .unset, .unset]) rfl (pc' := 187) rfl ?_
          refine g_iload A59 at_187 rfl (pc' := 189) rfl ?_
          refine g_ifN A59 at_189 (c0_eq_f (by decide)) (pc' := 192) rfl ?_
          refine g_iload A59 at_192 rfl (pc' := 194) rfl ?_
          refine g_ifN A59 at_194 (c0_eq_f (by decide)) (pc' := 197) rfl ?_
          refine g_iload A59 at_197 rfl (pc' := 199) rfl ?_
          refine g_ifY A59 at_199 (c0_ne_t (by decide)) (pc' := 210) rfl ?_
          refine g_iconst A59 at_210 (v := (1 : Int32)) rfl (pc' := 211) rfl ?_
          refine g_goto A59 at_211 (pc' := 215) rfl ?_
          refine g_istore A59 at_215 (ls' := #[.val (.int p0), .val (.int p1), .val (.int p2), .val (.int p3), .val (.int p4), .val (.double x19), .second, .val (.double x30), .second, .val (.double x41), .second, .val (.double x52), .second, .val (.double x52), .second, .val (.int (1 : Int32)), .val (.int (1 : Int32)), .val (.int (1 : Int32)), .val (.int (0 : Int32)), .val (.int (1 : Int32)), .val (.int (1 : Int32)), .val (.int (1 : Int32)), .unset, .unset]) rfl (pc' := 217) rfl ?_
          refine g_iload A59 at_217 rfl (pc' := 219) rfl ?_
          refine g_ifN A59 at_219 (c0_eq_f (by decide)) (pc' := 222) rfl ?_
          refine g_iload A59 at_222 rfl (pc' := 224) rfl ?_
          refine g_ifN A59 at_224 (c0_eq_f (by decide)) (pc' := 227) rfl ?_
          refine g_iload A59 at_227 rfl (pc' := 229) rfl ?_
          refine g_ifN A59 at_229 (c0_eq_f (by decide)) (pc' := 232) rfl ?_
          refine g_dload A59 at_232 rfl (pc' := 234) rfl ?_
          refine g_dload A59 at_234 rfl (pc' := 236) rfl ?_
          refine g_dcmp A59 at_236 (pc' := 237) rfl ?_
          refine g_ifN A59 at_237 (d_l_ne_f (own_self f53)) (pc' := 240) rfl ?_
          refine g_iconst A59 at_240 (v := (1 : Int32)) rfl (pc' := 241) rfl ?_
          refine g_goto A59 at_241 (pc' := 245) rfl ?_
          refine g_istore A59 at_245 (ls' := #[.val (.int p0), .val (.int p1), .val (.int p2), .val (.int p3), .val (.int p4), .val (.double x19), .second, .val (.double x30), .second, .val (.double x41), .second, .val (.double x52), .second, .val (.double x52), .second, .val (.int (1 : Int32)), .val (.int (1 : Int32)), .val (.int (1 : Int32)), .val (.int (0 : Int32)), .val (.int (1 : Int32)), .val (.int (1 : Int32)), .val (.int (1 : Int32)), .val (.int (1 : Int32)), .unset]) rfl (pc' := 247) rfl ?_
          refine g_dload A59 at_247 rfl (pc' := 249) rfl ?_
          refine g_dconst0 A59 at_249 (pc' := 250) rfl ?_
          refine g_dcmp A59 at_250 (pc' := 251) rfl ?_
          refine g_ifN A59 at_251 (d_l_eq_f zd) (pc' := 254) rfl ?_
          refine g_iconst A59 at_254 (v := (1 : Int32)) rfl (pc' := 255) rfl ?_
          refine g_goto A59 at_255 (pc' := 259) rfl ?_
          refine g_iload A59 at_259 rfl (pc' := 261) rfl ?_
          refine g_ifN A59 at_261 (c0_eq_f (by decide)) (pc' := 264) rfl ?_
          refine g_iload A59 at_264 rfl (pc' := 266) rfl ?_
          refine g_ifN A59 at_266 (c0_eq_f (by decide)) (pc' := 269) rfl ?_
          refine g_iload A59 at_269 rfl (pc' := 271) rfl ?_
          refine g_ifN A59 at_271 (c0_eq_f (by decide)) (pc' := 274) rfl ?_
          refine g_iload A59 at_274 rfl (pc' := 276) rfl ?_
          refine g_ifN A59 at_276 (c0_ne_f (by decide)) (pc' := 279) rfl ?_
          refine g_iconst A59 at_279 (v := (1 : Int32)) rfl (pc' := 280) rfl ?_
          refine g_goto A59 at_280 (pc' := 284) rfl ?_
          refine g_icN A59 at_284 (c2_ne_f rfl) (pc' := 287) rfl ?_
          refine g_iconst A59 at_287 (v := (1 : Int32)) rfl (pc' := 288) rfl ?_
          refine g_goto A59 at_288 (pc' := 292) rfl ?_
          refine g_istore A59 at_292 (ls' := #[.val (.int p0), .val (.int p1), .val (.int p2), .val (.int p3), .val (.int p4), .val (.double x19), .second, .val (.double x30), .second, .val (.double x41), .second, .val (.double x52), .second, .val (.double x52), .second, .val (.int (1 : Int32)), .val (.int (1 : Int32)), .val (.int (1 : Int32)), .val (.int (0 : Int32)), .val (.int (1 : Int32)), .val (.int (1 : Int32)), .val (.int (1 : Int32)), .val (.int (1 : Int32)), .val (.int (1 : Int32))]) rfl (pc' := 294) rfl ?_
          refine g_iload A59 at_294 rfl (pc' := 296) rfl ?_
          refine g_ifN A59 at_296 (c0_eq_f (by decide)) (pc' := 299) rfl ?_
          refine g_iload A59 at_299 rfl (pc' := 301) rfl ?_
          refine g_ifN A59 at_301 (c0_eq_f (by decide)) (pc' := 304) rfl ?_
          refine g_iload A59 at_304 rfl (pc' := 306) rfl ?_
          refine g_ifN A59 at_306 (c0_eq_f (by decide)) (pc' := 309) rfl ?_
          refine g_iload A59 at_309 rfl (pc' := 311) rfl ?_
          refine g_ifN A59 at_311 (c0_eq_f (by decide)) (pc' := 314) rfl ?_
          refine g_iload A59 at_314 rfl (pc' := 316) rfl ?_
          refine g_ifN A59 at_316 (c0_eq_f (by decide)) (pc' := 319) rfl ?_
          refine g_iconst A59 at_319 (v := (1 : Int32)) rfl (pc' := 320) rfl ?_
          refine g_goto A59 at_320 (pc' := 324) rfl ?_
          exact g_ret (Q := Q0 Z p0 p1 p2 p3 p4 h0 n0) A59 at_324 Bd.notSynchronized Bd.returns rfl (Or.inl ⟨rfl, by simp, _, rfl⟩) (by decide) (by decide) (by rw [e58]; exact ⟨rfl, N57⟩)
      · skip
        have e63 : r60 = x41 := by rw [hr60, own_r_rm2, if_pos za, if_pos zb, if_neg zc]
        rw [e63]
        refine g_dstore A59 at_84 (ls' := #[.val (.int p0), .val (.int p1), .val (.int p2), .val (.int p3), .val (.int p4), .val (.double x19), .second, .val (.double x30), .second, .val (.double x41), .second, .val (.double x52), .second, .val (.double x41), .second, .unset, .unset, .unset, .unset, .unset, .unset, .unset, .unset, .unset]) rfl (pc' := 86) rfl ?_
        refine g_dload A59 at_86 rfl (pc' := 88) rfl ?_
        refine g_dconst0 A59 at_88 (pc' := 89) rfl ?_
        refine g_dcmp A59 at_89 (pc' := 90) rfl ?_
        refine g_ifN A59 at_90 (d_l_ne_f za) (pc' := 93) rfl ?_
        refine g_iconst A59 at_93 (v := (1 : Int32)) rfl (pc' := 94) rfl ?_
        refine g_goto A59 at_94 (pc' := 98) rfl ?_
        refine g_istore A59 at_98 (ls' := #[.val (.int p0), .val (.int p1), .val (.int p2), .val (.int p3), .val (.int p4), .val (.double x19), .second, .val (.double x30), .second, .val (.double x41), .second, .val (.double x52), .second, .val (.double x41), .second, .val (.int (1 : Int32)), .unset, .unset, .unset, .unset, .unset, .unset, .unset, .unset]) rfl (pc' := 100) rfl ?_
        refine g_dload A59 at_100 rfl (pc' := 102) rfl ?_
        refine g_dconst0 A59 at_102 (pc' := 103) rfl ?_
        refine g_dcmp A59 at_103 (pc' := 104) rfl ?_
        refine g_ifN A59 at_104 (d_l_ne_f zb) (pc' := 107) rfl ?_
        refine g_iconst A59 at_107 (v := (1 : Int32)) rfl (pc' := 108) rfl ?_
        refine g_goto A59 at_108 (pc' := 112) rfl ?_
        refine g_istore A59 at_112 (ls' := #[.val (.int p0), .val (.int p1), .val (.int p2), .val (.int p3), .val (.int p4), .val (.double x19), .second, .val (.double x30), .second, .val (.double x41), .second, .val (.double x52), .second, .val (.double x41), .second, .val (.int (1 : Int32)), .val (.int (1 : Int32)), .unset, .unset, .unset, .unset, .unset, .unset, .unset]) rfl (pc' := 114) rfl ?_
        refine g_dload A59 at_114 rfl (pc' := 116) rfl ?_
        refine g_dconst0 A59 at_116 (pc' := 117) rfl ?_
        refine g_dcmp A59 at_117 (pc' := 118) rfl ?_
        refine g_ifY A59 at_118 (d_l_ne_t zc) (pc' := 125) rfl ?_
        refine g_iconst A59 at_125 (v := (0 : Int32)) rfl (pc' := 126) rfl ?_
        refine g_istore A59 at_126 (ls' := #[.val (.int p0), .val (.int p1), .val (.int p2), .val (.int p3), .val (.int p4), .val (.double x19), .second, .val (.double x30), .second, .val (.double x41), .second, .val (.double x52), .second, .val (.double x41), .second, .val (.int (1 : Int32)), .val (.int (1 : Int32)), .val (.int (0 : Int32)), .unset, .unset, .unset, .unset, .unset, .unset]) rfl (pc' := 128) rfl ?_
        refine g_dload A59 at_128 rfl (pc' := 130) rfl ?_
        refine g_dconst0 A59 at_130 (pc' := 131) rfl ?_
        refine g_dcmp A59 at_131 (pc' := 132) rfl ?_
        obtain ⟨v64, hv64⟩ : ∃ z : Int32, z = if FP.dcmp x52 (0 : UInt64) = some .eq then (1 : Int32) else 0 := ⟨_, rfl⟩
        have sg65 : ∀ {P : State → Outcome → Prop}, Go p e below P T54 (mkF m 140 #[.val (.int p0), .val (.int p1), .val (.int p2), .val (.int p3), .val (.int p4), .val (.double x19), .second, .val (.double x30), .second, .val (.double x41), .second, .val (.double x52), .second, .val (.double x41), .second, .val (.int (1 : Int32)), .val (.int (1 : Int32)), .val (.int (0 : Int32)), .unset, .unset, .unset, .unset, .unset, .unset] [(.int v64)]) → Go p e below P T54 (mkF m 132 #[.val (.int p0), .val (.int p1), .val (.int p2), .val (.int p3), .val (.int p4), .val (.double x19), .second, .val (.double x30), .second, .val (.double x41), .second, .val (.double x52), .second, .val (.double x41), .second, .val (.int (1 : Int32)), .val (.int (1 : Int32)), .val (.int (0 : Int32)), .unset, .unset, .unset, .unset, .unset, .unset] [(.int (cmpValue (FP.dcmp x52 (0 : UInt64)) .l))]) := by
          intro P hr
          by_cases c66 : FP.dcmp x52 (0 : UInt64) = some .eq
          · skip
            refine g_ifN A59 at_132 (d_l_ne_f c66) (pc' := 135) rfl ?_
            refine g_iconst A59 at_135 (v := (1 : Int32)) rfl (pc' := 136) rfl ?_
            refine g_goto A59 at_136 (pc' := 140) rfl ?_
            obtain rfl : v64 = (1 : Int32) := hv64.trans (if_pos c66)
            exact hr
          · skip
            refine g_ifY A59 at_132 (d_l_ne_t c66) (pc' := 139) rfl ?_
            refine g_iconst A59 at_139 (v := (0 : Int32)) rfl (pc' := 140) rfl ?_
            obtain rfl : v64 = (0 : Int32) := hv64.trans (if_neg c66)
            exact hr
        refine sg65 ?_
        refine g_istore A59 at_140 (ls' := #[.val (.int p0), .val (.int p1), .val (.int p2), .val (.int p3), .val (.int p4), .val (.double x19), .second, .val (.double x30), .second, .val (.double x41), .second, .val (.double x52), .second, .val (.double x41), .second, .val (.int (1 : Int32)), .val (.int (1 : Int32)), .val (.int (0 : Int32)), .val (.int v64), .unset, .unset, .unset, .unset, .unset]) rfl (pc' := 142) rfl ?_
        refine g_iload A59 at_142 rfl (pc' := 144) rfl ?_
        refine g_ifY A59 at_144 (c0_ne_t (by decide)) (pc' := 155) rfl ?_
        refine g_iconst A59 at_155 (v := (1 : Int32)) rfl (pc' := 156) rfl ?_
        refine g_goto A59 at_156 (pc' := 160) rfl ?_
        refine g_istore A59 at_160 (ls' := #[.val (.int p0), .val (.int p1), .val (.int p2), .val (.int p3), .val (.int p4), .val (.double x19), .second, .val (.double x30), .second, .val (.double x41), .second, .val (.double x52), .second, .val (.double x41), .second, .val (.int (1 : Int32)), .val (.int (1 : Int32)), .val (.int (0 : Int32)), .val (.int v64), .val (.int (1 : Int32)), .unset, .unset, .unset, .unset]) rfl (pc' := 162) rfl ?_
        refine g_iload A59 at_162 rfl (pc' := 164) rfl ?_
        refine g_ifN A59 at_164 (c0_eq_f (by decide)) (pc' := 167) rfl ?_
        refine g_iload A59 at_167 rfl (pc' := 169) rfl ?_
        refine g_ifY A59 at_169 (c0_ne_t (by decide)) (pc' := 180) rfl ?_
        refine g_iconst A59 at_180 (v := (1 : Int32)) rfl (pc' := 181) rfl ?_
        refine g_goto A59 at_181 (pc' := 185) rfl ?_
        refine g_istore A59 at_185 (ls' := #[.val (.int p0), .val (.int p1), .val (.int p2), .val (.int p3), .val (.int p4), .val (.double x19), .second, .val (.double x30), .second, .val (.double x41), .second, .val (.double x52), .second, .val (.double x41), .second, .val (.int (1 : Int32)), .val (.int (1 : Int32)), .val (.int (0 : Int32)), .val (.int v64), .val (.int (1 : Int32)), .val (.int (1 : Int32)), .unset, .unset, .unset]) rfl (pc' := 187) rfl ?_
        refine g_iload A59 at_187 rfl (pc' := 189) rfl ?_
        refine g_ifN A59 at_189 (c0_eq_f (by decide)) (pc' := 192) rfl ?_
        refine g_iload A59 at_192 rfl (pc' := 194) rfl ?_
        refine g_ifN A59 at_194 (c0_eq_f (by decide)) (pc' := 197) rfl ?_
        refine g_iload A59 at_197 rfl (pc' := 199) rfl ?_
        refine g_ifN A59 at_199 (c0_ne_f (by decide)) (pc' := 202) rfl ?_
        refine g_dload A59 at_202 rfl (pc' := 204) rfl ?_
        refine g_dload A59 at_204 rfl (pc' := 206) rfl ?_
        refine g_dcmp A59 at_206 (pc' := 207) rfl ?_
        refine g_ifN A59 at_207 (d_l_ne_f (own_self f42)) (pc' := 210) rfl ?_
        refine g_iconst A59 at_210 (v := (1 : Int32)) rfl (pc' := 211) rfl ?_
        refine g_goto A59 at_211 (pc' := 215) rfl ?_
        refine g_istore A59 at_215 (ls' := #[.val (.int p0), .val (.int p1), .val (.int p2), .val (.int p3), .val (.int p4), .val (.double x19), .second, .val (.double x30), .second, .val (.double x41), .second, .val (.double x52), .second, .val (.double x41), .second, .val (.int (1 : Int32)), .val (.int (1 : Int32)), .val (.int (0 : Int32)), .val (.int v64), .val (.int (1 : Int32)), .val (.int (1 : Int32)), .val (.int (1 : Int32)), .unset, .unset]) rfl (pc' := 217) rfl ?_
        refine g_iload A59 at_217 rfl (pc' := 219) rfl ?_
        refine g_ifN A59 at_219 (c0_eq_f (by decide)) (pc' := 222) rfl ?_
        refine g_iload A59 at_222 rfl (pc' := 224) rfl ?_
        refine g_ifN A59 at_224 (c0_eq_f (by decide)) (pc' := 227) rfl ?_
        refine g_iload A59 at_227 rfl (pc' := 229) rfl ?_
        refine g_ifY A59 at_229 (c0_eq_t (by decide)) (pc' := 240) rfl ?_
        refine g_iconst A59 at_240 (v := (1 : Int32)) rfl (pc' := 241) rfl ?_
        refine g_goto A59 at_241 (pc' := 245) rfl ?_
        refine g_istore A59 at_245 (ls' := #[.val (.int p0), .val (.int p1), .val (.int p2), .val (.int p3), .val (.int p4), .val (.double x19), .second, .val (.double x30), .second, .val (.double x41), .second, .val (.double x52), .second, .val (.double x41), .second, .val (.int (1 : Int32)), .val (.int (1 : Int32)), .val (.int (0 : Int32)), .val (.int v64), .val (.int (1 : Int32)), .val (.int (1 : Int32)), .val (.int (1 : Int32)), .val (.int (1 : Int32)), .unset]) rfl (pc' := 247) rfl ?_
        refine g_dload A59 at_247 rfl (pc' := 249) rfl ?_
        refine g_dconst0 A59 at_249 (pc' := 250) rfl ?_
        refine g_dcmp A59 at_250 (pc' := 251) rfl ?_
        refine g_ifN A59 at_251 (d_l_eq_f zc) (pc' := 254) rfl ?_
        refine g_iconst A59 at_254 (v := (1 : Int32)) rfl (pc' := 255) rfl ?_
        refine g_goto A59 at_255 (pc' := 259) rfl ?_
        refine g_iload A59 at_259 rfl (pc' := 261) rfl ?_
        refine g_ifN A59 at_261 (c0_eq_f (by decide)) (pc' := 264) rfl ?_
        refine g_iload A59 at_264 rfl (pc' := 266) rfl ?_
        refine g_ifN A59 at_266 (c0_eq_f (by decide)) (pc' := 269) rfl ?_
        refine g_iload A59 at_269 rfl (pc' := 271) rfl ?_
        refine g_ifY A59 at_271 (c0_eq_t (by decide)) (pc' := 279) rfl ?_
        refine g_iconst A59 at_279 (v := (1 : Int32)) rfl (pc' := 280) rfl ?_
        refine g_goto A59 at_280 (pc' := 284) rfl ?_
        refine g_icN A59 at_284 (c2_ne_f rfl) (pc' := 287) rfl ?_
        refine g_iconst A59 at_287 (v := (1 : Int32)) rfl (pc' := 288) rfl ?_
        refine g_goto A59 at_288 (pc' := 292) rfl ?_
        refine g_istore A59 at_292 (ls' := #[.val (.int p0), .val (.int p1), .val (.int p2), .val (.int p3), .val (.int p4), .val (.double x19), .second, .val (.double x30), .second, .val (.double x41), .second, .val (.double x52), .second, .val (.double x41), .second, .val (.int (1 : Int32)), .val (.int (1 : Int32)), .val (.int (0 : Int32)), .val (.int v64), .val (.int (1 : Int32)), .val (.int (1 : Int32)), .val (.int (1 : Int32)), .val (.int (1 : Int32)), .val (.int (1 : Int32))]) rfl (pc' := 294) rfl ?_
        refine g_iload A59 at_294 rfl (pc' := 296) rfl ?_
        refine g_ifN A59 at_296 (c0_eq_f (by decide)) (pc' := 299) rfl ?_
        refine g_iload A59 at_299 rfl (pc' := 301) rfl ?_
        refine g_ifN A59 at_301 (c0_eq_f (by decide)) (pc' := 304) rfl ?_
        refine g_iload A59 at_304 rfl (pc' := 306) rfl ?_
        refine g_ifN A59 at_306 (c0_eq_f (by decide)) (pc' := 309) rfl ?_
        refine g_iload A59 at_309 rfl (pc' := 311) rfl ?_
        refine g_ifN A59 at_311 (c0_eq_f (by decide)) (pc' := 314) rfl ?_
        refine g_iload A59 at_314 rfl (pc' := 316) rfl ?_
        refine g_ifN A59 at_316 (c0_eq_f (by decide)) (pc' := 319) rfl ?_
        refine g_iconst A59 at_319 (v := (1 : Int32)) rfl (pc' := 320) rfl ?_
        refine g_goto A59 at_320 (pc' := 324) rfl ?_
        exact g_ret (Q := Q0 Z p0 p1 p2 p3 p4 h0 n0) A59 at_324 Bd.notSynchronized Bd.returns rfl (Or.inl ⟨rfl, by simp, _, rfl⟩) (by decide) (by decide) (by rw [e58]; exact ⟨rfl, N57⟩)
    · skip
      have e67 : r60 = x30 := by rw [hr60, own_r_rm2, if_pos za, if_neg zb]
      rw [e67]
      refine g_dstore A59 at_84 (ls' := #[.val (.int p0), .val (.int p1), .val (.int p2), .val (.int p3), .val (.int p4), .val (.double x19), .second, .val (.double x30), .second, .val (.double x41), .second, .val (.double x52), .second, .val (.double x30), .second, .unset, .unset, .unset, .unset, .unset, .unset, .unset, .unset, .unset]) rfl (pc' := 86) rfl ?_
      refine g_dload A59 at_86 rfl (pc' := 88) rfl ?_
      refine g_dconst0 A59 at_88 (pc' := 89) rfl ?_
      refine g_dcmp A59 at_89 (pc' := 90) rfl ?_
      refine g_ifN A59 at_90 (d_l_ne_f za) (pc' := 93) rfl ?_
      refine g_iconst A59 at_93 (v := (1 : Int32)) rfl (pc' := 94) rfl ?_
      refine g_goto A59 at_94 (pc' := 98) rfl ?_
      refine g_istore A59 at_98 (ls' := #[.val (.int p0), .val (.int p1), .val (.int p2), .val (.int p3), .val (.int p4), .val (.double x19), .second, .val (.double x30), .second, .val (.double x41), .second, .val (.double x52), .second, .val (.double x30), .second, .val (.int (1 : Int32)), .unset, .unset, .unset, .unset, .unset, .unset, .unset, .unset]) rfl (pc' := 100) rfl ?_
      refine g_dload A59 at_100 rfl (pc' := 102) rfl ?_
      refine g_dconst0 A59 at_102 (pc' := 103) rfl ?_
      refine g_dcmp A59 at_103 (pc' := 104) rfl ?_
      refine g_ifY A59 at_104 (d_l_ne_t zb) (pc' := 111) rfl ?_
      refine g_iconst A59 at_111 (v := (0 : Int32)) rfl (pc' := 112) rfl ?_
      refine g_istore A59 at_112 (ls' := #[.val (.int p0), .val (.int p1), .val (.int p2), .val (.int p3), .val (.int p4), .val (.double x19), .second, .val (.double x30), .second, .val (.double x41), .second, .val (.double x52), .second, .val (.double x30), .second, .val (.int (1 : Int32)), .val (.int (0 : Int32)), .unset, .unset, .unset, .unset, .unset, .unset, .unset]) rfl (pc' := 114) rfl ?_
      refine g_dload A59 at_114 rfl (pc' := 116) rfl ?_
      refine g_dconst0 A59 at_116 (pc' := 117) rfl ?_
      refine g_dcmp A59 at_117 (pc' := 118) rfl ?_
      obtain ⟨v68, hv68⟩ : ∃ z : Int32, z = if FP.dcmp x41 (0 : UInt64) = some .eq then (1 : Int32) else 0 := ⟨_, rfl⟩
      have sg69 : ∀ {P : State → Outcome → Prop}, Go p e below P T54 (mkF m 126 #[.val (.int p0), .val (.int p1), .val (.int p2), .val (.int p3), .val (.int p4), .val (.double x19), .second, .val (.double x30), .second, .val (.double x41), .second, .val (.double x52), .second, .val (.double x30), .second, .val (.int (1 : Int32)), .val (.int (0 : Int32)), .unset, .unset, .unset, .unset, .unset, .unset, .unset] [(.int v68)]) → Go p e below P T54 (mkF m 118 #[.val (.int p0), .val (.int p1), .val (.int p2), .val (.int p3), .val (.int p4), .val (.double x19), .second, .val (.double x30), .second, .val (.double x41), .second, .val (.double x52), .second, .val (.double x30), .second, .val (.int (1 : Int32)), .val (.int (0 : Int32)), .unset, .unset, .unset, .unset, .unset, .unset, .unset] [(.int (cmpValue (FP.dcmp x41 (0 : UInt64)) .l))]) := by
        intro P hr
        by_cases c70 : FP.dcmp x41 (0 : UInt64) = some .eq
        · skip
          refine g_ifN A59 at_118 (d_l_ne_f c70) (pc' := 121) rfl ?_
          refine g_iconst A59 at_121 (v := (1 : Int32)) rfl (pc' := 122) rfl ?_
          refine g_goto A59 at_122 (pc' := 126) rfl ?_
          obtain rfl : v68 = (1 : Int32) := hv68.trans (if_pos c70)
          exact hr
        · skip
          refine g_ifY A59 at_118 (d_l_ne_t c70) (pc' := 125) rfl ?_
          refine g_iconst A59 at_125 (v := (0 : Int32)) rfl (pc' := 126) rfl ?_
          obtain rfl : v68 = (0 : Int32) := hv68.trans (if_neg c70)
          exact hr
      refine sg69 ?_
      refine g_istore A59 at_126 (ls' := #[.val (.int p0), .val (.int p1), .val (.int p2), .val (.int p3), .val (.int p4), .val (.double x19), .second, .val (.double x30), .second, .val (.double x41), .second, .val (.double x52), .second, .val (.double x30), .second, .val (.int (1 : Int32)), .val (.int (0 : Int32)), .val (.int v68), .unset, .unset, .unset, .unset, .unset, .unset]) rfl (pc' := 128) rfl ?_
      refine g_dload A59 at_128 rfl (pc' := 130) rfl ?_
      refine g_dconst0 A59 at_130 (pc' := 131) rfl ?_
      refine g_dcmp A59 at_131 (pc' := 132) rfl ?_
      obtain ⟨v71, hv71⟩ : ∃ z : Int32, z = if FP.dcmp x52 (0 : UInt64) = some .eq then (1 : Int32) else 0 := ⟨_, rfl⟩
      have sg72 : ∀ {P : State → Outcome → Prop}, Go p e below P T54 (mkF m 140 #[.val (.int p0), .val (.int p1), .val (.int p2), .val (.int p3), .val (.int p4), .val (.double x19), .second, .val (.double x30), .second, .val (.double x41), .second, .val (.double x52), .second, .val (.double x30), .second, .val (.int (1 : Int32)), .val (.int (0 : Int32)), .val (.int v68), .unset, .unset, .unset, .unset, .unset, .unset] [(.int v71)]) → Go p e below P T54 (mkF m 132 #[.val (.int p0), .val (.int p1), .val (.int p2), .val (.int p3), .val (.int p4), .val (.double x19), .second, .val (.double x30), .second, .val (.double x41), .second, .val (.double x52), .second, .val (.double x30), .second, .val (.int (1 : Int32)), .val (.int (0 : Int32)), .val (.int v68), .unset, .unset, .unset, .unset, .unset, .unset] [(.int (cmpValue (FP.dcmp x52 (0 : UInt64)) .l))]) := by
        intro P hr
        by_cases c73 : FP.dcmp x52 (0 : UInt64) = some .eq
        · skip
          refine g_ifN A59 at_132 (d_l_ne_f c73) (pc' := 135) rfl ?_
          refine g_iconst A59 at_135 (v := (1 : Int32)) rfl (pc' := 136) rfl ?_
          refine g_goto A59 at_136 (pc' := 140) rfl ?_
          obtain rfl : v71 = (1 : Int32) := hv71.trans (if_pos c73)
          exact hr
        · skip
          refine g_ifY A59 at_132 (d_l_ne_t c73) (pc' := 139) rfl ?_
          refine g_iconst A59 at_139 (v := (0 : Int32)) rfl (pc' := 140) rfl ?_
          obtain rfl : v71 = (0 : Int32) := hv71.trans (if_neg c73)
          exact hr
      refine sg72 ?_
      refine g_istore A59 at_140 (ls' := #[.val (.int p0), .val (.int p1), .val (.int p2), .val (.int p3), .val (.int p4), .val (.double x19), .second, .val (.double x30), .second, .val (.double x41), .second, .val (.double x52), .second, .val (.double x30), .second, .val (.int (1 : Int32)), .val (.int (0 : Int32)), .val (.int v68), .val (.int v71), .unset, .unset, .unset, .unset, .unset]) rfl (pc' := 142) rfl ?_
      refine g_iload A59 at_142 rfl (pc' := 144) rfl ?_
      refine g_ifY A59 at_144 (c0_ne_t (by decide)) (pc' := 155) rfl ?_
      refine g_iconst A59 at_155 (v := (1 : Int32)) rfl (pc' := 156) rfl ?_
      refine g_goto A59 at_156 (pc' := 160) rfl ?_
      refine g_istore A59 at_160 (ls' := #[.val (.int p0), .val (.int p1), .val (.int p2), .val (.int p3), .val (.int p4), .val (.double x19), .second, .val (.double x30), .second, .val (.double x41), .second, .val (.double x52), .second, .val (.double x30), .second, .val (.int (1 : Int32)), .val (.int (0 : Int32)), .val (.int v68), .val (.int v71), .val (.int (1 : Int32)), .unset, .unset, .unset, .unset]) rfl (pc' := 162) rfl ?_
      refine g_iload A59 at_162 rfl (pc' := 164) rfl ?_
      refine g_ifN A59 at_164 (c0_eq_f (by decide)) (pc' := 167) rfl ?_
      refine g_iload A59 at_167 rfl (pc' := 169) rfl ?_
      refine g_ifN A59 at_169 (c0_ne_f (by decide)) (pc' := 172) rfl ?_
      refine g_dload A59 at_172 rfl (pc' := 174) rfl ?_
      refine g_dload A59 at_174 rfl (pc' := 176) rfl ?_
      refine g_dcmp A59 at_176 (pc' := 177) rfl ?_
      refine g_ifN A59 at_177 (d_l_ne_f (own_self f31)) (pc' := 180) rfl ?_
      refine g_iconst A59 at_180 (v := (1 : Int32)) rfl (pc' := 181) rfl ?_
      refine g_goto A59 at_181 (pc' := 185) rfl ?_
      refine g_istore A59 at_185 (ls' := #[.val (.int p0), .val (.int p1), .val (.int p2), .val (.int p3), .val (.int p4), .val (.double x19), .second, .val (.double x30), .second, .val (.double x41), .second, .val (.double x52), .second, .val (.double x30), .second, .val (.int (1 : Int32)), .val (.int (0 : Int32)), .val (.int v68), .val (.int v71), .val (.int (1 : Int32)), .val (.int (1 : Int32)), .unset, .unset, .unset]) rfl (pc' := 187) rfl ?_
      refine g_iload A59 at_187 rfl (pc' := 189) rfl ?_
      refine g_ifN A59 at_189 (c0_eq_f (by decide)) (pc' := 192) rfl ?_
      refine g_iload A59 at_192 rfl (pc' := 194) rfl ?_
      refine g_ifY A59 at_194 (c0_eq_t (by decide)) (pc' := 210) rfl ?_
      refine g_iconst A59 at_210 (v := (1 : Int32)) rfl (pc' := 211) rfl ?_
      refine g_goto A59 at_211 (pc' := 215) rfl ?_
      refine g_istore A59 at_215 (ls' := #[.val (.int p0), .val (.int p1), .val (.int p2), .val (.int p3), .val (.int p4), .val (.double x19), .second, .val (.double x30), .second, .val (.double x41), .second, .val (.double x52), .second, .val (.double x30), .second, .val (.int (1 : Int32)), .val (.int (0 : Int32)), .val (.int v68), .val (.int v71), .val (.int (1 : Int32)), .val (.int (1 : Int32)), .val (.int (1 : Int32)), .unset, .unset]) rfl (pc' := 217) rfl ?_
      refine g_iload A59 at_217 rfl (pc' := 219) rfl ?_
      refine g_ifN A59 at_219 (c0_eq_f (by decide)) (pc' := 222) rfl ?_
      refine g_iload A59 at_222 rfl (pc' := 224) rfl ?_
      refine g_ifY A59 at_224 (c0_eq_t (by decide)) (pc' := 240) rfl ?_
      refine g_iconst A59 at_240 (v := (1 : Int32)) rfl (pc' := 241) rfl ?_
      refine g_goto A59 at_241 (pc' := 245) rfl ?_
      refine g_istore A59 at_245 (ls' := #[.val (.int p0), .val (.int p1), .val (.int p2), .val (.int p3), .val (.int p4), .val (.double x19), .second, .val (.double x30), .second, .val (.double x41), .second, .val (.double x52), .second, .val (.double x30), .second, .val (.int (1 : Int32)), .val (.int (0 : Int32)), .val (.int v68), .val (.int v71), .val (.int (1 : Int32)), .val (.int (1 : Int32)), .val (.int (1 : Int32)), .val (.int (1 : Int32)), .unset]) rfl (pc' := 247) rfl ?_
      refine g_dload A59 at_247 rfl (pc' := 249) rfl ?_
      refine g_dconst0 A59 at_249 (pc' := 250) rfl ?_
      refine g_dcmp A59 at_250 (pc' := 251) rfl ?_
      refine g_ifN A59 at_251 (d_l_eq_f zb) (pc' := 254) rfl ?_
      refine g_iconst A59 at_254 (v := (1 : Int32)) rfl (pc' := 255) rfl ?_
      refine g_goto A59 at_255 (pc' := 259) rfl ?_
      refine g_iload A59 at_259 rfl (pc' := 261) rfl ?_
      refine g_ifN A59 at_261 (c0_eq_f (by decide)) (pc' := 264) rfl ?_
      refine g_iload A59 at_264 rfl (pc' := 266) rfl ?_
      refine g_ifY A59 at_266 (c0_eq_t (by decide)) (pc' := 279) rfl ?_
      refine g_iconst A59 at_279 (v := (1 : Int32)) rfl (pc' := 280) rfl ?_
      refine g_goto A59 at_280 (pc' := 284) rfl ?_
      refine g_icN A59 at_284 (c2_ne_f rfl) (pc' := 287) rfl ?_
      refine g_iconst A59 at_287 (v := (1 : Int32)) rfl (pc' := 288) rfl ?_
      refine g_goto A59 at_288 (pc' := 292) rfl ?_
      refine g_istore A59 at_292 (ls' := #[.val (.int p0), .val (.int p1), .val (.int p2), .val (.int p3), .val (.int p4), .val (.double x19), .second, .val (.double x30), .second, .val (.double x41), .second, .val (.double x52), .second, .val (.double x30), .second, .val (.int (1 : Int32)), .val (.int (0 : Int32)), .val (.int v68), .val (.int v71), .val (.int (1 : Int32)), .val (.int (1 : Int32)), .val (.int (1 : Int32)), .val (.int (1 : Int32)), .val (.int (1 : Int32))]) rfl (pc' := 294) rfl ?_
      refine g_iload A59 at_294 rfl (pc' := 296) rfl ?_
      refine g_ifN A59 at_296 (c0_eq_f (by decide)) (pc' := 299) rfl ?_
      refine g_iload A59 at_299 rfl (pc' := 301) rfl ?_
      refine g_ifN A59 at_301 (c0_eq_f (by decide)) (pc' := 304) rfl ?_
      refine g_iload A59 at_304 rfl (pc' := 306) rfl ?_
      refine g_ifN A59 at_306 (c0_eq_f (by decide)) (pc' := 309) rfl ?_
      refine g_iload A59 at_309 rfl (pc' := 311) rfl ?_
      refine g_ifN A59 at_311 (c0_eq_f (by decide)) (pc' := 314) rfl ?_
      refine g_iload A59 at_314 rfl (pc' := 316) rfl ?_
      refine g_ifN A59 at_316 (c0_eq_f (by decide)) (pc' := 319) rfl ?_
      refine g_iconst A59 at_319 (v := (1 : Int32)) rfl (pc' := 320) rfl ?_
      refine g_goto A59 at_320 (pc' := 324) rfl ?_
      exact g_ret (Q := Q0 Z p0 p1 p2 p3 p4 h0 n0) A59 at_324 Bd.notSynchronized Bd.returns rfl (Or.inl ⟨rfl, by simp, _, rfl⟩) (by decide) (by decide) (by rw [e58]; exact ⟨rfl, N57⟩)
  · skip
    have e74 : r60 = x19 := by rw [hr60, own_r_rm2, if_neg za]
    rw [e74]
    refine g_dstore A59 at_84 (ls' := #[.val (.int p0), .val (.int p1), .val (.int p2), .val (.int p3), .val (.int p4), .val (.double x19), .second, .val (.double x30), .second, .val (.double x41), .second, .val (.double x52), .second, .val (.double x19), .second, .unset, .unset, .unset, .unset, .unset, .unset, .unset, .unset, .unset]) rfl (pc' := 86) rfl ?_
    refine g_dload A59 at_86 rfl (pc' := 88) rfl ?_
    refine g_dconst0 A59 at_88 (pc' := 89) rfl ?_
    refine g_dcmp A59 at_89 (pc' := 90) rfl ?_
    refine g_ifY A59 at_90 (d_l_ne_t za) (pc' := 97) rfl ?_
    refine g_iconst A59 at_97 (v := (0 : Int32)) rfl (pc' := 98) rfl ?_
    refine g_istore A59 at_98 (ls' := #[.val (.int p0), .val (.int p1), .val (.int p2), .val (.int p3), .val (.int p4), .val (.double x19), .second, .val (.double x30), .second, .val (.double x41), .second, .val (.double x52), .second, .val (.double x19), .second, .val (.int (0 : Int32)), .unset, .unset, .unset, .unset, .unset, .unset, .unset, .unset]) rfl (pc' := 100) rfl ?_
    refine g_dload A59 at_100 rfl (pc' := 102) rfl ?_
    refine g_dconst0 A59 at_102 (pc' := 103) rfl ?_
    refine g_dcmp A59 at_103 (pc' := 104) rfl ?_
    obtain ⟨v75, hv75⟩ : ∃ z : Int32, z = if FP.dcmp x30 (0 : UInt64) = some .eq then (1 : Int32) else 0 := ⟨_, rfl⟩
    have sg76 : ∀ {P : State → Outcome → Prop}, Go p e below P T54 (mkF m 112 #[.val (.int p0), .val (.int p1), .val (.int p2), .val (.int p3), .val (.int p4), .val (.double x19), .second, .val (.double x30), .second, .val (.double x41), .second, .val (.double x52), .second, .val (.double x19), .second, .val (.int (0 : Int32)), .unset, .unset, .unset, .unset, .unset, .unset, .unset, .unset] [(.int v75)]) → Go p e below P T54 (mkF m 104 #[.val (.int p0), .val (.int p1), .val (.int p2), .val (.int p3), .val (.int p4), .val (.double x19), .second, .val (.double x30), .second, .val (.double x41), .second, .val (.double x52), .second, .val (.double x19), .second, .val (.int (0 : Int32)), .unset, .unset, .unset, .unset, .unset, .unset, .unset, .unset] [(.int (cmpValue (FP.dcmp x30 (0 : UInt64)) .l))]) := by
      intro P hr
      by_cases c77 : FP.dcmp x30 (0 : UInt64) = some .eq
      · skip
        refine g_ifN A59 at_104 (d_l_ne_f c77) (pc' := 107) rfl ?_
        refine g_iconst A59 at_107 (v := (1 : Int32)) rfl (pc' := 108) rfl ?_
        refine g_goto A59 at_108 (pc' := 112) rfl ?_
        obtain rfl : v75 = (1 : Int32) := hv75.trans (if_pos c77)
        exact hr
      · skip
        refine g_ifY A59 at_104 (d_l_ne_t c77) (pc' := 111) rfl ?_
        refine g_iconst A59 at_111 (v := (0 : Int32)) rfl (pc' := 112) rfl ?_
        obtain rfl : v75 = (0 : Int32) := hv75.trans (if_neg c77)
        exact hr
    refine sg76 ?_
    refine g_istore A59 at_112 (ls' := #[.val (.int p0), .val (.int p1), .val (.int p2), .val (.int p3), .val (.int p4), .val (.double x19), .second, .val (.double x30), .second, .val (.double x41), .second, .val (.double x52), .second, .val (.double x19), .second, .val (.int (0 : Int32)), .val (.int v75), .unset, .unset, .unset, .unset, .unset, .unset, .unset]) rfl (pc' := 114) rfl ?_
    refine g_dload A59 at_114 rfl (pc' := 116) rfl ?_
    refine g_dconst0 A59 at_116 (pc' := 117) rfl ?_
    refine g_dcmp A59 at_117 (pc' := 118) rfl ?_
    obtain ⟨v78, hv78⟩ : ∃ z : Int32, z = if FP.dcmp x41 (0 : UInt64) = some .eq then (1 : Int32) else 0 := ⟨_, rfl⟩
    have sg79 : ∀ {P : State → Outcome → Prop}, Go p e below P T54 (mkF m 126 #[.val (.int p0), .val (.int p1), .val (.int p2), .val (.int p3), .val (.int p4), .val (.double x19), .second, .val (.double x30), .second, .val (.double x41), .second, .val (.double x52), .second, .val (.double x19), .second, .val (.int (0 : Int32)), .val (.int v75), .unset, .unset, .unset, .unset, .unset, .unset, .unset] [(.int v78)]) → Go p e below P T54 (mkF m 118 #[.val (.int p0), .val (.int p1), .val (.int p2), .val (.int p3), .val (.int p4), .val (.double x19), .second, .val (.double x30), .second, .val (.double x41), .second, .val (.double x52), .second, .val (.double x19), .second, .val (.int (0 : Int32)), .val (.int v75), .unset, .unset, .unset, .unset, .unset, .unset, .unset] [(.int (cmpValue (FP.dcmp x41 (0 : UInt64)) .l))]) := by
      intro P hr
      by_cases c80 : FP.dcmp x41 (0 : UInt64) = some .eq
      · skip
        refine g_ifN A59 at_118 (d_l_ne_f c80) (pc' := 121) rfl ?_
        refine g_iconst A59 at_121 (v := (1 : Int32)) rfl (pc' := 122) rfl ?_
        refine g_goto A59 at_122 (pc' := 126) rfl ?_
        obtain rfl : v78 = (1 : Int32) := hv78.trans (if_pos c80)
        exact hr
      · skip
        refine g_ifY A59 at_118 (d_l_ne_t c80) (pc' := 125) rfl ?_
        refine g_iconst A59 at_125 (v := (0 : Int32)) rfl (pc' := 126) rfl ?_
        obtain rfl : v78 = (0 : Int32) := hv78.trans (if_neg c80)
        exact hr
    refine sg79 ?_
    refine g_istore A59 at_126 (ls' := #[.val (.int p0), .val (.int p1), .val (.int p2), .val (.int p3), .val (.int p4), .val (.double x19), .second, .val (.double x30), .second, .val (.double x41), .second, .val (.double x52), .second, .val (.double x19), .second, .val (.int (0 : Int32)), .val (.int v75), .val (.int v78), .unset, .unset, .unset, .unset, .unset, .unset]) rfl (pc' := 128) rfl ?_
    refine g_dload A59 at_128 rfl (pc' := 130) rfl ?_
    refine g_dconst0 A59 at_130 (pc' := 131) rfl ?_
    refine g_dcmp A59 at_131 (pc' := 132) rfl ?_
    obtain ⟨v81, hv81⟩ : ∃ z : Int32, z = if FP.dcmp x52 (0 : UInt64) = some .eq then (1 : Int32) else 0 := ⟨_, rfl⟩
    have sg82 : ∀ {P : State → Outcome → Prop}, Go p e below P T54 (mkF m 140 #[.val (.int p0), .val (.int p1), .val (.int p2), .val (.int p3), .val (.int p4), .val (.double x19), .second, .val (.double x30), .second, .val (.double x41), .second, .val (.double x52), .second, .val (.double x19), .second, .val (.int (0 : Int32)), .val (.int v75), .val (.int v78), .unset, .unset, .unset, .unset, .unset, .unset] [(.int v81)]) → Go p e below P T54 (mkF m 132 #[.val (.int p0), .val (.int p1), .val (.int p2), .val (.int p3), .val (.int p4), .val (.double x19), .second, .val (.double x30), .second, .val (.double x41), .second, .val (.double x52), .second, .val (.double x19), .second, .val (.int (0 : Int32)), .val (.int v75), .val (.int v78), .unset, .unset, .unset, .unset, .unset, .unset] [(.int (cmpValue (FP.dcmp x52 (0 : UInt64)) .l))]) := by
      intro P hr
      by_cases c83 : FP.dcmp x52 (0 : UInt64) = some .eq
      · skip
        refine g_ifN A59 at_132 (d_l_ne_f c83) (pc' := 135) rfl ?_
        refine g_iconst A59 at_135 (v := (1 : Int32)) rfl (pc' := 136) rfl ?_
        refine g_goto A59 at_136 (pc' := 140) rfl ?_
        obtain rfl : v81 = (1 : Int32) := hv81.trans (if_pos c83)
        exact hr
      · skip
        refine g_ifY A59 at_132 (d_l_ne_t c83) (pc' := 139) rfl ?_
        refine g_iconst A59 at_139 (v := (0 : Int32)) rfl (pc' := 140) rfl ?_
        obtain rfl : v81 = (0 : Int32) := hv81.trans (if_neg c83)
        exact hr
    refine sg82 ?_
    refine g_istore A59 at_140 (ls' := #[.val (.int p0), .val (.int p1), .val (.int p2), .val (.int p3), .val (.int p4), .val (.double x19), .second, .val (.double x30), .second, .val (.double x41), .second, .val (.double x52), .second, .val (.double x19), .second, .val (.int (0 : Int32)), .val (.int v75), .val (.int v78), .val (.int v81), .unset, .unset, .unset, .unset, .unset]) rfl (pc' := 142) rfl ?_
    refine g_iload A59 at_142 rfl (pc' := 144) rfl ?_
    refine g_ifN A59 at_144 (c0_ne_f (by decide)) (pc' := 147) rfl ?_
    refine g_dload A59 at_147 rfl (pc' := 149) rfl ?_
    refine g_dload A59 at_149 rfl (pc' := 151) rfl ?_
    refine g_dcmp A59 at_151 (pc' := 152) rfl ?_
    refine g_ifN A59 at_152 (d_l_ne_f (own_self f20)) (pc' := 155) rfl ?_
    refine g_iconst A59 at_155 (v := (1 : Int32)) rfl (pc' := 156) rfl ?_
    refine g_goto A59 at_156 (pc' := 160) rfl ?_
    refine g_istore A59 at_160 (ls' := #[.val (.int p0), .val (.int p1), .val (.int p2), .val (.int p3), .val (.int p4), .val (.double x19), .second, .val (.double x30), .second, .val (.double x41), .second, .val (.double x52), .second, .val (.double x19), .second, .val (.int (0 : Int32)), .val (.int v75), .val (.int v78), .val (.int v81), .val (.int (1 : Int32)), .unset, .unset, .unset, .unset]) rfl (pc' := 162) rfl ?_
    refine g_iload A59 at_162 rfl (pc' := 164) rfl ?_
    refine g_ifY A59 at_164 (c0_eq_t (by decide)) (pc' := 180) rfl ?_
    refine g_iconst A59 at_180 (v := (1 : Int32)) rfl (pc' := 181) rfl ?_
    refine g_goto A59 at_181 (pc' := 185) rfl ?_
    refine g_istore A59 at_185 (ls' := #[.val (.int p0), .val (.int p1), .val (.int p2), .val (.int p3), .val (.int p4), .val (.double x19), .second, .val (.double x30), .second, .val (.double x41), .second, .val (.double x52), .second, .val (.double x19), .second, .val (.int (0 : Int32)), .val (.int v75), .val (.int v78), .val (.int v81), .val (.int (1 : Int32)), .val (.int (1 : Int32)), .unset, .unset, .unset]) rfl (pc' := 187) rfl ?_
    refine g_iload A59 at_187 rfl (pc' := 189) rfl ?_
    refine g_ifY A59 at_189 (c0_eq_t (by decide)) (pc' := 210) rfl ?_
    refine g_iconst A59 at_210 (v := (1 : Int32)) rfl (pc' := 211) rfl ?_
    refine g_goto A59 at_211 (pc' := 215) rfl ?_
    refine g_istore A59 at_215 (ls' := #[.val (.int p0), .val (.int p1), .val (.int p2), .val (.int p3), .val (.int p4), .val (.double x19), .second, .val (.double x30), .second, .val (.double x41), .second, .val (.double x52), .second, .val (.double x19), .second, .val (.int (0 : Int32)), .val (.int v75), .val (.int v78), .val (.int v81), .val (.int (1 : Int32)), .val (.int (1 : Int32)), .val (.int (1 : Int32)), .unset, .unset]) rfl (pc' := 217) rfl ?_
    refine g_iload A59 at_217 rfl (pc' := 219) rfl ?_
    refine g_ifY A59 at_219 (c0_eq_t (by decide)) (pc' := 240) rfl ?_
    refine g_iconst A59 at_240 (v := (1 : Int32)) rfl (pc' := 241) rfl ?_
    refine g_goto A59 at_241 (pc' := 245) rfl ?_
    refine g_istore A59 at_245 (ls' := #[.val (.int p0), .val (.int p1), .val (.int p2), .val (.int p3), .val (.int p4), .val (.double x19), .second, .val (.double x30), .second, .val (.double x41), .second, .val (.double x52), .second, .val (.double x19), .second, .val (.int (0 : Int32)), .val (.int v75), .val (.int v78), .val (.int v81), .val (.int (1 : Int32)), .val (.int (1 : Int32)), .val (.int (1 : Int32)), .val (.int (1 : Int32)), .unset]) rfl (pc' := 247) rfl ?_
    refine g_dload A59 at_247 rfl (pc' := 249) rfl ?_
    refine g_dconst0 A59 at_249 (pc' := 250) rfl ?_
    refine g_dcmp A59 at_250 (pc' := 251) rfl ?_
    refine g_ifN A59 at_251 (d_l_eq_f za) (pc' := 254) rfl ?_
    refine g_iconst A59 at_254 (v := (1 : Int32)) rfl (pc' := 255) rfl ?_
    refine g_goto A59 at_255 (pc' := 259) rfl ?_
    refine g_iload A59 at_259 rfl (pc' := 261) rfl ?_
    refine g_ifY A59 at_261 (c0_eq_t (by decide)) (pc' := 279) rfl ?_
    refine g_iconst A59 at_279 (v := (1 : Int32)) rfl (pc' := 280) rfl ?_
    refine g_goto A59 at_280 (pc' := 284) rfl ?_
    refine g_icN A59 at_284 (c2_ne_f rfl) (pc' := 287) rfl ?_
    refine g_iconst A59 at_287 (v := (1 : Int32)) rfl (pc' := 288) rfl ?_
    refine g_goto A59 at_288 (pc' := 292) rfl ?_
    refine g_istore A59 at_292 (ls' := #[.val (.int p0), .val (.int p1), .val (.int p2), .val (.int p3), .val (.int p4), .val (.double x19), .second, .val (.double x30), .second, .val (.double x41), .second, .val (.double x52), .second, .val (.double x19), .second, .val (.int (0 : Int32)), .val (.int v75), .val (.int v78), .val (.int v81), .val (.int (1 : Int32)), .val (.int (1 : Int32)), .val (.int (1 : Int32)), .val (.int (1 : Int32)), .val (.int (1 : Int32))]) rfl (pc' := 294) rfl ?_
    refine g_iload A59 at_294 rfl (pc' := 296) rfl ?_
    refine g_ifN A59 at_296 (c0_eq_f (by decide)) (pc' := 299) rfl ?_
    refine g_iload A59 at_299 rfl (pc' := 301) rfl ?_
    refine g_ifN A59 at_301 (c0_eq_f (by decide)) (pc' := 304) rfl ?_
    refine g_iload A59 at_304 rfl (pc' := 306) rfl ?_
    refine g_ifN A59 at_306 (c0_eq_f (by decide)) (pc' := 309) rfl ?_
    refine g_iload A59 at_309 rfl (pc' := 311) rfl ?_
    refine g_ifN A59 at_311 (c0_eq_f (by decide)) (pc' := 314) rfl ?_
    refine g_iload A59 at_314 rfl (pc' := 316) rfl ?_
    refine g_ifN A59 at_316 (c0_eq_f (by decide)) (pc' := 319) rfl ?_
    refine g_iconst A59 at_319 (v := (1 : Int32)) rfl (pc' := 320) rfl ?_
    refine g_goto A59 at_320 (pc' := 324) rfl ?_
    exact g_ret (Q := Q0 Z p0 p1 p2 p3 p4 h0 n0) A59 at_324 Bd.notSynchronized Bd.returns rfl (Or.inl ⟨rfl, by simp, _, rfl⟩) (by decide) (by decide) (by rw [e58]; exact ⟨rfl, N57⟩)
set_option maxRecDepth 65536 in
set_option maxHeartbeats 40000000 in
theorem comes_1 {Post : Tables → Env → Array Value → State → Outcome → State → Prop} (hpost : ∀ tb e args s v u, (limb_1_1.after args s (.returned v) u = true ∧ limb_1_2.after args s (.returned v) u = true ∧ True) → FrameEnd s (.returned v) u (Jvm.fieldLocs frame_1_writes args s ++ Jvm.arrayLocs frame_1_arrays args s ++ Jvm.staticLocs frame_1_statics s) 0 0 → Post tb e args s (.returned v) u) :
    ArmFor flags0 classFile x code maxLocals ret World_1 tables_1 room_1 Calls_1 rest_1 Pre_1 Post := by
  intro l hfl _ _ p e ha hc hk s m args below hf hA hF happ hP
  obtain ⟨hcalls, hrest, hpre⟩ := hP
  obtain ⟨-, -, -, hnamed, -, -, -, hat⟩ := (Spec.applies_iff hf).mp happ
  obtain ⟨hg, hn⟩ := and_e (Cond.before_iff.mp (show (Jvm.Cond.and given_1 narrow_1).before args s = true from hpre))
  obtain ⟨g0, hg1⟩ := and_e hg
  obtain ⟨w0, w1, w2, w3, w4, rfl⟩ : ∃ w0 w1 w2 w3 w4 : Value, args = #[w0, w1, w2, w3, w4] := by
    have hs : args.size = 5 := by simpa [Cond.value, given_1] using g0
    obtain ⟨L⟩ := args
    match L, hs with
    | [w0, w1, w2, w3, w4], _ => exact ⟨w0, w1, w2, w3, w4, rfl⟩
  have hw := fun d (hd : d ∈ tables_1) => atoms_spec (ws := Jvm.Cond.code x code maxLocals ret :: tables_1) hat d (List.mem_cons_of_mem _ hd)
  have hfit : Fit s := fun {y c} hc i hi => by
    obtain ⟨ha, rfl⟩ := Array.getElem?_eq_some_iff.mp hc
    have q := List.all_eq_true.mp ((Array.all_eq_true_iff_forall_mem.mp hF) _ (Array.getElem_mem ha)) i (List.mem_range.mpr hi)
    simpa [Array.getElem?_eq_getElem hi] using q
  obtain ⟨k0, hg2⟩ := and_e hg1
  obtain ⟨i0, j0⟩ := is_v k0
  obtain rfl : w0 = (.int i0) := Option.some.inj j0
  obtain ⟨k1, hg3⟩ := and_e hg2
  obtain ⟨i1, j1⟩ := is_v k1
  obtain rfl : w1 = (.int i1) := Option.some.inj j1
  obtain ⟨k2, hg4⟩ := and_e hg3
  obtain ⟨i2, j2⟩ := is_v k2
  obtain rfl : w2 = (.int i2) := Option.some.inj j2
  obtain ⟨k3, hg5⟩ := and_e hg4
  obtain ⟨i3, j3⟩ := is_v k3
  obtain rfl : w3 = (.int i3) := Option.some.inj j3
  obtain ⟨i4, j4⟩ := is_v hg5
  obtain rfl : w4 = (.int i4) := Option.some.inj j4
  obtain ⟨n, o, h1, h2, h3, _, L, rfl, ⟨rfl, N⟩, hq⟩ := rm0 l s _ hw tables_1 i0 i1 i2 i3 i4 s.heap s.heap.size (Nat.le_refl _)  p e ha hc hk s m _ below hf ((Spec.applies_iff_loose hf).mp happ).1 ⟨rfl, State.Warmed39.refl s, rfl⟩ trivial
  refine ⟨n, _, h1, h2, h3, hpost _ _ _ _ _ _ ⟨Cond.after_iff.mpr rfl, Cond.after_iff.mpr (eq_i res_at (Term.int_eval (1)) rfl), trivial⟩ ⟨hq.1, hq.2.1, (hq.2.2.sift fun y hy => Or.inr (N y hy)).mono (by decide) (by decide)⟩⟩
theorem main_1_1 : Claimed_1_1 := comes_1 fun _ _ _ _ _ _ h hF => ⟨h.1, hF⟩
theorem main_1_2 : Claimed_1_2 := comes_1 fun _ _ _ _ _ _ h hF => ⟨h.2.1, hF⟩
end Jvm.Pilot.@@N@@
namespace Jvm.Pilot.@@N@@
open Jvm Jvm.ClassFile Sem Op Lib Jvm.Free Jvm.Stand Jvm.Pilot.@@N@@.Jvm.D
/-! MADE BY PROGRAM (witnessworld.py) out of the Statement's table words and the real class files: 9 classes; the members and pool entries that the words name. The judged class is class 1, her method 2. -/
namespace start1
open Jvm.ClassFile
def u (s : String) : CpInfo := .utf8 (stringToUtf16 s)
/-- a pool by its gaps: so many unusable entries, then the entry; so many at the end -/
def gap : Nat → List CpInfo → List CpInfo
  | 0, r => r
  | n + 1, r => .unusable :: gap n r
def poolList (es : List (Nat × CpInfo)) (last : Nat) : List CpInfo := es.foldr (fun e r => gap e.1 (e.2 :: r)) (gap last [])
def pool (es : List (Nat × CpInfo)) (last : Nat) : Array CpInfo := ⟨poolList es last⟩
def fileOf (pool : Array CpInfo) (this : Nat) (attrs : Array Attribute := #[]) (ms : Array MethodInfo := #[]) (fl : Nat := 33) (sup : Nat := 0) (ifs : Array Nat := #[]) (fds : Array FieldInfo := #[]) : ClassFile where
  minorVersion := 0
  majorVersion := 65
  constantPool := pool
  accessFlags := fl
  thisClass := this
  superClass := sup
  interfaces := ifs
  fields := fds
  methods := ms
  attributes := attrs
def plain (name : String) (sup : Option ClassId) : Class where
  name := name
  kind := .ordinary
  loader := none
  accessFlags := 33
  super := sup
  interfaces := #[]
  cf := none
  fields := #[]
  methods := #[]
  instanceTypes := #[]
  staticTypes := #[]
  resolved := #[]
  callSites := []
  init := .initialized
  statics := none
  mirror := none

def pool0 : Array CpInfo := pool [(5, u "<init>"), (0, u "()V"), (1, .class_ 10), (1, u "java/lang/Object")] 113

def k0m0 : Method := { name := "<init>", desc := "()V", sig := { parameters := [], returnType := none }, accessFlags := 1, code := none }
/-- java/lang/Object -/
def k0 : Class := { plain "java/lang/Object" none with
  accessFlags := 33
  interfaces := #[]
  cf := some (fileOf pool0 8 #[] #[{ accessFlags := 1, nameIndex := 5, descriptorIndex := 6, attributes := #[] }] 33 0 #[] #[])
  fields := #[]
  methods := #[k0m0]
  instanceTypes := #[]
  staticTypes := #[]
  resolved := Array.replicate 124 none
  statics := none }

def pool1 : Array CpInfo := pool [(2, .class_ 4), (1, u "java/lang/Object"), (0, u "<init>"), (0, u "()V"), (0, .methodref 8 9), (0, .class_ 10), (0, .nameAndType 11 12), (0, u "com/example/orientry/orientry/VectorsFirstNonZeroPinLaw"), (0, u "comp"), (0, u "(IZ)D"), (0, .methodref 14 15), (0, .class_ 16), (0, .nameAndType 17 18), (0, u "com/example/orientry/orientry/Vectors"), (0, u "firstNonZero"), (0, u "(DDDD)D"), (3, u "law"), (0, u "(IIIII)Z")] 2

def k1m0 : Method := { name := "<init>", desc := "()V", sig := { parameters := [], returnType := none }, accessFlags := 1, code := none }
def k1c1 : Code := { maxStack := 2, maxLocals := 4, code := method_2_code, exceptionTable := #[], attributes := #[] }
def k1m1 : Method := { name := "comp", desc := "(IZ)D", sig := { parameters := [.int, .boolean], returnType := some .double }, accessFlags := 10, code := some k1c1 }
def k1c2 : Code := { maxStack := 8, maxLocals := 24, code := code, exceptionTable := #[], attributes := #[] }
def k1m2 : Method := { name := "law", desc := "(IIIII)Z", sig := { parameters := [.int, .int, .int, .int, .int], returnType := some .boolean }, accessFlags := 9, code := some k1c2 }
/-- com/example/orientry/orientry/VectorsFirstNonZeroPinLaw -/
def k1 : Class := { plain "com/example/orientry/orientry/VectorsFirstNonZeroPinLaw" (some 0) with
  accessFlags := 49
  interfaces := #[]
  cf := some (fileOf pool1 8 #[] #[{ accessFlags := 1, nameIndex := 5, descriptorIndex := 6, attributes := #[] }, { accessFlags := 10, nameIndex := 11, descriptorIndex := 12, attributes := #[] }, { accessFlags := 9, nameIndex := 22, descriptorIndex := 23, attributes := #[] }] 49 2 #[] #[])
  fields := #[]
  methods := #[k1m0, k1m1, k1m2]
  instanceTypes := #[]
  staticTypes := #[]
  resolved := Array.replicate 26 none
  statics := none }

def pool2 : Array CpInfo := pool [(2, .class_ 4), (1, u "java/lang/Object"), (0, u "<init>"), (0, u "()V"), (6, .class_ 14), (0, u "com/example/orientry/orientry/Vectors"), (5, u "(DDDD)D"), (23, u "NEAR_UNIT"), (0, u "D"), (1, u "SMALLEST_UNSCALED"), (0, u "LARGEST_UNSCALED"), (7, u "firstNonZero")] 2

def k2m0 : Method := { name := "<init>", desc := "()V", sig := { parameters := [], returnType := none }, accessFlags := 2, code := none }
def k2c1 : Code := { maxStack := 4, maxLocals := 10, code := prog_12_method_5_code, exceptionTable := #[], attributes := #[] }
def k2m1 : Method := { name := "firstNonZero", desc := "(DDDD)D", sig := { parameters := [.double, .double, .double, .double], returnType := some .double }, accessFlags := 8, code := some k2c1 }
/-- com/example/orientry/orientry/Vectors -/
def k2 : Class := { plain "com/example/orientry/orientry/Vectors" (some 0) with
  accessFlags := 48
  interfaces := #[]
  cf := some (fileOf pool2 13 #[] #[{ accessFlags := 2, nameIndex := 5, descriptorIndex := 6, attributes := #[] }, { accessFlags := 8, nameIndex := 56, descriptorIndex := 20, attributes := #[] }] 48 2 #[] #[{ accessFlags := 26, nameIndex := 44, descriptorIndex := 45, attributes := #[] }, { accessFlags := 26, nameIndex := 47, descriptorIndex := 45, attributes := #[] }, { accessFlags := 26, nameIndex := 48, descriptorIndex := 45, attributes := #[] }])
  fields := #[{ name := "NEAR_UNIT", type := .double, accessFlags := 26, slot := 0, constantValue := 0 }, { name := "SMALLEST_UNSCALED", type := .double, accessFlags := 26, slot := 1, constantValue := 0 }, { name := "LARGEST_UNSCALED", type := .double, accessFlags := 26, slot := 2, constantValue := 0 }]
  methods := #[k2m0, k2m1]
  instanceTypes := #[]
  staticTypes := #[.double, .double, .double]
  resolved := Array.replicate 59 none
  statics := none }

def pool3 : Array CpInfo := pool [(1, u "java/lang/Cloneable"), (0, .class_ 1), (0, u "java/lang/Object"), (0, .class_ 3)] 3

/-- java/lang/Cloneable -/
def k3 : Class := { plain "java/lang/Cloneable" (some 0) with
  accessFlags := 1537
  interfaces := #[]
  cf := some (fileOf pool3 2 #[] #[] 1537 4 #[] #[])
  fields := #[]
  methods := #[]
  instanceTypes := #[]
  staticTypes := #[]
  resolved := Array.replicate 8 none
  statics := none }

def pool4 : Array CpInfo := pool [(1, u "java/io/Serializable"), (0, .class_ 1), (0, u "java/lang/Object"), (0, .class_ 3)] 3

/-- java/io/Serializable -/
def k4 : Class := { plain "java/io/Serializable" (some 0) with
  accessFlags := 1537
  interfaces := #[]
  cf := some (fileOf pool4 2 #[] #[] 1537 4 #[] #[])
  fields := #[]
  methods := #[]
  instanceTypes := #[]
  staticTypes := #[]
  resolved := Array.replicate 8 none
  statics := none }

/-- the primitive byte -/
def k5 : Class := { plain "byte" none with kind := .primitive 'B', accessFlags := 0x411 }
/-- [B -/
def k6 : Class := { plain "[B" (some 0) with kind := .array 5 .byte, interfaces := #[3, 4], accessFlags := 1041 }

/-- the primitive int -/
def k7 : Class := { plain "int" none with kind := .primitive 'I', accessFlags := 0x411 }
/-- [I -/
def k8 : Class := { plain "[I" (some 0) with kind := .array 7 .int, interfaces := #[3, 4], accessFlags := 1041 }

def heap : Heap := #[]
def classes : Array Class := #[k0, k1, k2, k3, k4, k5, k6, k7, k8]
def interned : List (Array UInt16 × Addr) := []
def slotsUsed : Nat := 0
def theMethod : MethodId := ⟨1, 2⟩
def args0 : Array Value := #[.int 21, .int 3, .int 1, .int 0, .int 6]
def aboutOver (below : List Frame) : State where
  vm := { classes := classes, interned := interned.toArray }
  heap := heap
  slotsUsed := slotsUsed
  threads := #[{ frames := .invoking theMethod args0 :: below }]
def below0 : List Frame := [.native { method := ⟨0, 0⟩, args := #[] }]
def about1 : State := aboutOver below0
def p0 : Program := .bare "" "" ""
def e0 : Env := launch0.env 0 0 0
theorem w_frames : about1.frames = Frame.invoking theMethod args0 :: below0 := rfl
set_option maxRecDepth 65536 in
theorem w_args : argsFit about1.vm theMethod args0 = true := by decide +kernel
set_option maxRecDepth 65536 in
theorem w_heap : heapFits about1 = true := by decide +kernel
set_option maxRecDepth 65536 in
theorem w_runnable : about1.curStatus? = some .runnable := by decide +kernel
set_option maxRecDepth 65536 in
theorem w_alone : about1.alone = true := by decide +kernel
set_option maxRecDepth 65536 in
theorem w_named : about1.methodNamed? x = some theMethod := by decide +kernel
set_option maxRecDepth 65536 in
theorem w_hears : about1.hears theMethod below0 = true := by decide +kernel
set_option maxRecDepth 65536 in
theorem w_ripe : about1.ripe theMethod args0 below0 = true := by decide +kernel
theorem w_running : about1.status = .running := rfl
set_option maxRecDepth 65536 in
theorem w_room : about1.hasRoom e0.platform room_1 = true :=
  launch0.hasRoom_least _ room_1 (by decide +kernel) (by decide +kernel) (by decide +kernel) (by decide +kernel) (by decide +kernel) (by decide +kernel)
theorem allAtoms_all (ts : List Jvm.Cond) (a : Array Jvm.Value) (st : Jvm.State) : (allAtoms ts).before a st = ts.all (fun c => c.before a st) := by
  induction ts with
  | nil => rfl
  | cons c t ih =>
    show (Jvm.Cond.and c (allAtoms t)).before a st = _
    rw [Jvm.Cond.before_and, ih, List.all_cons]
def words1 : List Jvm.Cond := Jvm.Cond.code x code maxLocals ret :: tables_1
/-- a 'code' word, met by the world's own term for the bytes: nothing is compared byte by byte -/
theorem code_word {y : MethodName} {bytes : ByteArray} {mx : Nat} {rt : Option FieldType} {a : Array Value} {s : State} {m : MethodId} {meth : Method} {c : Code} (h1 : s.methodNamed? y = some m) (h2 : s.vm.method? m = some meth) (h3 : meth.code = some c) (h4 : c.code = bytes)
    (h5 : (c.maxLocals == mx && c.exceptionTable.isEmpty && decide (c.maxStack ≤ mostOperands) && decide (meth.sig.returnType = rt) && !meth.locks && decide (parseMethodDescriptor y.desc = some meth.sig)) = true) : (Jvm.Cond.code y bytes mx rt).before a s = true := by
  simp only [Bool.and_eq_true, beq_iff_eq, Bool.not_eq_true', decide_eq_true_eq] at h5
  obtain ⟨⟨⟨⟨⟨g1, g2⟩, g3⟩, g4⟩, g5⟩, g6⟩ := h5
  simp [Cond.before, Cond.holds, Cond.value, h1, h2, h3, h4, g1, g2, g3, g4, g5, g6]
def isCode : Jvm.Cond → Bool
  | .code _ _ _ _ => true
  | _ => false
theorem all_split {L : List Jvm.Cond} {P : Jvm.Cond → Bool} (h1 : L.all (fun c => isCode c || P c) = true) (h2 : ∀ c ∈ L.filter isCode, P c = true) : L.all P = true := by
  refine List.all_eq_true.mpr fun c hc => ?_
  have h := List.all_eq_true.mp h1 c hc
  rcases Bool.eq_false_or_eq_true (isCode c) with hi | hi
  · exact h2 c (List.mem_filter.mpr ⟨hc, hi⟩)
  · simpa [hi] using h
set_option maxRecDepth 65536 in
theorem w_c0 : (Jvm.Cond.code x code maxLocals ret).before args0 about1 = true := code_word (m := ⟨1, 2⟩) (meth := k1m2) (c := k1c2) (by decide +kernel) rfl rfl rfl (by decide +kernel)
set_option maxRecDepth 65536 in
theorem w_c1 : (Jvm.Cond.code ({ cls := "com/example/orientry/orientry/VectorsFirstNonZeroPinLaw", name := "comp", desc := "(IZ)D" } : Jvm.MethodName) method_2_code (4 : Nat) (Option.some Jvm.ClassFile.FieldType.double)).before args0 about1 = true := code_word (m := ⟨1, 1⟩) (meth := k1m1) (c := k1c1) (by decide +kernel) rfl rfl rfl (by decide +kernel)
set_option maxRecDepth 65536 in
theorem w_c2 : (Jvm.Cond.code ({ cls := "com/example/orientry/orientry/Vectors", name := "firstNonZero", desc := "(DDDD)D" } : Jvm.MethodName) prog_12_method_5_code (10 : Nat) (Option.some Jvm.ClassFile.FieldType.double)).before args0 about1 = true := code_word (m := ⟨2, 1⟩) (meth := k2m1) (c := k2c1) (by decide +kernel) rfl rfl rfl (by decide +kernel)
def codes1 : List Jvm.Cond := [Jvm.Cond.code x code maxLocals ret, Jvm.Cond.code ({ cls := "com/example/orientry/orientry/VectorsFirstNonZeroPinLaw", name := "comp", desc := "(IZ)D" } : Jvm.MethodName) method_2_code (4 : Nat) (Option.some Jvm.ClassFile.FieldType.double), Jvm.Cond.code ({ cls := "com/example/orientry/orientry/Vectors", name := "firstNonZero", desc := "(DDDD)D" } : Jvm.MethodName) prog_12_method_5_code (10 : Nat) (Option.some Jvm.ClassFile.FieldType.double)]
set_option maxRecDepth 65536 in
theorem codes_eq : words1.filter isCode = codes1 := rfl
theorem w_codes : ∀ c ∈ words1.filter isCode, c.before args0 about1 = true := by
  rw [codes_eq]
  intro c hc
  simp only [codes1, List.mem_cons, List.not_mem_nil, or_false] at hc
  rcases hc with rfl | rfl | rfl
  · exact w_c0
  · exact w_c1
  · exact w_c2
set_option maxRecDepth 65536 in
theorem w_t1 : words1.all (fun c => isCode c || c.before args0 about1) = true := by decide +kernel
theorem w_tables : (allAtoms (Jvm.Cond.code x code maxLocals ret :: tables_1)).before args0 about1 = true := by
  rw [allAtoms_all]
  show words1.all (fun c => c.before args0 about1) = true
  refine all_split ?_ w_codes
  rw [w_t1]
set_option maxRecDepth 65536 in
theorem w_case : (Jvm.Cond.and given_1 narrow_1).before args0 about1 = true := by decide +kernel
theorem w_applies : (headSpec (Jvm.Cond.code x code maxLocals ret :: tables_1) room_1).applies x e0.platform about1 = true :=
  (Spec.applies_iff w_frames).mpr ⟨w_running, w_runnable, w_alone, w_named, w_hears, w_ripe, w_room, w_tables⟩
theorem atStart : AtStart classFile x code maxLocals ret World_1 tables_1 room_1 Calls_1 rest_1 Pre_1 launch0 p0 e0 about1 theMethod args0 below0 :=
  ⟨lists_1, trivial, launch0.admits_env _ _ _, launch0.least_env, fairChoices_fair.cas, fairChoices_fair.clock, w_frames, w_args, w_heap, w_applies, trivial, trivial, w_case⟩
end start1
theorem witness_1 : WitnessClaimed_1 := ⟨start1.p0, start1.e0, start1.about1, start1.theMethod, start1.args0, start1.below0, start1.atStart⟩
end Jvm.Pilot.@@N@@
