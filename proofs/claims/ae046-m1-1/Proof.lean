import JvmDerived
import JvmDerived.Pilot.@@N@@Statement
import JvmDerived.Pilot.@@N@@Code
set_option linter.unusedVariables false
set_option linter.unusedSimpArgs false
namespace Jvm.Pilot.@@N@@
open Jvm Jvm.ClassFile Sem Op Lib Jvm.Free Jvm.Free.Fl Jvm.Stand Jvm.LawKit Jvm.RoadKit Bundle Jvm.Pilot.@@N@@.Jvm.D
section own_go
/-- where the walk stands, with the two facts that every step asks -/
def Ax (p : Program) (l : Launch) (e : Env) (R : Room) (s : State) (m : MethodId) (args : Array Value) (below : List Frame) (meth : Method) (c : Code) (T : State) (locs : List Loc) (cells slots : Nat) (B : ByteArray) : Prop := Stand p l e R s m args below meth c T locs cells slots ∧ p.tables.exec = Jvm.exec ∧ c.code = B
/-- from this frame the run ends, and P holds of its end -/
def Go (p : Program) (e : Env) (below : List Frame) (P : State → Outcome → Prop) (T : State) (g : JFrame) : Prop := ∃ U o, Steps p.tables e below (T.setTop g) U ∧ U.status = .running ∧ Ended U below o ∧ P U o
variable {p : Program} {l : Launch} {e : Env} {R : Room} {s : State} {m : MethodId} {args : Array Value} {below : List Frame} {meth : Method} {c : Code} {T : State} {locs : List Loc} {cells slots : Nat} {P : State → Outcome → Prop} {B : ByteArray} {pc pc' : Nat} {ls ls' : Array Slot} {st : List Value}
theorem Go.of {T' : State} {g g' : JFrame} (k : ∀ t, Steps p.tables e below (T'.setTop g') t → Steps p.tables e below (T.setTop g) t) (h : Go p e below P T' g') : Go p e below P T g := by
  obtain ⟨U, o, h1, h2⟩ := h
  exact ⟨U, o, k _ h1, h2⟩
theorem Go.tr {T' : State} {g g' : JFrame} (k : Steps p.tables e below (T.setTop g) (T'.setTop g')) (h : Go p e below P T' g') : Go p e below P T g := Go.of (fun _ h => k.trans h) h
theorem Go.cast {g g' : JFrame} (q : g = g') (h : Go p e below P T g') : Go p e below P T g := q ▸ h

theorem g_iadd (A : Ax p l e R s m args below meth c T locs cells slots B) {x : Int32} {y : Int32} (hd : decode B pc = .ok (.iadd, 1)) (hp : pc + 1 = pc') (k : Go p e below P T (mkF m pc' ls (.int (x + y) :: st))) : Go p e below P T (mkF m pc ls (.int y :: .int x :: st)) := by
  subst hp; exact Go.of (fun _ k' => XS.iadd A.1.here A.2.1 rfl (hb A.2.2 hd) rfl k') k
theorem g_isub (A : Ax p l e R s m args below meth c T locs cells slots B) {x : Int32} {y : Int32} (hd : decode B pc = .ok (.isub, 1)) (hp : pc + 1 = pc') (k : Go p e below P T (mkF m pc' ls (.int (x - y) :: st))) : Go p e below P T (mkF m pc ls (.int y :: .int x :: st)) := by
  subst hp; exact Go.of (fun _ k' => XS.isub A.1.here A.2.1 rfl (hb A.2.2 hd) rfl k') k
theorem g_iand (A : Ax p l e R s m args below meth c T locs cells slots B) {x : Int32} {y : Int32} (hd : decode B pc = .ok (.iand, 1)) (hp : pc + 1 = pc') (k : Go p e below P T (mkF m pc' ls (.int (x &&& y) :: st))) : Go p e below P T (mkF m pc ls (.int y :: .int x :: st)) := by
  subst hp; exact Go.of (fun _ k' => XS.iand A.1.here A.2.1 rfl (hb A.2.2 hd) rfl k') k
theorem g_imul (A : Ax p l e R s m args below meth c T locs cells slots B) {x : Int32} {y : Int32} (hd : decode B pc = .ok (.imul, 1)) (hp : pc + 1 = pc') (k : Go p e below P T (mkF m pc' ls (.int (x * y) :: st))) : Go p e below P T (mkF m pc ls (.int y :: .int x :: st)) := by
  subst hp; exact Go.of (fun _ k' => XS.imul A.1.here A.2.1 rfl (hb A.2.2 hd) rfl k') k
theorem g_iaddL (A : Ax p l e R s m args below meth c T locs cells slots B) {x y z : Int32} (hd : decode B pc = .ok (.iadd, 1)) (hz : x + y = z) (hp : pc + 1 = pc') (k : Go p e below P T (mkF m pc' ls (.int z :: st))) : Go p e below P T (mkF m pc ls (.int y :: .int x :: st)) := g_iadd A hd hp (hz.symm ▸ k)
theorem g_isubL (A : Ax p l e R s m args below meth c T locs cells slots B) {x y z : Int32} (hd : decode B pc = .ok (.isub, 1)) (hz : x - y = z) (hp : pc + 1 = pc') (k : Go p e below P T (mkF m pc' ls (.int z :: st))) : Go p e below P T (mkF m pc ls (.int y :: .int x :: st)) := g_isub A hd hp (hz.symm ▸ k)
theorem g_imulL (A : Ax p l e R s m args below meth c T locs cells slots B) {x y z : Int32} (hd : decode B pc = .ok (.imul, 1)) (hz : x * y = z) (hp : pc + 1 = pc') (k : Go p e below P T (mkF m pc' ls (.int z :: st))) : Go p e below P T (mkF m pc ls (.int y :: .int x :: st)) := g_imul A hd hp (hz.symm ▸ k)
theorem g_iandL (A : Ax p l e R s m args below meth c T locs cells slots B) {x y z : Int32} (hd : decode B pc = .ok (.iand, 1)) (hz : x &&& y = z) (hp : pc + 1 = pc') (k : Go p e below P T (mkF m pc' ls (.int z :: st))) : Go p e below P T (mkF m pc ls (.int y :: .int x :: st)) := g_iand A hd hp (hz.symm ▸ k)
theorem g_ixor (A : Ax p l e R s m args below meth c T locs cells slots B) {x : Int32} {y : Int32} (hd : decode B pc = .ok (.ixor, 1)) (hp : pc + 1 = pc') (k : Go p e below P T (mkF m pc' ls (.int (x ^^^ y) :: st))) : Go p e below P T (mkF m pc ls (.int y :: .int x :: st)) := by
  subst hp; exact Go.of (fun _ k' => XT.ixor A.1.here A.2.1 rfl (hb A.2.2 hd) rfl k') k
theorem g_ior (A : Ax p l e R s m args below meth c T locs cells slots B) {x : Int32} {y : Int32} (hd : decode B pc = .ok (.ior, 1)) (hp : pc + 1 = pc') (k : Go p e below P T (mkF m pc' ls (.int (x ||| y) :: st))) : Go p e below P T (mkF m pc ls (.int y :: .int x :: st)) := by
  subst hp; exact Go.of (fun _ k' => XT.ior A.1.here A.2.1 rfl (hb A.2.2 hd) rfl k') k
theorem g_ishl (A : Ax p l e R s m args below meth c T locs cells slots B) {x : Int32} {y : Int32} (hd : decode B pc = .ok (.ishl, 1)) (hp : pc + 1 = pc') (k : Go p e below P T (mkF m pc' ls (.int (x <<< (y &&& 31)) :: st))) : Go p e below P T (mkF m pc ls (.int y :: .int x :: st)) := by
  subst hp; exact Go.of (fun _ k' => XT.ishl A.1.here A.2.1 rfl (hb A.2.2 hd) rfl k') k
theorem g_ishr (A : Ax p l e R s m args below meth c T locs cells slots B) {x : Int32} {y : Int32} (hd : decode B pc = .ok (.ishr, 1)) (hp : pc + 1 = pc') (k : Go p e below P T (mkF m pc' ls (.int (x >>> (y &&& 31)) :: st))) : Go p e below P T (mkF m pc ls (.int y :: .int x :: st)) := by
  subst hp; exact Go.of (fun _ k' => XT.ishr A.1.here A.2.1 rfl (hb A.2.2 hd) rfl k') k
theorem g_iushr (A : Ax p l e R s m args below meth c T locs cells slots B) {x : Int32} {y : Int32} (hd : decode B pc = .ok (.iushr, 1)) (hp : pc + 1 = pc') (k : Go p e below P T (mkF m pc' ls (.int (XT.ushr x y) :: st))) : Go p e below P T (mkF m pc ls (.int y :: .int x :: st)) := by
  subst hp; exact Go.of (fun _ k' => XT.iushr A.1.here A.2.1 rfl (hb A.2.2 hd) rfl k') k
theorem g_idiv (A : Ax p l e R s m args below meth c T locs cells slots B) {x : Int32} {y : Int32} (hd : decode B pc = .ok (.idiv, 1)) (hy : y ≠ 0) (hp : pc + 1 = pc') (k : Go p e below P T (mkF m pc' ls (.int (x / y) :: st))) : Go p e below P T (mkF m pc ls (.int y :: .int x :: st)) := by
  subst hp; exact Go.of (fun _ k' => XS.idiv A.1.here A.2.1 rfl (hb A.2.2 hd) rfl hy k') k
theorem g_ladd (A : Ax p l e R s m args below meth c T locs cells slots B) {x : Int64} {y : Int64} (hd : decode B pc = .ok (.ladd, 1)) (hp : pc + 1 = pc') (k : Go p e below P T (mkF m pc' ls (.long (x + y) :: st))) : Go p e below P T (mkF m pc ls (.long y :: .long x :: st)) := by
  subst hp; exact Go.of (fun _ k' => XT.ladd A.1.here A.2.1 rfl (hb A.2.2 hd) rfl k') k
theorem g_lsub (A : Ax p l e R s m args below meth c T locs cells slots B) {x : Int64} {y : Int64} (hd : decode B pc = .ok (.lsub, 1)) (hp : pc + 1 = pc') (k : Go p e below P T (mkF m pc' ls (.long (x - y) :: st))) : Go p e below P T (mkF m pc ls (.long y :: .long x :: st)) := by
  subst hp; exact Go.of (fun _ k' => XT.lsub A.1.here A.2.1 rfl (hb A.2.2 hd) rfl k') k
theorem g_lmul (A : Ax p l e R s m args below meth c T locs cells slots B) {x : Int64} {y : Int64} (hd : decode B pc = .ok (.lmul, 1)) (hp : pc + 1 = pc') (k : Go p e below P T (mkF m pc' ls (.long (x * y) :: st))) : Go p e below P T (mkF m pc ls (.long y :: .long x :: st)) := by
  subst hp; exact Go.of (fun _ k' => XT.lmul A.1.here A.2.1 rfl (hb A.2.2 hd) rfl k') k
theorem g_land (A : Ax p l e R s m args below meth c T locs cells slots B) {x : Int64} {y : Int64} (hd : decode B pc = .ok (.land, 1)) (hp : pc + 1 = pc') (k : Go p e below P T (mkF m pc' ls (.long (x &&& y) :: st))) : Go p e below P T (mkF m pc ls (.long y :: .long x :: st)) := by
  subst hp; exact Go.of (fun _ k' => XT.land A.1.here A.2.1 rfl (hb A.2.2 hd) rfl k') k
theorem g_lor (A : Ax p l e R s m args below meth c T locs cells slots B) {x : Int64} {y : Int64} (hd : decode B pc = .ok (.lor, 1)) (hp : pc + 1 = pc') (k : Go p e below P T (mkF m pc' ls (.long (x ||| y) :: st))) : Go p e below P T (mkF m pc ls (.long y :: .long x :: st)) := by
  subst hp; exact Go.of (fun _ k' => XT.lor A.1.here A.2.1 rfl (hb A.2.2 hd) rfl k') k
theorem g_lxor (A : Ax p l e R s m args below meth c T locs cells slots B) {x : Int64} {y : Int64} (hd : decode B pc = .ok (.lxor, 1)) (hp : pc + 1 = pc') (k : Go p e below P T (mkF m pc' ls (.long (x ^^^ y) :: st))) : Go p e below P T (mkF m pc ls (.long y :: .long x :: st)) := by
  subst hp; exact Go.of (fun _ k' => XT.lxor A.1.here A.2.1 rfl (hb A.2.2 hd) rfl k') k
theorem g_lshl (A : Ax p l e R s m args below meth c T locs cells slots B) {x : Int64} {y : Int32} (hd : decode B pc = .ok (.lshl, 1)) (hp : pc + 1 = pc') (k : Go p e below P T (mkF m pc' ls (.long (x <<< (y.toInt64 &&& 63)) :: st))) : Go p e below P T (mkF m pc ls (.int y :: .long x :: st)) := by
  subst hp; exact Go.of (fun _ k' => XT.lshl A.1.here A.2.1 rfl (hb A.2.2 hd) rfl k') k
theorem g_lshr (A : Ax p l e R s m args below meth c T locs cells slots B) {x : Int64} {y : Int32} (hd : decode B pc = .ok (.lshr, 1)) (hp : pc + 1 = pc') (k : Go p e below P T (mkF m pc' ls (.long (x >>> (y.toInt64 &&& 63)) :: st))) : Go p e below P T (mkF m pc ls (.int y :: .long x :: st)) := by
  subst hp; exact Go.of (fun _ k' => XT.lshr A.1.here A.2.1 rfl (hb A.2.2 hd) rfl k') k
theorem g_lushr (A : Ax p l e R s m args below meth c T locs cells slots B) {x : Int64} {y : Int32} (hd : decode B pc = .ok (.lushr, 1)) (hp : pc + 1 = pc') (k : Go p e below P T (mkF m pc' ls (.long (XT.ushrL x y) :: st))) : Go p e below P T (mkF m pc ls (.int y :: .long x :: st)) := by
  subst hp; exact Go.of (fun _ k' => XT.lushr A.1.here A.2.1 rfl (hb A.2.2 hd) rfl k') k
theorem g_ldiv (A : Ax p l e R s m args below meth c T locs cells slots B) {x : Int64} {y : Int64} (hd : decode B pc = .ok (.ldiv, 1)) (hy : y ≠ 0) (hp : pc + 1 = pc') (k : Go p e below P T (mkF m pc' ls (.long (x / y) :: st))) : Go p e below P T (mkF m pc ls (.long y :: .long x :: st)) := by
  subst hp; exact Go.of (fun _ k' => XT.ldiv A.1.here A.2.1 rfl (hb A.2.2 hd) rfl hy k') k
theorem g_lrem (A : Ax p l e R s m args below meth c T locs cells slots B) {x y : Int64} (hd : decode B pc = .ok (.lrem, 1)) (hy : y ≠ 0) (hp : pc + 1 = pc') (k : Go p e below P T (mkF m pc' ls (.long (x % y) :: st))) : Go p e below P T (mkF m pc ls (.long y :: .long x :: st)) := by
  subst hp; rw [← lrem_mod] at k; exact Go.of (fun _ k' => XT.lrem A.1.here A.2.1 rfl (hb A.2.2 hd) rfl hy k') k
theorem g_i2s (A : Ax p l e R s m args below meth c T locs cells slots B) {x : Int32} (hd : decode B pc = .ok (.i2s, 1)) (hp : pc + 1 = pc') (k : Go p e below P T (mkF m pc' ls (.int (x.toInt16.toInt32) :: st))) : Go p e below P T (mkF m pc ls (.int x :: st)) := by
  subst hp; exact Go.of (fun _ k' => XT.i2s A.1.here A.2.1 rfl (hb A.2.2 hd) rfl k') k
theorem g_i2b (A : Ax p l e R s m args below meth c T locs cells slots B) {x : Int32} (hd : decode B pc = .ok (.i2b, 1)) (hp : pc + 1 = pc') (k : Go p e below P T (mkF m pc' ls (.int (x.toInt8.toInt32) :: st))) : Go p e below P T (mkF m pc ls (.int x :: st)) := by
  subst hp; exact Go.of (fun _ k' => XT.i2b A.1.here A.2.1 rfl (hb A.2.2 hd) rfl k') k
theorem g_i2c (A : Ax p l e R s m args below meth c T locs cells slots B) {x : Int32} (hd : decode B pc = .ok (.i2c, 1)) (hp : pc + 1 = pc') (k : Go p e below P T (mkF m pc' ls (.int (x.toUInt32.toUInt16.toUInt32.toInt32) :: st))) : Go p e below P T (mkF m pc ls (.int x :: st)) := by
  subst hp; exact Go.of (fun _ k' => XT.i2c A.1.here A.2.1 rfl (hb A.2.2 hd) rfl k') k
theorem g_ineg (A : Ax p l e R s m args below meth c T locs cells slots B) {x : Int32} (hd : decode B pc = .ok (.ineg, 1)) (hp : pc + 1 = pc') (k : Go p e below P T (mkF m pc' ls (.int (-x) :: st))) : Go p e below P T (mkF m pc ls (.int x :: st)) := by
  subst hp; exact Go.of (fun _ k' => XS.ineg A.1.here A.2.1 rfl (hb A.2.2 hd) rfl k') k
theorem g_lneg (A : Ax p l e R s m args below meth c T locs cells slots B) {x : Int64} (hd : decode B pc = .ok (.lneg, 1)) (hp : pc + 1 = pc') (k : Go p e below P T (mkF m pc' ls (.long (-x) :: st))) : Go p e below P T (mkF m pc ls (.long x :: st)) := by
  subst hp; exact Go.of (fun _ k' => XT.lneg A.1.here A.2.1 rfl (hb A.2.2 hd) rfl k') k
theorem g_i2l (A : Ax p l e R s m args below meth c T locs cells slots B) {x : Int32} (hd : decode B pc = .ok (.i2l, 1)) (hp : pc + 1 = pc') (k : Go p e below P T (mkF m pc' ls (.long (x.toInt64) :: st))) : Go p e below P T (mkF m pc ls (.int x :: st)) := by
  subst hp; exact Go.of (fun _ k' => XT.i2l A.1.here A.2.1 rfl (hb A.2.2 hd) rfl k') k
theorem g_l2i (A : Ax p l e R s m args below meth c T locs cells slots B) {x : Int64} (hd : decode B pc = .ok (.l2i, 1)) (hp : pc + 1 = pc') (k : Go p e below P T (mkF m pc' ls (.int (x.toInt32) :: st))) : Go p e below P T (mkF m pc ls (.long x :: st)) := by
  subst hp; exact Go.of (fun _ k' => XT.l2i A.1.here A.2.1 rfl (hb A.2.2 hd) rfl k') k
theorem g_irem (A : Ax p l e R s m args below meth c T locs cells slots B) {x y : Int32} (hd : decode B pc = .ok (.irem, 1)) (hy : y ≠ 0) (hp : pc + 1 = pc') (k : Go p e below P T (mkF m pc' ls (.int (x % y) :: st))) : Go p e below P T (mkF m pc ls (.int y :: .int x :: st)) := by
  subst hp; exact Go.of (fun _ k' => iremM A.1 A.2.1 rfl (hb A.2.2 hd) rfl hy k') k
theorem g_iloadN (A : Ax p l e R s m args below meth c T locs cells slots B) {k : Fin 4} {v : Int32} (hd : decode B pc = .ok (.iload_n k, 1)) (hl : ls[k.val]? = some (.val (.int v))) (hp : pc + 1 = pc') (k : Go p e below P T (mkF m pc' ls (.int v :: st))) : Go p e below P T (mkF m pc ls st) := by
  subst hp; exact Go.of (fun _ k' => XS.iloadN A.1.here A.2.1 rfl (hb A.2.2 hd) hl k') k
theorem g_iload (A : Ax p l e R s m args below meth c T locs cells slots B) {k : Nat} {v : Int32} (hd : decode B pc = .ok (.iload k, 2)) (hl : ls[k]? = some (.val (.int v))) (hp : pc + 2 = pc') (k : Go p e below P T (mkF m pc' ls (.int v :: st))) : Go p e below P T (mkF m pc ls st) := by
  subst hp; exact Go.of (fun _ k' => XS.iload A.1.here A.2.1 rfl (hb A.2.2 hd) hl k') k
theorem g_lloadN (A : Ax p l e R s m args below meth c T locs cells slots B) {k : Fin 4} {v : Int64} (hd : decode B pc = .ok (.lload_n k, 1)) (hl : ls[k.val]? = some (.val (.long v))) (hp : pc + 1 = pc') (k : Go p e below P T (mkF m pc' ls (.long v :: st))) : Go p e below P T (mkF m pc ls st) := by
  subst hp; exact Go.of (fun _ k' => XT.lloadN A.1.here A.2.1 rfl (hb A.2.2 hd) hl k') k
theorem g_lload (A : Ax p l e R s m args below meth c T locs cells slots B) {k : Nat} {v : Int64} (hd : decode B pc = .ok (.lload k, 2)) (hl : ls[k]? = some (.val (.long v))) (hp : pc + 2 = pc') (k : Go p e below P T (mkF m pc' ls (.long v :: st))) : Go p e below P T (mkF m pc ls st) := by
  subst hp; exact Go.of (fun _ k' => XT.lload A.1.here A.2.1 rfl (hb A.2.2 hd) hl k') k
theorem g_aloadN (A : Ax p l e R s m args below meth c T locs cells slots B) {k : Fin 4} {v : Value} (hd : decode B pc = .ok (.aload_n k, 1)) (hl : ls[k.val]? = some (.val v)) (hv : v.isRef = true) (hp : pc + 1 = pc') (k : Go p e below P T (mkF m pc' ls (v :: st))) : Go p e below P T (mkF m pc ls st) := by
  subst hp; exact Go.of (fun _ k' => XS.aloadN A.1.here A.2.1 rfl (hb A.2.2 hd) hl hv k') k
theorem g_aload (A : Ax p l e R s m args below meth c T locs cells slots B) {k : Nat} {v : Value} (hd : decode B pc = .ok (.aload k, 2)) (hl : ls[k]? = some (.val v)) (hv : v.isRef = true) (hp : pc + 2 = pc') (k : Go p e below P T (mkF m pc' ls (v :: st))) : Go p e below P T (mkF m pc ls st) := by
  subst hp; exact Go.of (fun _ k' => XS.aload A.1.here A.2.1 rfl (hb A.2.2 hd) hl hv k') k
theorem g_dloadN (A : Ax p l e R s m args below meth c T locs cells slots B) {k : Fin 4} {v : UInt64} (hd : decode B pc = .ok (.dload_n k, 1)) (hl : ls[k.val]? = some (.val (.double v))) (hp : pc + 1 = pc') (k : Go p e below P T (mkF m pc' ls (.double v :: st))) : Go p e below P T (mkF m pc ls st) := by
  subst hp
  refine Go.of (fun t k' => ?_) k
  have h := A.1.here
  have hx := A.2.1
  have hd' := hb A.2.2 hd
  show Steps p.tables e below (T.setTop { method := m, pc := pc, locals := ls, stack := st, locked := none }) _
  jvm_step h [h.top, hx, hd', hl]
  exact k'
theorem g_dload (A : Ax p l e R s m args below meth c T locs cells slots B) {k : Nat} {v : UInt64} (hd : decode B pc = .ok (.dload k, 2)) (hl : ls[k]? = some (.val (.double v))) (hp : pc + 2 = pc') (k : Go p e below P T (mkF m pc' ls (.double v :: st))) : Go p e below P T (mkF m pc ls st) := by
  subst hp
  refine Go.of (fun t k' => ?_) k
  have h := A.1.here
  have hx := A.2.1
  have hd' := hb A.2.2 hd
  show Steps p.tables e below (T.setTop { method := m, pc := pc, locals := ls, stack := st, locked := none }) _
  jvm_step h [h.top, hx, hd', hl]
  exact k'
theorem g_istoreN (A : Ax p l e R s m args below meth c T locs cells slots B) {k : Fin 4} {x : Int32} (hd : decode B pc = .ok (.istore_n k, 1)) (hl : storeLocals ls k.val (.int x) = some ls') (hp : pc + 1 = pc') (k : Go p e below P T (mkF m pc' ls' st)) : Go p e below P T (mkF m pc ls (.int x :: st)) := by
  subst hp; exact Go.of (fun _ k' => XS.istoreN A.1.here A.2.1 rfl (hb A.2.2 hd) rfl hl k') k
theorem g_istore (A : Ax p l e R s m args below meth c T locs cells slots B) {k : Nat} {x : Int32} (hd : decode B pc = .ok (.istore k, 2)) (hl : storeLocals ls k (.int x) = some ls') (hp : pc + 2 = pc') (k : Go p e below P T (mkF m pc' ls' st)) : Go p e below P T (mkF m pc ls (.int x :: st)) := by
  subst hp; exact Go.of (fun _ k' => XS.istore A.1.here A.2.1 rfl (hb A.2.2 hd) rfl hl k') k
theorem g_lstoreN (A : Ax p l e R s m args below meth c T locs cells slots B) {k : Fin 4} {x : Int64} (hd : decode B pc = .ok (.lstore_n k, 1)) (hl : storeLocals ls k.val (.long x) = some ls') (hp : pc + 1 = pc') (k : Go p e below P T (mkF m pc' ls' st)) : Go p e below P T (mkF m pc ls (.long x :: st)) := by
  subst hp; exact Go.of (fun _ k' => XT.lstoreN A.1.here A.2.1 rfl (hb A.2.2 hd) rfl hl k') k
theorem g_lstore (A : Ax p l e R s m args below meth c T locs cells slots B) {k : Nat} {x : Int64} (hd : decode B pc = .ok (.lstore k, 2)) (hl : storeLocals ls k (.long x) = some ls') (hp : pc + 2 = pc') (k : Go p e below P T (mkF m pc' ls' st)) : Go p e below P T (mkF m pc ls (.long x :: st)) := by
  subst hp; exact Go.of (fun _ k' => XT.lstore A.1.here A.2.1 rfl (hb A.2.2 hd) rfl hl k') k
theorem g_astoreN (A : Ax p l e R s m args below meth c T locs cells slots B) {k : Fin 4} {x : Value} (hd : decode B pc = .ok (.astore_n k, 1)) (hv : x.isRef = true) (hl : storeLocals ls k.val x = some ls') (hp : pc + 1 = pc') (k : Go p e below P T (mkF m pc' ls' st)) : Go p e below P T (mkF m pc ls (x :: st)) := by
  subst hp; exact Go.of (fun _ k' => XS.astoreN A.1.here A.2.1 rfl (hb A.2.2 hd) rfl hv hl k') k
theorem g_astore (A : Ax p l e R s m args below meth c T locs cells slots B) {k : Nat} {x : Value} (hd : decode B pc = .ok (.astore k, 2)) (hv : x.isRef = true) (hl : storeLocals ls k x = some ls') (hp : pc + 2 = pc') (k : Go p e below P T (mkF m pc' ls' st)) : Go p e below P T (mkF m pc ls (x :: st)) := by
  subst hp; exact Go.of (fun _ k' => XS.astore A.1.here A.2.1 rfl (hb A.2.2 hd) rfl hv hl k') k
theorem g_dstoreN (A : Ax p l e R s m args below meth c T locs cells slots B) {k : Fin 4} {x : UInt64} (hd : decode B pc = .ok (.dstore_n k, 1)) (hl : storeLocals ls k.val (.double x) = some ls') (hp : pc + 1 = pc') (k : Go p e below P T (mkF m pc' ls' st)) : Go p e below P T (mkF m pc ls (.double x :: st)) := by
  subst hp
  refine Go.of (fun t k' => ?_) k
  have h := A.1.here
  have hx := A.2.1
  have hd' := hb A.2.2 hd
  show Steps p.tables e below (T.setTop { method := m, pc := pc, locals := ls, stack := .double x :: st, locked := none }) _
  jvm_step h [h.top, hx, hd']
  exact ⟨ls', hl, k'⟩
theorem g_dstore (A : Ax p l e R s m args below meth c T locs cells slots B) {k : Nat} {x : UInt64} (hd : decode B pc = .ok (.dstore k, 2)) (hl : storeLocals ls k (.double x) = some ls') (hp : pc + 2 = pc') (k : Go p e below P T (mkF m pc' ls' st)) : Go p e below P T (mkF m pc ls (.double x :: st)) := by
  subst hp
  refine Go.of (fun t k' => ?_) k
  have h := A.1.here
  have hx := A.2.1
  have hd' := hb A.2.2 hd
  show Steps p.tables e below (T.setTop { method := m, pc := pc, locals := ls, stack := .double x :: st, locked := none }) _
  jvm_step h [h.top, hx, hd']
  exact ⟨ls', hl, k'⟩
theorem g_iconst (A : Ax p l e R s m args below meth c T locs cells slots B) {i : Int} {v : Int32} (hd : decode B pc = .ok (.iconst i, 1)) (hv : Int32.ofInt i = v) (hp : pc + 1 = pc') (k : Go p e below P T (mkF m pc' ls (.int v :: st))) : Go p e below P T (mkF m pc ls st) := by
  subst hp hv; exact Go.of (fun _ k' => XS.iconst A.1.here A.2.1 rfl (hb A.2.2 hd) k') k
theorem g_bipush (A : Ax p l e R s m args below meth c T locs cells slots B) {i : Int} {v : Int32} (hd : decode B pc = .ok (.bipush i, 2)) (hv : (Int8.ofInt i).toInt32 = v) (hp : pc + 2 = pc') (k : Go p e below P T (mkF m pc' ls (.int v :: st))) : Go p e below P T (mkF m pc ls st) := by
  subst hp hv; exact Go.of (fun _ k' => XS.bipush A.1.here A.2.1 rfl (hb A.2.2 hd) k') k
theorem g_sipush (A : Ax p l e R s m args below meth c T locs cells slots B) {i : Int} {v : Int32} (hd : decode B pc = .ok (.sipush i, 3)) (hv : (Int16.ofInt i).toInt32 = v) (hp : pc + 3 = pc') (k : Go p e below P T (mkF m pc' ls (.int v :: st))) : Go p e below P T (mkF m pc ls st) := by
  subst hp hv; exact Go.of (fun _ k' => XS.sipush A.1.here A.2.1 rfl (hb A.2.2 hd) k') k
theorem g_aconst (A : Ax p l e R s m args below meth c T locs cells slots B) (hd : decode B pc = .ok (.aconst_null, 1)) (hp : pc + 1 = pc') (k : Go p e below P T (mkF m pc' ls (.null :: st))) : Go p e below P T (mkF m pc ls st) := by
  subst hp; exact Go.of (fun _ k' => XS.aconstNull A.1.here A.2.1 rfl (hb A.2.2 hd) k') k
theorem g_lconst (A : Ax p l e R s m args below meth c T locs cells slots B) {i : Fin 2} {v : Int64} (hd : decode B pc = .ok (.lconst i, 1)) (hv : Int64.ofNat i = v) (hp : pc + 1 = pc') (k : Go p e below P T (mkF m pc' ls (.long v :: st))) : Go p e below P T (mkF m pc ls st) := by
  subst hp hv; exact Go.of (fun _ k' => XT.lconst A.1.here A.2.1 rfl (hb A.2.2 hd) k') k
theorem g_dconst0 (A : Ax p l e R s m args below meth c T locs cells slots B) (hd : decode B pc = .ok (.dconst 0, 1)) (hp : pc + 1 = pc') (k : Go p e below P T (mkF m pc' ls (.double (0 : UInt64) :: st))) : Go p e below P T (mkF m pc ls st) := by
  subst hp
  refine Go.of (fun t k' => ?_) k
  have h := A.1.here
  have hx := A.2.1
  have hd' := hb A.2.2 hd
  show Steps p.tables e below (T.setTop { method := m, pc := pc, locals := ls, stack := st, locked := none }) _
  jvm_step h [h.top, hx, hd']
  exact k'
theorem g_dconst1 (A : Ax p l e R s m args below meth c T locs cells slots B) (hd : decode B pc = .ok (.dconst 1, 1)) (hp : pc + 1 = pc') (k : Go p e below P T (mkF m pc' ls (.double (4607182418800017408 : UInt64) :: st))) : Go p e below P T (mkF m pc ls st) := by
  subst hp
  refine Go.of (fun t k' => ?_) k
  have h := A.1.here
  have hx := A.2.1
  have hd' := hb A.2.2 hd
  show Steps p.tables e below (T.setTop { method := m, pc := pc, locals := ls, stack := st, locked := none }) _
  jvm_step h [h.top, hx, hd']
  exact k'
theorem g_dadd (A : Ax p l e R s m args below meth c T locs cells slots B) {x y : UInt64} (hd : decode B pc = .ok (.dadd, 1)) (hn : NoNaN64 (FP.dadd x y)) (hp : pc + 1 = pc') (k : Go p e below P T (mkF m pc' ls (.double (FP.dadd x y) :: st))) : Go p e below P T (mkF m pc ls (.double y :: .double x :: st)) := by
  subst hp
  refine Go.of (fun t k' => ?_) k
  have h := A.1.here
  have hx := A.2.1
  have hd' := hb A.2.2 hd
  show Steps p.tables e below (T.setTop { method := m, pc := pc, locals := ls, stack := .double y :: .double x :: st, locked := none }) _
  jvm_step h [h.top, hx, hd', Op.dadd.at_number h.top hn]
  exact k'
theorem g_dsub (A : Ax p l e R s m args below meth c T locs cells slots B) {x y : UInt64} (hd : decode B pc = .ok (.dsub, 1)) (hn : NoNaN64 (FP.dsub x y)) (hp : pc + 1 = pc') (k : Go p e below P T (mkF m pc' ls (.double (FP.dsub x y) :: st))) : Go p e below P T (mkF m pc ls (.double y :: .double x :: st)) := by
  subst hp
  refine Go.of (fun t k' => ?_) k
  have h := A.1.here
  have hx := A.2.1
  have hd' := hb A.2.2 hd
  show Steps p.tables e below (T.setTop { method := m, pc := pc, locals := ls, stack := .double y :: .double x :: st, locked := none }) _
  jvm_step h [h.top, hx, hd', Op.dsub.at_number h.top hn]
  exact k'
theorem g_dmul (A : Ax p l e R s m args below meth c T locs cells slots B) {x y : UInt64} (hd : decode B pc = .ok (.dmul, 1)) (hn : NoNaN64 (FP.dmul x y)) (hp : pc + 1 = pc') (k : Go p e below P T (mkF m pc' ls (.double (FP.dmul x y) :: st))) : Go p e below P T (mkF m pc ls (.double y :: .double x :: st)) := by
  subst hp
  refine Go.of (fun t k' => ?_) k
  have h := A.1.here
  have hx := A.2.1
  have hd' := hb A.2.2 hd
  show Steps p.tables e below (T.setTop { method := m, pc := pc, locals := ls, stack := .double y :: .double x :: st, locked := none }) _
  jvm_step h [h.top, hx, hd', Op.dmul.at_number h.top hn]
  exact k'
theorem g_ddiv (A : Ax p l e R s m args below meth c T locs cells slots B) {x y : UInt64} (hd : decode B pc = .ok (.ddiv, 1)) (hn : NoNaN64 (FP.ddiv x y)) (hp : pc + 1 = pc') (k : Go p e below P T (mkF m pc' ls (.double (FP.ddiv x y) :: st))) : Go p e below P T (mkF m pc ls (.double y :: .double x :: st)) := by
  subst hp
  refine Go.of (fun t k' => ?_) k
  have h := A.1.here
  have hx := A.2.1
  have hd' := hb A.2.2 hd
  show Steps p.tables e below (T.setTop { method := m, pc := pc, locals := ls, stack := .double y :: .double x :: st, locked := none }) _
  jvm_step h [h.top, hx, hd', Op.ddiv.at_number h.top hn]
  exact k'
theorem g_daddL (A : Ax p l e R s m args below meth c T locs cells slots B) {x y z : UInt64} (hd : decode B pc = .ok (.dadd, 1)) (hz : FP.dadd x y = z) (hn : NoNaN64 z) (hp : pc + 1 = pc') (k : Go p e below P T (mkF m pc' ls (.double z :: st))) : Go p e below P T (mkF m pc ls (.double y :: .double x :: st)) := g_dadd A hd (hz.symm ▸ hn) hp (hz.symm ▸ k)
theorem g_dsubL (A : Ax p l e R s m args below meth c T locs cells slots B) {x y z : UInt64} (hd : decode B pc = .ok (.dsub, 1)) (hz : FP.dsub x y = z) (hn : NoNaN64 z) (hp : pc + 1 = pc') (k : Go p e below P T (mkF m pc' ls (.double z :: st))) : Go p e below P T (mkF m pc ls (.double y :: .double x :: st)) := g_dsub A hd (hz.symm ▸ hn) hp (hz.symm ▸ k)
theorem g_dmulL (A : Ax p l e R s m args below meth c T locs cells slots B) {x y z : UInt64} (hd : decode B pc = .ok (.dmul, 1)) (hz : FP.dmul x y = z) (hn : NoNaN64 z) (hp : pc + 1 = pc') (k : Go p e below P T (mkF m pc' ls (.double z :: st))) : Go p e below P T (mkF m pc ls (.double y :: .double x :: st)) := g_dmul A hd (hz.symm ▸ hn) hp (hz.symm ▸ k)
theorem g_ddivL (A : Ax p l e R s m args below meth c T locs cells slots B) {x y z : UInt64} (hd : decode B pc = .ok (.ddiv, 1)) (hz : FP.ddiv x y = z) (hn : NoNaN64 z) (hp : pc + 1 = pc') (k : Go p e below P T (mkF m pc' ls (.double z :: st))) : Go p e below P T (mkF m pc ls (.double y :: .double x :: st)) := g_ddiv A hd (hz.symm ▸ hn) hp (hz.symm ▸ k)
theorem g_dneg (A : Ax p l e R s m args below meth c T locs cells slots B) {x : UInt64} (hd : decode B pc = .ok (.dneg, 1)) (hp : pc + 1 = pc') (k : Go p e below P T (mkF m pc' ls (.double (FP.dneg x) :: st))) : Go p e below P T (mkF m pc ls (.double x :: st)) := by
  subst hp
  refine Go.of (fun t k' => ?_) k
  have h := A.1.here
  have hx := A.2.1
  have hd' := hb A.2.2 hd
  show Steps p.tables e below (T.setTop { method := m, pc := pc, locals := ls, stack := .double x :: st, locked := none }) _
  jvm_step h [h.top, hx, hd']
  exact k'
theorem g_i2d (A : Ax p l e R s m args below meth c T locs cells slots B) {x : Int32} (hd : decode B pc = .ok (.i2d, 1)) (hp : pc + 1 = pc') (k : Go p e below P T (mkF m pc' ls (.double (FP.i2d x) :: st))) : Go p e below P T (mkF m pc ls (.int x :: st)) := by
  subst hp
  refine Go.of (fun t k' => ?_) k
  have h := A.1.here
  have hx := A.2.1
  have hd' := hb A.2.2 hd
  show Steps p.tables e below (T.setTop { method := m, pc := pc, locals := ls, stack := .int x :: st, locked := none }) _
  jvm_step h [h.top, hx, hd']
  exact k'
theorem g_l2d (A : Ax p l e R s m args below meth c T locs cells slots B) {x : Int64} (hd : decode B pc = .ok (.l2d, 1)) (hp : pc + 1 = pc') (k : Go p e below P T (mkF m pc' ls (.double (FP.l2d x) :: st))) : Go p e below P T (mkF m pc ls (.long x :: st)) := by
  subst hp
  refine Go.of (fun t k' => ?_) k
  have h := A.1.here
  have hx := A.2.1
  have hd' := hb A.2.2 hd
  show Steps p.tables e below (T.setTop { method := m, pc := pc, locals := ls, stack := .long x :: st, locked := none }) _
  jvm_step h [h.top, hx, hd']
  exact k'
theorem g_dcmp (A : Ax p l e R s m args below meth c T locs cells slots B) {x y : UInt64} {op : CmpOp} (hd : decode B pc = .ok (.dcmp op, 1)) (hp : pc + 1 = pc') (k : Go p e below P T (mkF m pc' ls (.int (cmpValue (FP.dcmp x y) op) :: st))) : Go p e below P T (mkF m pc ls (.double y :: .double x :: st)) := by
  subst hp
  refine Go.of (fun t k' => ?_) k
  have h := A.1.here
  have hx := A.2.1
  have hd' := hb A.2.2 hd
  show Steps p.tables e below (T.setTop { method := m, pc := pc, locals := ls, stack := .double y :: .double x :: st, locked := none }) _
  jvm_step h [h.top, hx, hd']
  exact k'
theorem g_lcmp (A : Ax p l e R s m args below meth c T locs cells slots B) {x y : Int64} (hd : decode B pc = .ok (.lcmp, 1)) (hp : pc + 1 = pc') (k : Go p e below P T (mkF m pc' ls (.int (XT.cmpL x y) :: st))) : Go p e below P T (mkF m pc ls (.long y :: .long x :: st)) := by
  subst hp; exact Go.of (fun _ k' => XT.lcmp A.1.here A.2.1 rfl (hb A.2.2 hd) rfl k') k
theorem g_dup (A : Ax p l e R s m args below meth c T locs cells slots B) {x : Value} (hd : decode B pc = .ok (.dup, 1)) (hc : x.category = 1) (hp : pc + 1 = pc') (k : Go p e below P T (mkF m pc' ls (x :: x :: st))) : Go p e below P T (mkF m pc ls (x :: st)) := by
  subst hp; exact Go.of (fun _ k' => XS.dup A.1.here A.2.1 rfl (hb A.2.2 hd) rfl hc k') k
theorem g_pop (A : Ax p l e R s m args below meth c T locs cells slots B) {x : Value} (hd : decode B pc = .ok (.pop, 1)) (hc : x.category = 1) (hp : pc + 1 = pc') (k : Go p e below P T (mkF m pc' ls st)) : Go p e below P T (mkF m pc ls (x :: st)) := by
  subst hp; exact Go.of (fun _ k' => XT.pop A.1.here A.2.1 rfl (hb A.2.2 hd) rfl hc k') k
theorem g_iinc (A : Ax p l e R s m args below meth c T locs cells slots B) {k : Nat} {i : Int} {x y : Int32} (hd : decode B pc = .ok (.iinc k i, 3)) (hl : ls[k]? = some (.val (.int x))) (hy : x + Int32.ofInt i = y) (hl' : storeLocals ls k (.int y) = some ls') (hp : pc + 3 = pc') (k : Go p e below P T (mkF m pc' ls' st)) : Go p e below P T (mkF m pc ls st) := by
  subst hp hy; exact Go.of (fun _ k' => XS.iinc A.1.here A.2.1 rfl (hb A.2.2 hd) hl hl' k') k
theorem own_off {pc pc' : Nat} {o : Int} (h : (pc : Int) + o = (pc' : Int)) : 0 ≤ (pc : Int) + o ∧ ((pc : Int) + o).toNat = pc' := by omega
theorem g_goto (A : Ax p l e R s m args below meth c T locs cells slots B) {o : Int} (hd : decode B pc = .ok (.goto o, 3)) (hp : (pc : Int) + o = (pc' : Int)) (k : Go p e below P T (mkF m pc' ls st)) : Go p e below P T (mkF m pc ls st) := Go.of (fun _ k' => XS.goto A.1.here A.2.1 rfl rfl (hb A.2.2 hd) (own_off hp).1 (own_off hp).2 k') k
theorem g_ifY (A : Ax p l e R s m args below meth c T locs cells slots B) {o : Int} {cd : ClassFile.Cond} {x : Int32} (hd : decode B pc = .ok (.ifCond cd o, 3)) (hc : ifCond.holds cd x = true) (hp : (pc : Int) + o = (pc' : Int)) (k : Go p e below P T (mkF m pc' ls st)) : Go p e below P T (mkF m pc ls (.int x :: st)) := Go.of (fun _ k' => XS.ifYes A.1.here A.2.1 rfl rfl (hb A.2.2 hd) rfl hc (own_off hp).1 (own_off hp).2 k') k
theorem g_ifN (A : Ax p l e R s m args below meth c T locs cells slots B) {o : Int} {cd : ClassFile.Cond} {x : Int32} (hd : decode B pc = .ok (.ifCond cd o, 3)) (hc : ifCond.holds cd x = false) (hp : pc + 3 = pc') (k : Go p e below P T (mkF m pc' ls st)) : Go p e below P T (mkF m pc ls (.int x :: st)) := by
  subst hp; exact Go.of (fun _ k' => XS.ifNo A.1.here A.2.1 rfl (hb A.2.2 hd) rfl hc k') k
theorem g_icY (A : Ax p l e R s m args below meth c T locs cells slots B) {o : Int} {cd : ClassFile.Cond} {x y : Int32} (hd : decode B pc = .ok (.if_icmp cd o, 3)) (hc : if_icmp.holds cd x y = true) (hp : (pc : Int) + o = (pc' : Int)) (k : Go p e below P T (mkF m pc' ls st)) : Go p e below P T (mkF m pc ls (.int y :: .int x :: st)) := Go.of (fun _ k' => XS.icmpYes A.1.here A.2.1 rfl rfl (hb A.2.2 hd) rfl hc (own_off hp).1 (own_off hp).2 k') k
theorem g_icN (A : Ax p l e R s m args below meth c T locs cells slots B) {o : Int} {cd : ClassFile.Cond} {x y : Int32} (hd : decode B pc = .ok (.if_icmp cd o, 3)) (hc : if_icmp.holds cd x y = false) (hp : pc + 3 = pc') (k : Go p e below P T (mkF m pc' ls st)) : Go p e below P T (mkF m pc ls (.int y :: .int x :: st)) := by
  subst hp; exact Go.of (fun _ k' => XS.icmpNo A.1.here A.2.1 rfl (hb A.2.2 hd) rfl hc k') k
theorem c0_eq_t {x : Int32} (h : x = 0) : ifCond.holds .eq x = true := (if0 _ _).trans (teq h).1
theorem c0_eq_f {x : Int32} (h : ¬ x = 0) : ifCond.holds .eq x = false := (if0 _ _).trans (feq h).1
theorem c0_ne_t {x : Int32} (h : ¬ x = 0) : ifCond.holds .ne x = true := (if0 _ _).trans (feq h).2
theorem c0_ne_f {x : Int32} (h : x = 0) : ifCond.holds .ne x = false := (if0 _ _).trans (teq h).2
theorem c0_lt_t {x : Int32} (h : x < 0) : ifCond.holds .lt x = true := (if0 _ _).trans (tlt h).1
theorem c0_lt_f {x : Int32} (h : ¬ x < 0) : ifCond.holds .lt x = false := (if0 _ _).trans (flt h).1
theorem c0_ge_t {x : Int32} (h : ¬ x < 0) : ifCond.holds .ge x = true := (if0 _ _).trans (flt h).2.1
theorem c0_ge_f {x : Int32} (h : x < 0) : ifCond.holds .ge x = false := (if0 _ _).trans (tlt h).2.1
theorem c0_gt_t {x : Int32} (h : 0 < x) : ifCond.holds .gt x = true := (if0 _ _).trans (tlt h).2.2.1
theorem c0_gt_f {x : Int32} (h : ¬ 0 < x) : ifCond.holds .gt x = false := (if0 _ _).trans (flt h).2.2.1
theorem c0_le_t {x : Int32} (h : ¬ 0 < x) : ifCond.holds .le x = true := (if0 _ _).trans (flt h).2.2.2
theorem c0_le_f {x : Int32} (h : 0 < x) : ifCond.holds .le x = false := (if0 _ _).trans (tlt h).2.2.2
theorem c2_eq_t {x y : Int32} (h : x = y) : if_icmp.holds .eq x y = true := (teq h).1
theorem c2_eq_f {x y : Int32} (h : ¬ x = y) : if_icmp.holds .eq x y = false := (feq h).1
theorem c2_ne_t {x y : Int32} (h : ¬ x = y) : if_icmp.holds .ne x y = true := (feq h).2
theorem c2_ne_f {x y : Int32} (h : x = y) : if_icmp.holds .ne x y = false := (teq h).2
theorem c2_lt_t {x y : Int32} (h : x < y) : if_icmp.holds .lt x y = true := (tlt h).1
theorem c2_lt_f {x y : Int32} (h : ¬ x < y) : if_icmp.holds .lt x y = false := (flt h).1
theorem c2_ge_t {x y : Int32} (h : ¬ x < y) : if_icmp.holds .ge x y = true := (flt h).2.1
theorem c2_ge_f {x y : Int32} (h : x < y) : if_icmp.holds .ge x y = false := (tlt h).2.1
theorem c2_gt_t {x y : Int32} (h : y < x) : if_icmp.holds .gt x y = true := (tlt h).2.2.1
theorem c2_gt_f {x y : Int32} (h : ¬ y < x) : if_icmp.holds .gt x y = false := (flt h).2.2.1
theorem c2_le_t {x y : Int32} (h : ¬ y < x) : if_icmp.holds .le x y = true := (flt h).2.2.2
theorem c2_le_f {x y : Int32} (h : y < x) : if_icmp.holds .le x y = false := (tlt h).2.2.2
theorem b0_eq_t {C : Prop} [Decidable C] {v : Int32} (e : v = if C then 1 else 0) (h : ¬ C) : ifCond.holds .eq v = true := c0_eq_t (by rw [e, if_neg h])
theorem b0_eq_f {C : Prop} [Decidable C] {v : Int32} (e : v = if C then 1 else 0) (h : C) : ifCond.holds .eq v = false := c0_eq_f (by rw [e, if_pos h]; decide)
theorem b0_ne_t {C : Prop} [Decidable C] {v : Int32} (e : v = if C then 1 else 0) (h : C) : ifCond.holds .ne v = true := c0_ne_t (by rw [e, if_pos h]; decide)
theorem b0_ne_f {C : Prop} [Decidable C] {v : Int32} (e : v = if C then 1 else 0) (h : ¬ C) : ifCond.holds .ne v = false := c0_ne_f (by rw [e, if_neg h])
theorem own_b01 {C : Prop} [Decidable C] {v : Int32} (e : v = if C then 1 else 0) : narrow .boolean (.int v) = .int v := by
  subst e; by_cases h : C
  · rw [if_pos h]; rfl
  · rw [if_neg h]; rfl
theorem own_fb {C : Prop} [Decidable C] {v : Int32} (e : v = if C then 1 else 0) : fits .boolean (.int v) = true := by
  subst e; by_cases h : C
  · rw [if_pos h]; rfl
  · rw [if_neg h]; rfl
theorem own_ndadd {x y : UInt64} (h1 : Fin64 x) (h2 : Fin64 y) : NoNaN64 (FP.dadd x y) := dadd_out h1.noNaN h2
theorem own_ndsub {x y : UInt64} (h1 : Fin64 x) (h2 : Fin64 y) : NoNaN64 (FP.dsub x y) := dsub_out h1.noNaN h2
theorem own_ndmul {x y : UInt64} (h1 : Fin64 x) (h2 : Fin64 y) : NoNaN64 (FP.dmul x y) := dmul_out h1 h2
theorem own_fin {x : UInt64} : Fin64 x ↔ FP.Core.DFin x := fin64_core
theorem own_fneg {x : UInt64} (h : Fin64 x) : Fin64 (FP.dneg x) := by
  obtain ⟨s, c, q, e⟩ := fin64_core.mp h
  exact fin64_core.mpr ⟨!s, c, q, (FP.val64_dneg x).trans (by rw [e]; rfl)⟩
theorem own_self {x : UInt64} (h : Fin64 x) : FP.dcmp x x = some .eq := FP.Core.dcmp_self (fin64_core.mp h).ne_nan
theorem own_sgt {x : UInt64} (h : Fin64 x) : ¬ FP.dcmp x x = some .gt := by rw [own_self h]; decide
theorem own_slt {x : UInt64} (h : Fin64 x) : ¬ FP.dcmp x x = some .lt := by rw [own_self h]; decide
theorem own_and {c d : Jvm.Cond} {a : Array Value} {s : State} (h1 : c.before a s = true) (h2 : d.before a s = true) : (Jvm.Cond.and c d).before a s = true := by rw [Cond.before_and, h1, h2]; rfl
theorem own_isfin {x : UInt64} (h : Fin64 x) : some (Value.int (if Jvm.Free.Fl.relLe (FP.dcmp (x &&& 0x7fffffffffffffff) Jvm.Free.Fl.maxD) = true then (1 : Int32) else 0)) = some (.int (1 : Int32)) := by rw [if_pos ((le_max_iff h.noNaN).mpr h)]
theorem own_isinf {x : UInt64} (h : Fin64 x) : some (Value.int (if Jvm.Free.Fl.relGt (FP.dcmp (x &&& 0x7fffffffffffffff) Jvm.Free.Fl.maxD) = true then (1 : Int32) else 0)) = some (.int (0 : Int32)) := by rw [if_neg (fun h4 => (gt_max_iff h.noNaN).mp h4 h)]
theorem own_dfin {i : Int} {x : UInt64} (h : FP.Core.DInt i x) : Fin64 x := by
  refine fin64_core.mpr ?_
  have q : FP.Core.Whole i (FP.Core.val64 x) := h
  cases e : FP.Core.val64 x with
  | nan => rw [e] at q; exact q.elim
  | inf s => rw [e] at q; exact q.elim
  | fin s c q => exact ⟨s, c, q, e⟩
theorem own_fn {v : Int32} (h : narrow .boolean (.int v) = .int v) : fits .boolean (.int v) = true := by
  have q : v &&& 1 = v := Value.int.inj h
  rcases and_one v with z | z <;> rw [z] at q <;> subst q <;> rfl
/-- a double less than, equal to .. another, as the code asks it -/
abbrev oGe (o : Option Ordering) : Prop := o = some .gt ∨ o = some .eq
abbrev oLe (o : Option Ordering) : Prop := o = some .lt ∨ o = some .eq
theorem d_l_eq_t {o : Option Ordering} (h : o = some .eq) : ifCond.holds .eq (cmpValue o .l) = true := by
  rcases o with _ | _ | _ | _ <;> first | rfl | decide | (exfalso; revert h; decide)
theorem d_l_eq_f {o : Option Ordering} (h : ¬ o = some .eq) : ifCond.holds .eq (cmpValue o .l) = false := by
  rcases o with _ | _ | _ | _ <;> first | rfl | decide | (exfalso; revert h; decide)
theorem d_l_ne_t {o : Option Ordering} (h : ¬ o = some .eq) : ifCond.holds .ne (cmpValue o .l) = true := by
  rcases o with _ | _ | _ | _ <;> first | rfl | decide | (exfalso; revert h; decide)
theorem d_l_ne_f {o : Option Ordering} (h : o = some .eq) : ifCond.holds .ne (cmpValue o .l) = false := by
  rcases o with _ | _ | _ | _ <;> first | rfl | decide | (exfalso; revert h; decide)
theorem d_g_eq_t {o : Option Ordering} (h : o = some .eq) : ifCond.holds .eq (cmpValue o .g) = true := by
  rcases o with _ | _ | _ | _ <;> first | rfl | decide | (exfalso; revert h; decide)
theorem d_g_eq_f {o : Option Ordering} (h : ¬ o = some .eq) : ifCond.holds .eq (cmpValue o .g) = false := by
  rcases o with _ | _ | _ | _ <;> first | rfl | decide | (exfalso; revert h; decide)
theorem d_g_ne_t {o : Option Ordering} (h : ¬ o = some .eq) : ifCond.holds .ne (cmpValue o .g) = true := by
  rcases o with _ | _ | _ | _ <;> first | rfl | decide | (exfalso; revert h; decide)
theorem d_g_ne_f {o : Option Ordering} (h : o = some .eq) : ifCond.holds .ne (cmpValue o .g) = false := by
  rcases o with _ | _ | _ | _ <;> first | rfl | decide | (exfalso; revert h; decide)
theorem d_l_lt_t {o : Option Ordering} (h : ¬ oGe o) : ifCond.holds .lt (cmpValue o .l) = true := by
  rcases o with _ | _ | _ | _ <;> first | rfl | decide | (exfalso; revert h; decide)
theorem d_l_lt_f {o : Option Ordering} (h : oGe o) : ifCond.holds .lt (cmpValue o .l) = false := by
  rcases o with _ | _ | _ | _ <;> first | rfl | decide | (exfalso; revert h; decide)
theorem d_l_ge_t {o : Option Ordering} (h : oGe o) : ifCond.holds .ge (cmpValue o .l) = true := by
  rcases o with _ | _ | _ | _ <;> first | rfl | decide | (exfalso; revert h; decide)
theorem d_l_ge_f {o : Option Ordering} (h : ¬ oGe o) : ifCond.holds .ge (cmpValue o .l) = false := by
  rcases o with _ | _ | _ | _ <;> first | rfl | decide | (exfalso; revert h; decide)
theorem d_l_gt_t {o : Option Ordering} (h : o = some .gt) : ifCond.holds .gt (cmpValue o .l) = true := by
  rcases o with _ | _ | _ | _ <;> first | rfl | decide | (exfalso; revert h; decide)
theorem d_l_gt_f {o : Option Ordering} (h : ¬ o = some .gt) : ifCond.holds .gt (cmpValue o .l) = false := by
  rcases o with _ | _ | _ | _ <;> first | rfl | decide | (exfalso; revert h; decide)
theorem d_l_le_t {o : Option Ordering} (h : ¬ o = some .gt) : ifCond.holds .le (cmpValue o .l) = true := by
  rcases o with _ | _ | _ | _ <;> first | rfl | decide | (exfalso; revert h; decide)
theorem d_l_le_f {o : Option Ordering} (h : o = some .gt) : ifCond.holds .le (cmpValue o .l) = false := by
  rcases o with _ | _ | _ | _ <;> first | rfl | decide | (exfalso; revert h; decide)
theorem d_g_lt_t {o : Option Ordering} (h : o = some .lt) : ifCond.holds .lt (cmpValue o .g) = true := by
  rcases o with _ | _ | _ | _ <;> first | rfl | decide | (exfalso; revert h; decide)
theorem d_g_lt_f {o : Option Ordering} (h : ¬ o = some .lt) : ifCond.holds .lt (cmpValue o .g) = false := by
  rcases o with _ | _ | _ | _ <;> first | rfl | decide | (exfalso; revert h; decide)
theorem d_g_ge_t {o : Option Ordering} (h : ¬ o = some .lt) : ifCond.holds .ge (cmpValue o .g) = true := by
  rcases o with _ | _ | _ | _ <;> first | rfl | decide | (exfalso; revert h; decide)
theorem d_g_ge_f {o : Option Ordering} (h : o = some .lt) : ifCond.holds .ge (cmpValue o .g) = false := by
  rcases o with _ | _ | _ | _ <;> first | rfl | decide | (exfalso; revert h; decide)
theorem d_g_gt_t {o : Option Ordering} (h : ¬ oLe o) : ifCond.holds .gt (cmpValue o .g) = true := by
  rcases o with _ | _ | _ | _ <;> first | rfl | decide | (exfalso; revert h; decide)
theorem d_g_gt_f {o : Option Ordering} (h : oLe o) : ifCond.holds .gt (cmpValue o .g) = false := by
  rcases o with _ | _ | _ | _ <;> first | rfl | decide | (exfalso; revert h; decide)
theorem d_g_le_t {o : Option Ordering} (h : oLe o) : ifCond.holds .le (cmpValue o .g) = true := by
  rcases o with _ | _ | _ | _ <;> first | rfl | decide | (exfalso; revert h; decide)
theorem d_g_le_f {o : Option Ordering} (h : ¬ oLe o) : ifCond.holds .le (cmpValue o .g) = false := by
  rcases o with _ | _ | _ | _ <;> first | rfl | decide | (exfalso; revert h; decide)
theorem l_eq (x y : Int64) : XT.cmpL x y = 0 ↔ x = y := lw_eq x y
theorem l_lt (x y : Int64) : XT.cmpL x y < 0 ↔ x < y := lw_lt x y
theorem l_gt (x y : Int64) : 0 < XT.cmpL x y ↔ y < x := lw_gt x y
theorem g_ret (A : Ax p l e R s m args below meth c T locs cells slots B) {w : Value} {t : FieldType} {i : Instr} {Q : Option Value → Heap → List Loc → Prop} {K S : Nat} (hd : decode B pc = .ok (i, 1)) (hlk : meth.locks = false) (hret : meth.sig.returnType = some t) (hn : narrow t w = w)
    (hi : (i = .ireturn ∧ (t = .int ∨ t = .boolean ∨ t = .byte ∨ t = .char ∨ t = .short) ∧ ∃ z, w = .int z) ∨ (i = .lreturn ∧ t = .long ∧ ∃ z, w = .long z) ∨ (i = .dreturn ∧ t = .double ∧ ∃ z, w = .double z) ∨ (i = .freturn ∧ t = .float ∧ ∃ z, w = .float z) ∨ (i = .areturn ∧ t.isReference = true ∧ w.isRef = true))
    (hK : cells ≤ K) (hS : slots ≤ S) (hQ : Q (some w) T.heap locs) : Go p e below (fun U o => ∃ v L, o = .returned v ∧ Q v U.heap L ∧ FrameEnd s o U L K S) T (mkF m pc ls (w :: st)) := by
  obtain ⟨fs, hr, hrun, hended, hW, hsame⟩ := A.1.leave (v := some w) (fun h => by rw [hret] at h; cases h) hlk
  exact ⟨_, _, retOut A.1 A.2.1 hret hn hi (hb A.2.2 hd) hr, hrun, hended, _, _, rfl, hQ, ⟨_, rfl⟩, hW, hsame.mono hK hS⟩
theorem g_retW {vm1 : Vm} (A : Ax p l e R (s.setVm vm1) m args below meth c T locs cells slots B) {w : Value} {t : FieldType} {i : Instr} {Q : Option Value → Heap → List Loc → Prop} {K S n : Nat} (hSi : s.Since vm1 n) (hN : n ≤ T.heap.size) (hd : decode B pc = .ok (i, 1)) (hlk : meth.locks = false) (hret : meth.sig.returnType = some t) (hn : narrow t w = w)
    (hi : (i = .ireturn ∧ (t = .int ∨ t = .boolean ∨ t = .byte ∨ t = .char ∨ t = .short) ∧ ∃ z, w = .int z) ∨ (i = .lreturn ∧ t = .long ∧ ∃ z, w = .long z) ∨ (i = .dreturn ∧ t = .double ∧ ∃ z, w = .double z) ∨ (i = .freturn ∧ t = .float ∧ ∃ z, w = .float z) ∨ (i = .areturn ∧ t.isReference = true ∧ w.isRef = true))
    (hK : cells ≤ K) (hS : slots ≤ S) (hQ : Q (some w) T.heap locs) : Go p e below (fun U o => ∃ v L, o = .returned v ∧ Q v U.heap L ∧ ReturnedEndW s o U L K S) T (mkF m pc ls (w :: st)) := by
  obtain ⟨fs, hr, hrun, hended, hv, h1, h2, hsame⟩ := A.1.leaveW hSi hN (v := some w) (fun h => by rw [hret] at h; cases h) hlk
  exact ⟨_, _, retOut A.1 A.2.1 hret hn hi (hb A.2.2 hd) hr, hrun, hended, _, _, rfl, hQ, hv, h1, h2, hsame.mono hK hS⟩
theorem g_retV (A : Ax p l e R s m args below meth c T locs cells slots B) {Q : Option Value → Heap → List Loc → Prop} {K S : Nat} (hd : decode B pc = .ok (.return_, 1)) (hlk : meth.locks = false) (hret : meth.sig.returnType = none)
    (hK : cells ≤ K) (hS : slots ≤ S) (hQ : Q none T.heap locs) : Go p e below (fun U o => ∃ v L, o = .returned v ∧ Q v U.heap L ∧ FrameEnd s o U L K S) T (mkF m pc ls []) := by
  obtain ⟨fs, hr, hrun, hended, hW, hsame⟩ := A.1.leave (v := none) (fun _ => rfl) hlk
  exact ⟨_, _, A.1.returnOut A.2.1 hret (hb A.2.2 hd) hr, hrun, hended, _, _, rfl, hQ, ⟨_, rfl⟩, hW, hsame.mono hK hS⟩
theorem g_ldcI (A : Ax p l e R s m args below meth c T locs cells slots B) {Z : State} {a0 : Array Value} {own : String} {i : Nat} {v : Int32} (hZ : Z.Warmed39 s.vm) (hown : s.vm.findClass own = some m.cls) (w : (Jvm.Cond.constant own i v).before a0 Z = true) (hd : decode B pc = .ok (.ldc i, 2)) (hp : pc + 2 = pc') (k : Go p e below P T (mkF m pc' ls (.int v :: st))) : Go p e below P T (mkF m pc ls st) := by
  subst hp; exact Go.of (A.1.ldcInt A.2.1 hown (mvT hZ w) (g := mkF m pc ls st) rfl (hb A.2.2 hd)) k
theorem g_ldcD (A : Ax p l e R s m args below meth c T locs cells slots B) {Z : State} {a0 : Array Value} {own : String} {i : Nat} {v : UInt64} (hZ : Z.Warmed39 s.vm) (hown : s.vm.findClass own = some m.cls) (w : (Jvm.Cond.constantDouble own i v).before a0 Z = true) (hd : decode B pc = .ok (.ldc2_w i, 3)) (hp : pc + 3 = pc') (k : Go p e below P T (mkF m pc' ls (.double v :: st))) : Go p e below P T (mkF m pc ls st) := by
  subst hp; exact Go.of (A.1.ldc2DoubleC A.2.1 hown (mvT hZ w) (g := mkF m pc ls st) rfl (hb A.2.2 hd)) k
theorem g_ldcL (A : Ax p l e R s m args below meth c T locs cells slots B) {Z : State} {a0 : Array Value} {own : String} {i : Nat} {v : Int64} (hZ : Z.Warmed39 s.vm) (hown : s.vm.findClass own = some m.cls) (w : (Jvm.Cond.constantLong own i v).before a0 Z = true) (hd : decode B pc = .ok (.ldc2_w i, 3)) (hp : pc + 3 = pc') (k : Go p e below P T (mkF m pc' ls (.long v :: st))) : Go p e below P T (mkF m pc ls st) := by
  subst hp; exact Go.of (A.1.ldc2Long A.2.1 hown (mvT hZ w) (g := mkF m pc ls st) rfl (hb A.2.2 hd)) k
theorem g_nnY (A : Ax p l e R s m args below meth c T locs cells slots B) {o : Int} {b : Addr} (hd : decode B pc = .ok (.ifnonnull o, 3)) (hp : (pc : Int) + o = (pc' : Int)) (k : Go p e below P T (mkF m pc' ls st)) : Go p e below P T (mkF m pc ls (.ref b :: st)) := Go.of (fun _ k' => XT.ifnonnullYes A.1.here A.2.1 rfl rfl (hb A.2.2 hd) rfl (own_off hp).1 (own_off hp).2 k') k
theorem g_nnN (A : Ax p l e R s m args below meth c T locs cells slots B) {o : Int} (hd : decode B pc = .ok (.ifnonnull o, 3)) (hp : pc + 3 = pc') (k : Go p e below P T (mkF m pc' ls st)) : Go p e below P T (mkF m pc ls (.null :: st)) := by
  subst hp; exact Go.of (fun _ k' => XT.ifnonnullNo A.1.here A.2.1 rfl (hb A.2.2 hd) rfl k') k
theorem g_nuY (A : Ax p l e R s m args below meth c T locs cells slots B) {o : Int} (hd : decode B pc = .ok (.ifnull o, 3)) (hp : (pc : Int) + o = (pc' : Int)) (k : Go p e below P T (mkF m pc' ls st)) : Go p e below P T (mkF m pc ls (.null :: st)) := Go.of (fun _ k' => XS.ifnullYes A.1.here A.2.1 rfl rfl (hb A.2.2 hd) rfl (own_off hp).1 (own_off hp).2 k') k
theorem g_nuN (A : Ax p l e R s m args below meth c T locs cells slots B) {o : Int} {b : Addr} (hd : decode B pc = .ok (.ifnull o, 3)) (hp : pc + 3 = pc') (k : Go p e below P T (mkF m pc' ls st)) : Go p e below P T (mkF m pc ls (.ref b :: st)) := by
  subst hp; exact Go.of (fun _ k' => XS.ifnullNo A.1.here A.2.1 rfl (hb A.2.2 hd) rfl k') k
theorem g_acY (A : Ax p l e R s m args below meth c T locs cells slots B) {o : Int} {cd : ClassFile.ACond} {x y : Value} (hd : decode B pc = .ok (.if_acmp cd o, 3)) (h1 : x.isRef = true) (h2 : y.isRef = true) (hc : XT.acmp cd x y = true) (hp : (pc : Int) + o = (pc' : Int)) (k : Go p e below P T (mkF m pc' ls st)) : Go p e below P T (mkF m pc ls (y :: x :: st)) := Go.of (fun _ k' => XT.acmpYes A.1.here A.2.1 rfl rfl (hb A.2.2 hd) rfl h1 h2 hc (own_off hp).1 (own_off hp).2 k') k
theorem g_acN (A : Ax p l e R s m args below meth c T locs cells slots B) {o : Int} {cd : ClassFile.ACond} {x y : Value} (hd : decode B pc = .ok (.if_acmp cd o, 3)) (h1 : x.isRef = true) (h2 : y.isRef = true) (hc : XT.acmp cd x y = false) (hp : pc + 3 = pc') (k : Go p e below P T (mkF m pc' ls st)) : Go p e below P T (mkF m pc ls (y :: x :: st)) := by
  subst hp; exact Go.of (fun _ k' => XT.acmpNo A.1.here A.2.1 rfl (hb A.2.2 hd) rfl h1 h2 hc k') k
/-- an array of n places: its i-th holds f i -/
def Dar (Z : State) (h : Heap) (a : Addr) (ty : FieldType) (n : Nat) (f : Nat → Value) : Prop := ∃ cl : Cell, RoadKit.Arr Z h a cl ty ∧ cl.slots.size = n ∧ n < 2147483648 ∧ ∀ i, i < n → cl.slots[i]? = some (f i)
variable {Z : State} {h h' : Heap} {a b : Addr} {ty : FieldType} {n : Nat} {f g : Nat → Value} {sl : Nat} {v : Value} {ws : List Addr}
theorem Dar.lt (F : Dar Z h a ty n f) : a < h.size := by obtain ⟨cl, A, -⟩ := F; exact A.lt
theorem Dar.ext (E : Ext h h') (F : Dar Z h a ty n f) : Dar Z h' a ty n f := by obtain ⟨cl, A, r⟩ := F; exact ⟨cl, A.ext E, r⟩
theorem Dar.other (W : Wr h h' b sl v) (F : Dar Z h a ty n f) (q : a ≠ b) : Dar Z h' a ty n f := by obtain ⟨cl, A, r⟩ := F; exact ⟨cl, A.other W q, r⟩
theorem Dar.keep (F : Dar Z h a ty n f) (K : Keep h h' ws) (q : a ∉ ws) : Dar Z h' a ty n f := by obtain ⟨cl, A, r⟩ := F; exact ⟨cl, ⟨K.2.1 a cl A.1 q, A.2⟩, r⟩
theorem Dar.congr (F : Dar Z h a ty n f) (q : ∀ i, i < n → f i = g i) : Dar Z h a ty n g := by obtain ⟨cl, A, r1, r2, r3⟩ := F; exact ⟨cl, A, r1, r2, fun i hi => by rw [← q i hi]; exact r3 i hi⟩
theorem Dar.new {cA : ClassId} {z : Int32} (A : RoadKit.Arr Z h a (newA cA ty z) ty) (hz : z.toNatClampNeg = n) : Dar Z h a ty n (fun _ => defaultValue ty) := by
  refine ⟨_, A, (sz_new _ _ _).trans hz, ?_, fun i hi => by subst hz; simp [newA, hi]⟩
  have := z.toInt_lt
  rw [← hz, Int32.toNatClampNeg]; omega
theorem Dar.ne_exa {a0 : Array Value} {k : Nat} {C : String} (F : Dar Z h a ty n f) (E : Exa Z h b C) (wi : (Jvm.Cond.instantiable C k).before a0 Z = true) : a ≠ b := by obtain ⟨cl, A, -⟩ := F; exact fun q => ne_arr E wi A q.symm
theorem own_ne {a b : Nat} {h : Heap} (g : a = h.size) (q : b < h.size) : b ≠ a := by rw [g]; exact Nat.ne_of_lt q
theorem own_clamp {i : Nat} (hi : i < 2147483648) : (Int32.ofNat i).toNatClampNeg = i ∧ ¬ Int32.ofNat i < 0 := by
  have e : (Int32.ofNat i).toInt = i := Int32.toInt_ofNat_of_lt hi
  refine ⟨by rw [Int32.toNatClampNeg, e]; omega, fun q => ?_⟩
  rw [Int32.lt_iff_toInt_lt, e] at q
  have : (0 : Int32).toInt = 0 := rfl
  omega
theorem Dar.set {i : Nat} (F : Dar Z h a ty n f) (W : Wr h h' a i v) (q : ∀ j, j < n → g j = if j = i then v else f j) : Dar Z h' a ty n g := by
  obtain ⟨cl, A, r1, r2, r3⟩ := F
  refine ⟨_, A.same W, (sz_set _ _ _).trans r1, r2, fun j hj => ?_⟩
  rw [q j hj]
  by_cases e : j = i
  · subst e; rw [if_pos rfl]; simp [Cell.setSlot, r1, hj]
  · rw [if_neg e]; exact (Array.getElem?_setIfInBounds_ne (Ne.symm e)).trans (r3 j hj)
theorem own_in {cl : Cell} {i : Nat} (S : cl.slots.size = n) (hn : n < 2147483648) (hi : i < n) : ¬ (Int32.ofNat i < 0 ∨ cl.slots.size ≤ (Int32.ofNat i).toNatClampNeg) := by
  obtain ⟨q1, q2⟩ := own_clamp (i := i) (by omega)
  rw [q1, S]; exact fun z => z.elim q2 (by omega)
theorem g_daload (A : Ax p l e R s m args below meth c T locs cells slots B) (hZ : Z.Warmed39 s.vm) (eT : T.heap = h) {j : Int32} {i : Nat} {x : UInt64} (F : Dar Z h a .double n f) (hi : i < n) (hj : j = Int32.ofNat i) (hv : f i = .double x) (hd : decode B pc = .ok (.daload, 1)) (hp : pc + 1 = pc') (k : Go p e below P T (mkF m pc' ls (.double x :: st))) : Go p e below P T (mkF m pc ls (.int j :: .ref a :: st)) := by
  subst hp hj
  obtain ⟨cl, A2, r1, r2, r3⟩ := F
  have q := (own_clamp (i := i) (by omega)).1
  exact Go.of (fun t k' => A.1.daload A.2.1 (j := Int32.ofNat i) (v := .double x) (by rw [eT]; exact A2.1) (State.isArrayOf_alike hZ.alike A2.2.1) A2.2.2 (own_in r1 r2 hi) (by rw [q, ← hv]; exact r3 i hi) (g := mkF m pc ls (.int (Int32.ofNat i) :: .ref a :: st)) rfl rfl (hb A.2.2 hd) t k') k
theorem g_iaload (A : Ax p l e R s m args below meth c T locs cells slots B) (hZ : Z.Warmed39 s.vm) (eT : T.heap = h) {j : Int32} {i : Nat} {x : Int32} (F : Dar Z h a .int n f) (hi : i < n) (hj : j = Int32.ofNat i) (hv : f i = .int x) (hd : decode B pc = .ok (.iaload, 1)) (hp : pc + 1 = pc') (k : Go p e below P T (mkF m pc' ls (.int x :: st))) : Go p e below P T (mkF m pc ls (.int j :: .ref a :: st)) := by
  subst hp hj
  obtain ⟨cl, A2, r1, r2, r3⟩ := F
  have q := (own_clamp (i := i) (by omega)).1
  exact Go.of (fun t k' => A.1.iaload A.2.1 (j := Int32.ofNat i) (v := .int x) (by rw [eT]; exact A2.1) (State.isArrayOf_alike hZ.alike A2.2.1) A2.2.2 (own_in r1 r2 hi) (by rw [q, ← hv]; exact r3 i hi) (g := mkF m pc ls (.int (Int32.ofNat i) :: .ref a :: st)) rfl rfl (hb A.2.2 hd) t k') k
theorem g_baload (A : Ax p l e R s m args below meth c T locs cells slots B) (hZ : Z.Warmed39 s.vm) (eT : T.heap = h) {j : Int32} {i : Nat} {x : Int32} (F : Dar Z h a .boolean n f) (hi : i < n) (hj : j = Int32.ofNat i) (hv : f i = .int x) (hd : decode B pc = .ok (.baload, 1)) (hp : pc + 1 = pc') (k : Go p e below P T (mkF m pc' ls (.int x :: st))) : Go p e below P T (mkF m pc ls (.int j :: .ref a :: st)) := by
  subst hp hj
  obtain ⟨cl, A2, r1, r2, r3⟩ := F
  have q := (own_clamp (i := i) (by omega)).1
  exact Go.of (fun t k' => A.1.baloadBooleans A.2.1 (j := Int32.ofNat i) (v := .int x) (by rw [eT]; exact A2.1) (State.isArrayOf_alike hZ.alike A2.2.1) A2.2.2 (own_in r1 r2 hi) (by rw [q, ← hv]; exact r3 i hi) (g := mkF m pc ls (.int (Int32.ofNat i) :: .ref a :: st)) rfl rfl (hb A.2.2 hd) t k') k
theorem g_baloadB (A : Ax p l e R s m args below meth c T locs cells slots B) (hZ : Z.Warmed39 s.vm) (eT : T.heap = h) {j : Int32} {i : Nat} {x : Int32} (F : Dar Z h a .byte n f) (hi : i < n) (hj : j = Int32.ofNat i) (hv : f i = .int x) (hd : decode B pc = .ok (.baload, 1)) (hp : pc + 1 = pc') (k : Go p e below P T (mkF m pc' ls (.int x :: st))) : Go p e below P T (mkF m pc ls (.int j :: .ref a :: st)) := by
  subst hp hj
  obtain ⟨cl, A2, r1, r2, r3⟩ := F
  have q := (own_clamp (i := i) (by omega)).1
  exact Go.of (fun t k' => A.1.baloadBytes A.2.1 (j := Int32.ofNat i) (v := .int x) (by rw [eT]; exact A2.1) (State.isArrayOf_alike hZ.alike A2.2.1) A2.2.2 (own_in r1 r2 hi) (by rw [q, ← hv]; exact r3 i hi) (g := mkF m pc ls (.int (Int32.ofNat i) :: .ref a :: st)) rfl rfl (hb A.2.2 hd) t k') k
theorem g_alen (A : Ax p l e R s m args below meth c T locs cells slots B) (hZ : Z.Warmed39 s.vm) (eT : T.heap = h) (F : Dar Z h a ty n f) (hd : decode B pc = .ok (.arraylength, 1)) {z : Int32} (hz : Int32.ofNat n = z) (hp : pc + 1 = pc') (k : Go p e below P T (mkF m pc' ls (.int z :: st))) : Go p e below P T (mkF m pc ls (.ref a :: st)) := by
  subst hp hz
  obtain ⟨cl, A2, r1, r2, r3⟩ := F
  exact Go.of (fun t k' => A.1.arraylength A.2.1 (cell := cl) (by rw [eT]; exact A2.1) (State.isArrayOf_alike hZ.alike A2.2.1) (g := mkF m pc ls (.ref a :: st)) rfl (rest := st) rfl (hb A.2.2 hd) t (by rw [r1]; exact k')) k
theorem s_dastore (A : Ax p l e R s m args below meth c T locs cells slots B) (hZ : Z.Warmed39 s.vm) (eT : T.heap = h) {j : Int32} {i : Nat} {x : UInt64} (F : Dar Z h a .double n f) (hi : i < n) (hj : j = Int32.ofNat i) (hd : decode B pc = .ok (.dastore, 1)) (hp : pc + 1 = pc') :
    ∃ T' h', Ax p l e R s m args below meth c T' (locs ++ [⟨a, i⟩]) cells slots B ∧ T'.heap = h' ∧ Wr h h' a i (.double x) ∧ ∀ {P : State → Outcome → Prop}, Go p e below P T' (mkF m pc' ls st) → Go p e below P T (mkF m pc ls (.double x :: .int j :: .ref a :: st)) := by
  subst hp hj
  obtain ⟨cl, A2, r1, r2, r3⟩ := F
  have q := (own_clamp (i := i) (by omega)).1
  obtain ⟨X', st'⟩ := A.1.dastore A.2.1 (by rw [eT]; exact A2.1) (State.isArrayOf_alike hZ.alike A2.2.1) A2.2.2 (own_in r1 r2 hi) (x := x) (g := mkF m pc ls (.double x :: .int (Int32.ofNat i) :: .ref a :: st)) rfl rfl (hb A.2.2 hd)
  rw [q] at X' st'
  exact ⟨_, _, ⟨X', A.2⟩, rfl, ⟨cl, A2.1, A2.plain, by rw [r1]; exact hi, by rw [← eT]; rfl⟩, fun k => Go.of st' k⟩
theorem s_iastore (A : Ax p l e R s m args below meth c T locs cells slots B) (hZ : Z.Warmed39 s.vm) (eT : T.heap = h) {j : Int32} {i : Nat} {x : Int32} (F : Dar Z h a .int n f) (hi : i < n) (hj : j = Int32.ofNat i) (hd : decode B pc = .ok (.iastore, 1)) (hp : pc + 1 = pc') :
    ∃ T' h', Ax p l e R s m args below meth c T' (locs ++ [⟨a, i⟩]) cells slots B ∧ T'.heap = h' ∧ Wr h h' a i (.int x) ∧ ∀ {P : State → Outcome → Prop}, Go p e below P T' (mkF m pc' ls st) → Go p e below P T (mkF m pc ls (.int x :: .int j :: .ref a :: st)) := by
  subst hp hj
  obtain ⟨cl, A2, r1, r2, r3⟩ := F
  have q := (own_clamp (i := i) (by omega)).1
  obtain ⟨T', h', X', e', W, st'⟩ := stI A.1 A.2.1 hZ eT A2 (own_in r1 r2 hi) (x := x) (g := mkF m pc ls (.int x :: .int (Int32.ofNat i) :: .ref a :: st)) rfl rfl (hb A.2.2 hd)
  rw [q] at X' W
  exact ⟨_, _, ⟨X', A.2⟩, e', W, fun k => Go.of st' k⟩
theorem s_zastore (A : Ax p l e R s m args below meth c T locs cells slots B) (hZ : Z.Warmed39 s.vm) (eT : T.heap = h) {j : Int32} {i : Nat} {x : Int32} (F : Dar Z h a .boolean n f) (hi : i < n) (hj : j = Int32.ofNat i) (hx1 : narrow .boolean (.int x) = .int x) (hd : decode B pc = .ok (.bastore, 1)) (hp : pc + 1 = pc') :
    ∃ T' h', Ax p l e R s m args below meth c T' (locs ++ [⟨a, i⟩]) cells slots B ∧ T'.heap = h' ∧ Wr h h' a i (.int x) ∧ ∀ {P : State → Outcome → Prop}, Go p e below P T' (mkF m pc' ls st) → Go p e below P T (mkF m pc ls (.int x :: .int j :: .ref a :: st)) := by
  subst hp hj
  obtain ⟨cl, A2, r1, r2, r3⟩ := F
  have q := (own_clamp (i := i) (by omega)).1
  obtain ⟨T', h', X', e', W, st'⟩ := stZ A.1 A.2.1 hZ eT A2 (own_in r1 r2 hi) (x := x) (g := mkF m pc ls (.int x :: .int (Int32.ofNat i) :: .ref a :: st)) rfl rfl (hb A.2.2 hd)
  have q2 : nar .boolean x = x := Value.int.inj hx1
  rw [q] at X' W; rw [q2] at W
  exact ⟨_, _, ⟨X', A.2⟩, e', W, fun k => Go.of st' k⟩
theorem s_bastoreB (A : Ax p l e R s m args below meth c T locs cells slots B) (hZ : Z.Warmed39 s.vm) (eT : T.heap = h) {j : Int32} {i : Nat} {x : Int32} (F : Dar Z h a .byte n f) (hi : i < n) (hj : j = Int32.ofNat i) (hd : decode B pc = .ok (.bastore, 1)) (hp : pc + 1 = pc') :
    ∃ T' h', Ax p l e R s m args below meth c T' (locs ++ [⟨a, i⟩]) cells slots B ∧ T'.heap = h' ∧ Wr h h' a i (.int (nar .byte x)) ∧ ∀ {P : State → Outcome → Prop}, Go p e below P T' (mkF m pc' ls st) → Go p e below P T (mkF m pc ls (.int x :: .int j :: .ref a :: st)) := by
  subst hp hj
  obtain ⟨cl, A2, r1, r2, r3⟩ := F
  have q := (own_clamp (i := i) (by omega)).1
  obtain ⟨T', h', X', e', W, st'⟩ := stB A.1 A.2.1 hZ eT A2 (own_in r1 r2 hi) (x := x) (g := mkF m pc ls (.int x :: .int (Int32.ofNat i) :: .ref a :: st)) rfl rfl (hb A.2.2 hd)
  rw [q] at X' W
  exact ⟨_, _, ⟨X', A.2⟩, e', W, fun k => Go.of st' k⟩
end own_go
theorem d7_0 : decode jdk_30_method_1_code 0 = .ok (.aload_n 0, 1) := by decide +kernel
theorem d7_1 : decode jdk_30_method_1_code 1 = .ok (.invokespecial 1, 3) := by decide +kernel
theorem d7_4 : decode jdk_30_method_1_code 4 = .ok (.return_, 1) := by decide +kernel
theorem pn_0 : plainName "java/lang/Record" = true := by first | (simp [plainName, overriddenIn]; done) | decide +kernel
theorem ef1 (m : MethodId) (a1 : Addr) : entryFrame m #[(.ref a1)] 1 = mkF m 0 #[.val (.ref a1)] [] := by first | (simp [entryFrame, mkF, argsToLocals, Value.category]; done) | rfl
def Q7 (Z : State) (a1 : Addr) (h0 : Heap) (n0 : Nat) (v : Option Value) (h : Heap) (L : List Loc) : Prop := v = none ∧ Fr n0 L ∧ h = h0
set_option maxRecDepth 65536 in
set_option maxHeartbeats 40000000 in
theorem rm7 (l : Launch) (Z : State) (a0 : Array Value) (hw : ∀ d ∈ tables_1, d.before a0 Z = true) (ws : List Jvm.Cond) (a1 : Addr) (h0 : Heap) (n0 : Nat) (Z0 : n0 ≤ h0.size)  :
    MetFree l (⟨"java/lang/Record", "<init>", "()V"⟩ : MethodName) (head1 (Jvm.Cond.code (⟨"java/lang/Record", "<init>", "()V"⟩ : MethodName) jdk_30_method_1_code 1 none :: ws) ({ frames := 1, cells := 0, slots := 0, locals := 12 } : Room)) (fun a U => a = #[(.ref a1)] ∧ Z.Warmed39 U.vm ∧ U.heap = h0) (fun _ _ _ _ _ => True) (fun _ U o U' => ∃ v L, o = .returned v ∧ Q7 Z a1 h0 n0 v U'.heap L ∧ FrameEnd U o U' L 0 0) := by
  refine MetFree.of_bodySF (plainFor_of_name pn_0) hisR ?_
  intro p e s m args below meth c s₁ Bd hml0 hP hK
  obtain ⟨rfl, hZ, hh⟩ := hP
  have hx := Bd.exec
  have hby := Bd.bytes
  have hml : c.maxLocals = 1 := hml0
  have hown : s.vm.findClass "java/lang/Record" = some m.cls := findClass_of_methodNamed Bd.named
  have hnm := (name_of_methodNamed Bd.named Bd.method).1
  have X0 : Stand p l e ({ frames := 1, cells := 0, slots := 0, locals := 12 } : Room) s m #[(.ref a1)] below meth c s₁ [] 0 0 := Stand.of_body Bd
  have e0 : s₁.heap = h0 := by rw [← hh, Bd.state]; rfl
  have N0 := Fr.nil n0
  have A0 := (⟨X0, hx, hby⟩ : Ax _ _ _ _ _ _ _ _ _ _ _ _ _ _ _)
  show Go p e below (fun U o => ∃ v L, o = .returned v ∧ Q7 Z a1 h0 n0 v U.heap L ∧ FrameEnd s o U L 0 0) s₁ (entryFrame m #[(.ref a1)] 1)
  refine Go.cast (ef1 m a1) ?_
  refine g_aloadN A0 d7_0 rfl rfl (pc' := 1) rfl ?_
  obtain ⟨T2, X2, e2, st2⟩ := initO X0 hx hZ hown (hw _ (List.mem_of_getElem? (i := 38) rfl)) (hw _ (List.mem_of_getElem? (i := 21) rfl)) (hw _ (List.mem_of_getElem? (i := 22) rfl)) e0 (g := (mkF m 1 #[.val (.ref a1)] [(.ref a1)])) rfl (by rw [hml]; rfl) rfl (hb hby d7_1) (by decide) (W := 0) (by show 2 * 0 + _ ≤ _; exact Nat.le_of_eq rfl) (by decide)
  refine Go.of (g' := (mkF m 4 #[.val (.ref a1)] [])) st2 ?_
  have A3 := (⟨X2, hx, hby⟩ : Ax _ _ _ _ _ _ _ _ _ _ _ _ _ _ _)
  exact g_retV (Q := Q7 Z a1 h0 n0) A3 d7_4 Bd.notSynchronized Bd.returns (by decide) (by decide) (by rw [e2]; exact ⟨rfl, N0, rfl⟩)
theorem d2_0 : decode jdk_43_method_3_code 0 = .ok (.iload_n 0, 1) := by decide +kernel
theorem d2_1 : decode jdk_43_method_3_code 1 = .ok (.sipush 255, 3) := by decide +kernel
theorem d2_4 : decode jdk_43_method_3_code 4 = .ok (.if_icmp .gt 7, 3) := by decide +kernel
theorem d2_7 : decode jdk_43_method_3_code 7 = .ok (.iconst 1, 1) := by decide +kernel
theorem d2_8 : decode jdk_43_method_3_code 8 = .ok (.goto 4, 3) := by decide +kernel
theorem d2_11 : decode jdk_43_method_3_code 11 = .ok (.iconst 0, 1) := by decide +kernel
theorem d2_12 : decode jdk_43_method_3_code 12 = .ok (.ireturn, 1) := by decide +kernel
theorem pn_1 : plainName "java/lang/StringLatin1" = true := by first | (simp [plainName, overriddenIn]; done) | decide +kernel
theorem ef4 (m : MethodId) (q1 : Int32) : entryFrame m #[(.int q1)] 1 = mkF m 0 #[.val (.int q1)] [] := by first | (simp [entryFrame, mkF, argsToLocals, Value.category]; done) | rfl
def Q2 (Z : State) (q1 : Int32) (h0 : Heap) (n0 : Nat) (v : Option Value) (h : Heap) (L : List Loc) : Prop := v = some (.int (1 : Int32)) ∧ Fr n0 L ∧ h = h0
set_option maxRecDepth 65536 in
set_option maxHeartbeats 40000000 in
theorem rm2 (l : Launch) (Z : State) (a0 : Array Value) (hw : ∀ d ∈ tables_1, d.before a0 Z = true) (ws : List Jvm.Cond) (q1 : Int32) (h0 : Heap) (n0 : Nat) (Z0 : n0 ≤ h0.size) (h1 : ¬ (255 : Int32) < q1) :
    MetFree l (⟨"java/lang/StringLatin1", "canEncode", "(C)Z"⟩ : MethodName) (head1 (Jvm.Cond.code (⟨"java/lang/StringLatin1", "canEncode", "(C)Z"⟩ : MethodName) jdk_43_method_3_code 1 (some .boolean) :: ws) ({ frames := 0, cells := 0, slots := 0, locals := 0 } : Room)) (fun a U => a = #[(.int q1)] ∧ Z.Warmed39 U.vm ∧ U.heap = h0) (fun _ _ _ _ _ => True) (fun _ U o U' => ∃ v L, o = .returned v ∧ Q2 Z q1 h0 n0 v U'.heap L ∧ FrameEnd U o U' L 0 0) := by
  refine MetFree.of_bodySF (plainFor_of_name pn_1) hisR ?_
  intro p e s m args below meth c s₁ Bd hml0 hP hK
  obtain ⟨rfl, hZ, hh⟩ := hP
  have hx := Bd.exec
  have hby := Bd.bytes
  have hml : c.maxLocals = 1 := hml0
  have hown : s.vm.findClass "java/lang/StringLatin1" = some m.cls := findClass_of_methodNamed Bd.named
  have hnm := (name_of_methodNamed Bd.named Bd.method).1
  have X0 : Stand p l e ({ frames := 0, cells := 0, slots := 0, locals := 0 } : Room) s m #[(.int q1)] below meth c s₁ [] 0 0 := Stand.of_body Bd
  have e0 : s₁.heap = h0 := by rw [← hh, Bd.state]; rfl
  have N0 := Fr.nil n0
  have A0 := (⟨X0, hx, hby⟩ : Ax _ _ _ _ _ _ _ _ _ _ _ _ _ _ _)
  show Go p e below (fun U o => ∃ v L, o = .returned v ∧ Q2 Z q1 h0 n0 v U.heap L ∧ FrameEnd s o U L 0 0) s₁ (entryFrame m #[(.int q1)] 1)
  refine Go.cast (ef4 m q1) ?_
  refine g_iloadN A0 d2_0 rfl (pc' := 1) rfl ?_
  refine g_sipush A0 d2_1 (v := (255 : Int32)) rfl (pc' := 4) rfl ?_
  refine g_icN A0 d2_4 (c2_gt_f h1) (pc' := 7) rfl ?_
  refine g_iconst A0 d2_7 (v := (1 : Int32)) rfl (pc' := 8) rfl ?_
  refine g_goto A0 d2_8 (pc' := 12) rfl ?_
  exact g_ret (Q := Q2 Z q1 h0 n0) A0 d2_12 Bd.notSynchronized Bd.returns rfl (Or.inl ⟨rfl, by simp, _, rfl⟩) (by decide) (by decide) (by rw [e0]; exact ⟨rfl, N0, rfl⟩)
theorem d3_0 : decode jdk_43_method_46_code 0 = .ok (.iconst 1, 1) := by decide +kernel
theorem d3_1 : decode jdk_43_method_46_code 1 = .ok (.newarray .byte, 2) := by decide +kernel
theorem d3_3 : decode jdk_43_method_46_code 3 = .ok (.dup, 1) := by decide +kernel
theorem d3_4 : decode jdk_43_method_46_code 4 = .ok (.iconst 0, 1) := by decide +kernel
theorem d3_5 : decode jdk_43_method_46_code 5 = .ok (.iload_n 0, 1) := by decide +kernel
theorem d3_6 : decode jdk_43_method_46_code 6 = .ok (.i2b, 1) := by decide +kernel
theorem d3_7 : decode jdk_43_method_46_code 7 = .ok (.bastore, 1) := by decide +kernel
theorem d3_8 : decode jdk_43_method_46_code 8 = .ok (.areturn, 1) := by decide +kernel
theorem ef5 (m : MethodId) (q1 : Int32) : entryFrame m #[(.int q1)] 1 = mkF m 0 #[.val (.int q1)] [] := by first | (simp [entryFrame, mkF, argsToLocals, Value.category]; done) | rfl
def Q3 (Z : State) (q1 : Int32) (h0 : Heap) (n0 : Nat) (v : Option Value) (h : Heap) (L : List Loc) : Prop := ∃ r : Addr, v = some (.ref r) ∧ Fr n0 L ∧ Keep h0 h [] ∧ h0.size ≤ r
set_option maxRecDepth 65536 in
set_option maxHeartbeats 40000000 in
theorem rm3 (l : Launch) (Z : State) (a0 : Array Value) (hw : ∀ d ∈ tables_1, d.before a0 Z = true) (ws : List Jvm.Cond) (q1 : Int32) (h0 : Heap) (n0 : Nat) (Z0 : n0 ≤ h0.size)  :
    MetFree l (⟨"java/lang/StringLatin1", "toBytes", "(C)[B"⟩ : MethodName) (head1 (Jvm.Cond.code (⟨"java/lang/StringLatin1", "toBytes", "(C)[B"⟩ : MethodName) jdk_43_method_46_code 1 (some (.array .byte)) :: ws) ({ frames := 0, cells := 1, slots := 1, locals := 0 } : Room)) (fun a U => a = #[(.int q1)] ∧ Z.Warmed39 U.vm ∧ U.heap = h0) (fun _ _ _ _ _ => True) (fun _ U o U' => ∃ v L, o = .returned v ∧ Q3 Z q1 h0 n0 v U'.heap L ∧ FrameEnd U o U' L 1 1) := by
  refine MetFree.of_bodySF (plainFor_of_name pn_1) hisR ?_
  intro p e s m args below meth c s₁ Bd hml0 hP hK
  obtain ⟨rfl, hZ, hh⟩ := hP
  have hx := Bd.exec
  have hby := Bd.bytes
  have hml : c.maxLocals = 1 := hml0
  have hown : s.vm.findClass "java/lang/StringLatin1" = some m.cls := findClass_of_methodNamed Bd.named
  have hnm := (name_of_methodNamed Bd.named Bd.method).1
  have X0 : Stand p l e ({ frames := 0, cells := 1, slots := 1, locals := 0 } : Room) s m #[(.int q1)] below meth c s₁ [] 0 0 := Stand.of_body Bd
  have e0 : s₁.heap = h0 := by rw [← hh, Bd.state]; rfl
  have N0 := Fr.nil n0
  have A0 := (⟨X0, hx, hby⟩ : Ax _ _ _ _ _ _ _ _ _ _ _ _ _ _ _)
  show Go p e below (fun U o => ∃ v L, o = .returned v ∧ Q3 Z q1 h0 n0 v U.heap L ∧ FrameEnd s o U L 1 1) s₁ (entryFrame m #[(.int q1)] 1)
  refine Go.cast (ef5 m q1) ?_
  refine g_iconst A0 d3_0 (v := (1 : Int32)) rfl (pc' := 1) rfl ?_
  obtain ⟨T6, h6, k6, X6, e6, E6, Ar6, st6⟩ := newP X0 hx hZ (hw _ (List.mem_of_getElem? (i := 15) rfl)) e0 (g := (mkF m 1 #[.val (.int q1)] [(.int (1 : Int32))])) rfl (hb hby d3_1) rfl (by decide) (cap := 1) (by decide) (by decide) (by decide) (by decide)
  obtain ⟨b7, eb7⟩ : ∃ z, z = h0.size := ⟨_, rfl⟩
  rw [← eb7] at Ar6 st6
  have g8 : n0 ≤ b7 := by rw [eb7]; exact Z0
  have gh9 : h0.size ≤ b7 := by rw [eb7]; exact (Keep.refl h0 []).1
  have K10 : Keep h0 h6 [] := (Keep.refl h0 []).ext E6
  have Z11 : n0 ≤ h6.size := Nat.le_trans Z0 E6.1
  have V12 : Dar Z h6 b7 .byte 1 (fun _ => .int (0 : Int32)) := Dar.new Ar6 (by decide)
  refine Go.of (g' := (mkF m 3 #[.val (.int q1)] [(.ref b7)])) st6 ?_
  have A13 := (⟨X6, hx, hby⟩ : Ax _ _ _ _ _ _ _ _ _ _ _ _ _ _ _)
  refine g_dup A13 d3_3 rfl (pc' := 4) rfl ?_
  refine g_iconst A13 d3_4 (v := (0 : Int32)) rfl (pc' := 5) rfl ?_
  refine g_iloadN A13 d3_5 rfl (pc' := 6) rfl ?_
  refine g_i2b A13 d3_6 (pc' := 7) rfl ?_
  obtain ⟨T14, h14, A14, e14, W14, st14⟩ := s_bastoreB A13 hZ e6 (ls := #[.val (.int q1)]) (st := [(.ref b7)]) (x := (q1.toInt8.toInt32)) V12 (i := 0) (by decide) (j := (0 : Int32)) rfl d3_7 (pc' := 8) rfl
  have N15 := Fr.snoc A14.1 N0 g8
  have K16 : Keep h0 h14 [] := K10.wr W14 (Or.inr gh9)
  have V17 : Dar Z h14 b7 .byte 1 (fun j => if j = 0 then .int (nar .byte (q1.toInt8.toInt32)) else (fun _ => .int (0 : Int32)) j) := Dar.set V12 W14 (fun _ _ => rfl)
  have Z18 : n0 ≤ h14.size := by rw [W14.size]; exact Z11
  refine st14 ?_
  exact g_ret (Q := Q3 Z q1 h0 n0) A14 d3_8 Bd.notSynchronized Bd.returns rfl (Or.inr (Or.inr (Or.inr (Or.inr ⟨rfl, rfl, rfl⟩)))) (by decide) (by decide) (by rw [e14]; exact ⟨b7, rfl, N15, K16, gh9⟩)
theorem d4_0 : decode jdk_42_method_151_code 0 = .ok (.aload_n 0, 1) := by decide +kernel
theorem d4_1 : decode jdk_42_method_151_code 1 = .ok (.invokespecial 1, 3) := by decide +kernel
theorem d4_4 : decode jdk_42_method_151_code 4 = .ok (.aload_n 0, 1) := by decide +kernel
theorem d4_5 : decode jdk_42_method_151_code 5 = .ok (.aload_n 1, 1) := by decide +kernel
theorem d4_6 : decode jdk_42_method_151_code 6 = .ok (.putfield 9, 3) := by decide +kernel
theorem d4_9 : decode jdk_42_method_151_code 9 = .ok (.aload_n 0, 1) := by decide +kernel
theorem d4_10 : decode jdk_42_method_151_code 10 = .ok (.iload_n 2, 1) := by decide +kernel
theorem d4_11 : decode jdk_42_method_151_code 11 = .ok (.putfield 15, 3) := by decide +kernel
theorem d4_14 : decode jdk_42_method_151_code 14 = .ok (.return_, 1) := by decide +kernel
theorem pn_2 : plainName "java/lang/String" = true := by first | (simp [plainName, overriddenIn]; done) | decide +kernel
theorem ef19 (m : MethodId) (a1 : Addr) (b1 : Addr) (u0 : Value) (u1 : Value) : entryFrame m #[(.ref a1), (.ref b1), (.int (0 : Int32))] 3 = mkF m 0 #[.val (.ref a1), .val (.ref b1), .val (.int (0 : Int32))] [] := by first | (simp [entryFrame, mkF, argsToLocals, Value.category]; done) | rfl
def Q4 (Z : State) (a1 : Addr) (b1 : Addr) (u0 : Value) (u1 : Value) (h0 : Heap) (n0 : Nat) (v : Option Value) (h : Heap) (L : List Loc) : Prop := v = none ∧ Fr n0 L ∧ Keep h0 h [a1]
set_option maxRecDepth 65536 in
set_option maxHeartbeats 40000000 in
theorem rm4 (l : Launch) (Z : State) (a0 : Array Value) (hw : ∀ d ∈ tables_1, d.before a0 Z = true) (ws : List Jvm.Cond) (a1 : Addr) (b1 : Addr) (u0 : Value) (u1 : Value) (h0 : Heap) (n0 : Nat) (Z0 : n0 ≤ h0.size) (E20 : Exa Z h0 a1 "java/lang/String") (F21 : Fld Z h0 a1 "java/lang/String" "value" "[B" u0) (F22 : Fld Z h0 a1 "java/lang/String" "coder" "B" u1) (g23 : n0 ≤ a1) :
    MetFree l (⟨"java/lang/String", "<init>", "([BB)V"⟩ : MethodName) (head1 (Jvm.Cond.code (⟨"java/lang/String", "<init>", "([BB)V"⟩ : MethodName) jdk_42_method_151_code 3 none :: ws) ({ frames := 1, cells := 0, slots := 0, locals := 12 } : Room)) (fun a U => a = #[(.ref a1), (.ref b1), (.int (0 : Int32))] ∧ Z.Warmed39 U.vm ∧ U.heap = h0) (fun _ _ _ _ _ => True) (fun _ U o U' => ∃ v L, o = .returned v ∧ Q4 Z a1 b1 u0 u1 h0 n0 v U'.heap L ∧ FrameEnd U o U' L 0 0) := by
  refine MetFree.of_bodySF (plainFor_of_name pn_2) hisR ?_
  intro p e s m args below meth c s₁ Bd hml0 hP hK
  obtain ⟨rfl, hZ, hh⟩ := hP
  have hx := Bd.exec
  have hby := Bd.bytes
  have hml : c.maxLocals = 3 := hml0
  have hown : s.vm.findClass "java/lang/String" = some m.cls := findClass_of_methodNamed Bd.named
  have hnm := (name_of_methodNamed Bd.named Bd.method).1
  have X0 : Stand p l e ({ frames := 1, cells := 0, slots := 0, locals := 12 } : Room) s m #[(.ref a1), (.ref b1), (.int (0 : Int32))] below meth c s₁ [] 0 0 := Stand.of_body Bd
  have e0 : s₁.heap = h0 := by rw [← hh, Bd.state]; rfl
  have N0 := Fr.nil n0
  have A0 := (⟨X0, hx, hby⟩ : Ax _ _ _ _ _ _ _ _ _ _ _ _ _ _ _)
  show Go p e below (fun U o => ∃ v L, o = .returned v ∧ Q4 Z a1 b1 u0 u1 h0 n0 v U.heap L ∧ FrameEnd s o U L 0 0) s₁ (entryFrame m #[(.ref a1), (.ref b1), (.int (0 : Int32))] 3)
  refine Go.cast (ef19 m a1 b1 u0 u1) ?_
  refine g_aloadN A0 d4_0 rfl rfl (pc' := 1) rfl ?_
  obtain ⟨T24, X24, e24, st24⟩ := initO X0 hx hZ hown (hw _ (List.mem_of_getElem? (i := 20) rfl)) (hw _ (List.mem_of_getElem? (i := 21) rfl)) (hw _ (List.mem_of_getElem? (i := 22) rfl)) e0 (g := (mkF m 1 #[.val (.ref a1), .val (.ref b1), .val (.int (0 : Int32))] [(.ref a1)])) rfl (by rw [hml]; rfl) rfl (hb hby d4_1) (by decide) (W := 0) (by show 2 * 0 + _ ≤ _; exact Nat.le_of_eq rfl) (by decide)
  refine Go.of (g' := (mkF m 4 #[.val (.ref a1), .val (.ref b1), .val (.int (0 : Int32))] [])) st24 ?_
  have A25 := (⟨X24, hx, hby⟩ : Ax _ _ _ _ _ _ _ _ _ _ _ _ _ _ _)
  refine g_aloadN A25 d4_4 rfl rfl (pc' := 5) rfl ?_
  refine g_aloadN A25 d4_5 rfl rfl (pc' := 6) rfl ?_
  obtain ⟨T26, h26, X26, e26, W26, st26⟩ := putF X24 hx hZ hown (host := "") (Or.inl (hw _ (List.mem_of_getElem? (i := 23) rfl))) Via.refl e24 F21 E20 (Or.inr ⟨(hw _ (List.mem_of_getElem? (i := 24) rfl)), rfl, hnm⟩) (hw _ (List.mem_of_getElem? (i := 11) rfl)) (ty := (.array .byte)) (by decide) rfl rfl (g := (mkF m 6 #[.val (.ref a1), .val (.ref b1), .val (.int (0 : Int32))] [(.ref b1), (.ref a1)])) rfl rfl (hb hby d4_6)
  have N27 := Fr.snoc X26 N0 g23
  have K28 : Keep h0 h26 [a1] := (Keep.refl h0 [a1]).wr W26 (Or.inl (List.mem_of_getElem? (i := 0) rfl))
  have E29 : Exa Z h26 a1 "java/lang/String" := Exa.wr W26 E20
  have F30 : Fld Z h26 a1 "java/lang/String" "coder" "B" u1 := Fld.other W26 F22 (Or.inr (slot_ne (Or.inr (hw _ (List.mem_of_getElem? (i := 26) rfl))) (Or.inr (hw _ (List.mem_of_getElem? (i := 24) rfl))) (by decide) (t := .byte) (t' := (.array .byte)) (by decide) (by decide)))
  have F31 : Fld Z h26 a1 "java/lang/String" "value" "[B" (.ref b1) := Fld.same W26 F21
  have Z32 : n0 ≤ h26.size := by rw [W26.size]; exact Z0
  refine Go.of (g' := (mkF m 9 #[.val (.ref a1), .val (.ref b1), .val (.int (0 : Int32))] [])) st26 ?_
  have A33 := (⟨X26, hx, hby⟩ : Ax _ _ _ _ _ _ _ _ _ _ _ _ _ _ _)
  refine g_aloadN A33 d4_9 rfl rfl (pc' := 10) rfl ?_
  refine g_iloadN A33 d4_10 rfl (pc' := 11) rfl ?_
  obtain ⟨T34, h34, X34, e34, W34, st34⟩ := putF X26 hx hZ hown (host := "") (Or.inl (hw _ (List.mem_of_getElem? (i := 25) rfl))) Via.refl e26 F30 E29 (Or.inr ⟨(hw _ (List.mem_of_getElem? (i := 26) rfl)), rfl, hnm⟩) (hw _ (List.mem_of_getElem? (i := 11) rfl)) (ty := .byte) (by decide) rfl rfl (g := (mkF m 11 #[.val (.ref a1), .val (.ref b1), .val (.int (0 : Int32))] [(.int (0 : Int32)), (.ref a1)])) rfl rfl (hb hby d4_11)
  have N35 := Fr.snoc X34 N27 g23
  have K36 : Keep h0 h34 [a1] := K28.wr W34 (Or.inl (List.mem_of_getElem? (i := 0) rfl))
  have E37 : Exa Z h34 a1 "java/lang/String" := Exa.wr W34 E29
  have F38 : Fld Z h34 a1 "java/lang/String" "value" "[B" (.ref b1) := Fld.other W34 F31 (Or.inr (slot_ne (Or.inr (hw _ (List.mem_of_getElem? (i := 24) rfl))) (Or.inr (hw _ (List.mem_of_getElem? (i := 26) rfl))) (by decide) (t := (.array .byte)) (t' := .byte) (by decide) (by decide)))
  have F39 : Fld Z h34 a1 "java/lang/String" "coder" "B" (.int (0 : Int32)) := Fld.same W34 F30
  have Z40 : n0 ≤ h34.size := by rw [W34.size]; exact Z32
  refine Go.of (g' := (mkF m 14 #[.val (.ref a1), .val (.ref b1), .val (.int (0 : Int32))] [])) st34 ?_
  have A41 := (⟨X34, hx, hby⟩ : Ax _ _ _ _ _ _ _ _ _ _ _ _ _ _ _)
  exact g_retV (Q := Q4 Z a1 b1 u0 u1 h0 n0) A41 d4_14 Bd.notSynchronized Bd.returns (by decide) (by decide) (by rw [e34]; exact ⟨rfl, N35, K36⟩)
theorem d1_0 : decode jdk_42_method_139_code 0 = .ok (.getstatic 38, 3) := by decide +kernel
theorem d1_3 : decode jdk_42_method_139_code 3 = .ok (.ifCond .eq 23, 3) := by decide +kernel
theorem d1_6 : decode jdk_42_method_139_code 6 = .ok (.iload_n 0, 1) := by decide +kernel
theorem d1_7 : decode jdk_42_method_139_code 7 = .ok (.invokestatic 1015, 3) := by decide +kernel
theorem d1_10 : decode jdk_42_method_139_code 10 = .ok (.ifCond .eq 16, 3) := by decide +kernel
theorem d1_13 : decode jdk_42_method_139_code 13 = .ok (.new 10, 3) := by decide +kernel
theorem d1_16 : decode jdk_42_method_139_code 16 = .ok (.dup, 1) := by decide +kernel
theorem d1_17 : decode jdk_42_method_139_code 17 = .ok (.iload_n 0, 1) := by decide +kernel
theorem d1_18 : decode jdk_42_method_139_code 18 = .ok (.invokestatic 1018, 3) := by decide +kernel
theorem d1_21 : decode jdk_42_method_139_code 21 = .ok (.iconst 0, 1) := by decide +kernel
theorem d1_22 : decode jdk_42_method_139_code 22 = .ok (.invokespecial 209, 3) := by decide +kernel
theorem d1_25 : decode jdk_42_method_139_code 25 = .ok (.areturn, 1) := by decide +kernel
theorem d1_26 : decode jdk_42_method_139_code 26 = .ok (.new 10, 3) := by decide +kernel
theorem d1_29 : decode jdk_42_method_139_code 29 = .ok (.dup, 1) := by decide +kernel
theorem d1_30 : decode jdk_42_method_139_code 30 = .ok (.iload_n 0, 1) := by decide +kernel
theorem d1_31 : decode jdk_42_method_139_code 31 = .ok (.invokestatic 1021, 3) := by decide +kernel
theorem d1_34 : decode jdk_42_method_139_code 34 = .ok (.iconst 1, 1) := by decide +kernel
theorem d1_35 : decode jdk_42_method_139_code 35 = .ok (.invokespecial 209, 3) := by decide +kernel
theorem d1_38 : decode jdk_42_method_139_code 38 = .ok (.areturn, 1) := by decide +kernel
theorem ef42 (m : MethodId) (q1 : Int32) (cs : Int32) : entryFrame m #[(.int q1)] 1 = mkF m 0 #[.val (.int q1)] [] := by first | (simp [entryFrame, mkF, argsToLocals, Value.category]; done) | rfl
def Q1 (Z : State) (q1 : Int32) (cs : Int32) (h0 : Heap) (n0 : Nat) (v : Option Value) (h : Heap) (L : List Loc) : Prop := ∃ r : Addr, v = some (.ref r) ∧ Fr n0 L ∧ Keep h0 h [] ∧ h0.size ≤ r
theorem pd_0 : parseMethodDescriptor "(C)Z" = some ⟨[.char], some .boolean⟩ := by decide +kernel
theorem pd_1 : parseMethodDescriptor "(C)[B" = some ⟨[.char], some (.array .byte)⟩ := by decide +kernel
theorem pd_2 : parseMethodDescriptor "([BB)V" = some ⟨[(.array .byte), .byte], none⟩ := by decide +kernel
set_option maxRecDepth 65536 in
set_option maxHeartbeats 40000000 in
theorem rm1 (l : Launch) (Z : State) (a0 : Array Value) (hw : ∀ d ∈ tables_1, d.before a0 Z = true) (ws : List Jvm.Cond) (q1 : Int32) (cs : Int32) (h0 : Heap) (n0 : Nat) (Z0 : n0 ≤ h0.size) (S43 : Sta Z h0 "java/lang/String" "COMPACT_STRINGS" "Z" (.int cs)) (h1 : ¬ (255 : Int32) < q1) (hcs : ¬ cs = 0) :
    MetFree l (⟨"java/lang/String", "valueOf", "(C)Ljava/lang/String;"⟩ : MethodName) (head1 (Jvm.Cond.code (⟨"java/lang/String", "valueOf", "(C)Ljava/lang/String;"⟩ : MethodName) jdk_42_method_139_code 1 (some (.object "java/lang/String")) :: ws) ({ frames := 2, cells := 2, slots := 5, locals := 27 } : Room)) (fun a U => a = #[(.int q1)] ∧ Z.Warmed39 U.vm ∧ U.heap = h0) (fun _ _ _ _ _ => True) (fun _ U o U' => ∃ v L, o = .returned v ∧ Q1 Z q1 cs h0 n0 v U'.heap L ∧ FrameEnd U o U' L 2 5) := by
  refine MetFree.of_bodySF (plainFor_of_name pn_2) hisR ?_
  intro p e s m args below meth c s₁ Bd hml0 hP hK
  obtain ⟨rfl, hZ, hh⟩ := hP
  have hx := Bd.exec
  have hby := Bd.bytes
  have hml : c.maxLocals = 1 := hml0
  have hown : s.vm.findClass "java/lang/String" = some m.cls := findClass_of_methodNamed Bd.named
  have hnm := (name_of_methodNamed Bd.named Bd.method).1
  have X0 : Stand p l e ({ frames := 2, cells := 2, slots := 5, locals := 27 } : Room) s m #[(.int q1)] below meth c s₁ [] 0 0 := Stand.of_body Bd
  have e0 : s₁.heap = h0 := by rw [← hh, Bd.state]; rfl
  have N0 := Fr.nil n0
  have A0 := (⟨X0, hx, hby⟩ : Ax _ _ _ _ _ _ _ _ _ _ _ _ _ _ _)
  show Go p e below (fun U o => ∃ v L, o = .returned v ∧ Q1 Z q1 cs h0 n0 v U.heap L ∧ FrameEnd s o U L 2 5) s₁ (entryFrame m #[(.int q1)] 1)
  refine Go.cast (ef42 m q1 cs) ?_
  obtain ⟨T44, X44, e44, st44⟩ := getS X0 hx hZ hown (host := "") (hw _ (List.mem_of_getElem? (i := 5) rfl)) Via.refl e0 S43 (g := (mkF m 0 #[.val (.int q1)] [])) rfl (hb hby d1_0)
  refine Go.of (g' := (mkF m 3 #[.val (.int q1)] [(.int cs)])) st44 ?_
  have A45 := (⟨X44, hx, hby⟩ : Ax _ _ _ _ _ _ _ _ _ _ _ _ _ _ _)
  refine g_ifN A45 d1_3 (c0_eq_f hcs) (pc' := 6) rfl ?_
  refine g_iloadN A45 d1_6 rfl (pc' := 7) rfl ?_
  obtain ⟨vv46, _, ⟨T46, L46, k46, n46⟩, -, X46, ⟨L46c, hQ46, l46, y46, z46⟩, st46⟩ := Jvm.LawKit.callS X44 hx (y := (⟨"java/lang/StringLatin1", "canEncode", "(C)Z"⟩ : MethodName)) hown (mvT hZ (hw _ (List.mem_of_getElem? (i := 6) rfl))) (mvT hZ (hw _ (List.mem_of_getElem? (i := 7) rfl))) (mvT hZ (hw _ (List.mem_of_getElem? (i := 8) rfl))) (mvT hZ (hw _ (List.mem_of_getElem? (i := 9) rfl))) (by decide) (backOf (W := 0) (rm2 l Z a0 hw [] q1 h0 n0 Z0 h1) hZ (hw _ (List.mem_of_getElem? (i := 9) rfl)) (hw _ (List.mem_of_getElem? (i := 8) rfl)) (by decide) (by decide)) (g := (mkF m 7 #[.val (.int q1)] [(.int q1)])) rfl (by rw [hml]; rfl) (argsL := [(.int q1)]) (rest := []) (lenOf pd_0 rfl) rfl (by show 2 * 0 + _ ≤ _; exact Nat.le_of_eq rfl) (hb hby d1_7) (fun _ _ => ⟨rfl, e44, (by decide : 0 + 0 ≤ _), (by decide : 0 + 0 ≤ _)⟩)
  have hQ46b : Q2 Z q1 h0 n0 vv46 T46.heap L46c := hQ46
  clear hQ46
  dsimp only [Pt.U, Pt.locs, Pt.cells, Pt.slots] at X46 l46 y46 z46 st46
  subst y46 z46
  obtain ⟨rfl, Nq47, Kq48⟩ := hQ46b
  have N49 : Fr n0 L46 := by rw [l46]; exact Fr.app N0 Nq47
  refine Go.of (g' := (mkF m 10 #[.val (.int q1)] [(.int (1 : Int32))])) st46 ?_
  have e50 : T46.heap = h0 := Kq48
  have A51 := (⟨X46, hx, hby⟩ : Ax _ _ _ _ _ _ _ _ _ _ _ _ _ _ _)
  refine g_ifN A51 d1_10 (c0_eq_f (by decide)) (pc' := 13) rfl ?_
  obtain ⟨T52, h52, X52, e52, E52, EA52, D52, -, st52⟩ := newO X46 hx hZ hown (hw _ (List.mem_of_getElem? (i := 10) rfl)) (hw _ (List.mem_of_getElem? (i := 11) rfl)) (hw _ (List.mem_of_getElem? (i := 3) rfl)) e50 (g := (mkF m 13 #[.val (.int q1)] [])) rfl (hb hby d1_13) (by decide) (by decide)
  obtain ⟨a53, ea53⟩ : ∃ z, z = h0.size := ⟨_, rfl⟩
  rw [← ea53] at EA52 D52 st52
  have g54 : n0 ≤ a53 := by rw [ea53]; exact Z0
  have gh55 : h0.size ≤ a53 := by rw [ea53]; exact (Keep.refl h0 []).1
  have K56 : Keep h0 h52 [] := (Keep.refl h0 []).ext E52
  have S57 : Sta Z h52 "java/lang/String" "COMPACT_STRINGS" "Z" (.int cs) := Sta.ext E52 S43
  have Z58 : n0 ≤ h52.size := Nat.le_trans Z0 E52.1
  have F59 : Fld Z h52 a53 "java/lang/String" "value" "[B" .null := D52 (Or.inr (hw _ (List.mem_of_getElem? (i := 24) rfl))) (ty := (.array .byte)) (by decide)
  have F60 : Fld Z h52 a53 "java/lang/String" "coder" "B" (.int (0 : Int32)) := D52 (Or.inr (hw _ (List.mem_of_getElem? (i := 26) rfl))) (ty := .byte) (by decide)
  refine Go.of (g' := (mkF m 16 #[.val (.int q1)] [(.ref a53)])) st52 ?_
  have A61 := (⟨X52, hx, hby⟩ : Ax _ _ _ _ _ _ _ _ _ _ _ _ _ _ _)
  refine g_dup A61 d1_16 rfl (pc' := 17) rfl ?_
  refine g_iloadN A61 d1_17 rfl (pc' := 18) rfl ?_
  obtain ⟨vv62, _, ⟨T62, L62, k62, n62⟩, -, X62, ⟨L62c, hQ62, l62, y62, z62⟩, st62⟩ := Jvm.LawKit.callS X52 hx (y := (⟨"java/lang/StringLatin1", "toBytes", "(C)[B"⟩ : MethodName)) hown (mvT hZ (hw _ (List.mem_of_getElem? (i := 12) rfl))) (mvT hZ (hw _ (List.mem_of_getElem? (i := 13) rfl))) (mvT hZ (hw _ (List.mem_of_getElem? (i := 8) rfl))) (mvT hZ (hw _ (List.mem_of_getElem? (i := 14) rfl))) (by decide) (backOf (W := 2) (rm3 l Z a0 hw [] q1 h52 n0 Z58 ) hZ (hw _ (List.mem_of_getElem? (i := 14) rfl)) (hw _ (List.mem_of_getElem? (i := 8) rfl)) (by decide) (by decide)) (g := (mkF m 18 #[.val (.int q1)] [(.int q1), (.ref a53), (.ref a53)])) rfl (by rw [hml]; rfl) (argsL := [(.int q1)]) (rest := [(.ref a53), (.ref a53)]) (lenOf pd_1 rfl) rfl (by show 2 * 0 + _ ≤ _; exact Nat.le_of_eq rfl) (hb hby d1_18) (fun _ _ => ⟨rfl, e52, (by decide : 1 + 1 ≤ _), (by decide : 4 + 1 ≤ _)⟩)
  have hQ62b : Q3 Z q1 h52 n0 vv62 T62.heap L62c := hQ62
  clear hQ62
  dsimp only [Pt.U, Pt.locs, Pt.cells, Pt.slots] at X62 l62 y62 z62 st62
  subst y62 z62
  obtain ⟨r63, rfl, Nq64, Kq65, gx66⟩ := hQ62b
  have N67 : Fr n0 L62 := by rw [l62]; exact Fr.app N49 Nq64
  refine Go.of (g' := (mkF m 21 #[.val (.int q1)] [(.ref r63), (.ref a53), (.ref a53)])) st62 ?_
  have E68 : Exa Z T62.heap a53 "java/lang/String" := Exa.keep EA52 Kq65
  have F69 : Fld Z T62.heap a53 "java/lang/String" "value" "[B" .null := Fld.keep F59 Kq65 nin0
  have F70 : Fld Z T62.heap a53 "java/lang/String" "coder" "B" (.int (0 : Int32)) := Fld.keep F60 Kq65 nin0
  have Z71 : n0 ≤ T62.heap.size := Nat.le_trans Z58 Kq65.1
  have K72 : Keep h0 T62.heap [] := K56.trans Kq65 all0
  have A73 := (⟨X62, hx, hby⟩ : Ax _ _ _ _ _ _ _ _ _ _ _ _ _ _ _)
  have g74 : n0 ≤ r63 := Nat.le_trans Z58 gx66
  have gh75 : h0.size ≤ r63 := Nat.le_trans K56.1 gx66
  have ne76 : a53 ≠ r63 := Nat.ne_of_lt (Nat.lt_of_lt_of_le EA52.lt gx66)
  refine g_iconst A73 d1_21 (v := (0 : Int32)) rfl (pc' := 22) rfl ?_
  obtain ⟨vv77, _, ⟨T77, L77, k77, n77⟩, -, X77, ⟨L77c, hQ77, l77, y77, z77⟩, st77⟩ := X62.specialBack hx (y := (⟨"java/lang/String", "<init>", "([BB)V"⟩ : MethodName)) rfl hown (mvT hZ (hw _ (List.mem_of_getElem? (i := 16) rfl))) (mvT hZ (hw _ (List.mem_of_getElem? (i := 17) rfl))) (mvT hZ (hw _ (List.mem_of_getElem? (i := 19) rfl))) (by decide) (backOf (W := 1) (rm4 l Z a0 hw [] a53 r63 .null (.int (0 : Int32)) T62.heap n0 Z71 E68 F69 F70 g54) hZ (hw _ (List.mem_of_getElem? (i := 19) rfl)) (hw _ (List.mem_of_getElem? (i := 3) rfl)) (by decide) (by decide)) (g := (mkF m 22 #[.val (.int q1)] [(.int (0 : Int32)), (.ref r63), (.ref a53), (.ref a53)])) rfl (by rw [hml]; rfl) (Steps.refl _) (a := a53) (argsL := [(.ref r63), (.int (0 : Int32))]) (rest := [(.ref a53)]) (lenOf pd_2 rfl) rfl (by show 2 * 0 + _ ≤ _; exact Nat.le_of_eq rfl) (hb hby d1_22) (fun _ _ => ⟨rfl, rfl, (by decide : 2 + 0 ≤ _), (by decide : 5 + 0 ≤ _)⟩)
  have hQ77b : Q4 Z a53 r63 .null (.int (0 : Int32)) T62.heap n0 vv77 T77.heap L77c := hQ77
  clear hQ77
  dsimp only [Pt.U, Pt.locs, Pt.cells, Pt.slots] at X77 l77 y77 z77 st77
  subst y77 z77
  obtain ⟨rfl, Nq78, Kq79⟩ := hQ77b
  have N80 : Fr n0 L77 := by rw [l77]; exact Fr.app N67 Nq78
  refine Go.tr (g' := (mkF m 25 #[.val (.int q1)] [(.ref a53)])) st77 ?_
  have E81 : Exa Z T77.heap a53 "java/lang/String" := Exa.keep E68 Kq79
  have Z82 : n0 ≤ T77.heap.size := Nat.le_trans Z71 Kq79.1
  have K83 : Keep h0 T77.heap [] := K72.trans Kq79 (allS (Or.inr gh55) all0)
  have A84 := (⟨X77, hx, hby⟩ : Ax _ _ _ _ _ _ _ _ _ _ _ _ _ _ _)
  exact g_ret (Q := Q1 Z q1 cs h0 n0) A84 d1_25 Bd.notSynchronized Bd.returns rfl (Or.inr (Or.inr (Or.inr (Or.inr ⟨rfl, rfl, rfl⟩)))) (by decide) (by decide) ⟨a53, rfl, N80, K83, gh55⟩
theorem d6_0 : decode prog_65_method_1_code 0 = .ok (.aload_n 0, 1) := by decide +kernel
theorem d6_1 : decode prog_65_method_1_code 1 = .ok (.invokespecial 1, 3) := by decide +kernel
theorem d6_4 : decode prog_65_method_1_code 4 = .ok (.aload_n 0, 1) := by decide +kernel
theorem d6_5 : decode prog_65_method_1_code 5 = .ok (.aload_n 1, 1) := by decide +kernel
theorem d6_6 : decode prog_65_method_1_code 6 = .ok (.putfield 7, 3) := by decide +kernel
theorem d6_9 : decode prog_65_method_1_code 9 = .ok (.aload_n 0, 1) := by decide +kernel
theorem d6_10 : decode prog_65_method_1_code 10 = .ok (.dload_n 2, 1) := by decide +kernel
theorem d6_11 : decode prog_65_method_1_code 11 = .ok (.putfield 13, 3) := by decide +kernel
theorem d6_14 : decode prog_65_method_1_code 14 = .ok (.aload_n 0, 1) := by decide +kernel
theorem d6_15 : decode prog_65_method_1_code 15 = .ok (.dload 4, 2) := by decide +kernel
theorem d6_17 : decode prog_65_method_1_code 17 = .ok (.putfield 17, 3) := by decide +kernel
theorem d6_20 : decode prog_65_method_1_code 20 = .ok (.aload_n 0, 1) := by decide +kernel
theorem d6_21 : decode prog_65_method_1_code 21 = .ok (.dload 6, 2) := by decide +kernel
theorem d6_23 : decode prog_65_method_1_code 23 = .ok (.putfield 20, 3) := by decide +kernel
theorem d6_26 : decode prog_65_method_1_code 26 = .ok (.aload_n 0, 1) := by decide +kernel
theorem d6_27 : decode prog_65_method_1_code 27 = .ok (.iload 8, 2) := by decide +kernel
theorem d6_29 : decode prog_65_method_1_code 29 = .ok (.putfield 23, 3) := by decide +kernel
theorem d6_32 : decode prog_65_method_1_code 32 = .ok (.return_, 1) := by decide +kernel
theorem pn_3 : plainName "com/example/slackline/slackline/lp/LinearProgram$Variable" = true := by first | (simp [plainName, overriddenIn]; done) | decide +kernel
theorem ef85 (m : MethodId) (a1 : Addr) (o1 : Addr) (x2 : UInt64) (x3 : UInt64) (x4 : UInt64) (i5 : Int32) (u0 : Value) (u1 : Value) (u2 : Value) (u3 : Value) (u4 : Value) : entryFrame m #[(.ref a1), (.ref o1), (.double x2), (.double x3), (.double x4), (.int i5)] 9 = mkF m 0 #[.val (.ref a1), .val (.ref o1), .val (.double x2), .second, .val (.double x3), .second, .val (.double x4), .second, .val (.int i5)] [] := by first | (simp [entryFrame, mkF, argsToLocals, Value.category]; done) | rfl
def Q6 (Z : State) (a1 : Addr) (o1 : Addr) (x2 : UInt64) (x3 : UInt64) (x4 : UInt64) (i5 : Int32) (u0 : Value) (u1 : Value) (u2 : Value) (u3 : Value) (u4 : Value) (h0 : Heap) (n0 : Nat) (v : Option Value) (h : Heap) (L : List Loc) : Prop := v = none ∧ Fr n0 L ∧ Keep h0 h [a1] ∧ Fld Z h a1 "com/example/slackline/slackline/lp/LinearProgram$Variable" "name" "Ljava/lang/String;" (.ref o1) ∧ Fld Z h a1 "com/example/slackline/slackline/lp/LinearProgram$Variable" "lower" "D" (.double x2) ∧ Fld Z h a1 "com/example/slackline/slackline/lp/LinearProgram$Variable" "upper" "D" (.double x3) ∧ Fld Z h a1 "com/example/slackline/slackline/lp/LinearProgram$Variable" "cost" "D" (.double x4) ∧ Fld Z h a1 "com/example/slackline/slackline/lp/LinearProgram$Variable" "integer" "Z" (.int i5)
theorem pd_3 : parseMethodDescriptor "()V" = some ⟨[], none⟩ := by decide +kernel
set_option maxRecDepth 65536 in
set_option maxHeartbeats 40000000 in
theorem rm6 (l : Launch) (Z : State) (a0 : Array Value) (hw : ∀ d ∈ tables_1, d.before a0 Z = true) (ws : List Jvm.Cond) (a1 : Addr) (o1 : Addr) (x2 : UInt64) (x3 : UInt64) (x4 : UInt64) (i5 : Int32) (u0 : Value) (u1 : Value) (u2 : Value) (u3 : Value) (u4 : Value) (h0 : Heap) (n0 : Nat) (Z0 : n0 ≤ h0.size) (E86 : Exa Z h0 a1 "com/example/slackline/slackline/lp/LinearProgram$Variable") (F87 : Fld Z h0 a1 "com/example/slackline/slackline/lp/LinearProgram$Variable" "name" "Ljava/lang/String;" u0) (F88 : Fld Z h0 a1 "com/example/slackline/slackline/lp/LinearProgram$Variable" "lower" "D" u1) (F89 : Fld Z h0 a1 "com/example/slackline/slackline/lp/LinearProgram$Variable" "upper" "D" u2) (F90 : Fld Z h0 a1 "com/example/slackline/slackline/lp/LinearProgram$Variable" "cost" "D" u3) (F91 : Fld Z h0 a1 "com/example/slackline/slackline/lp/LinearProgram$Variable" "integer" "Z" u4) (g92 : n0 ≤ a1) (hb_i5 : narrow .boolean (.int i5) = .int i5) :
    MetFree l (⟨"com/example/slackline/slackline/lp/LinearProgram$Variable", "<init>", "(Ljava/lang/String;DDDZ)V"⟩ : MethodName) (head1 (Jvm.Cond.code (⟨"com/example/slackline/slackline/lp/LinearProgram$Variable", "<init>", "(Ljava/lang/String;DDDZ)V"⟩ : MethodName) prog_65_method_1_code 9 none :: ws) ({ frames := 2, cells := 0, slots := 0, locals := 24 } : Room)) (fun a U => a = #[(.ref a1), (.ref o1), (.double x2), (.double x3), (.double x4), (.int i5)] ∧ Z.Warmed39 U.vm ∧ U.heap = h0) (fun _ _ _ _ _ => True) (fun _ U o U' => ∃ v L, o = .returned v ∧ Q6 Z a1 o1 x2 x3 x4 i5 u0 u1 u2 u3 u4 h0 n0 v U'.heap L ∧ FrameEnd U o U' L 0 0) := by
  refine MetFree.of_bodySF (plainFor_of_name pn_3) hisR ?_
  intro p e s m args below meth c s₁ Bd hml0 hP hK
  obtain ⟨rfl, hZ, hh⟩ := hP
  have hx := Bd.exec
  have hby := Bd.bytes
  have hml : c.maxLocals = 9 := hml0
  have hown : s.vm.findClass "com/example/slackline/slackline/lp/LinearProgram$Variable" = some m.cls := findClass_of_methodNamed Bd.named
  have hnm := (name_of_methodNamed Bd.named Bd.method).1
  have X0 : Stand p l e ({ frames := 2, cells := 0, slots := 0, locals := 24 } : Room) s m #[(.ref a1), (.ref o1), (.double x2), (.double x3), (.double x4), (.int i5)] below meth c s₁ [] 0 0 := Stand.of_body Bd
  have e0 : s₁.heap = h0 := by rw [← hh, Bd.state]; rfl
  have N0 := Fr.nil n0
  have A0 := (⟨X0, hx, hby⟩ : Ax _ _ _ _ _ _ _ _ _ _ _ _ _ _ _)
  show Go p e below (fun U o => ∃ v L, o = .returned v ∧ Q6 Z a1 o1 x2 x3 x4 i5 u0 u1 u2 u3 u4 h0 n0 v U.heap L ∧ FrameEnd s o U L 0 0) s₁ (entryFrame m #[(.ref a1), (.ref o1), (.double x2), (.double x3), (.double x4), (.int i5)] 9)
  refine Go.cast (ef85 m a1 o1 x2 x3 x4 i5 u0 u1 u2 u3 u4) ?_
  refine g_aloadN A0 d6_0 rfl rfl (pc' := 1) rfl ?_
  obtain ⟨vv93, _, ⟨T93, L93, k93, n93⟩, -, X93, ⟨L93c, hQ93, l93, y93, z93⟩, st93⟩ := X0.specialBack hx (y := (⟨"java/lang/Record", "<init>", "()V"⟩ : MethodName)) rfl hown (mvT hZ (hw _ (List.mem_of_getElem? (i := 33) rfl))) (mvT hZ (hw _ (List.mem_of_getElem? (i := 34) rfl))) (mvT hZ (hw _ (List.mem_of_getElem? (i := 37) rfl))) (by decide) (backOf (W := 0) (rm7 l Z a0 hw [] a1 h0 n0 Z0 ) hZ (hw _ (List.mem_of_getElem? (i := 37) rfl)) (hw _ (List.mem_of_getElem? (i := 36) rfl)) (by decide) (by decide)) (g := (mkF m 1 #[.val (.ref a1), .val (.ref o1), .val (.double x2), .second, .val (.double x3), .second, .val (.double x4), .second, .val (.int i5)] [(.ref a1)])) rfl (by rw [hml]; rfl) (Steps.refl _) (a := a1) (argsL := []) (rest := []) (lenOf pd_3 rfl) rfl (by show 2 * 0 + _ ≤ _; exact Nat.le_of_eq rfl) (hb hby d6_1) (fun _ _ => ⟨rfl, e0, (by decide : 0 + 0 ≤ _), (by decide : 0 + 0 ≤ _)⟩)
  have hQ93b : Q7 Z a1 h0 n0 vv93 T93.heap L93c := hQ93
  clear hQ93
  dsimp only [Pt.U, Pt.locs, Pt.cells, Pt.slots] at X93 l93 y93 z93 st93
  subst y93 z93
  obtain ⟨rfl, Nq94, Kq95⟩ := hQ93b
  have N96 : Fr n0 L93 := by rw [l93]; exact Fr.app N0 Nq94
  refine Go.tr (g' := (mkF m 4 #[.val (.ref a1), .val (.ref o1), .val (.double x2), .second, .val (.double x3), .second, .val (.double x4), .second, .val (.int i5)] [])) st93 ?_
  have e97 : T93.heap = h0 := Kq95
  have A98 := (⟨X93, hx, hby⟩ : Ax _ _ _ _ _ _ _ _ _ _ _ _ _ _ _)
  refine g_aloadN A98 d6_4 rfl rfl (pc' := 5) rfl ?_
  refine g_aloadN A98 d6_5 rfl rfl (pc' := 6) rfl ?_
  obtain ⟨T99, h99, X99, e99, W99, st99⟩ := putF X93 hx hZ hown (host := "") (Or.inl (hw _ (List.mem_of_getElem? (i := 39) rfl))) Via.refl e97 F87 E86 (Or.inr ⟨(hw _ (List.mem_of_getElem? (i := 40) rfl)), rfl, hnm⟩) (hw _ (List.mem_of_getElem? (i := 28) rfl)) (ty := (.object "java/lang/String")) (by decide) rfl rfl (g := (mkF m 6 #[.val (.ref a1), .val (.ref o1), .val (.double x2), .second, .val (.double x3), .second, .val (.double x4), .second, .val (.int i5)] [(.ref o1), (.ref a1)])) rfl rfl (hb hby d6_6)
  have N100 := Fr.snoc X99 N96 g92
  have K101 : Keep h0 h99 [a1] := (Keep.refl h0 [a1]).wr W99 (Or.inl (List.mem_of_getElem? (i := 0) rfl))
  have E102 : Exa Z h99 a1 "com/example/slackline/slackline/lp/LinearProgram$Variable" := Exa.wr W99 E86
  have F103 : Fld Z h99 a1 "com/example/slackline/slackline/lp/LinearProgram$Variable" "lower" "D" u1 := Fld.other W99 F88 (Or.inr (slot_ne (Or.inr (hw _ (List.mem_of_getElem? (i := 42) rfl))) (Or.inr (hw _ (List.mem_of_getElem? (i := 40) rfl))) (by decide) (t := .double) (t' := (.object "java/lang/String")) (by decide) (by decide)))
  have F104 : Fld Z h99 a1 "com/example/slackline/slackline/lp/LinearProgram$Variable" "upper" "D" u2 := Fld.other W99 F89 (Or.inr (slot_ne (Or.inr (hw _ (List.mem_of_getElem? (i := 44) rfl))) (Or.inr (hw _ (List.mem_of_getElem? (i := 40) rfl))) (by decide) (t := .double) (t' := (.object "java/lang/String")) (by decide) (by decide)))
  have F105 : Fld Z h99 a1 "com/example/slackline/slackline/lp/LinearProgram$Variable" "cost" "D" u3 := Fld.other W99 F90 (Or.inr (slot_ne (Or.inr (hw _ (List.mem_of_getElem? (i := 46) rfl))) (Or.inr (hw _ (List.mem_of_getElem? (i := 40) rfl))) (by decide) (t := .double) (t' := (.object "java/lang/String")) (by decide) (by decide)))
  have F106 : Fld Z h99 a1 "com/example/slackline/slackline/lp/LinearProgram$Variable" "integer" "Z" u4 := Fld.other W99 F91 (Or.inr (slot_ne (Or.inr (hw _ (List.mem_of_getElem? (i := 48) rfl))) (Or.inr (hw _ (List.mem_of_getElem? (i := 40) rfl))) (by decide) (t := .boolean) (t' := (.object "java/lang/String")) (by decide) (by decide)))
  have F107 : Fld Z h99 a1 "com/example/slackline/slackline/lp/LinearProgram$Variable" "name" "Ljava/lang/String;" (.ref o1) := Fld.same W99 F87
  have Z108 : n0 ≤ h99.size := by rw [W99.size]; exact Z0
  refine Go.of (g' := (mkF m 9 #[.val (.ref a1), .val (.ref o1), .val (.double x2), .second, .val (.double x3), .second, .val (.double x4), .second, .val (.int i5)] [])) st99 ?_
  have A109 := (⟨X99, hx, hby⟩ : Ax _ _ _ _ _ _ _ _ _ _ _ _ _ _ _)
  refine g_aloadN A109 d6_9 rfl rfl (pc' := 10) rfl ?_
  refine g_dloadN A109 d6_10 rfl (pc' := 11) rfl ?_
  obtain ⟨T110, h110, X110, e110, W110, st110⟩ := putF X99 hx hZ hown (host := "") (Or.inl (hw _ (List.mem_of_getElem? (i := 41) rfl))) Via.refl e99 F103 E102 (Or.inr ⟨(hw _ (List.mem_of_getElem? (i := 42) rfl)), rfl, hnm⟩) (hw _ (List.mem_of_getElem? (i := 28) rfl)) (ty := .double) (by decide) rfl rfl (g := (mkF m 11 #[.val (.ref a1), .val (.ref o1), .val (.double x2), .second, .val (.double x3), .second, .val (.double x4), .second, .val (.int i5)] [(.double x2), (.ref a1)])) rfl rfl (hb hby d6_11)
  have N111 := Fr.snoc X110 N100 g92
  have K112 : Keep h0 h110 [a1] := K101.wr W110 (Or.inl (List.mem_of_getElem? (i := 0) rfl))
  have E113 : Exa Z h110 a1 "com/example/slackline/slackline/lp/LinearProgram$Variable" := Exa.wr W110 E102
  have F114 : Fld Z h110 a1 "com/example/slackline/slackline/lp/LinearProgram$Variable" "upper" "D" u2 := Fld.other W110 F104 (Or.inr (slot_ne (Or.inr (hw _ (List.mem_of_getElem? (i := 44) rfl))) (Or.inr (hw _ (List.mem_of_getElem? (i := 42) rfl))) (by decide) (t := .double) (t' := .double) (by decide) (by decide)))
  have F115 : Fld Z h110 a1 "com/example/slackline/slackline/lp/LinearProgram$Variable" "cost" "D" u3 := Fld.other W110 F105 (Or.inr (slot_ne (Or.inr (hw _ (List.mem_of_getElem? (i := 46) rfl))) (Or.inr (hw _ (List.mem_of_getElem? (i := 42) rfl))) (by decide) (t := .double) (t' := .double) (by decide) (by decide)))
  have F116 : Fld Z h110 a1 "com/example/slackline/slackline/lp/LinearProgram$Variable" "integer" "Z" u4 := Fld.other W110 F106 (Or.inr (slot_ne (Or.inr (hw _ (List.mem_of_getElem? (i := 48) rfl))) (Or.inr (hw _ (List.mem_of_getElem? (i := 42) rfl))) (by decide) (t := .boolean) (t' := .double) (by decide) (by decide)))
  have F117 : Fld Z h110 a1 "com/example/slackline/slackline/lp/LinearProgram$Variable" "name" "Ljava/lang/String;" (.ref o1) := Fld.other W110 F107 (Or.inr (slot_ne (Or.inr (hw _ (List.mem_of_getElem? (i := 40) rfl))) (Or.inr (hw _ (List.mem_of_getElem? (i := 42) rfl))) (by decide) (t := (.object "java/lang/String")) (t' := .double) (by decide) (by decide)))
  have F118 : Fld Z h110 a1 "com/example/slackline/slackline/lp/LinearProgram$Variable" "lower" "D" (.double x2) := Fld.same W110 F103
  have Z119 : n0 ≤ h110.size := by rw [W110.size]; exact Z108
  refine Go.of (g' := (mkF m 14 #[.val (.ref a1), .val (.ref o1), .val (.double x2), .second, .val (.double x3), .second, .val (.double x4), .second, .val (.int i5)] [])) st110 ?_
  have A120 := (⟨X110, hx, hby⟩ : Ax _ _ _ _ _ _ _ _ _ _ _ _ _ _ _)
  refine g_aloadN A120 d6_14 rfl rfl (pc' := 15) rfl ?_
  refine g_dload A120 d6_15 rfl (pc' := 17) rfl ?_
  obtain ⟨T121, h121, X121, e121, W121, st121⟩ := putF X110 hx hZ hown (host := "") (Or.inl (hw _ (List.mem_of_getElem? (i := 43) rfl))) Via.refl e110 F114 E113 (Or.inr ⟨(hw _ (List.mem_of_getElem? (i := 44) rfl)), rfl, hnm⟩) (hw _ (List.mem_of_getElem? (i := 28) rfl)) (ty := .double) (by decide) rfl rfl (g := (mkF m 17 #[.val (.ref a1), .val (.ref o1), .val (.double x2), .second, .val (.double x3), .second, .val (.double x4), .second, .val (.int i5)] [(.double x3), (.ref a1)])) rfl rfl (hb hby d6_17)
  have N122 := Fr.snoc X121 N111 g92
  have K123 : Keep h0 h121 [a1] := K112.wr W121 (Or.inl (List.mem_of_getElem? (i := 0) rfl))
  have E124 : Exa Z h121 a1 "com/example/slackline/slackline/lp/LinearProgram$Variable" := Exa.wr W121 E113
  have F125 : Fld Z h121 a1 "com/example/slackline/slackline/lp/LinearProgram$Variable" "cost" "D" u3 := Fld.other W121 F115 (Or.inr (slot_ne (Or.inr (hw _ (List.mem_of_getElem? (i := 46) rfl))) (Or.inr (hw _ (List.mem_of_getElem? (i := 44) rfl))) (by decide) (t := .double) (t' := .double) (by decide) (by decide)))
  have F126 : Fld Z h121 a1 "com/example/slackline/slackline/lp/LinearProgram$Variable" "integer" "Z" u4 := Fld.other W121 F116 (Or.inr (slot_ne (Or.inr (hw _ (List.mem_of_getElem? (i := 48) rfl))) (Or.inr (hw _ (List.mem_of_getElem? (i := 44) rfl))) (by decide) (t := .boolean) (t' := .double) (by decide) (by decide)))
  have F127 : Fld Z h121 a1 "com/example/slackline/slackline/lp/LinearProgram$Variable" "name" "Ljava/lang/String;" (.ref o1) := Fld.other W121 F117 (Or.inr (slot_ne (Or.inr (hw _ (List.mem_of_getElem? (i := 40) rfl))) (Or.inr (hw _ (List.mem_of_getElem? (i := 44) rfl))) (by decide) (t := (.object "java/lang/String")) (t' := .double) (by decide) (by decide)))
  have F128 : Fld Z h121 a1 "com/example/slackline/slackline/lp/LinearProgram$Variable" "lower" "D" (.double x2) := Fld.other W121 F118 (Or.inr (slot_ne (Or.inr (hw _ (List.mem_of_getElem? (i := 42) rfl))) (Or.inr (hw _ (List.mem_of_getElem? (i := 44) rfl))) (by decide) (t := .double) (t' := .double) (by decide) (by decide)))
  have F129 : Fld Z h121 a1 "com/example/slackline/slackline/lp/LinearProgram$Variable" "upper" "D" (.double x3) := Fld.same W121 F114
  have Z130 : n0 ≤ h121.size := by rw [W121.size]; exact Z119
  refine Go.of (g' := (mkF m 20 #[.val (.ref a1), .val (.ref o1), .val (.double x2), .second, .val (.double x3), .second, .val (.double x4), .second, .val (.int i5)] [])) st121 ?_
  have A131 := (⟨X121, hx, hby⟩ : Ax _ _ _ _ _ _ _ _ _ _ _ _ _ _ _)
  refine g_aloadN A131 d6_20 rfl rfl (pc' := 21) rfl ?_
  refine g_dload A131 d6_21 rfl (pc' := 23) rfl ?_
  obtain ⟨T132, h132, X132, e132, W132, st132⟩ := putF X121 hx hZ hown (host := "") (Or.inl (hw _ (List.mem_of_getElem? (i := 45) rfl))) Via.refl e121 F125 E124 (Or.inr ⟨(hw _ (List.mem_of_getElem? (i := 46) rfl)), rfl, hnm⟩) (hw _ (List.mem_of_getElem? (i := 28) rfl)) (ty := .double) (by decide) rfl rfl (g := (mkF m 23 #[.val (.ref a1), .val (.ref o1), .val (.double x2), .second, .val (.double x3), .second, .val (.double x4), .second, .val (.int i5)] [(.double x4), (.ref a1)])) rfl rfl (hb hby d6_23)
  have N133 := Fr.snoc X132 N122 g92
  have K134 : Keep h0 h132 [a1] := K123.wr W132 (Or.inl (List.mem_of_getElem? (i := 0) rfl))
  have E135 : Exa Z h132 a1 "com/example/slackline/slackline/lp/LinearProgram$Variable" := Exa.wr W132 E124
  have F136 : Fld Z h132 a1 "com/example/slackline/slackline/lp/LinearProgram$Variable" "integer" "Z" u4 := Fld.other W132 F126 (Or.inr (slot_ne (Or.inr (hw _ (List.mem_of_getElem? (i := 48) rfl))) (Or.inr (hw _ (List.mem_of_getElem? (i := 46) rfl))) (by decide) (t := .boolean) (t' := .double) (by decide) (by decide)))
  have F137 : Fld Z h132 a1 "com/example/slackline/slackline/lp/LinearProgram$Variable" "name" "Ljava/lang/String;" (.ref o1) := Fld.other W132 F127 (Or.inr (slot_ne (Or.inr (hw _ (List.mem_of_getElem? (i := 40) rfl))) (Or.inr (hw _ (List.mem_of_getElem? (i := 46) rfl))) (by decide) (t := (.object "java/lang/String")) (t' := .double) (by decide) (by decide)))
  have F138 : Fld Z h132 a1 "com/example/slackline/slackline/lp/LinearProgram$Variable" "lower" "D" (.double x2) := Fld.other W132 F128 (Or.inr (slot_ne (Or.inr (hw _ (List.mem_of_getElem? (i := 42) rfl))) (Or.inr (hw _ (List.mem_of_getElem? (i := 46) rfl))) (by decide) (t := .double) (t' := .double) (by decide) (by decide)))
  have F139 : Fld Z h132 a1 "com/example/slackline/slackline/lp/LinearProgram$Variable" "upper" "D" (.double x3) := Fld.other W132 F129 (Or.inr (slot_ne (Or.inr (hw _ (List.mem_of_getElem? (i := 44) rfl))) (Or.inr (hw _ (List.mem_of_getElem? (i := 46) rfl))) (by decide) (t := .double) (t' := .double) (by decide) (by decide)))
  have F140 : Fld Z h132 a1 "com/example/slackline/slackline/lp/LinearProgram$Variable" "cost" "D" (.double x4) := Fld.same W132 F125
  have Z141 : n0 ≤ h132.size := by rw [W132.size]; exact Z130
  refine Go.of (g' := (mkF m 26 #[.val (.ref a1), .val (.ref o1), .val (.double x2), .second, .val (.double x3), .second, .val (.double x4), .second, .val (.int i5)] [])) st132 ?_
  have A142 := (⟨X132, hx, hby⟩ : Ax _ _ _ _ _ _ _ _ _ _ _ _ _ _ _)
  refine g_aloadN A142 d6_26 rfl rfl (pc' := 27) rfl ?_
  refine g_iload A142 d6_27 rfl (pc' := 29) rfl ?_
  obtain ⟨T143, h143, X143, e143, W143, st143⟩ := putF X132 hx hZ hown (host := "") (Or.inl (hw _ (List.mem_of_getElem? (i := 47) rfl))) Via.refl e132 F136 E135 (Or.inr ⟨(hw _ (List.mem_of_getElem? (i := 48) rfl)), rfl, hnm⟩) (hw _ (List.mem_of_getElem? (i := 28) rfl)) (ty := .boolean) (by decide) hb_i5 (own_fn hb_i5) (g := (mkF m 29 #[.val (.ref a1), .val (.ref o1), .val (.double x2), .second, .val (.double x3), .second, .val (.double x4), .second, .val (.int i5)] [(.int i5), (.ref a1)])) rfl rfl (hb hby d6_29)
  have N144 := Fr.snoc X143 N133 g92
  have K145 : Keep h0 h143 [a1] := K134.wr W143 (Or.inl (List.mem_of_getElem? (i := 0) rfl))
  have E146 : Exa Z h143 a1 "com/example/slackline/slackline/lp/LinearProgram$Variable" := Exa.wr W143 E135
  have F147 : Fld Z h143 a1 "com/example/slackline/slackline/lp/LinearProgram$Variable" "name" "Ljava/lang/String;" (.ref o1) := Fld.other W143 F137 (Or.inr (slot_ne (Or.inr (hw _ (List.mem_of_getElem? (i := 40) rfl))) (Or.inr (hw _ (List.mem_of_getElem? (i := 48) rfl))) (by decide) (t := (.object "java/lang/String")) (t' := .boolean) (by decide) (by decide)))
  have F148 : Fld Z h143 a1 "com/example/slackline/slackline/lp/LinearProgram$Variable" "lower" "D" (.double x2) := Fld.other W143 F138 (Or.inr (slot_ne (Or.inr (hw _ (List.mem_of_getElem? (i := 42) rfl))) (Or.inr (hw _ (List.mem_of_getElem? (i := 48) rfl))) (by decide) (t := .double) (t' := .boolean) (by decide) (by decide)))
  have F149 : Fld Z h143 a1 "com/example/slackline/slackline/lp/LinearProgram$Variable" "upper" "D" (.double x3) := Fld.other W143 F139 (Or.inr (slot_ne (Or.inr (hw _ (List.mem_of_getElem? (i := 44) rfl))) (Or.inr (hw _ (List.mem_of_getElem? (i := 48) rfl))) (by decide) (t := .double) (t' := .boolean) (by decide) (by decide)))
  have F150 : Fld Z h143 a1 "com/example/slackline/slackline/lp/LinearProgram$Variable" "cost" "D" (.double x4) := Fld.other W143 F140 (Or.inr (slot_ne (Or.inr (hw _ (List.mem_of_getElem? (i := 46) rfl))) (Or.inr (hw _ (List.mem_of_getElem? (i := 48) rfl))) (by decide) (t := .double) (t' := .boolean) (by decide) (by decide)))
  have F151 : Fld Z h143 a1 "com/example/slackline/slackline/lp/LinearProgram$Variable" "integer" "Z" (.int i5) := Fld.same W143 F136
  have Z152 : n0 ≤ h143.size := by rw [W143.size]; exact Z141
  refine Go.of (g' := (mkF m 32 #[.val (.ref a1), .val (.ref o1), .val (.double x2), .second, .val (.double x3), .second, .val (.double x4), .second, .val (.int i5)] [])) st143 ?_
  have A153 := (⟨X143, hx, hby⟩ : Ax _ _ _ _ _ _ _ _ _ _ _ _ _ _ _)
  exact g_retV (Q := Q6 Z a1 o1 x2 x3 x4 i5 u0 u1 u2 u3 u4 h0 n0) A153 d6_32 Bd.notSynchronized Bd.returns (by decide) (by decide) (by rw [e143]; exact ⟨rfl, N144, K145, F147, F148, F149, F150, F151⟩)
def own_r_rm8 (x1 : UInt64) (x2 : UInt64) : Int32 := (if FP.dcmp x1 x2 = some .eq then (1 : Int32) else 0)
theorem d8_0 : decode prog_65_method_2_code 0 = .ok (.aload_n 0, 1) := by decide +kernel
theorem d8_1 : decode prog_65_method_2_code 1 = .ok (.getfield 13, 3) := by decide +kernel
theorem d8_4 : decode prog_65_method_2_code 4 = .ok (.aload_n 0, 1) := by decide +kernel
theorem d8_5 : decode prog_65_method_2_code 5 = .ok (.getfield 17, 3) := by decide +kernel
theorem d8_8 : decode prog_65_method_2_code 8 = .ok (.dcmp .l, 1) := by decide +kernel
theorem d8_9 : decode prog_65_method_2_code 9 = .ok (.ifCond .ne 7, 3) := by decide +kernel
theorem d8_12 : decode prog_65_method_2_code 12 = .ok (.iconst 1, 1) := by decide +kernel
theorem d8_13 : decode prog_65_method_2_code 13 = .ok (.goto 4, 3) := by decide +kernel
theorem d8_16 : decode prog_65_method_2_code 16 = .ok (.iconst 0, 1) := by decide +kernel
theorem d8_17 : decode prog_65_method_2_code 17 = .ok (.ireturn, 1) := by decide +kernel
theorem ef154 (m : MethodId) (a1 : Addr) (x1 : UInt64) (x2 : UInt64) : entryFrame m #[(.ref a1)] 1 = mkF m 0 #[.val (.ref a1)] [] := by first | (simp [entryFrame, mkF, argsToLocals, Value.category]; done) | rfl
def Q8 (Z : State) (a1 : Addr) (x1 : UInt64) (x2 : UInt64) (h0 : Heap) (n0 : Nat) (v : Option Value) (h : Heap) (L : List Loc) : Prop := v = some (.int (own_r_rm8 x1 x2)) ∧ Fr n0 L ∧ h = h0
set_option maxRecDepth 65536 in
set_option maxHeartbeats 40000000 in
theorem rm8 (l : Launch) (Z : State) (a0 : Array Value) (hw : ∀ d ∈ tables_1, d.before a0 Z = true) (ws : List Jvm.Cond) (a1 : Addr) (x1 : UInt64) (x2 : UInt64) (h0 : Heap) (n0 : Nat) (Z0 : n0 ≤ h0.size) (E155 : Exa Z h0 a1 "com/example/slackline/slackline/lp/LinearProgram$Variable") (F156 : Fld Z h0 a1 "com/example/slackline/slackline/lp/LinearProgram$Variable" "lower" "D" (.double x1)) (F157 : Fld Z h0 a1 "com/example/slackline/slackline/lp/LinearProgram$Variable" "upper" "D" (.double x2)) :
    MetFree l (⟨"com/example/slackline/slackline/lp/LinearProgram$Variable", "fixed", "()Z"⟩ : MethodName) (head1 (Jvm.Cond.code (⟨"com/example/slackline/slackline/lp/LinearProgram$Variable", "fixed", "()Z"⟩ : MethodName) prog_65_method_2_code 1 (some .boolean) :: ws) ({ frames := 0, cells := 0, slots := 0, locals := 0 } : Room)) (fun a U => a = #[(.ref a1)] ∧ Z.Warmed39 U.vm ∧ U.heap = h0) (fun _ _ _ _ _ => True) (fun _ U o U' => ∃ v L, o = .returned v ∧ Q8 Z a1 x1 x2 h0 n0 v U'.heap L ∧ FrameEnd U o U' L 0 0) := by
  refine MetFree.of_bodySF (plainFor_of_name pn_3) hisR ?_
  intro p e s m args below meth c s₁ Bd hml0 hP hK
  obtain ⟨rfl, hZ, hh⟩ := hP
  have hx := Bd.exec
  have hby := Bd.bytes
  have hml : c.maxLocals = 1 := hml0
  have hown : s.vm.findClass "com/example/slackline/slackline/lp/LinearProgram$Variable" = some m.cls := findClass_of_methodNamed Bd.named
  have hnm := (name_of_methodNamed Bd.named Bd.method).1
  have X0 : Stand p l e ({ frames := 0, cells := 0, slots := 0, locals := 0 } : Room) s m #[(.ref a1)] below meth c s₁ [] 0 0 := Stand.of_body Bd
  have e0 : s₁.heap = h0 := by rw [← hh, Bd.state]; rfl
  have N0 := Fr.nil n0
  have A0 := (⟨X0, hx, hby⟩ : Ax _ _ _ _ _ _ _ _ _ _ _ _ _ _ _)
  show Go p e below (fun U o => ∃ v L, o = .returned v ∧ Q8 Z a1 x1 x2 h0 n0 v U.heap L ∧ FrameEnd s o U L 0 0) s₁ (entryFrame m #[(.ref a1)] 1)
  refine Go.cast (ef154 m a1 x1 x2) ?_
  refine g_aloadN A0 d8_0 rfl rfl (pc' := 1) rfl ?_
  obtain ⟨T158, X158, e158, st158⟩ := getF X0 hx hZ hown (host := "") (Or.inl (hw _ (List.mem_of_getElem? (i := 41) rfl))) Via.refl e0 F156 (g := (mkF m 1 #[.val (.ref a1)] [(.ref a1)])) rfl rfl (hb hby d8_1)
  refine Go.of (g' := (mkF m 4 #[.val (.ref a1)] [(.double x1)])) st158 ?_
  have A159 := (⟨X158, hx, hby⟩ : Ax _ _ _ _ _ _ _ _ _ _ _ _ _ _ _)
  refine g_aloadN A159 d8_4 rfl rfl (pc' := 5) rfl ?_
  obtain ⟨T160, X160, e160, st160⟩ := getF X158 hx hZ hown (host := "") (Or.inl (hw _ (List.mem_of_getElem? (i := 43) rfl))) Via.refl e158 F157 (g := (mkF m 5 #[.val (.ref a1)] [(.ref a1), (.double x1)])) rfl rfl (hb hby d8_5)
  refine Go.of (g' := (mkF m 8 #[.val (.ref a1)] [(.double x2), (.double x1)])) st160 ?_
  have A161 := (⟨X160, hx, hby⟩ : Ax _ _ _ _ _ _ _ _ _ _ _ _ _ _ _)
  refine g_dcmp A161 d8_8 (pc' := 9) rfl ?_
  obtain ⟨v162, hv162⟩ : ∃ z : Int32, z = if FP.dcmp x1 x2 = some .eq then (1 : Int32) else 0 := ⟨_, rfl⟩
  have sg163 : ∀ {P : State → Outcome → Prop}, Go p e below P T160 (mkF m 17 #[.val (.ref a1)] [(.int v162)]) → Go p e below P T160 (mkF m 9 #[.val (.ref a1)] [(.int (cmpValue (FP.dcmp x1 x2) .l))]) := by
    intro P hr
    by_cases c164 : FP.dcmp x1 x2 = some .eq
    · skip
      refine g_ifN A161 d8_9 (d_l_ne_f c164) (pc' := 12) rfl ?_
      refine g_iconst A161 d8_12 (v := (1 : Int32)) rfl (pc' := 13) rfl ?_
      refine g_goto A161 d8_13 (pc' := 17) rfl ?_
      obtain rfl : v162 = (1 : Int32) := hv162.trans (if_pos c164)
      exact hr
    · skip
      refine g_ifY A161 d8_9 (d_l_ne_t c164) (pc' := 16) rfl ?_
      refine g_iconst A161 d8_16 (v := (0 : Int32)) rfl (pc' := 17) rfl ?_
      obtain rfl : v162 = (0 : Int32) := hv162.trans (if_neg c164)
      exact hr
  refine sg163 ?_
  exact g_ret (Q := Q8 Z a1 x1 x2 h0 n0) A161 d8_17 Bd.notSynchronized Bd.returns (own_b01 hv162) (Or.inl ⟨rfl, by simp, _, rfl⟩) (by decide) (by decide) (by rw [e160]; exact ⟨(congrArg (fun z => some (Value.int z)) (by rw [hv162, own_r_rm8])), N0, rfl⟩)
theorem own_ieq (a b : Int32) : (FP.dcmp (FP.i2d a) (FP.i2d b) = some .eq) ↔ a = b := by
  rw [show FP.dcmp (FP.i2d a) (FP.i2d b) = some (compare a.toInt b.toInt) from FP.Core.dcmp_int (FP.Core.i2d_int a) (FP.Core.i2d_int b), Option.some.injEq, FP.Core.compare_eq_iff]
  exact Int32.toInt_inj
theorem own_inf (a : Int32) : ¬ FP.dcmp (FP.i2d a) (9218868437227405312 : UInt64) = some .eq := by
  have h : FP.dcmp (FP.i2d a) (9218868437227405312 : UInt64) = some .lt := (FP.Core.fin_lt_inf (fin64_core.mp (i2d_fin a))).1
  rw [h]; exact fun q => nomatch q
theorem own_ch (p : Int32) : ¬ (255 : Int32) < (p &&& (255 : Int32)).toUInt32.toUInt16.toUInt32.toInt32 := by
  have h := c_mask p 255 8 (by decide) (by decide)
  have h1 := c_i2c (p &&& (255 : Int32))
  rw [Int32.lt_iff_toInt_lt]
  have e : (255 : Int32).toInt = 255 := rfl
  have := Int.emod_nonneg p.toInt (show ((2 ^ 8 : Nat) : Int) ≠ 0 by decide)
  have := Int.emod_lt_of_pos p.toInt (show (0 : Int) < ((2 ^ 8 : Nat) : Int) by decide)
  omega
theorem pn_4 : plainName "com/example/slackline/slackline/lp/VariableFixedPinLaw" = true := by first | (simp [plainName, overriddenIn]; done) | decide +kernel
theorem ef165 (m : MethodId) (p0 : Int32) (p1 : Int32) (p2 : Int32) (p3 : Int32) (p4 : Int32) (cs : Int32) : entryFrame m #[(.int p0), (.int p1), (.int p2), (.int p3), (.int p4)] maxLocals = mkF m 0 #[.val (.int p0), .val (.int p1), .val (.int p2), .val (.int p3), .val (.int p4), .unset, .unset, .unset, .unset, .unset, .unset, .unset, .unset] [] := by first | (simp [entryFrame, mkF, argsToLocals, Value.category, maxLocals]; done) | rfl
def Q0 (Z : State) (p0 : Int32) (p1 : Int32) (p2 : Int32) (p3 : Int32) (p4 : Int32) (cs : Int32) (h0 : Heap) (n0 : Nat) (v : Option Value) (h : Heap) (L : List Loc) : Prop := v = some (.int 1) ∧ Fr n0 L
theorem pd_4 : parseMethodDescriptor "(C)Ljava/lang/String;" = some ⟨[.char], some (.object "java/lang/String")⟩ := by decide +kernel
theorem pd_5 : parseMethodDescriptor "(Ljava/lang/String;DDDZ)V" = some ⟨[(.object "java/lang/String"), .double, .double, .double, .boolean], none⟩ := by decide +kernel
theorem pd_6 : parseMethodDescriptor "()Z" = some ⟨[], some .boolean⟩ := by decide +kernel
set_option maxRecDepth 65536 in
set_option maxHeartbeats 40000000 in
theorem rm0 (l : Launch) (Z : State) (a0 : Array Value) (hw : ∀ d ∈ tables_1, d.before a0 Z = true) (ws : List Jvm.Cond) (p0 : Int32) (p1 : Int32) (p2 : Int32) (p3 : Int32) (p4 : Int32) (cs : Int32) (h0 : Heap) (n0 : Nat) (Z0 : n0 ≤ h0.size) (S166 : Sta Z h0 "java/lang/String" "COMPACT_STRINGS" "Z" (.int cs)) (hcs : ¬ cs = 0) :
    MetFree l x (head1 (Jvm.Cond.code x code maxLocals ret :: ws) room_1) (fun a U => a = #[(.int p0), (.int p1), (.int p2), (.int p3), (.int p4)] ∧ Z.Warmed39 U.vm ∧ U.heap = h0) (fun _ _ _ _ _ => True) (fun _ U o U' => ∃ v L, o = .returned v ∧ Q0 Z p0 p1 p2 p3 p4 cs h0 n0 v U'.heap L ∧ FrameEnd U o U' L 3 10) := by
  refine MetFree.of_bodySF (plainFor_of_name pn_4) hisR ?_
  intro p e s m args below meth c s₁ Bd hml0 hP hK
  obtain ⟨rfl, hZ, hh⟩ := hP
  have hx := Bd.exec
  have hby := Bd.bytes
  have hml : c.maxLocals = 13 := hml0
  have hown : s.vm.findClass "com/example/slackline/slackline/lp/VariableFixedPinLaw" = some m.cls := findClass_of_methodNamed Bd.named
  have hnm := (name_of_methodNamed Bd.named Bd.method).1
  have X0 : Stand p l e room_1 s m #[(.int p0), (.int p1), (.int p2), (.int p3), (.int p4)] below meth c s₁ [] 0 0 := Stand.of_body Bd
  have e0 : s₁.heap = h0 := by rw [← hh, Bd.state]; rfl
  have N0 := Fr.nil n0
  have A0 := (⟨X0, hx, hby⟩ : Ax _ _ _ _ _ _ _ _ _ _ _ _ _ _ _)
  show Go p e below (fun U o => ∃ v L, o = .returned v ∧ Q0 Z p0 p1 p2 p3 p4 cs h0 n0 v U.heap L ∧ FrameEnd s o U L 3 10) s₁ (entryFrame m #[(.int p0), (.int p1), (.int p2), (.int p3), (.int p4)] maxLocals)
  refine Go.cast (ef165 m p0 p1 p2 p3 p4 cs) ?_
  refine g_iloadN A0 at_0 rfl (pc' := 1) rfl ?_
  refine g_bipush A0 at_1 (v := (7 : Int32)) rfl (pc' := 3) rfl ?_
  refine g_iand A0 at_3 (pc' := 4) rfl ?_
  refine g_istore A0 at_4 (ls' := #[.val (.int p0), .val (.int p1), .val (.int p2), .val (.int p3), .val (.int p4), .val (.int (p3 &&& (7 : Int32))), .unset, .unset, .unset, .unset, .unset, .unset, .unset]) rfl (pc' := 6) rfl ?_
  refine g_iloadN A0 at_6 rfl (pc' := 7) rfl ?_
  refine g_i2d A0 at_7 (pc' := 8) rfl ?_
  refine g_dstore A0 at_8 (ls' := #[.val (.int p0), .val (.int p1), .val (.int p2), .val (.int p3), .val (.int p4), .val (.int (p3 &&& (7 : Int32))), .val (.double (FP.i2d p0)), .second, .unset, .unset, .unset, .unset, .unset]) rfl (pc' := 10) rfl ?_
  refine g_iload A0 at_10 rfl (pc' := 12) rfl ?_
  by_cases hc167 : (p3 &&& (7 : Int32)) = 0
  · skip
    refine g_ifN A0 at_12 (c0_ne_f hc167) (pc' := 15) rfl ?_
    refine g_iloadN A0 at_15 rfl (pc' := 16) rfl ?_
    refine g_i2d A0 at_16 (pc' := 17) rfl ?_
    refine g_dstore A0 at_17 (ls' := #[.val (.int p0), .val (.int p1), .val (.int p2), .val (.int p3), .val (.int p4), .val (.int (p3 &&& (7 : Int32))), .val (.double (FP.i2d p0)), .second, .val (.double (FP.i2d p0)), .second, .unset, .unset, .unset]) rfl (pc' := 19) rfl ?_
    refine g_iconst A0 at_19 (v := (1 : Int32)) rfl (pc' := 20) rfl ?_
    refine g_istore A0 at_20 (ls' := #[.val (.int p0), .val (.int p1), .val (.int p2), .val (.int p3), .val (.int p4), .val (.int (p3 &&& (7 : Int32))), .val (.double (FP.i2d p0)), .second, .val (.double (FP.i2d p0)), .second, .val (.int (1 : Int32)), .unset, .unset]) rfl (pc' := 22) rfl ?_
    refine g_goto A0 at_22 (pc' := 82) rfl ?_
    refine g_iload A0 at_82 rfl (pc' := 84) rfl ?_
    refine g_sipush A0 at_84 (v := (255 : Int32)) rfl (pc' := 87) rfl ?_
    refine g_iand A0 at_87 (pc' := 88) rfl ?_
    refine g_i2c A0 at_88 (pc' := 89) rfl ?_
    have hp168 : ¬ (255 : Int32) < ((p4 &&& (255 : Int32)).toUInt32.toUInt16.toUInt32.toInt32) := (own_ch p4)
    obtain ⟨vv169, _, ⟨T169, L169, k169, n169⟩, -, X169, ⟨L169c, hQ169, l169, y169, z169⟩, st169⟩ := Jvm.LawKit.callS X0 hx (y := (⟨"java/lang/String", "valueOf", "(C)Ljava/lang/String;"⟩ : MethodName)) hown (mvT hZ (hw _ (List.mem_of_getElem? (i := 1) rfl))) (mvT hZ (hw _ (List.mem_of_getElem? (i := 2) rfl))) (mvT hZ (hw _ (List.mem_of_getElem? (i := 3) rfl))) (mvT hZ (hw _ (List.mem_of_getElem? (i := 4) rfl))) (by decide) (backOf (W := 0) (rm1 l Z a0 hw [] ((p4 &&& (255 : Int32)).toUInt32.toUInt16.toUInt32.toInt32) cs h0 n0 Z0 S166 hp168 hcs) hZ (hw _ (List.mem_of_getElem? (i := 4) rfl)) (hw _ (List.mem_of_getElem? (i := 3) rfl)) (by decide) (by decide)) (g := (mkF m 89 #[.val (.int p0), .val (.int p1), .val (.int p2), .val (.int p3), .val (.int p4), .val (.int (p3 &&& (7 : Int32))), .val (.double (FP.i2d p0)), .second, .val (.double (FP.i2d p0)), .second, .val (.int (1 : Int32)), .unset, .unset] [(.int ((p4 &&& (255 : Int32)).toUInt32.toUInt16.toUInt32.toInt32))])) rfl (by rw [hml]; rfl) (argsL := [(.int ((p4 &&& (255 : Int32)).toUInt32.toUInt16.toUInt32.toInt32))]) (rest := []) (lenOf pd_4 rfl) rfl (by show 2 * 0 + _ ≤ _; exact Nat.le_of_eq rfl) (hb hby at_89) (fun _ _ => ⟨rfl, e0, (by decide : 0 + 2 ≤ _), (by decide : 0 + 5 ≤ _)⟩)
    have hQ169b : Q1 Z ((p4 &&& (255 : Int32)).toUInt32.toUInt16.toUInt32.toInt32) cs h0 n0 vv169 T169.heap L169c := hQ169
    clear hQ169
    dsimp only [Pt.U, Pt.locs, Pt.cells, Pt.slots] at X169 l169 y169 z169 st169
    subst y169 z169
    obtain ⟨r170, rfl, Nq171, Kq172, gx173⟩ := hQ169b
    have N174 : Fr n0 L169 := by rw [l169]; exact Fr.app N0 Nq171
    refine Go.of (g' := (mkF m 92 #[.val (.int p0), .val (.int p1), .val (.int p2), .val (.int p3), .val (.int p4), .val (.int (p3 &&& (7 : Int32))), .val (.double (FP.i2d p0)), .second, .val (.double (FP.i2d p0)), .second, .val (.int (1 : Int32)), .unset, .unset] [(.ref r170)])) st169 ?_
    have Z175 : n0 ≤ T169.heap.size := Nat.le_trans Z0 Kq172.1
    have K176 : Keep h0 T169.heap [] := (Keep.refl h0 []).trans Kq172 all0
    have A177 := (⟨X169, hx, hby⟩ : Ax _ _ _ _ _ _ _ _ _ _ _ _ _ _ _)
    have g178 : n0 ≤ r170 := Nat.le_trans Z0 gx173
    have gh179 : h0.size ≤ r170 := Nat.le_trans (Keep.refl h0 []).1 gx173
    refine g_astore A177 at_92 rfl (ls' := #[.val (.int p0), .val (.int p1), .val (.int p2), .val (.int p3), .val (.int p4), .val (.int (p3 &&& (7 : Int32))), .val (.double (FP.i2d p0)), .second, .val (.double (FP.i2d p0)), .second, .val (.int (1 : Int32)), .val (.ref r170), .unset]) rfl (pc' := 94) rfl ?_
    obtain ⟨T180, h180, X180, e180, E180, EA180, D180, -, st180⟩ := newO X169 hx hZ hown (hw _ (List.mem_of_getElem? (i := 27) rfl)) (hw _ (List.mem_of_getElem? (i := 28) rfl)) (hw _ (List.mem_of_getElem? (i := 29) rfl)) rfl (g := (mkF m 94 #[.val (.int p0), .val (.int p1), .val (.int p2), .val (.int p3), .val (.int p4), .val (.int (p3 &&& (7 : Int32))), .val (.double (FP.i2d p0)), .second, .val (.double (FP.i2d p0)), .second, .val (.int (1 : Int32)), .val (.ref r170), .unset] [])) rfl (hb hby at_94) (by decide) (by decide)
    obtain ⟨a181, ea181⟩ : ∃ z, z = T169.heap.size := ⟨_, rfl⟩
    rw [← ea181] at EA180 D180 st180
    have g182 : n0 ≤ a181 := by rw [ea181]; exact Z175
    have gh183 : h0.size ≤ a181 := by rw [ea181]; exact K176.1
    have K184 : Keep h0 h180 [] := K176.ext E180
    have Z185 : n0 ≤ h180.size := Nat.le_trans Z175 E180.1
    have F186 : Fld Z h180 a181 "com/example/slackline/slackline/lp/LinearProgram$Variable" "name" "Ljava/lang/String;" .null := D180 (Or.inr (hw _ (List.mem_of_getElem? (i := 40) rfl))) (ty := (.object "java/lang/String")) (by decide)
    have F187 : Fld Z h180 a181 "com/example/slackline/slackline/lp/LinearProgram$Variable" "lower" "D" (.double (0 : UInt64)) := D180 (Or.inr (hw _ (List.mem_of_getElem? (i := 42) rfl))) (ty := .double) (by decide)
    have F188 : Fld Z h180 a181 "com/example/slackline/slackline/lp/LinearProgram$Variable" "upper" "D" (.double (0 : UInt64)) := D180 (Or.inr (hw _ (List.mem_of_getElem? (i := 44) rfl))) (ty := .double) (by decide)
    have F189 : Fld Z h180 a181 "com/example/slackline/slackline/lp/LinearProgram$Variable" "cost" "D" (.double (0 : UInt64)) := D180 (Or.inr (hw _ (List.mem_of_getElem? (i := 46) rfl))) (ty := .double) (by decide)
    have F190 : Fld Z h180 a181 "com/example/slackline/slackline/lp/LinearProgram$Variable" "integer" "Z" (.int (0 : Int32)) := D180 (Or.inr (hw _ (List.mem_of_getElem? (i := 48) rfl))) (ty := .boolean) (by decide)
    refine Go.of (g' := (mkF m 97 #[.val (.int p0), .val (.int p1), .val (.int p2), .val (.int p3), .val (.int p4), .val (.int (p3 &&& (7 : Int32))), .val (.double (FP.i2d p0)), .second, .val (.double (FP.i2d p0)), .second, .val (.int (1 : Int32)), .val (.ref r170), .unset] [(.ref a181)])) st180 ?_
    have A191 := (⟨X180, hx, hby⟩ : Ax _ _ _ _ _ _ _ _ _ _ _ _ _ _ _)
    refine g_dup A191 at_97 rfl (pc' := 98) rfl ?_
    refine g_aload A191 at_98 rfl rfl (pc' := 100) rfl ?_
    refine g_dload A191 at_100 rfl (pc' := 102) rfl ?_
    refine g_dload A191 at_102 rfl (pc' := 104) rfl ?_
    refine g_iloadN A191 at_104 rfl (pc' := 105) rfl ?_
    refine g_i2d A191 at_105 (pc' := 106) rfl ?_
    refine g_iloadN A191 at_106 rfl (pc' := 107) rfl ?_
    refine g_bipush A191 at_107 (v := (8 : Int32)) rfl (pc' := 109) rfl ?_
    refine g_iand A191 at_109 (pc' := 110) rfl ?_
    obtain ⟨v192, hv192⟩ : ∃ z : Int32, z = if ¬ ((p3 &&& (8 : Int32)) = 0) then (1 : Int32) else 0 := ⟨_, rfl⟩
    have sg193 : ∀ {P : State → Outcome → Prop}, Go p e below P T180 (mkF m 118 #[.val (.int p0), .val (.int p1), .val (.int p2), .val (.int p3), .val (.int p4), .val (.int (p3 &&& (7 : Int32))), .val (.double (FP.i2d p0)), .second, .val (.double (FP.i2d p0)), .second, .val (.int (1 : Int32)), .val (.ref r170), .unset] [(.int v192), (.double (FP.i2d p2)), (.double (FP.i2d p0)), (.double (FP.i2d p0)), (.ref r170), (.ref a181), (.ref a181)]) → Go p e below P T180 (mkF m 110 #[.val (.int p0), .val (.int p1), .val (.int p2), .val (.int p3), .val (.int p4), .val (.int (p3 &&& (7 : Int32))), .val (.double (FP.i2d p0)), .second, .val (.double (FP.i2d p0)), .second, .val (.int (1 : Int32)), .val (.ref r170), .unset] [(.int (p3 &&& (8 : Int32))), (.double (FP.i2d p2)), (.double (FP.i2d p0)), (.double (FP.i2d p0)), (.ref r170), (.ref a181), (.ref a181)]) := by
      intro P hr
      by_cases c194 : (p3 &&& (8 : Int32)) = 0
      · skip
        refine g_ifY A191 at_110 (c0_eq_t c194) (pc' := 117) rfl ?_
        refine g_iconst A191 at_117 (v := (0 : Int32)) rfl (pc' := 118) rfl ?_
        obtain rfl : v192 = (0 : Int32) := hv192.trans (if_neg (fun q => q c194))
        exact hr
      · skip
        refine g_ifN A191 at_110 (c0_eq_f c194) (pc' := 113) rfl ?_
        refine g_iconst A191 at_113 (v := (1 : Int32)) rfl (pc' := 114) rfl ?_
        refine g_goto A191 at_114 (pc' := 118) rfl ?_
        obtain rfl : v192 = (1 : Int32) := hv192.trans (if_pos c194)
        exact hr
    refine sg193 ?_
    have hp195 : narrow .boolean (.int v192) = .int v192 := (own_b01 hv192)
    obtain ⟨vv196, _, ⟨T196, L196, k196, n196⟩, -, X196, ⟨L196c, hQ196, l196, y196, z196⟩, st196⟩ := X180.specialBack hx (y := (⟨"com/example/slackline/slackline/lp/LinearProgram$Variable", "<init>", "(Ljava/lang/String;DDDZ)V"⟩ : MethodName)) rfl hown (mvT hZ (hw _ (List.mem_of_getElem? (i := 30) rfl))) (mvT hZ (hw _ (List.mem_of_getElem? (i := 31) rfl))) (mvT hZ (hw _ (List.mem_of_getElem? (i := 32) rfl))) (by decide) (backOf (W := 1) (rm6 l Z a0 hw [] a181 r170 (FP.i2d p0) (FP.i2d p0) (FP.i2d p2) v192 .null (.double (0 : UInt64)) (.double (0 : UInt64)) (.double (0 : UInt64)) (.int (0 : Int32)) h180 n0 Z185 EA180 F186 F187 F188 F189 F190 g182 hp195) hZ (hw _ (List.mem_of_getElem? (i := 32) rfl)) (hw _ (List.mem_of_getElem? (i := 29) rfl)) (by decide) (by decide)) (g := (mkF m 118 #[.val (.int p0), .val (.int p1), .val (.int p2), .val (.int p3), .val (.int p4), .val (.int (p3 &&& (7 : Int32))), .val (.double (FP.i2d p0)), .second, .val (.double (FP.i2d p0)), .second, .val (.int (1 : Int32)), .val (.ref r170), .unset] [(.int v192), (.double (FP.i2d p2)), (.double (FP.i2d p0)), (.double (FP.i2d p0)), (.ref r170), (.ref a181), (.ref a181)])) rfl (by rw [hml]; rfl) (Steps.refl _) (a := a181) (argsL := [(.ref r170), (.double (FP.i2d p0)), (.double (FP.i2d p0)), (.double (FP.i2d p2)), (.int v192)]) (rest := [(.ref a181)]) (lenOf pd_5 rfl) rfl (by show 2 * 0 + _ ≤ _; exact Nat.le_of_eq rfl) (hb hby at_118) (fun _ _ => ⟨rfl, e180, (by decide : 3 + 0 ≤ _), (by decide : 10 + 0 ≤ _)⟩)
    have hQ196b : Q6 Z a181 r170 (FP.i2d p0) (FP.i2d p0) (FP.i2d p2) v192 .null (.double (0 : UInt64)) (.double (0 : UInt64)) (.double (0 : UInt64)) (.int (0 : Int32)) h180 n0 vv196 T196.heap L196c := hQ196
    clear hQ196
    dsimp only [Pt.U, Pt.locs, Pt.cells, Pt.slots] at X196 l196 y196 z196 st196
    subst y196 z196
    obtain ⟨rfl, Nq197, Kq198, F199, F200, F201, F202, F203⟩ := hQ196b
    have N204 : Fr n0 L196 := by rw [l196]; exact Fr.app N174 Nq197
    refine Go.tr (g' := (mkF m 121 #[.val (.int p0), .val (.int p1), .val (.int p2), .val (.int p3), .val (.int p4), .val (.int (p3 &&& (7 : Int32))), .val (.double (FP.i2d p0)), .second, .val (.double (FP.i2d p0)), .second, .val (.int (1 : Int32)), .val (.ref r170), .unset] [(.ref a181)])) st196 ?_
    have E205 : Exa Z T196.heap a181 "com/example/slackline/slackline/lp/LinearProgram$Variable" := Exa.keep EA180 Kq198
    have Z206 : n0 ≤ T196.heap.size := Nat.le_trans Z185 Kq198.1
    have K207 : Keep h0 T196.heap [] := K184.trans Kq198 (allS (Or.inr gh183) all0)
    have A208 := (⟨X196, hx, hby⟩ : Ax _ _ _ _ _ _ _ _ _ _ _ _ _ _ _)
    refine g_astore A208 at_121 rfl (ls' := #[.val (.int p0), .val (.int p1), .val (.int p2), .val (.int p3), .val (.int p4), .val (.int (p3 &&& (7 : Int32))), .val (.double (FP.i2d p0)), .second, .val (.double (FP.i2d p0)), .second, .val (.int (1 : Int32)), .val (.ref r170), .val (.ref a181)]) rfl (pc' := 123) rfl ?_
    refine g_aload A208 at_123 rfl rfl (pc' := 125) rfl ?_
    obtain ⟨cq210, kq210, q210a, q210b, q210c⟩ := isOf hZ rfl E205
    obtain ⟨vv209, _, ⟨T209, L209, k209, n209⟩, -, X209, ⟨L209c, hQ209, l209, y209, z209⟩, st209⟩ := X196.virtualBack hx (y := (⟨"com/example/slackline/slackline/lp/LinearProgram$Variable", "fixed", "()Z"⟩ : MethodName)) (z := (⟨"com/example/slackline/slackline/lp/LinearProgram$Variable", "fixed", "()Z"⟩ : MethodName)) hown (mvT hZ (hw _ (List.mem_of_getElem? (i := 49) rfl))) (mvT hZ (hw _ (List.mem_of_getElem? (i := 50) rfl))) (notFace_of_selects (args := #[]) (mvT hZ (hw _ (List.mem_of_getElem? (i := 52) rfl)))) (mvT hZ (hw _ (List.mem_of_getElem? (i := 52) rfl))) (mvT hZ (hw _ (List.mem_of_getElem? (i := 51) rfl))) (by decide) (backOf (W := 0) (rm8 l Z a0 hw [] a181 (FP.i2d p0) (FP.i2d p0) T196.heap n0 Z206 E205 F200 F201) hZ (hw _ (List.mem_of_getElem? (i := 53) rfl)) (hw _ (List.mem_of_getElem? (i := 29) rfl)) (by decide) (by decide)) q210a q210c (g := (mkF m 125 #[.val (.int p0), .val (.int p1), .val (.int p2), .val (.int p3), .val (.int p4), .val (.int (p3 &&& (7 : Int32))), .val (.double (FP.i2d p0)), .second, .val (.double (FP.i2d p0)), .second, .val (.int (1 : Int32)), .val (.ref r170), .val (.ref a181)] [(.ref a181)])) rfl (by rw [hml]; rfl) (Steps.refl _) (argsL := []) (rest := []) (lenOf pd_6 rfl) rfl (by show 2 * 0 + _ ≤ _; exact Nat.le_of_eq rfl) (hb hby at_125) (fun _ _ => ⟨rfl, rfl, (by decide : 3 + 0 ≤ _), (by decide : 10 + 0 ≤ _)⟩)
    have hQ209b : Q8 Z a181 (FP.i2d p0) (FP.i2d p0) T196.heap n0 vv209 T209.heap L209c := hQ209
    clear hQ209
    dsimp only [Pt.U, Pt.locs, Pt.cells, Pt.slots] at X209 l209 y209 z209 st209
    subst y209 z209
    obtain ⟨rfl, Nq211, Kq212⟩ := hQ209b
    have N213 : Fr n0 L209 := by rw [l209]; exact Fr.app N204 Nq211
    refine Go.tr (g' := (mkF m 128 #[.val (.int p0), .val (.int p1), .val (.int p2), .val (.int p3), .val (.int p4), .val (.int (p3 &&& (7 : Int32))), .val (.double (FP.i2d p0)), .second, .val (.double (FP.i2d p0)), .second, .val (.int (1 : Int32)), .val (.ref r170), .val (.ref a181)] [(.int (own_r_rm8 (FP.i2d p0) (FP.i2d p0)))])) st209 ?_
    have e214 : T209.heap = T196.heap := Kq212
    have A215 := (⟨X209, hx, hby⟩ : Ax _ _ _ _ _ _ _ _ _ _ _ _ _ _ _)
    refine g_iload A215 at_128 rfl (pc' := 130) rfl ?_
    refine g_icN A215 at_130 (c2_ne_f (show (own_r_rm8 (FP.i2d p0) (FP.i2d p0)) = (1 : Int32) from if_pos (own_self (i2d_fin p0)))) (pc' := 133) rfl ?_
    refine g_iconst A215 at_133 (v := (1 : Int32)) rfl (pc' := 134) rfl ?_
    refine g_goto A215 at_134 (pc' := 138) rfl ?_
    exact g_ret (Q := Q0 Z p0 p1 p2 p3 p4 cs h0 n0) A215 at_138 Bd.notSynchronized Bd.returns rfl (Or.inl ⟨rfl, by simp, _, rfl⟩) (by decide) (by decide) (by rw [e214]; exact ⟨rfl, N213⟩)
  · skip
    refine g_ifY A0 at_12 (c0_ne_t hc167) (pc' := 25) rfl ?_
    refine g_iload A0 at_25 rfl (pc' := 27) rfl ?_
    refine g_iconst A0 at_27 (v := (1 : Int32)) rfl (pc' := 28) rfl ?_
    by_cases hc216 : (p3 &&& (7 : Int32)) = (1 : Int32)
    · skip
      refine g_icN A0 at_28 (c2_ne_f hc216) (pc' := 31) rfl ?_
      refine g_ldcD A0 hZ hown (hw _ (List.mem_of_getElem? (i := 0) rfl)) at_31 (pc' := 34) rfl ?_
      refine g_dstore A0 at_34 (ls' := #[.val (.int p0), .val (.int p1), .val (.int p2), .val (.int p3), .val (.int p4), .val (.int (p3 &&& (7 : Int32))), .val (.double (FP.i2d p0)), .second, .val (.double (9218868437227405312 : UInt64)), .second, .unset, .unset, .unset]) rfl (pc' := 36) rfl ?_
      refine g_iconst A0 at_36 (v := (0 : Int32)) rfl (pc' := 37) rfl ?_
      refine g_istore A0 at_37 (ls' := #[.val (.int p0), .val (.int p1), .val (.int p2), .val (.int p3), .val (.int p4), .val (.int (p3 &&& (7 : Int32))), .val (.double (FP.i2d p0)), .second, .val (.double (9218868437227405312 : UInt64)), .second, .val (.int (0 : Int32)), .unset, .unset]) rfl (pc' := 39) rfl ?_
      refine g_goto A0 at_39 (pc' := 82) rfl ?_
      refine g_iload A0 at_82 rfl (pc' := 84) rfl ?_
      refine g_sipush A0 at_84 (v := (255 : Int32)) rfl (pc' := 87) rfl ?_
      refine g_iand A0 at_87 (pc' := 88) rfl ?_
      refine g_i2c A0 at_88 (pc' := 89) rfl ?_
      have hp217 : ¬ (255 : Int32) < ((p4 &&& (255 : Int32)).toUInt32.toUInt16.toUInt32.toInt32) := (own_ch p4)
      obtain ⟨vv218, _, ⟨T218, L218, k218, n218⟩, -, X218, ⟨L218c, hQ218, l218, y218, z218⟩, st218⟩ := Jvm.LawKit.callS X0 hx (y := (⟨"java/lang/String", "valueOf", "(C)Ljava/lang/String;"⟩ : MethodName)) hown (mvT hZ (hw _ (List.mem_of_getElem? (i := 1) rfl))) (mvT hZ (hw _ (List.mem_of_getElem? (i := 2) rfl))) (mvT hZ (hw _ (List.mem_of_getElem? (i := 3) rfl))) (mvT hZ (hw _ (List.mem_of_getElem? (i := 4) rfl))) (by decide) (backOf (W := 0) (rm1 l Z a0 hw [] ((p4 &&& (255 : Int32)).toUInt32.toUInt16.toUInt32.toInt32) cs h0 n0 Z0 S166 hp217 hcs) hZ (hw _ (List.mem_of_getElem? (i := 4) rfl)) (hw _ (List.mem_of_getElem? (i := 3) rfl)) (by decide) (by decide)) (g := (mkF m 89 #[.val (.int p0), .val (.int p1), .val (.int p2), .val (.int p3), .val (.int p4), .val (.int (p3 &&& (7 : Int32))), .val (.double (FP.i2d p0)), .second, .val (.double (9218868437227405312 : UInt64)), .second, .val (.int (0 : Int32)), .unset, .unset] [(.int ((p4 &&& (255 : Int32)).toUInt32.toUInt16.toUInt32.toInt32))])) rfl (by rw [hml]; rfl) (argsL := [(.int ((p4 &&& (255 : Int32)).toUInt32.toUInt16.toUInt32.toInt32))]) (rest := []) (lenOf pd_4 rfl) rfl (by show 2 * 0 + _ ≤ _; exact Nat.le_of_eq rfl) (hb hby at_89) (fun _ _ => ⟨rfl, e0, (by decide : 0 + 2 ≤ _), (by decide : 0 + 5 ≤ _)⟩)
      have hQ218b : Q1 Z ((p4 &&& (255 : Int32)).toUInt32.toUInt16.toUInt32.toInt32) cs h0 n0 vv218 T218.heap L218c := hQ218
      clear hQ218
      dsimp only [Pt.U, Pt.locs, Pt.cells, Pt.slots] at X218 l218 y218 z218 st218
      subst y218 z218
      obtain ⟨r219, rfl, Nq220, Kq221, gx222⟩ := hQ218b
      have N223 : Fr n0 L218 := by rw [l218]; exact Fr.app N0 Nq220
      refine Go.of (g' := (mkF m 92 #[.val (.int p0), .val (.int p1), .val (.int p2), .val (.int p3), .val (.int p4), .val (.int (p3 &&& (7 : Int32))), .val (.double (FP.i2d p0)), .second, .val (.double (9218868437227405312 : UInt64)), .second, .val (.int (0 : Int32)), .unset, .unset] [(.ref r219)])) st218 ?_
      have Z224 : n0 ≤ T218.heap.size := Nat.le_trans Z0 Kq221.1
      have K225 : Keep h0 T218.heap [] := (Keep.refl h0 []).trans Kq221 all0
      have A226 := (⟨X218, hx, hby⟩ : Ax _ _ _ _ _ _ _ _ _ _ _ _ _ _ _)
      have g227 : n0 ≤ r219 := Nat.le_trans Z0 gx222
      have gh228 : h0.size ≤ r219 := Nat.le_trans (Keep.refl h0 []).1 gx222
      refine g_astore A226 at_92 rfl (ls' := #[.val (.int p0), .val (.int p1), .val (.int p2), .val (.int p3), .val (.int p4), .val (.int (p3 &&& (7 : Int32))), .val (.double (FP.i2d p0)), .second, .val (.double (9218868437227405312 : UInt64)), .second, .val (.int (0 : Int32)), .val (.ref r219), .unset]) rfl (pc' := 94) rfl ?_
      obtain ⟨T229, h229, X229, e229, E229, EA229, D229, -, st229⟩ := newO X218 hx hZ hown (hw _ (List.mem_of_getElem? (i := 27) rfl)) (hw _ (List.mem_of_getElem? (i := 28) rfl)) (hw _ (List.mem_of_getElem? (i := 29) rfl)) rfl (g := (mkF m 94 #[.val (.int p0), .val (.int p1), .val (.int p2), .val (.int p3), .val (.int p4), .val (.int (p3 &&& (7 : Int32))), .val (.double (FP.i2d p0)), .second, .val (.double (9218868437227405312 : UInt64)), .second, .val (.int (0 : Int32)), .val (.ref r219), .unset] [])) rfl (hb hby at_94) (by decide) (by decide)
      obtain ⟨a230, ea230⟩ : ∃ z, z = T218.heap.size := ⟨_, rfl⟩
      rw [← ea230] at EA229 D229 st229
      have g231 : n0 ≤ a230 := by rw [ea230]; exact Z224
      have gh232 : h0.size ≤ a230 := by rw [ea230]; exact K225.1
      have K233 : Keep h0 h229 [] := K225.ext E229
      have Z234 : n0 ≤ h229.size := Nat.le_trans Z224 E229.1
      have F235 : Fld Z h229 a230 "com/example/slackline/slackline/lp/LinearProgram$Variable" "name" "Ljava/lang/String;" .null := D229 (Or.inr (hw _ (List.mem_of_getElem? (i := 40) rfl))) (ty := (.object "java/lang/String")) (by decide)
      have F236 : Fld Z h229 a230 "com/example/slackline/slackline/lp/LinearProgram$Variable" "lower" "D" (.double (0 : UInt64)) := D229 (Or.inr (hw _ (List.mem_of_getElem? (i := 42) rfl))) (ty := .double) (by decide)
      have F237 : Fld Z h229 a230 "com/example/slackline/slackline/lp/LinearProgram$Variable" "upper" "D" (.double (0 : UInt64)) := D229 (Or.inr (hw _ (List.mem_of_getElem? (i := 44) rfl))) (ty := .double) (by decide)
      have F238 : Fld Z h229 a230 "com/example/slackline/slackline/lp/LinearProgram$Variable" "cost" "D" (.double (0 : UInt64)) := D229 (Or.inr (hw _ (List.mem_of_getElem? (i := 46) rfl))) (ty := .double) (by decide)
      have F239 : Fld Z h229 a230 "com/example/slackline/slackline/lp/LinearProgram$Variable" "integer" "Z" (.int (0 : Int32)) := D229 (Or.inr (hw _ (List.mem_of_getElem? (i := 48) rfl))) (ty := .boolean) (by decide)
      refine Go.of (g' := (mkF m 97 #[.val (.int p0), .val (.int p1), .val (.int p2), .val (.int p3), .val (.int p4), .val (.int (p3 &&& (7 : Int32))), .val (.double (FP.i2d p0)), .second, .val (.double (9218868437227405312 : UInt64)), .second, .val (.int (0 : Int32)), .val (.ref r219), .unset] [(.ref a230)])) st229 ?_
      have A240 := (⟨X229, hx, hby⟩ : Ax _ _ _ _ _ _ _ _ _ _ _ _ _ _ _)
      refine g_dup A240 at_97 rfl (pc' := 98) rfl ?_
      refine g_aload A240 at_98 rfl rfl (pc' := 100) rfl ?_
      refine g_dload A240 at_100 rfl (pc' := 102) rfl ?_
      refine g_dload A240 at_102 rfl (pc' := 104) rfl ?_
      refine g_iloadN A240 at_104 rfl (pc' := 105) rfl ?_
      refine g_i2d A240 at_105 (pc' := 106) rfl ?_
      refine g_iloadN A240 at_106 rfl (pc' := 107) rfl ?_
      refine g_bipush A240 at_107 (v := (8 : Int32)) rfl (pc' := 109) rfl ?_
      refine g_iand A240 at_109 (pc' := 110) rfl ?_
      obtain ⟨v241, hv241⟩ : ∃ z : Int32, z = if ¬ ((p3 &&& (8 : Int32)) = 0) then (1 : Int32) else 0 := ⟨_, rfl⟩
      have sg242 : ∀ {P : State → Outcome → Prop}, Go p e below P T229 (mkF m 118 #[.val (.int p0), .val (.int p1), .val (.int p2), .val (.int p3), .val (.int p4), .val (.int (p3 &&& (7 : Int32))), .val (.double (FP.i2d p0)), .second, .val (.double (9218868437227405312 : UInt64)), .second, .val (.int (0 : Int32)), .val (.ref r219), .unset] [(.int v241), (.double (FP.i2d p2)), (.double (9218868437227405312 : UInt64)), (.double (FP.i2d p0)), (.ref r219), (.ref a230), (.ref a230)]) → Go p e below P T229 (mkF m 110 #[.val (.int p0), .val (.int p1), .val (.int p2), .val (.int p3), .val (.int p4), .val (.int (p3 &&& (7 : Int32))), .val (.double (FP.i2d p0)), .second, .val (.double (9218868437227405312 : UInt64)), .second, .val (.int (0 : Int32)), .val (.ref r219), .unset] [(.int (p3 &&& (8 : Int32))), (.double (FP.i2d p2)), (.double (9218868437227405312 : UInt64)), (.double (FP.i2d p0)), (.ref r219), (.ref a230), (.ref a230)]) := by
        intro P hr
        by_cases c243 : (p3 &&& (8 : Int32)) = 0
        · skip
          refine g_ifY A240 at_110 (c0_eq_t c243) (pc' := 117) rfl ?_
          refine g_iconst A240 at_117 (v := (0 : Int32)) rfl (pc' := 118) rfl ?_
          obtain rfl : v241 = (0 : Int32) := hv241.trans (if_neg (fun q => q c243))
          exact hr
        · skip
          refine g_ifN A240 at_110 (c0_eq_f c243) (pc' := 113) rfl ?_
          refine g_iconst A240 at_113 (v := (1 : Int32)) rfl (pc' := 114) rfl ?_
          refine g_goto A240 at_114 (pc' := 118) rfl ?_
          obtain rfl : v241 = (1 : Int32) := hv241.trans (if_pos c243)
          exact hr
      refine sg242 ?_
      have hp244 : narrow .boolean (.int v241) = .int v241 := (own_b01 hv241)
      obtain ⟨vv245, _, ⟨T245, L245, k245, n245⟩, -, X245, ⟨L245c, hQ245, l245, y245, z245⟩, st245⟩ := X229.specialBack hx (y := (⟨"com/example/slackline/slackline/lp/LinearProgram$Variable", "<init>", "(Ljava/lang/String;DDDZ)V"⟩ : MethodName)) rfl hown (mvT hZ (hw _ (List.mem_of_getElem? (i := 30) rfl))) (mvT hZ (hw _ (List.mem_of_getElem? (i := 31) rfl))) (mvT hZ (hw _ (List.mem_of_getElem? (i := 32) rfl))) (by decide) (backOf (W := 1) (rm6 l Z a0 hw [] a230 r219 (FP.i2d p0) (9218868437227405312 : UInt64) (FP.i2d p2) v241 .null (.double (0 : UInt64)) (.double (0 : UInt64)) (.double (0 : UInt64)) (.int (0 : Int32)) h229 n0 Z234 EA229 F235 F236 F237 F238 F239 g231 hp244) hZ (hw _ (List.mem_of_getElem? (i := 32) rfl)) (hw _ (List.mem_of_getElem? (i := 29) rfl)) (by decide) (by decide)) (g := (mkF m 118 #[.val (.int p0), .val (.int p1), .val (.int p2), .val (.int p3), .val (.int p4), .val (.int (p3 &&& (7 : Int32))), .val (.double (FP.i2d p0)), .second, .val (.double (9218868437227405312 : UInt64)), .second, .val (.int (0 : Int32)), .val (.ref r219), .unset] [(.int v241), (.double (FP.i2d p2)), (.double (9218868437227405312 : UInt64)), (.double (FP.i2d p0)), (.ref r219), (.ref a230), (.ref a230)])) rfl (by rw [hml]; rfl) (Steps.refl _) (a := a230) (argsL := [(.ref r219), (.double (FP.i2d p0)), (.double (9218868437227405312 : UInt64)), (.double (FP.i2d p2)), (.int v241)]) (rest := [(.ref a230)]) (lenOf pd_5 rfl) rfl (by show 2 * 0 + _ ≤ _; exact Nat.le_of_eq rfl) (hb hby at_118) (fun _ _ => ⟨rfl, e229, (by decide : 3 + 0 ≤ _), (by decide : 10 + 0 ≤ _)⟩)
      have hQ245b : Q6 Z a230 r219 (FP.i2d p0) (9218868437227405312 : UInt64) (FP.i2d p2) v241 .null (.double (0 : UInt64)) (.double (0 : UInt64)) (.double (0 : UInt64)) (.int (0 : Int32)) h229 n0 vv245 T245.heap L245c := hQ245
      clear hQ245
      dsimp only [Pt.U, Pt.locs, Pt.cells, Pt.slots] at X245 l245 y245 z245 st245
      subst y245 z245
      obtain ⟨rfl, Nq246, Kq247, F248, F249, F250, F251, F252⟩ := hQ245b
      have N253 : Fr n0 L245 := by rw [l245]; exact Fr.app N223 Nq246
      refine Go.tr (g' := (mkF m 121 #[.val (.int p0), .val (.int p1), .val (.int p2), .val (.int p3), .val (.int p4), .val (.int (p3 &&& (7 : Int32))), .val (.double (FP.i2d p0)), .second, .val (.double (9218868437227405312 : UInt64)), .second, .val (.int (0 : Int32)), .val (.ref r219), .unset] [(.ref a230)])) st245 ?_
      have E254 : Exa Z T245.heap a230 "com/example/slackline/slackline/lp/LinearProgram$Variable" := Exa.keep EA229 Kq247
      have Z255 : n0 ≤ T245.heap.size := Nat.le_trans Z234 Kq247.1
      have K256 : Keep h0 T245.heap [] := K233.trans Kq247 (allS (Or.inr gh232) all0)
      have A257 := (⟨X245, hx, hby⟩ : Ax _ _ _ _ _ _ _ _ _ _ _ _ _ _ _)
      refine g_astore A257 at_121 rfl (ls' := #[.val (.int p0), .val (.int p1), .val (.int p2), .val (.int p3), .val (.int p4), .val (.int (p3 &&& (7 : Int32))), .val (.double (FP.i2d p0)), .second, .val (.double (9218868437227405312 : UInt64)), .second, .val (.int (0 : Int32)), .val (.ref r219), .val (.ref a230)]) rfl (pc' := 123) rfl ?_
      refine g_aload A257 at_123 rfl rfl (pc' := 125) rfl ?_
      obtain ⟨cq259, kq259, q259a, q259b, q259c⟩ := isOf hZ rfl E254
      obtain ⟨vv258, _, ⟨T258, L258, k258, n258⟩, -, X258, ⟨L258c, hQ258, l258, y258, z258⟩, st258⟩ := X245.virtualBack hx (y := (⟨"com/example/slackline/slackline/lp/LinearProgram$Variable", "fixed", "()Z"⟩ : MethodName)) (z := (⟨"com/example/slackline/slackline/lp/LinearProgram$Variable", "fixed", "()Z"⟩ : MethodName)) hown (mvT hZ (hw _ (List.mem_of_getElem? (i := 49) rfl))) (mvT hZ (hw _ (List.mem_of_getElem? (i := 50) rfl))) (notFace_of_selects (args := #[]) (mvT hZ (hw _ (List.mem_of_getElem? (i := 52) rfl)))) (mvT hZ (hw _ (List.mem_of_getElem? (i := 52) rfl))) (mvT hZ (hw _ (List.mem_of_getElem? (i := 51) rfl))) (by decide) (backOf (W := 0) (rm8 l Z a0 hw [] a230 (FP.i2d p0) (9218868437227405312 : UInt64) T245.heap n0 Z255 E254 F249 F250) hZ (hw _ (List.mem_of_getElem? (i := 53) rfl)) (hw _ (List.mem_of_getElem? (i := 29) rfl)) (by decide) (by decide)) q259a q259c (g := (mkF m 125 #[.val (.int p0), .val (.int p1), .val (.int p2), .val (.int p3), .val (.int p4), .val (.int (p3 &&& (7 : Int32))), .val (.double (FP.i2d p0)), .second, .val (.double (9218868437227405312 : UInt64)), .second, .val (.int (0 : Int32)), .val (.ref r219), .val (.ref a230)] [(.ref a230)])) rfl (by rw [hml]; rfl) (Steps.refl _) (argsL := []) (rest := []) (lenOf pd_6 rfl) rfl (by show 2 * 0 + _ ≤ _; exact Nat.le_of_eq rfl) (hb hby at_125) (fun _ _ => ⟨rfl, rfl, (by decide : 3 + 0 ≤ _), (by decide : 10 + 0 ≤ _)⟩)
      have hQ258b : Q8 Z a230 (FP.i2d p0) (9218868437227405312 : UInt64) T245.heap n0 vv258 T258.heap L258c := hQ258
      clear hQ258
      dsimp only [Pt.U, Pt.locs, Pt.cells, Pt.slots] at X258 l258 y258 z258 st258
      subst y258 z258
      obtain ⟨rfl, Nq260, Kq261⟩ := hQ258b
      have N262 : Fr n0 L258 := by rw [l258]; exact Fr.app N253 Nq260
      refine Go.tr (g' := (mkF m 128 #[.val (.int p0), .val (.int p1), .val (.int p2), .val (.int p3), .val (.int p4), .val (.int (p3 &&& (7 : Int32))), .val (.double (FP.i2d p0)), .second, .val (.double (9218868437227405312 : UInt64)), .second, .val (.int (0 : Int32)), .val (.ref r219), .val (.ref a230)] [(.int (own_r_rm8 (FP.i2d p0) (9218868437227405312 : UInt64)))])) st258 ?_
      have e263 : T258.heap = T245.heap := Kq261
      have A264 := (⟨X258, hx, hby⟩ : Ax _ _ _ _ _ _ _ _ _ _ _ _ _ _ _)
      refine g_iload A264 at_128 rfl (pc' := 130) rfl ?_
      refine g_icN A264 at_130 (c2_ne_f (show (own_r_rm8 (FP.i2d p0) (9218868437227405312 : UInt64)) = (0 : Int32) from if_neg (own_inf p0))) (pc' := 133) rfl ?_
      refine g_iconst A264 at_133 (v := (1 : Int32)) rfl (pc' := 134) rfl ?_
      refine g_goto A264 at_134 (pc' := 138) rfl ?_
      exact g_ret (Q := Q0 Z p0 p1 p2 p3 p4 cs h0 n0) A264 at_138 Bd.notSynchronized Bd.returns rfl (Or.inl ⟨rfl, by simp, _, rfl⟩) (by decide) (by decide) (by rw [e263]; exact ⟨rfl, N262⟩)
    · skip
      refine g_icY A0 at_28 (c2_ne_t hc216) (pc' := 42) rfl ?_
      refine g_iload A0 at_42 rfl (pc' := 44) rfl ?_
      refine g_iconst A0 at_44 (v := (2 : Int32)) rfl (pc' := 45) rfl ?_
      by_cases hc265 : (p3 &&& (7 : Int32)) = (2 : Int32)
      · skip
        refine g_icN A0 at_45 (c2_ne_f hc265) (pc' := 48) rfl ?_
        refine g_dconst0 A0 at_48 (pc' := 49) rfl ?_
        refine g_dstore A0 at_49 (ls' := #[.val (.int p0), .val (.int p1), .val (.int p2), .val (.int p3), .val (.int p4), .val (.int (p3 &&& (7 : Int32))), .val (.double (FP.i2d p0)), .second, .unset, .unset, .unset, .val (.double (0 : UInt64)), .second]) rfl (pc' := 51) rfl ?_
        refine g_dload A0 at_51 rfl (pc' := 53) rfl ?_
        refine g_dstore A0 at_53 (ls' := #[.val (.int p0), .val (.int p1), .val (.int p2), .val (.int p3), .val (.int p4), .val (.int (p3 &&& (7 : Int32))), .val (.double (0 : UInt64)), .second, .unset, .unset, .unset, .val (.double (0 : UInt64)), .second]) rfl (pc' := 55) rfl ?_
        refine g_dload A0 at_55 rfl (pc' := 57) rfl ?_
        refine g_dneg A0 at_57 (pc' := 58) rfl ?_
        refine g_dstore A0 at_58 (ls' := #[.val (.int p0), .val (.int p1), .val (.int p2), .val (.int p3), .val (.int p4), .val (.int (p3 &&& (7 : Int32))), .val (.double (0 : UInt64)), .second, .val (.double (FP.dneg (0 : UInt64))), .second, .unset, .val (.double (0 : UInt64)), .second]) rfl (pc' := 60) rfl ?_
        refine g_iconst A0 at_60 (v := (1 : Int32)) rfl (pc' := 61) rfl ?_
        refine g_istore A0 at_61 (ls' := #[.val (.int p0), .val (.int p1), .val (.int p2), .val (.int p3), .val (.int p4), .val (.int (p3 &&& (7 : Int32))), .val (.double (0 : UInt64)), .second, .val (.double (FP.dneg (0 : UInt64))), .second, .val (.int (1 : Int32)), .val (.double (0 : UInt64)), .second]) rfl (pc' := 63) rfl ?_
        refine g_goto A0 at_63 (pc' := 82) rfl ?_
        refine g_iload A0 at_82 rfl (pc' := 84) rfl ?_
        refine g_sipush A0 at_84 (v := (255 : Int32)) rfl (pc' := 87) rfl ?_
        refine g_iand A0 at_87 (pc' := 88) rfl ?_
        refine g_i2c A0 at_88 (pc' := 89) rfl ?_
        have hp266 : ¬ (255 : Int32) < ((p4 &&& (255 : Int32)).toUInt32.toUInt16.toUInt32.toInt32) := (own_ch p4)
        obtain ⟨vv267, _, ⟨T267, L267, k267, n267⟩, -, X267, ⟨L267c, hQ267, l267, y267, z267⟩, st267⟩ := Jvm.LawKit.callS X0 hx (y := (⟨"java/lang/String", "valueOf", "(C)Ljava/lang/String;"⟩ : MethodName)) hown (mvT hZ (hw _ (List.mem_of_getElem? (i := 1) rfl))) (mvT hZ (hw _ (List.mem_of_getElem? (i := 2) rfl))) (mvT hZ (hw _ (List.mem_of_getElem? (i := 3) rfl))) (mvT hZ (hw _ (List.mem_of_getElem? (i := 4) rfl))) (by decide) (backOf (W := 0) (rm1 l Z a0 hw [] ((p4 &&& (255 : Int32)).toUInt32.toUInt16.toUInt32.toInt32) cs h0 n0 Z0 S166 hp266 hcs) hZ (hw _ (List.mem_of_getElem? (i := 4) rfl)) (hw _ (List.mem_of_getElem? (i := 3) rfl)) (by decide) (by decide)) (g := (mkF m 89 #[.val (.int p0), .val (.int p1), .val (.int p2), .val (.int p3), .val (.int p4), .val (.int (p3 &&& (7 : Int32))), .val (.double (0 : UInt64)), .second, .val (.double (FP.dneg (0 : UInt64))), .second, .val (.int (1 : Int32)), .val (.double (0 : UInt64)), .second] [(.int ((p4 &&& (255 : Int32)).toUInt32.toUInt16.toUInt32.toInt32))])) rfl (by rw [hml]; rfl) (argsL := [(.int ((p4 &&& (255 : Int32)).toUInt32.toUInt16.toUInt32.toInt32))]) (rest := []) (lenOf pd_4 rfl) rfl (by show 2 * 0 + _ ≤ _; exact Nat.le_of_eq rfl) (hb hby at_89) (fun _ _ => ⟨rfl, e0, (by decide : 0 + 2 ≤ _), (by decide : 0 + 5 ≤ _)⟩)
        have hQ267b : Q1 Z ((p4 &&& (255 : Int32)).toUInt32.toUInt16.toUInt32.toInt32) cs h0 n0 vv267 T267.heap L267c := hQ267
        clear hQ267
        dsimp only [Pt.U, Pt.locs, Pt.cells, Pt.slots] at X267 l267 y267 z267 st267
        subst y267 z267
        obtain ⟨r268, rfl, Nq269, Kq270, gx271⟩ := hQ267b
        have N272 : Fr n0 L267 := by rw [l267]; exact Fr.app N0 Nq269
        refine Go.of (g' := (mkF m 92 #[.val (.int p0), .val (.int p1), .val (.int p2), .val (.int p3), .val (.int p4), .val (.int (p3 &&& (7 : Int32))), .val (.double (0 : UInt64)), .second, .val (.double (FP.dneg (0 : UInt64))), .second, .val (.int (1 : Int32)), .val (.double (0 : UInt64)), .second] [(.ref r268)])) st267 ?_
        have Z273 : n0 ≤ T267.heap.size := Nat.le_trans Z0 Kq270.1
        have K274 : Keep h0 T267.heap [] := (Keep.refl h0 []).trans Kq270 all0
        have A275 := (⟨X267, hx, hby⟩ : Ax _ _ _ _ _ _ _ _ _ _ _ _ _ _ _)
        have g276 : n0 ≤ r268 := Nat.le_trans Z0 gx271
        have gh277 : h0.size ≤ r268 := Nat.le_trans (Keep.refl h0 []).1 gx271
        refine g_astore A275 at_92 rfl (ls' := #[.val (.int p0), .val (.int p1), .val (.int p2), .val (.int p3), .val (.int p4), .val (.int (p3 &&& (7 : Int32))), .val (.double (0 : UInt64)), .second, .val (.double (FP.dneg (0 : UInt64))), .second, .val (.int (1 : Int32)), .val (.ref r268), .unset]) rfl (pc' := 94) rfl ?_
        obtain ⟨T278, h278, X278, e278, E278, EA278, D278, -, st278⟩ := newO X267 hx hZ hown (hw _ (List.mem_of_getElem? (i := 27) rfl)) (hw _ (List.mem_of_getElem? (i := 28) rfl)) (hw _ (List.mem_of_getElem? (i := 29) rfl)) rfl (g := (mkF m 94 #[.val (.int p0), .val (.int p1), .val (.int p2), .val (.int p3), .val (.int p4), .val (.int (p3 &&& (7 : Int32))), .val (.double (0 : UInt64)), .second, .val (.double (FP.dneg (0 : UInt64))), .second, .val (.int (1 : Int32)), .val (.ref r268), .unset] [])) rfl (hb hby at_94) (by decide) (by decide)
        obtain ⟨a279, ea279⟩ : ∃ z, z = T267.heap.size := ⟨_, rfl⟩
        rw [← ea279] at EA278 D278 st278
        have g280 : n0 ≤ a279 := by rw [ea279]; exact Z273
        have gh281 : h0.size ≤ a279 := by rw [ea279]; exact K274.1
        have K282 : Keep h0 h278 [] := K274.ext E278
        have Z283 : n0 ≤ h278.size := Nat.le_trans Z273 E278.1
        have F284 : Fld Z h278 a279 "com/example/slackline/slackline/lp/LinearProgram$Variable" "name" "Ljava/lang/String;" .null := D278 (Or.inr (hw _ (List.mem_of_getElem? (i := 40) rfl))) (ty := (.object "java/lang/String")) (by decide)
        have F285 : Fld Z h278 a279 "com/example/slackline/slackline/lp/LinearProgram$Variable" "lower" "D" (.double (0 : UInt64)) := D278 (Or.inr (hw _ (List.mem_of_getElem? (i := 42) rfl))) (ty := .double) (by decide)
        have F286 : Fld Z h278 a279 "com/example/slackline/slackline/lp/LinearProgram$Variable" "upper" "D" (.double (0 : UInt64)) := D278 (Or.inr (hw _ (List.mem_of_getElem? (i := 44) rfl))) (ty := .double) (by decide)
        have F287 : Fld Z h278 a279 "com/example/slackline/slackline/lp/LinearProgram$Variable" "cost" "D" (.double (0 : UInt64)) := D278 (Or.inr (hw _ (List.mem_of_getElem? (i := 46) rfl))) (ty := .double) (by decide)
        have F288 : Fld Z h278 a279 "com/example/slackline/slackline/lp/LinearProgram$Variable" "integer" "Z" (.int (0 : Int32)) := D278 (Or.inr (hw _ (List.mem_of_getElem? (i := 48) rfl))) (ty := .boolean) (by decide)
        refine Go.of (g' := (mkF m 97 #[.val (.int p0), .val (.int p1), .val (.int p2), .val (.int p3), .val (.int p4), .val (.int (p3 &&& (7 : Int32))), .val (.double (0 : UInt64)), .second, .val (.double (FP.dneg (0 : UInt64))), .second, .val (.int (1 : Int32)), .val (.ref r268), .unset] [(.ref a279)])) st278 ?_
        have A289 := (⟨X278, hx, hby⟩ : Ax _ _ _ _ _ _ _ _ _ _ _ _ _ _ _)
        refine g_dup A289 at_97 rfl (pc' := 98) rfl ?_
        refine g_aload A289 at_98 rfl rfl (pc' := 100) rfl ?_
        refine g_dload A289 at_100 rfl (pc' := 102) rfl ?_
        refine g_dload A289 at_102 rfl (pc' := 104) rfl ?_
        refine g_iloadN A289 at_104 rfl (pc' := 105) rfl ?_
        refine g_i2d A289 at_105 (pc' := 106) rfl ?_
        refine g_iloadN A289 at_106 rfl (pc' := 107) rfl ?_
        refine g_bipush A289 at_107 (v := (8 : Int32)) rfl (pc' := 109) rfl ?_
        refine g_iand A289 at_109 (pc' := 110) rfl ?_
        obtain ⟨v290, hv290⟩ : ∃ z : Int32, z = if ¬ ((p3 &&& (8 : Int32)) = 0) then (1 : Int32) else 0 := ⟨_, rfl⟩
        have sg291 : ∀ {P : State → Outcome → Prop}, Go p e below P T278 (mkF m 118 #[.val (.int p0), .val (.int p1), .val (.int p2), .val (.int p3), .val (.int p4), .val (.int (p3 &&& (7 : Int32))), .val (.double (0 : UInt64)), .second, .val (.double (FP.dneg (0 : UInt64))), .second, .val (.int (1 : Int32)), .val (.ref r268), .unset] [(.int v290), (.double (FP.i2d p2)), (.double (FP.dneg (0 : UInt64))), (.double (0 : UInt64)), (.ref r268), (.ref a279), (.ref a279)]) → Go p e below P T278 (mkF m 110 #[.val (.int p0), .val (.int p1), .val (.int p2), .val (.int p3), .val (.int p4), .val (.int (p3 &&& (7 : Int32))), .val (.double (0 : UInt64)), .second, .val (.double (FP.dneg (0 : UInt64))), .second, .val (.int (1 : Int32)), .val (.ref r268), .unset] [(.int (p3 &&& (8 : Int32))), (.double (FP.i2d p2)), (.double (FP.dneg (0 : UInt64))), (.double (0 : UInt64)), (.ref r268), (.ref a279), (.ref a279)]) := by
          intro P hr
          by_cases c292 : (p3 &&& (8 : Int32)) = 0
          · skip
            refine g_ifY A289 at_110 (c0_eq_t c292) (pc' := 117) rfl ?_
            refine g_iconst A289 at_117 (v := (0 : Int32)) rfl (pc' := 118) rfl ?_
            obtain rfl : v290 = (0 : Int32) := hv290.trans (if_neg (fun q => q c292))
            exact hr
          · skip
            refine g_ifN A289 at_110 (c0_eq_f c292) (pc' := 113) rfl ?_
            refine g_iconst A289 at_113 (v := (1 : Int32)) rfl (pc' := 114) rfl ?_
            refine g_goto A289 at_114 (pc' := 118) rfl ?_
            obtain rfl : v290 = (1 : Int32) := hv290.trans (if_pos c292)
            exact hr
        refine sg291 ?_
        have hp293 : narrow .boolean (.int v290) = .int v290 := (own_b01 hv290)
        obtain ⟨vv294, _, ⟨T294, L294, k294, n294⟩, -, X294, ⟨L294c, hQ294, l294, y294, z294⟩, st294⟩ := X278.specialBack hx (y := (⟨"com/example/slackline/slackline/lp/LinearProgram$Variable", "<init>", "(Ljava/lang/String;DDDZ)V"⟩ : MethodName)) rfl hown (mvT hZ (hw _ (List.mem_of_getElem? (i := 30) rfl))) (mvT hZ (hw _ (List.mem_of_getElem? (i := 31) rfl))) (mvT hZ (hw _ (List.mem_of_getElem? (i := 32) rfl))) (by decide) (backOf (W := 1) (rm6 l Z a0 hw [] a279 r268 (0 : UInt64) (FP.dneg (0 : UInt64)) (FP.i2d p2) v290 .null (.double (0 : UInt64)) (.double (0 : UInt64)) (.double (0 : UInt64)) (.int (0 : Int32)) h278 n0 Z283 EA278 F284 F285 F286 F287 F288 g280 hp293) hZ (hw _ (List.mem_of_getElem? (i := 32) rfl)) (hw _ (List.mem_of_getElem? (i := 29) rfl)) (by decide) (by decide)) (g := (mkF m 118 #[.val (.int p0), .val (.int p1), .val (.int p2), .val (.int p3), .val (.int p4), .val (.int (p3 &&& (7 : Int32))), .val (.double (0 : UInt64)), .second, .val (.double (FP.dneg (0 : UInt64))), .second, .val (.int (1 : Int32)), .val (.ref r268), .unset] [(.int v290), (.double (FP.i2d p2)), (.double (FP.dneg (0 : UInt64))), (.double (0 : UInt64)), (.ref r268), (.ref a279), (.ref a279)])) rfl (by rw [hml]; rfl) (Steps.refl _) (a := a279) (argsL := [(.ref r268), (.double (0 : UInt64)), (.double (FP.dneg (0 : UInt64))), (.double (FP.i2d p2)), (.int v290)]) (rest := [(.ref a279)]) (lenOf pd_5 rfl) rfl (by show 2 * 0 + _ ≤ _; exact Nat.le_of_eq rfl) (hb hby at_118) (fun _ _ => ⟨rfl, e278, (by decide : 3 + 0 ≤ _), (by decide : 10 + 0 ≤ _)⟩)
        have hQ294b : Q6 Z a279 r268 (0 : UInt64) (FP.dneg (0 : UInt64)) (FP.i2d p2) v290 .null (.double (0 : UInt64)) (.double (0 : UInt64)) (.double (0 : UInt64)) (.int (0 : Int32)) h278 n0 vv294 T294.heap L294c := hQ294
        clear hQ294
        dsimp only [Pt.U, Pt.locs, Pt.cells, Pt.slots] at X294 l294 y294 z294 st294
        subst y294 z294
        obtain ⟨rfl, Nq295, Kq296, F297, F298, F299, F300, F301⟩ := hQ294b
        have N302 : Fr n0 L294 := by rw [l294]; exact Fr.app N272 Nq295
        refine Go.tr (g' := (mkF m 121 #[.val (.int p0), .val (.int p1), .val (.int p2), .val (.int p3), .val (.int p4), .val (.int (p3 &&& (7 : Int32))), .val (.double (0 : UInt64)), .second, .val (.double (FP.dneg (0 : UInt64))), .second, .val (.int (1 : Int32)), .val (.ref r268), .unset] [(.ref a279)])) st294 ?_
        have E303 : Exa Z T294.heap a279 "com/example/slackline/slackline/lp/LinearProgram$Variable" := Exa.keep EA278 Kq296
        have Z304 : n0 ≤ T294.heap.size := Nat.le_trans Z283 Kq296.1
        have K305 : Keep h0 T294.heap [] := K282.trans Kq296 (allS (Or.inr gh281) all0)
        have A306 := (⟨X294, hx, hby⟩ : Ax _ _ _ _ _ _ _ _ _ _ _ _ _ _ _)
        refine g_astore A306 at_121 rfl (ls' := #[.val (.int p0), .val (.int p1), .val (.int p2), .val (.int p3), .val (.int p4), .val (.int (p3 &&& (7 : Int32))), .val (.double (0 : UInt64)), .second, .val (.double (FP.dneg (0 : UInt64))), .second, .val (.int (1 : Int32)), .val (.ref r268), .val (.ref a279)]) rfl (pc' := 123) rfl ?_
        refine g_aload A306 at_123 rfl rfl (pc' := 125) rfl ?_
        obtain ⟨cq308, kq308, q308a, q308b, q308c⟩ := isOf hZ rfl E303
        obtain ⟨vv307, _, ⟨T307, L307, k307, n307⟩, -, X307, ⟨L307c, hQ307, l307, y307, z307⟩, st307⟩ := X294.virtualBack hx (y := (⟨"com/example/slackline/slackline/lp/LinearProgram$Variable", "fixed", "()Z"⟩ : MethodName)) (z := (⟨"com/example/slackline/slackline/lp/LinearProgram$Variable", "fixed", "()Z"⟩ : MethodName)) hown (mvT hZ (hw _ (List.mem_of_getElem? (i := 49) rfl))) (mvT hZ (hw _ (List.mem_of_getElem? (i := 50) rfl))) (notFace_of_selects (args := #[]) (mvT hZ (hw _ (List.mem_of_getElem? (i := 52) rfl)))) (mvT hZ (hw _ (List.mem_of_getElem? (i := 52) rfl))) (mvT hZ (hw _ (List.mem_of_getElem? (i := 51) rfl))) (by decide) (backOf (W := 0) (rm8 l Z a0 hw [] a279 (0 : UInt64) (FP.dneg (0 : UInt64)) T294.heap n0 Z304 E303 F298 F299) hZ (hw _ (List.mem_of_getElem? (i := 53) rfl)) (hw _ (List.mem_of_getElem? (i := 29) rfl)) (by decide) (by decide)) q308a q308c (g := (mkF m 125 #[.val (.int p0), .val (.int p1), .val (.int p2), .val (.int p3), .val (.int p4), .val (.int (p3 &&& (7 : Int32))), .val (.double (0 : UInt64)), .second, .val (.double (FP.dneg (0 : UInt64))), .second, .val (.int (1 : Int32)), .val (.ref r268), .val (.ref a279)] [(.ref a279)])) rfl (by rw [hml]; rfl) (Steps.refl _) (argsL := []) (rest := []) (lenOf pd_6 rfl) rfl (by show 2 * 0 + _ ≤ _; exact Nat.le_of_eq rfl) (hb hby at_125) (fun _ _ => ⟨rfl, rfl, (by decide : 3 + 0 ≤ _), (by decide : 10 + 0 ≤ _)⟩)
        have hQ307b : Q8 Z a279 (0 : UInt64) (FP.dneg (0 : UInt64)) T294.heap n0 vv307 T307.heap L307c := hQ307
        clear hQ307
        dsimp only [Pt.U, Pt.locs, Pt.cells, Pt.slots] at X307 l307 y307 z307 st307
        subst y307 z307
        obtain ⟨rfl, Nq309, Kq310⟩ := hQ307b
        have N311 : Fr n0 L307 := by rw [l307]; exact Fr.app N302 Nq309
        refine Go.tr (g' := (mkF m 128 #[.val (.int p0), .val (.int p1), .val (.int p2), .val (.int p3), .val (.int p4), .val (.int (p3 &&& (7 : Int32))), .val (.double (0 : UInt64)), .second, .val (.double (FP.dneg (0 : UInt64))), .second, .val (.int (1 : Int32)), .val (.ref r268), .val (.ref a279)] [(.int (own_r_rm8 (0 : UInt64) (FP.dneg (0 : UInt64))))])) st307 ?_
        have e312 : T307.heap = T294.heap := Kq310
        have A313 := (⟨X307, hx, hby⟩ : Ax _ _ _ _ _ _ _ _ _ _ _ _ _ _ _)
        refine g_iload A313 at_128 rfl (pc' := 130) rfl ?_
        refine g_icN A313 at_130 (c2_ne_f (show (own_r_rm8 (0 : UInt64) (FP.dneg (0 : UInt64))) = (1 : Int32) from if_pos (by decide +kernel))) (pc' := 133) rfl ?_
        refine g_iconst A313 at_133 (v := (1 : Int32)) rfl (pc' := 134) rfl ?_
        refine g_goto A313 at_134 (pc' := 138) rfl ?_
        exact g_ret (Q := Q0 Z p0 p1 p2 p3 p4 cs h0 n0) A313 at_138 Bd.notSynchronized Bd.returns rfl (Or.inl ⟨rfl, by simp, _, rfl⟩) (by decide) (by decide) (by rw [e312]; exact ⟨rfl, N311⟩)
      · skip
        refine g_icY A0 at_45 (c2_ne_t hc265) (pc' := 66) rfl ?_
        refine g_iloadN A0 at_66 rfl (pc' := 67) rfl ?_
        refine g_i2d A0 at_67 (pc' := 68) rfl ?_
        refine g_dstore A0 at_68 (ls' := #[.val (.int p0), .val (.int p1), .val (.int p2), .val (.int p3), .val (.int p4), .val (.int (p3 &&& (7 : Int32))), .val (.double (FP.i2d p0)), .second, .val (.double (FP.i2d p1)), .second, .unset, .unset, .unset]) rfl (pc' := 70) rfl ?_
        refine g_iloadN A0 at_70 rfl (pc' := 71) rfl ?_
        refine g_iloadN A0 at_71 rfl (pc' := 72) rfl ?_
        by_cases hc314 : p0 = p1
        · skip
          refine g_icN A0 at_72 (c2_ne_f hc314) (pc' := 75) rfl ?_
          refine g_iconst A0 at_75 (v := (1 : Int32)) rfl (pc' := 76) rfl ?_
          refine g_goto A0 at_76 (pc' := 80) rfl ?_
          refine g_istore A0 at_80 (ls' := #[.val (.int p0), .val (.int p1), .val (.int p2), .val (.int p3), .val (.int p4), .val (.int (p3 &&& (7 : Int32))), .val (.double (FP.i2d p0)), .second, .val (.double (FP.i2d p1)), .second, .val (.int (1 : Int32)), .unset, .unset]) rfl (pc' := 82) rfl ?_
          refine g_iload A0 at_82 rfl (pc' := 84) rfl ?_
          refine g_sipush A0 at_84 (v := (255 : Int32)) rfl (pc' := 87) rfl ?_
          refine g_iand A0 at_87 (pc' := 88) rfl ?_
          refine g_i2c A0 at_88 (pc' := 89) rfl ?_
          have hp315 : ¬ (255 : Int32) < ((p4 &&& (255 : Int32)).toUInt32.toUInt16.toUInt32.toInt32) := (own_ch p4)
          obtain ⟨vv316, _, ⟨T316, L316, k316, n316⟩, -, X316, ⟨L316c, hQ316, l316, y316, z316⟩, st316⟩ := Jvm.LawKit.callS X0 hx (y := (⟨"java/lang/String", "valueOf", "(C)Ljava/lang/String;"⟩ : MethodName)) hown (mvT hZ (hw _ (List.mem_of_getElem? (i := 1) rfl))) (mvT hZ (hw _ (List.mem_of_getElem? (i := 2) rfl))) (mvT hZ (hw _ (List.mem_of_getElem? (i := 3) rfl))) (mvT hZ (hw _ (List.mem_of_getElem? (i := 4) rfl))) (by decide) (backOf (W := 0) (rm1 l Z a0 hw [] ((p4 &&& (255 : Int32)).toUInt32.toUInt16.toUInt32.toInt32) cs h0 n0 Z0 S166 hp315 hcs) hZ (hw _ (List.mem_of_getElem? (i := 4) rfl)) (hw _ (List.mem_of_getElem? (i := 3) rfl)) (by decide) (by decide)) (g := (mkF m 89 #[.val (.int p0), .val (.int p1), .val (.int p2), .val (.int p3), .val (.int p4), .val (.int (p3 &&& (7 : Int32))), .val (.double (FP.i2d p0)), .second, .val (.double (FP.i2d p1)), .second, .val (.int (1 : Int32)), .unset, .unset] [(.int ((p4 &&& (255 : Int32)).toUInt32.toUInt16.toUInt32.toInt32))])) rfl (by rw [hml]; rfl) (argsL := [(.int ((p4 &&& (255 : Int32)).toUInt32.toUInt16.toUInt32.toInt32))]) (rest := []) (lenOf pd_4 rfl) rfl (by show 2 * 0 + _ ≤ _; exact Nat.le_of_eq rfl) (hb hby at_89) (fun _ _ => ⟨rfl, e0, (by decide : 0 + 2 ≤ _), (by decide : 0 + 5 ≤ _)⟩)
          have hQ316b : Q1 Z ((p4 &&& (255 : Int32)).toUInt32.toUInt16.toUInt32.toInt32) cs h0 n0 vv316 T316.heap L316c := hQ316
          clear hQ316
          dsimp only [Pt.U, Pt.locs, Pt.cells, Pt.slots] at X316 l316 y316 z316 st316
          subst y316 z316
          obtain ⟨r317, rfl, Nq318, Kq319, gx320⟩ := hQ316b
          have N321 : Fr n0 L316 := by rw [l316]; exact Fr.app N0 Nq318
          refine Go.of (g' := (mkF m 92 #[.val (.int p0), .val (.int p1), .val (.int p2), .val (.int p3), .val (.int p4), .val (.int (p3 &&& (7 : Int32))), .val (.double (FP.i2d p0)), .second, .val (.double (FP.i2d p1)), .second, .val (.int (1 : Int32)), .unset, .unset] [(.ref r317)])) st316 ?_
          have Z322 : n0 ≤ T316.heap.size := Nat.le_trans Z0 Kq319.1
          have K323 : Keep h0 T316.heap [] := (Keep.refl h0 []).trans Kq319 all0
          have A324 := (⟨X316, hx, hby⟩ : Ax _ _ _ _ _ _ _ _ _ _ _ _ _ _ _)
          have g325 : n0 ≤ r317 := Nat.le_trans Z0 gx320
          have gh326 : h0.size ≤ r317 := Nat.le_trans (Keep.refl h0 []).1 gx320
          refine g_astore A324 at_92 rfl (ls' := #[.val (.int p0), .val (.int p1), .val (.int p2), .val (.int p3), .val (.int p4), .val (.int (p3 &&& (7 : Int32))), .val (.double (FP.i2d p0)), .second, .val (.double (FP.i2d p1)), .second, .val (.int (1 : Int32)), .val (.ref r317), .unset]) rfl (pc' := 94) rfl ?_
          obtain ⟨T327, h327, X327, e327, E327, EA327, D327, -, st327⟩ := newO X316 hx hZ hown (hw _ (List.mem_of_getElem? (i := 27) rfl)) (hw _ (List.mem_of_getElem? (i := 28) rfl)) (hw _ (List.mem_of_getElem? (i := 29) rfl)) rfl (g := (mkF m 94 #[.val (.int p0), .val (.int p1), .val (.int p2), .val (.int p3), .val (.int p4), .val (.int (p3 &&& (7 : Int32))), .val (.double (FP.i2d p0)), .second, .val (.double (FP.i2d p1)), .second, .val (.int (1 : Int32)), .val (.ref r317), .unset] [])) rfl (hb hby at_94) (by decide) (by decide)
          obtain ⟨a328, ea328⟩ : ∃ z, z = T316.heap.size := ⟨_, rfl⟩
          rw [← ea328] at EA327 D327 st327
          have g329 : n0 ≤ a328 := by rw [ea328]; exact Z322
          have gh330 : h0.size ≤ a328 := by rw [ea328]; exact K323.1
          have K331 : Keep h0 h327 [] := K323.ext E327
          have Z332 : n0 ≤ h327.size := Nat.le_trans Z322 E327.1
          have F333 : Fld Z h327 a328 "com/example/slackline/slackline/lp/LinearProgram$Variable" "name" "Ljava/lang/String;" .null := D327 (Or.inr (hw _ (List.mem_of_getElem? (i := 40) rfl))) (ty := (.object "java/lang/String")) (by decide)
          have F334 : Fld Z h327 a328 "com/example/slackline/slackline/lp/LinearProgram$Variable" "lower" "D" (.double (0 : UInt64)) := D327 (Or.inr (hw _ (List.mem_of_getElem? (i := 42) rfl))) (ty := .double) (by decide)
          have F335 : Fld Z h327 a328 "com/example/slackline/slackline/lp/LinearProgram$Variable" "upper" "D" (.double (0 : UInt64)) := D327 (Or.inr (hw _ (List.mem_of_getElem? (i := 44) rfl))) (ty := .double) (by decide)
          have F336 : Fld Z h327 a328 "com/example/slackline/slackline/lp/LinearProgram$Variable" "cost" "D" (.double (0 : UInt64)) := D327 (Or.inr (hw _ (List.mem_of_getElem? (i := 46) rfl))) (ty := .double) (by decide)
          have F337 : Fld Z h327 a328 "com/example/slackline/slackline/lp/LinearProgram$Variable" "integer" "Z" (.int (0 : Int32)) := D327 (Or.inr (hw _ (List.mem_of_getElem? (i := 48) rfl))) (ty := .boolean) (by decide)
          refine Go.of (g' := (mkF m 97 #[.val (.int p0), .val (.int p1), .val (.int p2), .val (.int p3), .val (.int p4), .val (.int (p3 &&& (7 : Int32))), .val (.double (FP.i2d p0)), .second, .val (.double (FP.i2d p1)), .second, .val (.int (1 : Int32)), .val (.ref r317), .unset] [(.ref a328)])) st327 ?_
          have A338 := (⟨X327, hx, hby⟩ : Ax _ _ _ _ _ _ _ _ _ _ _ _ _ _ _)
          refine g_dup A338 at_97 rfl (pc' := 98) rfl ?_
          refine g_aload A338 at_98 rfl rfl (pc' := 100) rfl ?_
          refine g_dload A338 at_100 rfl (pc' := 102) rfl ?_
          refine g_dload A338 at_102 rfl (pc' := 104) rfl ?_
          refine g_iloadN A338 at_104 rfl (pc' := 105) rfl ?_
          refine g_i2d A338 at_105 (pc' := 106) rfl ?_
          refine g_iloadN A338 at_106 rfl (pc' := 107) rfl ?_
          refine g_bipush A338 at_107 (v := (8 : Int32)) rfl (pc' := 109) rfl ?_
          refine g_iand A338 at_109 (pc' := 110) rfl ?_
          obtain ⟨v339, hv339⟩ : ∃ z : Int32, z = if ¬ ((p3 &&& (8 : Int32)) = 0) then (1 : Int32) else 0 := ⟨_, rfl⟩
          have sg340 : ∀ {P : State → Outcome → Prop}, Go p e below P T327 (mkF m 118 #[.val (.int p0), .val (.int p1), .val (.int p2), .val (.int p3), .val (.int p4), .val (.int (p3 &&& (7 : Int32))), .val (.double (FP.i2d p0)), .second, .val (.double (FP.i2d p1)), .second, .val (.int (1 : Int32)), .val (.ref r317), .unset] [(.int v339), (.double (FP.i2d p2)), (.double (FP.i2d p1)), (.double (FP.i2d p0)), (.ref r317), (.ref a328), (.ref a328)]) → Go p e below P T327 (mkF m 110 #[.val (.int p0), .val (.int p1), .val (.int p2), .val (.int p3), .val (.int p4), .val (.int (p3 &&& (7 : Int32))), .val (.double (FP.i2d p0)), .second, .val (.double (FP.i2d p1)), .second, .val (.int (1 : Int32)), .val (.ref r317), .unset] [(.int (p3 &&& (8 : Int32))), (.double (FP.i2d p2)), (.double (FP.i2d p1)), (.double (FP.i2d p0)), (.ref r317), (.ref a328), (.ref a328)]) := by
            intro P hr
            by_cases c341 : (p3 &&& (8 : Int32)) = 0
            · skip
              refine g_ifY A338 at_110 (c0_eq_t c341) (pc' := 117) rfl ?_
              refine g_iconst A338 at_117 (v := (0 : Int32)) rfl (pc' := 118) rfl ?_
              obtain rfl : v339 = (0 : Int32) := hv339.trans (if_neg (fun q => q c341))
              exact hr
            · skip
              refine g_ifN A338 at_110 (c0_eq_f c341) (pc' := 113) rfl ?_
              refine g_iconst A338 at_113 (v := (1 : Int32)) rfl (pc' := 114) rfl ?_
              refine g_goto A338 at_114 (pc' := 118) rfl ?_
              obtain rfl : v339 = (1 : Int32) := hv339.trans (if_pos c341)
              exact hr
          refine sg340 ?_
          have hp342 : narrow .boolean (.int v339) = .int v339 := (own_b01 hv339)
          obtain ⟨vv343, _, ⟨T343, L343, k343, n343⟩, -, X343, ⟨L343c, hQ343, l343, y343, z343⟩, st343⟩ := X327.specialBack hx (y := (⟨"com/example/slackline/slackline/lp/LinearProgram$Variable", "<init>", "(Ljava/lang/String;DDDZ)V"⟩ : MethodName)) rfl hown (mvT hZ (hw _ (List.mem_of_getElem? (i := 30) rfl))) (mvT hZ (hw _ (List.mem_of_getElem? (i := 31) rfl))) (mvT hZ (hw _ (List.mem_of_getElem? (i := 32) rfl))) (by decide) (backOf (W := 1) (rm6 l Z a0 hw [] a328 r317 (FP.i2d p0) (FP.i2d p1) (FP.i2d p2) v339 .null (.double (0 : UInt64)) (.double (0 : UInt64)) (.double (0 : UInt64)) (.int (0 : Int32)) h327 n0 Z332 EA327 F333 F334 F335 F336 F337 g329 hp342) hZ (hw _ (List.mem_of_getElem? (i := 32) rfl)) (hw _ (List.mem_of_getElem? (i := 29) rfl)) (by decide) (by decide)) (g := (mkF m 118 #[.val (.int p0), .val (.int p1), .val (.int p2), .val (.int p3), .val (.int p4), .val (.int (p3 &&& (7 : Int32))), .val (.double (FP.i2d p0)), .second, .val (.double (FP.i2d p1)), .second, .val (.int (1 : Int32)), .val (.ref r317), .unset] [(.int v339), (.double (FP.i2d p2)), (.double (FP.i2d p1)), (.double (FP.i2d p0)), (.ref r317), (.ref a328), (.ref a328)])) rfl (by rw [hml]; rfl) (Steps.refl _) (a := a328) (argsL := [(.ref r317), (.double (FP.i2d p0)), (.double (FP.i2d p1)), (.double (FP.i2d p2)), (.int v339)]) (rest := [(.ref a328)]) (lenOf pd_5 rfl) rfl (by show 2 * 0 + _ ≤ _; exact Nat.le_of_eq rfl) (hb hby at_118) (fun _ _ => ⟨rfl, e327, (by decide : 3 + 0 ≤ _), (by decide : 10 + 0 ≤ _)⟩)
          have hQ343b : Q6 Z a328 r317 (FP.i2d p0) (FP.i2d p1) (FP.i2d p2) v339 .null (.double (0 : UInt64)) (.double (0 : UInt64)) (.double (0 : UInt64)) (.int (0 : Int32)) h327 n0 vv343 T343.heap L343c := hQ343
          clear hQ343
          dsimp only [Pt.U, Pt.locs, Pt.cells, Pt.slots] at X343 l343 y343 z343 st343
          subst y343 z343
          obtain ⟨rfl, Nq344, Kq345, F346, F347, F348, F349, F350⟩ := hQ343b
          have N351 : Fr n0 L343 := by rw [l343]; exact Fr.app N321 Nq344
          refine Go.tr (g' := (mkF m 121 #[.val (.int p0), .val (.int p1), .val (.int p2), .val (.int p3), .val (.int p4), .val (.int (p3 &&& (7 : Int32))), .val (.double (FP.i2d p0)), .second, .val (.double (FP.i2d p1)), .second, .val (.int (1 : Int32)), .val (.ref r317), .unset] [(.ref a328)])) st343 ?_
          have E352 : Exa Z T343.heap a328 "com/example/slackline/slackline/lp/LinearProgram$Variable" := Exa.keep EA327 Kq345
          have Z353 : n0 ≤ T343.heap.size := Nat.le_trans Z332 Kq345.1
          have K354 : Keep h0 T343.heap [] := K331.trans Kq345 (allS (Or.inr gh330) all0)
          have A355 := (⟨X343, hx, hby⟩ : Ax _ _ _ _ _ _ _ _ _ _ _ _ _ _ _)
          refine g_astore A355 at_121 rfl (ls' := #[.val (.int p0), .val (.int p1), .val (.int p2), .val (.int p3), .val (.int p4), .val (.int (p3 &&& (7 : Int32))), .val (.double (FP.i2d p0)), .second, .val (.double (FP.i2d p1)), .second, .val (.int (1 : Int32)), .val (.ref r317), .val (.ref a328)]) rfl (pc' := 123) rfl ?_
          refine g_aload A355 at_123 rfl rfl (pc' := 125) rfl ?_
          obtain ⟨cq357, kq357, q357a, q357b, q357c⟩ := isOf hZ rfl E352
          obtain ⟨vv356, _, ⟨T356, L356, k356, n356⟩, -, X356, ⟨L356c, hQ356, l356, y356, z356⟩, st356⟩ := X343.virtualBack hx (y := (⟨"com/example/slackline/slackline/lp/LinearProgram$Variable", "fixed", "()Z"⟩ : MethodName)) (z := (⟨"com/example/slackline/slackline/lp/LinearProgram$Variable", "fixed", "()Z"⟩ : MethodName)) hown (mvT hZ (hw _ (List.mem_of_getElem? (i := 49) rfl))) (mvT hZ (hw _ (List.mem_of_getElem? (i := 50) rfl))) (notFace_of_selects (args := #[]) (mvT hZ (hw _ (List.mem_of_getElem? (i := 52) rfl)))) (mvT hZ (hw _ (List.mem_of_getElem? (i := 52) rfl))) (mvT hZ (hw _ (List.mem_of_getElem? (i := 51) rfl))) (by decide) (backOf (W := 0) (rm8 l Z a0 hw [] a328 (FP.i2d p0) (FP.i2d p1) T343.heap n0 Z353 E352 F347 F348) hZ (hw _ (List.mem_of_getElem? (i := 53) rfl)) (hw _ (List.mem_of_getElem? (i := 29) rfl)) (by decide) (by decide)) q357a q357c (g := (mkF m 125 #[.val (.int p0), .val (.int p1), .val (.int p2), .val (.int p3), .val (.int p4), .val (.int (p3 &&& (7 : Int32))), .val (.double (FP.i2d p0)), .second, .val (.double (FP.i2d p1)), .second, .val (.int (1 : Int32)), .val (.ref r317), .val (.ref a328)] [(.ref a328)])) rfl (by rw [hml]; rfl) (Steps.refl _) (argsL := []) (rest := []) (lenOf pd_6 rfl) rfl (by show 2 * 0 + _ ≤ _; exact Nat.le_of_eq rfl) (hb hby at_125) (fun _ _ => ⟨rfl, rfl, (by decide : 3 + 0 ≤ _), (by decide : 10 + 0 ≤ _)⟩)
          have hQ356b : Q8 Z a328 (FP.i2d p0) (FP.i2d p1) T343.heap n0 vv356 T356.heap L356c := hQ356
          clear hQ356
          dsimp only [Pt.U, Pt.locs, Pt.cells, Pt.slots] at X356 l356 y356 z356 st356
          subst y356 z356
          obtain ⟨rfl, Nq358, Kq359⟩ := hQ356b
          have N360 : Fr n0 L356 := by rw [l356]; exact Fr.app N351 Nq358
          refine Go.tr (g' := (mkF m 128 #[.val (.int p0), .val (.int p1), .val (.int p2), .val (.int p3), .val (.int p4), .val (.int (p3 &&& (7 : Int32))), .val (.double (FP.i2d p0)), .second, .val (.double (FP.i2d p1)), .second, .val (.int (1 : Int32)), .val (.ref r317), .val (.ref a328)] [(.int (own_r_rm8 (FP.i2d p0) (FP.i2d p1)))])) st356 ?_
          have e361 : T356.heap = T343.heap := Kq359
          have A362 := (⟨X356, hx, hby⟩ : Ax _ _ _ _ _ _ _ _ _ _ _ _ _ _ _)
          refine g_iload A362 at_128 rfl (pc' := 130) rfl ?_
          refine g_icN A362 at_130 (c2_ne_f (show (own_r_rm8 (FP.i2d p0) (FP.i2d p1)) = (1 : Int32) from if_pos ((own_ieq p0 p1).mpr hc314))) (pc' := 133) rfl ?_
          refine g_iconst A362 at_133 (v := (1 : Int32)) rfl (pc' := 134) rfl ?_
          refine g_goto A362 at_134 (pc' := 138) rfl ?_
          exact g_ret (Q := Q0 Z p0 p1 p2 p3 p4 cs h0 n0) A362 at_138 Bd.notSynchronized Bd.returns rfl (Or.inl ⟨rfl, by simp, _, rfl⟩) (by decide) (by decide) (by rw [e361]; exact ⟨rfl, N360⟩)
        · skip
          refine g_icY A0 at_72 (c2_ne_t hc314) (pc' := 79) rfl ?_
          refine g_iconst A0 at_79 (v := (0 : Int32)) rfl (pc' := 80) rfl ?_
          refine g_istore A0 at_80 (ls' := #[.val (.int p0), .val (.int p1), .val (.int p2), .val (.int p3), .val (.int p4), .val (.int (p3 &&& (7 : Int32))), .val (.double (FP.i2d p0)), .second, .val (.double (FP.i2d p1)), .second, .val (.int (0 : Int32)), .unset, .unset]) rfl (pc' := 82) rfl ?_
          refine g_iload A0 at_82 rfl (pc' := 84) rfl ?_
          refine g_sipush A0 at_84 (v := (255 : Int32)) rfl (pc' := 87) rfl ?_
          refine g_iand A0 at_87 (pc' := 88) rfl ?_
          refine g_i2c A0 at_88 (pc' := 89) rfl ?_
          have hp363 : ¬ (255 : Int32) < ((p4 &&& (255 : Int32)).toUInt32.toUInt16.toUInt32.toInt32) := (own_ch p4)
          obtain ⟨vv364, _, ⟨T364, L364, k364, n364⟩, -, X364, ⟨L364c, hQ364, l364, y364, z364⟩, st364⟩ := Jvm.LawKit.callS X0 hx (y := (⟨"java/lang/String", "valueOf", "(C)Ljava/lang/String;"⟩ : MethodName)) hown (mvT hZ (hw _ (List.mem_of_getElem? (i := 1) rfl))) (mvT hZ (hw _ (List.mem_of_getElem? (i := 2) rfl))) (mvT hZ (hw _ (List.mem_of_getElem? (i := 3) rfl))) (mvT hZ (hw _ (List.mem_of_getElem? (i := 4) rfl))) (by decide) (backOf (W := 0) (rm1 l Z a0 hw [] ((p4 &&& (255 : Int32)).toUInt32.toUInt16.toUInt32.toInt32) cs h0 n0 Z0 S166 hp363 hcs) hZ (hw _ (List.mem_of_getElem? (i := 4) rfl)) (hw _ (List.mem_of_getElem? (i := 3) rfl)) (by decide) (by decide)) (g := (mkF m 89 #[.val (.int p0), .val (.int p1), .val (.int p2), .val (.int p3), .val (.int p4), .val (.int (p3 &&& (7 : Int32))), .val (.double (FP.i2d p0)), .second, .val (.double (FP.i2d p1)), .second, .val (.int (0 : Int32)), .unset, .unset] [(.int ((p4 &&& (255 : Int32)).toUInt32.toUInt16.toUInt32.toInt32))])) rfl (by rw [hml]; rfl) (argsL := [(.int ((p4 &&& (255 : Int32)).toUInt32.toUInt16.toUInt32.toInt32))]) (rest := []) (lenOf pd_4 rfl) rfl (by show 2 * 0 + _ ≤ _; exact Nat.le_of_eq rfl) (hb hby at_89) (fun _ _ => ⟨rfl, e0, (by decide : 0 + 2 ≤ _), (by decide : 0 + 5 ≤ _)⟩)
          have hQ364b : Q1 Z ((p4 &&& (255 : Int32)).toUInt32.toUInt16.toUInt32.toInt32) cs h0 n0 vv364 T364.heap L364c := hQ364
          clear hQ364
          dsimp only [Pt.U, Pt.locs, Pt.cells, Pt.slots] at X364 l364 y364 z364 st364
          subst y364 z364
          obtain ⟨r365, rfl, Nq366, Kq367, gx368⟩ := hQ364b
          have N369 : Fr n0 L364 := by rw [l364]; exact Fr.app N0 Nq366
          refine Go.of (g' := (mkF m 92 #[.val (.int p0), .val (.int p1), .val (.int p2), .val (.int p3), .val (.int p4), .val (.int (p3 &&& (7 : Int32))), .val (.double (FP.i2d p0)), .second, .val (.double (FP.i2d p1)), .second, .val (.int (0 : Int32)), .unset, .unset] [(.ref r365)])) st364 ?_
          have Z370 : n0 ≤ T364.heap.size := Nat.le_trans Z0 Kq367.1
          have K371 : Keep h0 T364.heap [] := (Keep.refl h0 []).trans Kq367 all0
          have A372 := (⟨X364, hx, hby⟩ : Ax _ _ _ _ _ _ _ _ _ _ _ _ _ _ _)
          have g373 : n0 ≤ r365 := Nat.le_trans Z0 gx368
          have gh374 : h0.size ≤ r365 := Nat.le_trans (Keep.refl h0 []).1 gx368
          refine g_astore A372 at_92 rfl (ls' := #[.val (.int p0), .val (.int p1), .val (.int p2), .val (.int p3), .val (.int p4), .val (.int (p3 &&& (7 : Int32))), .val (.double (FP.i2d p0)), .second, .val (.double (FP.i2d p1)), .second, .val (.int (0 : Int32)), .val (.ref r365), .unset]) rfl (pc' := 94) rfl ?_
          obtain ⟨T375, h375, X375, e375, E375, EA375, D375, -, st375⟩ := newO X364 hx hZ hown (hw _ (List.mem_of_getElem? (i := 27) rfl)) (hw _ (List.mem_of_getElem? (i := 28) rfl)) (hw _ (List.mem_of_getElem? (i := 29) rfl)) rfl (g := (mkF m 94 #[.val (.int p0), .val (.int p1), .val (.int p2), .val (.int p3), .val (.int p4), .val (.int (p3 &&& (7 : Int32))), .val (.double (FP.i2d p0)), .second, .val (.double (FP.i2d p1)), .second, .val (.int (0 : Int32)), .val (.ref r365), .unset] [])) rfl (hb hby at_94) (by decide) (by decide)
          obtain ⟨a376, ea376⟩ : ∃ z, z = T364.heap.size := ⟨_, rfl⟩
          rw [← ea376] at EA375 D375 st375
          have g377 : n0 ≤ a376 := by rw [ea376]; exact Z370
          have gh378 : h0.size ≤ a376 := by rw [ea376]; exact K371.1
          have K379 : Keep h0 h375 [] := K371.ext E375
          have Z380 : n0 ≤ h375.size := Nat.le_trans Z370 E375.1
          have F381 : Fld Z h375 a376 "com/example/slackline/slackline/lp/LinearProgram$Variable" "name" "Ljava/lang/String;" .null := D375 (Or.inr (hw _ (List.mem_of_getElem? (i := 40) rfl))) (ty := (.object "java/lang/String")) (by decide)
          have F382 : Fld Z h375 a376 "com/example/slackline/slackline/lp/LinearProgram$Variable" "lower" "D" (.double (0 : UInt64)) := D375 (Or.inr (hw _ (List.mem_of_getElem? (i := 42) rfl))) (ty := .double) (by decide)
          have F383 : Fld Z h375 a376 "com/example/slackline/slackline/lp/LinearProgram$Variable" "upper" "D" (.double (0 : UInt64)) := D375 (Or.inr (hw _ (List.mem_of_getElem? (i := 44) rfl))) (ty := .double) (by decide)
          have F384 : Fld Z h375 a376 "com/example/slackline/slackline/lp/LinearProgram$Variable" "cost" "D" (.double (0 : UInt64)) := D375 (Or.inr (hw _ (List.mem_of_getElem? (i := 46) rfl))) (ty := .double) (by decide)
          have F385 : Fld Z h375 a376 "com/example/slackline/slackline/lp/LinearProgram$Variable" "integer" "Z" (.int (0 : Int32)) := D375 (Or.inr (hw _ (List.mem_of_getElem? (i := 48) rfl))) (ty := .boolean) (by decide)
          refine Go.of (g' := (mkF m 97 #[.val (.int p0), .val (.int p1), .val (.int p2), .val (.int p3), .val (.int p4), .val (.int (p3 &&& (7 : Int32))), .val (.double (FP.i2d p0)), .second, .val (.double (FP.i2d p1)), .second, .val (.int (0 : Int32)), .val (.ref r365), .unset] [(.ref a376)])) st375 ?_
          have A386 := (⟨X375, hx, hby⟩ : Ax _ _ _ _ _ _ _ _ _ _ _ _ _ _ _)
          refine g_dup A386 at_97 rfl (pc' := 98) rfl ?_
          refine g_aload A386 at_98 rfl rfl (pc' := 100) rfl ?_
          refine g_dload A386 at_100 rfl (pc' := 102) rfl ?_
          refine g_dload A386 at_102 rfl (pc' := 104) rfl ?_
          refine g_iloadN A386 at_104 rfl (pc' := 105) rfl ?_
          refine g_i2d A386 at_105 (pc' := 106) rfl ?_
          refine g_iloadN A386 at_106 rfl (pc' := 107) rfl ?_
          refine g_bipush A386 at_107 (v := (8 : Int32)) rfl (pc' := 109) rfl ?_
          refine g_iand A386 at_109 (pc' := 110) rfl ?_
          obtain ⟨v387, hv387⟩ : ∃ z : Int32, z = if ¬ ((p3 &&& (8 : Int32)) = 0) then (1 : Int32) else 0 := ⟨_, rfl⟩
          have sg388 : ∀ {P : State → Outcome → Prop}, Go p e below P T375 (mkF m 118 #[.val (.int p0), .val (.int p1), .val (.int p2), .val (.int p3), .val (.int p4), .val (.int (p3 &&& (7 : Int32))), .val (.double (FP.i2d p0)), .second, .val (.double (FP.i2d p1)), .second, .val (.int (0 : Int32)), .val (.ref r365), .unset] [(.int v387), (.double (FP.i2d p2)), (.double (FP.i2d p1)), (.double (FP.i2d p0)), (.ref r365), (.ref a376), (.ref a376)]) → Go p e below P T375 (mkF m 110 #[.val (.int p0), .val (.int p1), .val (.int p2), .val (.int p3), .val (.int p4), .val (.int (p3 &&& (7 : Int32))), .val (.double (FP.i2d p0)), .second, .val (.double (FP.i2d p1)), .second, .val (.int (0 : Int32)), .val (.ref r365), .unset] [(.int (p3 &&& (8 : Int32))), (.double (FP.i2d p2)), (.double (FP.i2d p1)), (.double (FP.i2d p0)), (.ref r365), (.ref a376), (.ref a376)]) := by
            intro P hr
            by_cases c389 : (p3 &&& (8 : Int32)) = 0
            · skip
              refine g_ifY A386 at_110 (c0_eq_t c389) (pc' := 117) rfl ?_
              refine g_iconst A386 at_117 (v := (0 : Int32)) rfl (pc' := 118) rfl ?_
              obtain rfl : v387 = (0 : Int32) := hv387.trans (if_neg (fun q => q c389))
              exact hr
            · skip
              refine g_ifN A386 at_110 (c0_eq_f c389) (pc' := 113) rfl ?_
              refine g_iconst A386 at_113 (v := (1 : Int32)) rfl (pc' := 114) rfl ?_
              refine g_goto A386 at_114 (pc' := 118) rfl ?_
              obtain rfl : v387 = (1 : Int32) := hv387.trans (if_pos c389)
              exact hr
          refine sg388 ?_
          have hp390 : narrow .boolean (.int v387) = .int v387 := (own_b01 hv387)
          obtain ⟨vv391, _, ⟨T391, L391, k391, n391⟩, -, X391, ⟨L391c, hQ391, l391, y391, z391⟩, st391⟩ := X375.specialBack hx (y := (⟨"com/example/slackline/slackline/lp/LinearProgram$Variable", "<init>", "(Ljava/lang/String;DDDZ)V"⟩ : MethodName)) rfl hown (mvT hZ (hw _ (List.mem_of_getElem? (i := 30) rfl))) (mvT hZ (hw _ (List.mem_of_getElem? (i := 31) rfl))) (mvT hZ (hw _ (List.mem_of_getElem? (i := 32) rfl))) (by decide) (backOf (W := 1) (rm6 l Z a0 hw [] a376 r365 (FP.i2d p0) (FP.i2d p1) (FP.i2d p2) v387 .null (.double (0 : UInt64)) (.double (0 : UInt64)) (.double (0 : UInt64)) (.int (0 : Int32)) h375 n0 Z380 EA375 F381 F382 F383 F384 F385 g377 hp390) hZ (hw _ (List.mem_of_getElem? (i := 32) rfl)) (hw _ (List.mem_of_getElem? (i := 29) rfl)) (by decide) (by decide)) (g := (mkF m 118 #[.val (.int p0), .val (.int p1), .val (.int p2), .val (.int p3), .val (.int p4), .val (.int (p3 &&& (7 : Int32))), .val (.double (FP.i2d p0)), .second, .val (.double (FP.i2d p1)), .second, .val (.int (0 : Int32)), .val (.ref r365), .unset] [(.int v387), (.double (FP.i2d p2)), (.double (FP.i2d p1)), (.double (FP.i2d p0)), (.ref r365), (.ref a376), (.ref a376)])) rfl (by rw [hml]; rfl) (Steps.refl _) (a := a376) (argsL := [(.ref r365), (.double (FP.i2d p0)), (.double (FP.i2d p1)), (.double (FP.i2d p2)), (.int v387)]) (rest := [(.ref a376)]) (lenOf pd_5 rfl) rfl (by show 2 * 0 + _ ≤ _; exact Nat.le_of_eq rfl) (hb hby at_118) (fun _ _ => ⟨rfl, e375, (by decide : 3 + 0 ≤ _), (by decide : 10 + 0 ≤ _)⟩)
          have hQ391b : Q6 Z a376 r365 (FP.i2d p0) (FP.i2d p1) (FP.i2d p2) v387 .null (.double (0 : UInt64)) (.double (0 : UInt64)) (.double (0 : UInt64)) (.int (0 : Int32)) h375 n0 vv391 T391.heap L391c := hQ391
          clear hQ391
          dsimp only [Pt.U, Pt.locs, Pt.cells, Pt.slots] at X391 l391 y391 z391 st391
          subst y391 z391
          obtain ⟨rfl, Nq392, Kq393, F394, F395, F396, F397, F398⟩ := hQ391b
          have N399 : Fr n0 L391 := by rw [l391]; exact Fr.app N369 Nq392
          refine Go.tr (g' := (mkF m 121 #[.val (.int p0), .val (.int p1), .val (.int p2), .val (.int p3), .val (.int p4), .val (.int (p3 &&& (7 : Int32))), .val (.double (FP.i2d p0)), .second, .val (.double (FP.i2d p1)), .second, .val (.int (0 : Int32)), .val (.ref r365), .unset] [(.ref a376)])) st391 ?_
          have E400 : Exa Z T391.heap a376 "com/example/slackline/slackline/lp/LinearProgram$Variable" := Exa.keep EA375 Kq393
          have Z401 : n0 ≤ T391.heap.size := Nat.le_trans Z380 Kq393.1
          have K402 : Keep h0 T391.heap [] := K379.trans Kq393 (allS (Or.inr gh378) all0)
          have A403 := (⟨X391, hx, hby⟩ : Ax _ _ _ _ _ _ _ _ _ _ _ _ _ _ _)
          refine g_astore A403 at_121 rfl (ls' := #[.val (.int p0), .val (.int p1), .val (.int p2), .val (.int p3), .val (.int p4), .val (.int (p3 &&& (7 : Int32))), .val (.double (FP.i2d p0)), .second, .val (.double (FP.i2d p1)), .second, .val (.int (0 : Int32)), .val (.ref r365), .val (.ref a376)]) rfl (pc' := 123) rfl ?_
          refine g_aload A403 at_123 rfl rfl (pc' := 125) rfl ?_
          obtain ⟨cq405, kq405, q405a, q405b, q405c⟩ := isOf hZ rfl E400
          obtain ⟨vv404, _, ⟨T404, L404, k404, n404⟩, -, X404, ⟨L404c, hQ404, l404, y404, z404⟩, st404⟩ := X391.virtualBack hx (y := (⟨"com/example/slackline/slackline/lp/LinearProgram$Variable", "fixed", "()Z"⟩ : MethodName)) (z := (⟨"com/example/slackline/slackline/lp/LinearProgram$Variable", "fixed", "()Z"⟩ : MethodName)) hown (mvT hZ (hw _ (List.mem_of_getElem? (i := 49) rfl))) (mvT hZ (hw _ (List.mem_of_getElem? (i := 50) rfl))) (notFace_of_selects (args := #[]) (mvT hZ (hw _ (List.mem_of_getElem? (i := 52) rfl)))) (mvT hZ (hw _ (List.mem_of_getElem? (i := 52) rfl))) (mvT hZ (hw _ (List.mem_of_getElem? (i := 51) rfl))) (by decide) (backOf (W := 0) (rm8 l Z a0 hw [] a376 (FP.i2d p0) (FP.i2d p1) T391.heap n0 Z401 E400 F395 F396) hZ (hw _ (List.mem_of_getElem? (i := 53) rfl)) (hw _ (List.mem_of_getElem? (i := 29) rfl)) (by decide) (by decide)) q405a q405c (g := (mkF m 125 #[.val (.int p0), .val (.int p1), .val (.int p2), .val (.int p3), .val (.int p4), .val (.int (p3 &&& (7 : Int32))), .val (.double (FP.i2d p0)), .second, .val (.double (FP.i2d p1)), .second, .val (.int (0 : Int32)), .val (.ref r365), .val (.ref a376)] [(.ref a376)])) rfl (by rw [hml]; rfl) (Steps.refl _) (argsL := []) (rest := []) (lenOf pd_6 rfl) rfl (by show 2 * 0 + _ ≤ _; exact Nat.le_of_eq rfl) (hb hby at_125) (fun _ _ => ⟨rfl, rfl, (by decide : 3 + 0 ≤ _), (by decide : 10 + 0 ≤ _)⟩)
          have hQ404b : Q8 Z a376 (FP.i2d p0) (FP.i2d p1) T391.heap n0 vv404 T404.heap L404c := hQ404
          clear hQ404
          dsimp only [Pt.U, Pt.locs, Pt.cells, Pt.slots] at X404 l404 y404 z404 st404
          subst y404 z404
          obtain ⟨rfl, Nq406, Kq407⟩ := hQ404b
          have N408 : Fr n0 L404 := by rw [l404]; exact Fr.app N399 Nq406
          refine Go.tr (g' := (mkF m 128 #[.val (.int p0), .val (.int p1), .val (.int p2), .val (.int p3), .val (.int p4), .val (.int (p3 &&& (7 : Int32))), .val (.double (FP.i2d p0)), .second, .val (.double (FP.i2d p1)), .second, .val (.int (0 : Int32)), .val (.ref r365), .val (.ref a376)] [(.int (own_r_rm8 (FP.i2d p0) (FP.i2d p1)))])) st404 ?_
          have e409 : T404.heap = T391.heap := Kq407
          have A410 := (⟨X404, hx, hby⟩ : Ax _ _ _ _ _ _ _ _ _ _ _ _ _ _ _)
          refine g_iload A410 at_128 rfl (pc' := 130) rfl ?_
          refine g_icN A410 at_130 (c2_ne_f (show (own_r_rm8 (FP.i2d p0) (FP.i2d p1)) = (0 : Int32) from if_neg (fun q => hc314 ((own_ieq p0 p1).mp q)))) (pc' := 133) rfl ?_
          refine g_iconst A410 at_133 (v := (1 : Int32)) rfl (pc' := 134) rfl ?_
          refine g_goto A410 at_134 (pc' := 138) rfl ?_
          exact g_ret (Q := Q0 Z p0 p1 p2 p3 p4 cs h0 n0) A410 at_138 Bd.notSynchronized Bd.returns rfl (Or.inl ⟨rfl, by simp, _, rfl⟩) (by decide) (by decide) (by rw [e409]; exact ⟨rfl, N408⟩)
set_option maxRecDepth 65536 in
set_option maxHeartbeats 40000000 in
theorem comes_1 {Post : Tables → Env → Array Value → State → Outcome → State → Prop} (hpost : ∀ tb e args s v u, (limb_1_1.after args s (.returned v) u = true ∧ limb_1_2.after args s (.returned v) u = true ∧ True) → FrameEnd s (.returned v) u (Jvm.fieldLocs frame_1_writes args s ++ Jvm.arrayLocs frame_1_arrays args s ++ Jvm.staticLocs frame_1_statics s) 16 128 → Post tb e args s (.returned v) u) :
    ArmFor flags0 classFile x code maxLocals ret World_1 tables_1 room_1 Calls_1 rest_1 Pre_1 Post := by
  intro l hfl _ _ p e ha hc hk s m args below hf hA hF happ hP
  obtain ⟨hcalls, hrest, hpre⟩ := hP
  obtain ⟨-, -, -, hnamed, -, -, -, hat⟩ := (Spec.applies_iff hf).mp happ
  obtain ⟨hg, hn⟩ := and_e (Cond.before_iff.mp (show (Jvm.Cond.and given_1 narrow_1).before args s = true from hpre))
  obtain ⟨g0, hg1⟩ := and_e hg
  obtain ⟨w0, w1, w2, w3, w4, rfl⟩ : ∃ w0 w1 w2 w3 w4 : Value, args = #[w0, w1, w2, w3, w4] := by
    have hs : args.size = 5 := by simpa [Cond.value, given_1] using g0
    obtain ⟨L⟩ := args
    match L, hs with
    | [w0, w1, w2, w3, w4], _ => exact ⟨w0, w1, w2, w3, w4, rfl⟩
  have hw := fun d (hd : d ∈ tables_1) => atoms_spec (ws := Jvm.Cond.code x code maxLocals ret :: tables_1) hat d (List.mem_cons_of_mem _ hd)
  have hfit : Fit s := fun {y c} hc i hi => by
    obtain ⟨ha, rfl⟩ := Array.getElem?_eq_some_iff.mp hc
    have q := List.all_eq_true.mp ((Array.all_eq_true_iff_forall_mem.mp hF) _ (Array.getElem_mem ha)) i (List.mem_range.mpr hi)
    simpa [Array.getElem?_eq_getElem hi] using q
  obtain ⟨k0, hg2⟩ := and_e hg1
  obtain ⟨i0, j0⟩ := is_v k0
  obtain rfl : w0 = (.int i0) := Option.some.inj j0
  obtain ⟨k1, hg3⟩ := and_e hg2
  obtain ⟨i1, j1⟩ := is_v k1
  obtain rfl : w1 = (.int i1) := Option.some.inj j1
  obtain ⟨k2, hg4⟩ := and_e hg3
  obtain ⟨i2, j2⟩ := is_v k2
  obtain rfl : w2 = (.int i2) := Option.some.inj j2
  obtain ⟨k3, hg5⟩ := and_e hg4
  obtain ⟨i3, j3⟩ := is_v k3
  obtain rfl : w3 = (.int i3) := Option.some.inj j3
  obtain ⟨i4, j4⟩ := is_v hg5
  obtain rfl : w4 = (.int i4) := Option.some.inj j4
  obtain ⟨r1, hr1⟩ := and_e (Cond.before_iff.mp (show rest_1_c.before _ s = true from hrest))
  obtain ⟨r2, hr2⟩ := and_e hr1
  obtain ⟨r3, hr3⟩ := and_e hr2
  obtain ⟨cs, evcs⟩ := is_v r2
  have Scs : Sta s s.heap "java/lang/String" "COMPACT_STRINGS" "Z" (.int cs) := Sta.start evcs (Or.inl (Cond.before_iff.mpr r1))
  have hcs : ¬ cs = 0 := by
    intro q
    have r5 : (Jvm.Cond.eq (Jvm.Term.static "java/lang/String" "COMPACT_STRINGS" "Z") (Jvm.Term.int (0 : Int32))).value #[.int i0, .int i1, .int i2, .int i3, .int i4] s none s [] = some true := eq_i evcs (Term.int_eval (0)) (congrArg Value.int q)
    exact absurd ((not_v r3).symm.trans r5) (by decide)
  obtain ⟨n, o, h1, h2, h3, _, L, rfl, ⟨rfl, N⟩, hq⟩ := rm0 l s _ hw tables_1 i0 i1 i2 i3 i4 cs s.heap s.heap.size (Nat.le_refl _) Scs hcs p e ha hc hk s m _ below hf ((Spec.applies_iff_loose hf).mp happ).1 ⟨rfl, State.Warmed39.refl s, rfl⟩ trivial
  refine ⟨n, _, h1, h2, h3, hpost _ _ _ _ _ _ ⟨Cond.after_iff.mpr rfl, Cond.after_iff.mpr (eq_i res_at (Term.int_eval (1)) rfl), trivial⟩ ⟨hq.1, hq.2.1, (hq.2.2.sift fun y hy => Or.inr (N y hy)).mono (by decide) (by decide)⟩⟩
theorem main_1_1 : Claimed_1_1 := comes_1 fun _ _ _ _ _ _ h hF => ⟨h.1, hF⟩
theorem main_1_2 : Claimed_1_2 := comes_1 fun _ _ _ _ _ _ h hF => ⟨h.2.1, hF⟩
end Jvm.Pilot.@@N@@
namespace Jvm.Pilot.@@N@@
open Jvm Jvm.ClassFile Sem Op Lib Jvm.Free Jvm.Stand Jvm.Pilot.@@N@@.Jvm.D
/-! MADE BY PROGRAM (witnessworld.py) out of the Statement's table words and the real class files: 18 classes; the members and pool entries that the words name. The judged class is class 1, her method 1. -/
namespace start1
open Jvm.ClassFile
def u (s : String) : CpInfo := .utf8 (stringToUtf16 s)
/-- a pool by its gaps: so many unusable entries, then the entry; so many at the end -/
def gap : Nat → List CpInfo → List CpInfo
  | 0, r => r
  | n + 1, r => .unusable :: gap n r
def poolList (es : List (Nat × CpInfo)) (last : Nat) : List CpInfo := es.foldr (fun e r => gap e.1 (e.2 :: r)) (gap last [])
def pool (es : List (Nat × CpInfo)) (last : Nat) : Array CpInfo := ⟨poolList es last⟩
def fileOf (pool : Array CpInfo) (this : Nat) (attrs : Array Attribute := #[]) (ms : Array MethodInfo := #[]) (fl : Nat := 33) (sup : Nat := 0) (ifs : Array Nat := #[]) (fds : Array FieldInfo := #[]) : ClassFile where
  minorVersion := 0
  majorVersion := 65
  constantPool := pool
  accessFlags := fl
  thisClass := this
  superClass := sup
  interfaces := ifs
  fields := fds
  methods := ms
  attributes := attrs
def plain (name : String) (sup : Option ClassId) : Class where
  name := name
  kind := .ordinary
  loader := none
  accessFlags := 33
  super := sup
  interfaces := #[]
  cf := none
  fields := #[]
  methods := #[]
  instanceTypes := #[]
  staticTypes := #[]
  resolved := #[]
  callSites := []
  init := .initialized
  statics := none
  mirror := none

def pool0 : Array CpInfo := pool [(5, u "<init>"), (0, u "()V"), (1, .class_ 10), (1, u "java/lang/Object")] 113

def k0c0 : Code := { maxStack := 0, maxLocals := 1, code := object_method_1_code, exceptionTable := #[], attributes := #[] }
def k0m0 : Method := { name := "<init>", desc := "()V", sig := { parameters := [], returnType := none }, accessFlags := 1, code := some k0c0 }
/-- java/lang/Object -/
def k0 : Class := { plain "java/lang/Object" none with
  accessFlags := 33
  interfaces := #[]
  cf := some (fileOf pool0 8 #[] #[{ accessFlags := 1, nameIndex := 5, descriptorIndex := 6, attributes := #[] }] 33 0 #[] #[])
  fields := #[]
  methods := #[k0m0]
  instanceTypes := #[]
  staticTypes := #[]
  resolved := Array.replicate 124 none
  statics := none }

def pool1 : Array CpInfo := pool [(2, .class_ 4), (1, u "java/lang/Object"), (0, u "<init>"), (0, u "()V"), (0, .double 9218868437227405312), (1, .methodref 10 11), (0, .class_ 12), (0, .nameAndType 13 14), (0, u "java/lang/String"), (0, u "valueOf"), (0, u "(C)Ljava/lang/String;"), (0, .class_ 16), (0, u "com/example/slackline/slackline/lp/LinearProgram$Variable"), (0, .methodref 15 18), (0, .nameAndType 5 19), (0, u "(Ljava/lang/String;DDDZ)V"), (0, .methodref 15 21), (0, .nameAndType 22 23), (0, u "fixed"), (0, u "()Z"), (0, .class_ 25), (0, u "com/example/slackline/slackline/lp/VariableFixedPinLaw"), (2, u "law"), (0, u "(IIIII)Z")] 7

def k1m0 : Method := { name := "<init>", desc := "()V", sig := { parameters := [], returnType := none }, accessFlags := 2, code := none }
def k1c1 : Code := { maxStack := 11, maxLocals := 13, code := code, exceptionTable := #[], attributes := #[] }
def k1m1 : Method := { name := "law", desc := "(IIIII)Z", sig := { parameters := [.int, .int, .int, .int, .int], returnType := some .boolean }, accessFlags := 9, code := some k1c1 }
/-- com/example/slackline/slackline/lp/VariableFixedPinLaw -/
def k1 : Class := { plain "com/example/slackline/slackline/lp/VariableFixedPinLaw" (some 0) with
  accessFlags := 49
  interfaces := #[]
  cf := some (fileOf pool1 24 #[] #[{ accessFlags := 2, nameIndex := 5, descriptorIndex := 6, attributes := #[] }, { accessFlags := 9, nameIndex := 28, descriptorIndex := 29, attributes := #[] }] 49 2 #[] #[])
  fields := #[]
  methods := #[k1m0, k1m1]
  instanceTypes := #[]
  staticTypes := #[]
  resolved := Array.replicate 37 none
  statics := none }

def pool2 : Array CpInfo := pool [(1, .class_ 2), (0, u "java/io/Serializable"), (0, .class_ 4), (0, u "java/lang/Object")] 2

/-- java/io/Serializable -/
def k2 : Class := { plain "java/io/Serializable" (some 0) with
  accessFlags := 1537
  interfaces := #[]
  cf := some (fileOf pool2 1 #[] #[] 1537 3 #[] #[])
  fields := #[]
  methods := #[]
  instanceTypes := #[]
  staticTypes := #[]
  resolved := Array.replicate 7 none
  statics := none }

def pool3 : Array CpInfo := pool [(1, .class_ 2), (0, u "java/lang/Comparable"), (0, .class_ 4), (0, u "java/lang/Object")] 7

/-- java/lang/Comparable -/
def k3 : Class := { plain "java/lang/Comparable" (some 0) with
  accessFlags := 1537
  interfaces := #[]
  cf := some (fileOf pool3 1 #[] #[] 1537 3 #[] #[])
  fields := #[]
  methods := #[]
  instanceTypes := #[]
  staticTypes := #[]
  resolved := Array.replicate 12 none
  statics := none }

def pool4 : Array CpInfo := pool [(2, .class_ 4), (1, u "java/lang/CharSequence"), (42, .class_ 48), (0, u "java/lang/CharSequence$1CodePointIterator"), (10, .class_ 60), (0, u "java/lang/CharSequence$1CharIterator"), (5, .class_ 67), (0, u "java/lang/Object")] 63

/-- java/lang/CharSequence -/
def k4 : Class := { plain "java/lang/CharSequence" (some 0) with
  accessFlags := 1537
  interfaces := #[]
  cf := some (fileOf pool4 2 #[.nestMembers #[47, 59]] #[] 1537 66 #[] #[])
  fields := #[]
  methods := #[]
  instanceTypes := #[]
  staticTypes := #[]
  resolved := Array.replicate 131 none
  statics := none }

def pool5 : Array CpInfo := pool [(1, .class_ 2), (0, u "java/lang/constant/Constable"), (0, .class_ 4), (0, u "java/lang/Object")] 6

/-- java/lang/constant/Constable -/
def k5 : Class := { plain "java/lang/constant/Constable" (some 0) with
  accessFlags := 1537
  interfaces := #[]
  cf := some (fileOf pool5 1 #[] #[] 1537 3 #[] #[])
  fields := #[]
  methods := #[]
  instanceTypes := #[]
  staticTypes := #[]
  resolved := Array.replicate 11 none
  statics := none }

def pool6 : Array CpInfo := pool [(1, .class_ 2), (0, u "java/lang/constant/ConstantDesc"), (0, .class_ 4), (0, u "java/lang/Object")] 32

/-- java/lang/constant/ConstantDesc -/
def k6 : Class := { plain "java/lang/constant/ConstantDesc" (some 0) with
  accessFlags := 1537
  interfaces := #[]
  cf := some (fileOf pool6 1 #[] #[] 1537 3 #[] #[])
  fields := #[]
  methods := #[]
  instanceTypes := #[]
  staticTypes := #[]
  resolved := Array.replicate 37 none
  statics := none }

def pool7 : Array CpInfo := pool [(1, .methodref 2 3), (0, .class_ 4), (0, .nameAndType 5 6), (0, u "java/lang/Object"), (0, u "<init>"), (0, u "()V"), (2, .fieldref 10 11), (0, .class_ 12), (0, .nameAndType 13 14), (0, u "java/lang/String"), (0, u "value"), (0, u "[B"), (0, .fieldref 10 16), (0, .nameAndType 17 18), (0, u "coder"), (0, u "B"), (2, u "hash"), (0, u "I"), (2, u "hashIsZero"), (0, u "Z"), (11, .fieldref 10 39), (0, .nameAndType 40 26), (0, u "COMPACT_STRINGS"), (12, u "toBytes"), (53, .class_ 109), (1, u "java/lang/StringLatin1"), (99, .methodref 10 210), (0, .nameAndType 5 211), (0, u "([BB)V"), (157, u "(C)Z"), (205, .class_ 576), (0, u "java/lang/CharSequence"), (22, u "CASE_INSENSITIVE_ORDER"), (0, u "Ljava/util/Comparator;"), (181, u "valueOf"), (0, u "(C)Ljava/lang/String;"), (231, .methodref 107 1016), (0, .nameAndType 1017 369), (0, u "canEncode"), (0, .methodref 107 1019), (0, .nameAndType 53 1020), (0, u "(C)[B"), (80, u "serialPersistentFields"), (0, u "[Ljava/io/ObjectStreamField;"), (0, .class_ 1104), (0, u "java/lang/String$CaseInsensitiveComparator"), (1, .class_ 1107), (0, u "java/io/Serializable"), (0, .class_ 1109), (0, u "java/lang/Comparable"), (0, .class_ 1111), (0, u "java/lang/constant/Constable"), (0, .class_ 1113), (0, u "java/lang/constant/ConstantDesc"), (2, u "serialVersionUID"), (0, u "J"), (3, u "REPL"), (0, u "C"), (2, u "LATIN1"), (1, u "UTF16")] 323

def k7m0 : Method := { name := "<init>", desc := "()V", sig := { parameters := [], returnType := none }, accessFlags := 1, code := none }
def k7c1 : Code := { maxStack := 4, maxLocals := 1, code := jdk_42_method_139_code, exceptionTable := #[], attributes := #[] }
def k7m1 : Method := { name := "valueOf", desc := "(C)Ljava/lang/String;", sig := { parameters := [.char], returnType := some (.object "java/lang/String") }, accessFlags := 9, code := some k7c1 }
def k7c2 : Code := { maxStack := 2, maxLocals := 3, code := jdk_42_method_151_code, exceptionTable := #[], attributes := #[] }
def k7m2 : Method := { name := "<init>", desc := "([BB)V", sig := { parameters := [(.array .byte), .byte], returnType := none }, accessFlags := 0, code := some k7c2 }
/-- java/lang/String -/
def k7 : Class := { plain "java/lang/String" (some 0) with
  accessFlags := 49
  interfaces := #[2, 3, 4, 5, 6]
  cf := some (fileOf pool7 10 #[.nestMembers #[1103]] #[{ accessFlags := 1, nameIndex := 5, descriptorIndex := 6, attributes := #[] }, { accessFlags := 9, nameIndex := 782, descriptorIndex := 783, attributes := #[] }, { accessFlags := 0, nameIndex := 5, descriptorIndex := 211, attributes := #[] }] 49 2 #[1106, 1108, 575, 1110, 1112] #[{ accessFlags := 18, nameIndex := 13, descriptorIndex := 14, attributes := #[] }, { accessFlags := 18, nameIndex := 17, descriptorIndex := 18, attributes := #[] }, { accessFlags := 2, nameIndex := 21, descriptorIndex := 22, attributes := #[] }, { accessFlags := 2, nameIndex := 25, descriptorIndex := 26, attributes := #[] }, { accessFlags := 26, nameIndex := 1116, descriptorIndex := 1117, attributes := #[] }, { accessFlags := 24, nameIndex := 40, descriptorIndex := 26, attributes := #[] }, { accessFlags := 26, nameIndex := 1101, descriptorIndex := 1102, attributes := #[] }, { accessFlags := 26, nameIndex := 1121, descriptorIndex := 1122, attributes := #[] }, { accessFlags := 25, nameIndex := 599, descriptorIndex := 600, attributes := #[] }, { accessFlags := 24, nameIndex := 1125, descriptorIndex := 18, attributes := #[] }, { accessFlags := 24, nameIndex := 1127, descriptorIndex := 18, attributes := #[] }])
  fields := #[{ name := "value", type := (.array .byte), accessFlags := 18, slot := 0, constantValue := 0 }, { name := "coder", type := .byte, accessFlags := 18, slot := 1, constantValue := 0 }, { name := "hash", type := .int, accessFlags := 2, slot := 2, constantValue := 0 }, { name := "hashIsZero", type := .boolean, accessFlags := 2, slot := 3, constantValue := 0 }, { name := "serialVersionUID", type := .long, accessFlags := 26, slot := 0, constantValue := 0 }, { name := "COMPACT_STRINGS", type := .boolean, accessFlags := 24, slot := 1, constantValue := 0 }, { name := "serialPersistentFields", type := (.array (.object "java/io/ObjectStreamField")), accessFlags := 26, slot := 2, constantValue := 0 }, { name := "REPL", type := .char, accessFlags := 26, slot := 3, constantValue := 0 }, { name := "CASE_INSENSITIVE_ORDER", type := (.object "java/util/Comparator"), accessFlags := 25, slot := 4, constantValue := 0 }, { name := "LATIN1", type := .byte, accessFlags := 24, slot := 5, constantValue := 0 }, { name := "UTF16", type := .byte, accessFlags := 24, slot := 6, constantValue := 0 }]
  methods := #[k7m0, k7m1, k7m2]
  instanceTypes := #[(.array .byte), .byte, .int, .boolean]
  staticTypes := #[.long, .boolean, (.array (.object "java/io/ObjectStreamField")), .char, (.object "java/util/Comparator"), .byte, .byte]
  resolved := Array.replicate 1451 none
  statics := some 0 }

def pool8 : Array CpInfo := pool [(4, .class_ 6), (1, u "java/lang/Object"), (0, u "<init>"), (0, u "()V"), (5, .class_ 16), (1, u "java/lang/StringLatin1"), (73, u "canEncode"), (14, u "(C)Z"), (15, u "$assertionsDisabled"), (0, u "Z"), (98, .class_ 223), (1, u "java/lang/StringLatin1$LinesSpliterator"), (156, u "toBytes"), (1, u "(C)[B"), (7, .class_ 391), (0, u "java/lang/StringLatin1$CharsSpliterator")] 3

def k8m0 : Method := { name := "<init>", desc := "()V", sig := { parameters := [], returnType := none }, accessFlags := 0, code := none }
def k8c1 : Code := { maxStack := 2, maxLocals := 1, code := jdk_43_method_3_code, exceptionTable := #[], attributes := #[] }
def k8m1 : Method := { name := "canEncode", desc := "(C)Z", sig := { parameters := [.char], returnType := some .boolean }, accessFlags := 9, code := some k8c1 }
def k8c2 : Code := { maxStack := 4, maxLocals := 1, code := jdk_43_method_46_code, exceptionTable := #[], attributes := #[] }
def k8m2 : Method := { name := "toBytes", desc := "(C)[B", sig := { parameters := [.char], returnType := some (.array .byte) }, accessFlags := 9, code := some k8c2 }
/-- java/lang/StringLatin1 -/
def k8 : Class := { plain "java/lang/StringLatin1" (some 0) with
  accessFlags := 48
  interfaces := #[]
  cf := some (fileOf pool8 14 #[.nestMembers #[390, 221]] #[{ accessFlags := 0, nameIndex := 7, descriptorIndex := 8, attributes := #[] }, { accessFlags := 9, nameIndex := 90, descriptorIndex := 105, attributes := #[] }, { accessFlags := 9, nameIndex := 380, descriptorIndex := 382, attributes := #[] }] 48 4 #[] #[{ accessFlags := 4120, nameIndex := 121, descriptorIndex := 122, attributes := #[] }])
  fields := #[{ name := "$assertionsDisabled", type := .boolean, accessFlags := 4120, slot := 0, constantValue := 0 }]
  methods := #[k8m0, k8m1, k8m2]
  instanceTypes := #[]
  staticTypes := #[.boolean]
  resolved := Array.replicate 395 none
  statics := none }

def pool9 : Array CpInfo := pool [(1, .methodref 2 3), (0, .class_ 4), (0, .nameAndType 5 6), (0, u "java/lang/Object"), (0, u "<init>"), (0, u "()V"), (0, .class_ 8), (0, u "java/lang/Record")] 13

def k9c0 : Code := { maxStack := 1, maxLocals := 1, code := jdk_30_method_1_code, exceptionTable := #[], attributes := #[] }
def k9m0 : Method := { name := "<init>", desc := "()V", sig := { parameters := [], returnType := none }, accessFlags := 4, code := some k9c0 }
/-- java/lang/Record -/
def k9 : Class := { plain "java/lang/Record" (some 0) with
  accessFlags := 1057
  interfaces := #[]
  cf := some (fileOf pool9 7 #[] #[{ accessFlags := 4, nameIndex := 5, descriptorIndex := 6, attributes := #[] }] 1057 2 #[] #[])
  fields := #[]
  methods := #[k9m0]
  instanceTypes := #[]
  staticTypes := #[]
  resolved := Array.replicate 22 none
  statics := none }

def pool10 : Array CpInfo := pool [(1, .methodref 2 3), (0, .class_ 4), (0, .nameAndType 5 6), (0, u "java/lang/Record"), (0, u "<init>"), (0, u "()V"), (0, .fieldref 8 9), (0, .class_ 10), (0, .nameAndType 11 12), (0, u "com/example/slackline/slackline/lp/LinearProgram$Variable"), (0, u "name"), (0, u "Ljava/lang/String;"), (0, .fieldref 8 14), (0, .nameAndType 15 16), (0, u "lower"), (0, u "D"), (0, .fieldref 8 18), (0, .nameAndType 19 16), (0, u "upper"), (0, .fieldref 8 21), (0, .nameAndType 22 16), (0, u "cost"), (0, .fieldref 8 24), (0, .nameAndType 25 26), (0, u "integer"), (0, u "Z"), (12, u "(Ljava/lang/String;DDDZ)V"), (3, u "fixed"), (0, u "()Z"), (8, .class_ 54), (0, u "com/example/slackline/slackline/lp/LinearProgram")] 23

def k10c0 : Code := { maxStack := 3, maxLocals := 9, code := prog_65_method_1_code, exceptionTable := #[], attributes := #[] }
def k10m0 : Method := { name := "<init>", desc := "(Ljava/lang/String;DDDZ)V", sig := { parameters := [(.object "java/lang/String"), .double, .double, .double, .boolean], returnType := none }, accessFlags := 1, code := some k10c0 }
def k10c1 : Code := { maxStack := 4, maxLocals := 1, code := prog_65_method_2_code, exceptionTable := #[], attributes := #[] }
def k10m1 : Method := { name := "fixed", desc := "()Z", sig := { parameters := [], returnType := some .boolean }, accessFlags := 1, code := some k10c1 }
/-- com/example/slackline/slackline/lp/LinearProgram$Variable -/
def k10 : Class := { plain "com/example/slackline/slackline/lp/LinearProgram$Variable" (some 9) with
  accessFlags := 49
  interfaces := #[]
  cf := some (fileOf pool10 8 #[.nestHost 53] #[{ accessFlags := 1, nameIndex := 5, descriptorIndex := 39, attributes := #[] }, { accessFlags := 1, nameIndex := 43, descriptorIndex := 44, attributes := #[] }] 49 2 #[] #[{ accessFlags := 18, nameIndex := 11, descriptorIndex := 12, attributes := #[] }, { accessFlags := 18, nameIndex := 15, descriptorIndex := 16, attributes := #[] }, { accessFlags := 18, nameIndex := 19, descriptorIndex := 16, attributes := #[] }, { accessFlags := 18, nameIndex := 22, descriptorIndex := 16, attributes := #[] }, { accessFlags := 18, nameIndex := 25, descriptorIndex := 26, attributes := #[] }])
  fields := #[{ name := "name", type := (.object "java/lang/String"), accessFlags := 18, slot := 0, constantValue := 0 }, { name := "lower", type := .double, accessFlags := 18, slot := 1, constantValue := 0 }, { name := "upper", type := .double, accessFlags := 18, slot := 2, constantValue := 0 }, { name := "cost", type := .double, accessFlags := 18, slot := 3, constantValue := 0 }, { name := "integer", type := .boolean, accessFlags := 18, slot := 4, constantValue := 0 }]
  methods := #[k10m0, k10m1]
  instanceTypes := #[(.object "java/lang/String"), .double, .double, .double, .boolean]
  staticTypes := #[]
  resolved := Array.replicate 78 none
  statics := none }

def pool11 : Array CpInfo := pool [(2, .class_ 4), (1, u "java/lang/Object"), (0, u "<init>"), (0, u "()V"), (17, .class_ 26), (1, u "jdk/internal/util/Preconditions"), (28, .class_ 56), (0, u "jdk/internal/util/Preconditions$4"), (57, .class_ 115), (0, u "jdk/internal/util/Preconditions$1"), (7, u "SIOOBE_FORMATTER"), (0, u "Ljava/util/function/BiFunction;"), (0, .class_ 126), (0, u "jdk/internal/util/Preconditions$2"), (3, u "AIOOBE_FORMATTER"), (0, .class_ 132), (0, u "jdk/internal/util/Preconditions$3"), (3, u "IOOBE_FORMATTER")] 57

def k11m0 : Method := { name := "<init>", desc := "()V", sig := { parameters := [], returnType := none }, accessFlags := 1, code := none }
/-- jdk/internal/util/Preconditions -/
def k11 : Class := { plain "jdk/internal/util/Preconditions" (some 0) with
  accessFlags := 33
  interfaces := #[]
  cf := some (fileOf pool11 24 #[.nestMembers #[55, 131, 125, 114]] #[{ accessFlags := 1, nameIndex := 5, descriptorIndex := 6, attributes := #[] }] 33 2 #[] #[{ accessFlags := 25, nameIndex := 123, descriptorIndex := 124, attributes := #[] }, { accessFlags := 25, nameIndex := 130, descriptorIndex := 124, attributes := #[] }, { accessFlags := 25, nameIndex := 136, descriptorIndex := 124, attributes := #[] }])
  fields := #[{ name := "SIOOBE_FORMATTER", type := (.object "java/util/function/BiFunction"), accessFlags := 25, slot := 0, constantValue := 0 }, { name := "AIOOBE_FORMATTER", type := (.object "java/util/function/BiFunction"), accessFlags := 25, slot := 1, constantValue := 0 }, { name := "IOOBE_FORMATTER", type := (.object "java/util/function/BiFunction"), accessFlags := 25, slot := 2, constantValue := 0 }]
  methods := #[k11m0]
  instanceTypes := #[]
  staticTypes := #[(.object "java/util/function/BiFunction"), (.object "java/util/function/BiFunction"), (.object "java/util/function/BiFunction")]
  resolved := Array.replicate 194 none
  statics := some 1 }

def pool12 : Array CpInfo := pool [(9, u "<init>"), (6, .class_ 18), (1, u "java/lang/Object"), (0, u "()V"), (1, .class_ 23), (1, u "jdk/internal/util/ArraysSupport"), (0, u "LOG2_ARRAY_LONG_INDEX_SCALE"), (0, u "I"), (2, u "U"), (0, u "Ljdk/internal/misc/Unsafe;"), (8, u "BIG_ENDIAN"), (0, u "Z"), (8, u "LOG2_BYTE_BIT_SIZE"), (4, u "LOG2_ARRAY_INT_INDEX_SCALE"), (54, u "JLA"), (0, u "Ljdk/internal/access/JavaLangAccess;"), (11, u "LOG2_ARRAY_BOOLEAN_INDEX_SCALE"), (9, u "LOG2_ARRAY_BYTE_INDEX_SCALE"), (5, u "LOG2_ARRAY_CHAR_INDEX_SCALE"), (5, u "LOG2_ARRAY_SHORT_INDEX_SCALE"), (18, u "LOG2_ARRAY_FLOAT_INDEX_SCALE"), (24, u "LOG2_ARRAY_DOUBLE_INDEX_SCALE"), (89, u "T_BOOLEAN"), (2, u "T_CHAR"), (1, u "T_FLOAT"), (1, u "T_DOUBLE"), (1, u "T_BYTE"), (1, u "T_SHORT"), (1, u "T_INT"), (1, u "T_LONG"), (1, u "SOFT_MAX_ARRAY_LENGTH")] 83

def k12m0 : Method := { name := "<init>", desc := "()V", sig := { parameters := [], returnType := none }, accessFlags := 2, code := none }
/-- jdk/internal/util/ArraysSupport -/
def k12 : Class := { plain "jdk/internal/util/ArraysSupport" (some 0) with
  accessFlags := 33
  interfaces := #[]
  cf := some (fileOf pool12 21 #[] #[{ accessFlags := 2, nameIndex := 9, descriptorIndex := 19, attributes := #[] }] 33 16 #[] #[{ accessFlags := 24, nameIndex := 28, descriptorIndex := 29, attributes := #[] }, { accessFlags := 26, nameIndex := 38, descriptorIndex := 39, attributes := #[] }, { accessFlags := 25, nameIndex := 121, descriptorIndex := 25, attributes := #[] }, { accessFlags := 25, nameIndex := 131, descriptorIndex := 25, attributes := #[] }, { accessFlags := 25, nameIndex := 137, descriptorIndex := 25, attributes := #[] }, { accessFlags := 25, nameIndex := 143, descriptorIndex := 25, attributes := #[] }, { accessFlags := 25, nameIndex := 53, descriptorIndex := 25, attributes := #[] }, { accessFlags := 25, nameIndex := 24, descriptorIndex := 25, attributes := #[] }, { accessFlags := 25, nameIndex := 162, descriptorIndex := 25, attributes := #[] }, { accessFlags := 25, nameIndex := 187, descriptorIndex := 25, attributes := #[] }, { accessFlags := 26, nameIndex := 48, descriptorIndex := 25, attributes := #[] }, { accessFlags := 25, nameIndex := 277, descriptorIndex := 25, attributes := #[] }, { accessFlags := 25, nameIndex := 280, descriptorIndex := 25, attributes := #[] }, { accessFlags := 25, nameIndex := 282, descriptorIndex := 25, attributes := #[] }, { accessFlags := 25, nameIndex := 284, descriptorIndex := 25, attributes := #[] }, { accessFlags := 25, nameIndex := 286, descriptorIndex := 25, attributes := #[] }, { accessFlags := 25, nameIndex := 288, descriptorIndex := 25, attributes := #[] }, { accessFlags := 25, nameIndex := 290, descriptorIndex := 25, attributes := #[] }, { accessFlags := 25, nameIndex := 292, descriptorIndex := 25, attributes := #[] }, { accessFlags := 26, nameIndex := 108, descriptorIndex := 109, attributes := #[] }, { accessFlags := 25, nameIndex := 294, descriptorIndex := 25, attributes := #[] }])
  fields := #[{ name := "U", type := (.object "jdk/internal/misc/Unsafe"), accessFlags := 24, slot := 0, constantValue := 0 }, { name := "BIG_ENDIAN", type := .boolean, accessFlags := 26, slot := 1, constantValue := 0 }, { name := "LOG2_ARRAY_BOOLEAN_INDEX_SCALE", type := .int, accessFlags := 25, slot := 2, constantValue := 0 }, { name := "LOG2_ARRAY_BYTE_INDEX_SCALE", type := .int, accessFlags := 25, slot := 3, constantValue := 0 }, { name := "LOG2_ARRAY_CHAR_INDEX_SCALE", type := .int, accessFlags := 25, slot := 4, constantValue := 0 }, { name := "LOG2_ARRAY_SHORT_INDEX_SCALE", type := .int, accessFlags := 25, slot := 5, constantValue := 0 }, { name := "LOG2_ARRAY_INT_INDEX_SCALE", type := .int, accessFlags := 25, slot := 6, constantValue := 0 }, { name := "LOG2_ARRAY_LONG_INDEX_SCALE", type := .int, accessFlags := 25, slot := 7, constantValue := 0 }, { name := "LOG2_ARRAY_FLOAT_INDEX_SCALE", type := .int, accessFlags := 25, slot := 8, constantValue := 0 }, { name := "LOG2_ARRAY_DOUBLE_INDEX_SCALE", type := .int, accessFlags := 25, slot := 9, constantValue := 0 }, { name := "LOG2_BYTE_BIT_SIZE", type := .int, accessFlags := 26, slot := 10, constantValue := 0 }, { name := "T_BOOLEAN", type := .int, accessFlags := 25, slot := 11, constantValue := 0 }, { name := "T_CHAR", type := .int, accessFlags := 25, slot := 12, constantValue := 0 }, { name := "T_FLOAT", type := .int, accessFlags := 25, slot := 13, constantValue := 0 }, { name := "T_DOUBLE", type := .int, accessFlags := 25, slot := 14, constantValue := 0 }, { name := "T_BYTE", type := .int, accessFlags := 25, slot := 15, constantValue := 0 }, { name := "T_SHORT", type := .int, accessFlags := 25, slot := 16, constantValue := 0 }, { name := "T_INT", type := .int, accessFlags := 25, slot := 17, constantValue := 0 }, { name := "T_LONG", type := .int, accessFlags := 25, slot := 18, constantValue := 0 }, { name := "JLA", type := (.object "jdk/internal/access/JavaLangAccess"), accessFlags := 26, slot := 19, constantValue := 0 }, { name := "SOFT_MAX_ARRAY_LENGTH", type := .int, accessFlags := 25, slot := 20, constantValue := 0 }]
  methods := #[k12m0]
  instanceTypes := #[]
  staticTypes := #[(.object "jdk/internal/misc/Unsafe"), .boolean, .int, .int, .int, .int, .int, .int, .int, .int, .int, .int, .int, .int, .int, .int, .int, .int, .int, (.object "jdk/internal/access/JavaLangAccess"), .int]
  resolved := Array.replicate 378 none
  statics := none }

def pool13 : Array CpInfo := pool [(1, u "java/lang/Cloneable"), (0, .class_ 1), (0, u "java/lang/Object"), (0, .class_ 3)] 3

/-- java/lang/Cloneable -/
def k13 : Class := { plain "java/lang/Cloneable" (some 0) with
  accessFlags := 1537
  interfaces := #[]
  cf := some (fileOf pool13 2 #[] #[] 1537 4 #[] #[])
  fields := #[]
  methods := #[]
  instanceTypes := #[]
  staticTypes := #[]
  resolved := Array.replicate 8 none
  statics := none }

/-- the primitive byte -/
def k14 : Class := { plain "byte" none with kind := .primitive 'B', accessFlags := 0x411 }
/-- [B -/
def k15 : Class := { plain "[B" (some 0) with kind := .array 14 .byte, interfaces := #[13, 2], accessFlags := 1041 }

/-- the primitive int -/
def k16 : Class := { plain "int" none with kind := .primitive 'I', accessFlags := 0x411 }
/-- [I -/
def k17 : Class := { plain "[I" (some 0) with kind := .array 16 .int, interfaces := #[13, 2], accessFlags := 1041 }

def heap : Heap := #[{ cls := 7, slots := #[.long 0, .int 1, .null, .int 0, .null, .int 0, .int 0], vm := .statics 7 },
  { cls := 11, slots := #[.null, .null, .null], vm := .statics 11 }]
def classes : Array Class := #[k0, k1, k2, k3, k4, k5, k6, k7, k8, k9, k10, k11, k12, k13, k14, k15, k16, k17]
def interned : List (Array UInt16 × Addr) := []
def slotsUsed : Nat := 10
def theMethod : MethodId := ⟨1, 1⟩
def args0 : Array Value := #[.int 5, .int 3, .int 1, .int 9, .int 65]
def aboutOver (below : List Frame) : State where
  vm := { classes := classes, interned := interned.toArray }
  heap := heap
  slotsUsed := slotsUsed
  threads := #[{ frames := .invoking theMethod args0 :: below }]
def below0 : List Frame := [.native { method := ⟨0, 0⟩, args := #[] }]
def about1 : State := aboutOver below0
def p0 : Program := .bare "" "" ""
def e0 : Env := launch0.env 0 0 0
theorem w_frames : about1.frames = Frame.invoking theMethod args0 :: below0 := rfl
set_option maxRecDepth 65536 in
theorem w_args : argsFit about1.vm theMethod args0 = true := by decide +kernel
set_option maxRecDepth 65536 in
theorem w_heap : heapFits about1 = true := by decide +kernel
set_option maxRecDepth 65536 in
theorem w_runnable : about1.curStatus? = some .runnable := by decide +kernel
set_option maxRecDepth 65536 in
theorem w_alone : about1.alone = true := by decide +kernel
set_option maxRecDepth 65536 in
theorem w_named : about1.methodNamed? x = some theMethod := by decide +kernel
set_option maxRecDepth 65536 in
theorem w_hears : about1.hears theMethod below0 = true := by decide +kernel
set_option maxRecDepth 65536 in
theorem w_ripe : about1.ripe theMethod args0 below0 = true := by decide +kernel
theorem w_running : about1.status = .running := rfl
set_option maxRecDepth 65536 in
theorem w_room : about1.hasRoom e0.platform room_1 = true :=
  launch0.hasRoom_least _ room_1 (by decide +kernel) (by decide +kernel) (by decide +kernel) (by decide +kernel) (by decide +kernel) (by decide +kernel)
theorem allAtoms_all (ts : List Jvm.Cond) (a : Array Jvm.Value) (st : Jvm.State) : (allAtoms ts).before a st = ts.all (fun c => c.before a st) := by
  induction ts with
  | nil => rfl
  | cons c t ih =>
    show (Jvm.Cond.and c (allAtoms t)).before a st = _
    rw [Jvm.Cond.before_and, ih, List.all_cons]
def words1 : List Jvm.Cond := Jvm.Cond.code x code maxLocals ret :: tables_1
/-- a 'code' word, met by the world's own term for the bytes: nothing is compared byte by byte -/
theorem code_word {y : MethodName} {bytes : ByteArray} {mx : Nat} {rt : Option FieldType} {a : Array Value} {s : State} {m : MethodId} {meth : Method} {c : Code} (h1 : s.methodNamed? y = some m) (h2 : s.vm.method? m = some meth) (h3 : meth.code = some c) (h4 : c.code = bytes)
    (h5 : (c.maxLocals == mx && c.exceptionTable.isEmpty && decide (c.maxStack ≤ mostOperands) && decide (meth.sig.returnType = rt) && !meth.locks && decide (parseMethodDescriptor y.desc = some meth.sig)) = true) : (Jvm.Cond.code y bytes mx rt).before a s = true := by
  simp only [Bool.and_eq_true, beq_iff_eq, Bool.not_eq_true', decide_eq_true_eq] at h5
  obtain ⟨⟨⟨⟨⟨g1, g2⟩, g3⟩, g4⟩, g5⟩, g6⟩ := h5
  simp [Cond.before, Cond.holds, Cond.value, h1, h2, h3, h4, g1, g2, g3, g4, g5, g6]
def isCode : Jvm.Cond → Bool
  | .code _ _ _ _ => true
  | _ => false
theorem all_split {L : List Jvm.Cond} {P : Jvm.Cond → Bool} (h1 : L.all (fun c => isCode c || P c) = true) (h2 : ∀ c ∈ L.filter isCode, P c = true) : L.all P = true := by
  refine List.all_eq_true.mpr fun c hc => ?_
  have h := List.all_eq_true.mp h1 c hc
  rcases Bool.eq_false_or_eq_true (isCode c) with hi | hi
  · exact h2 c (List.mem_filter.mpr ⟨hc, hi⟩)
  · simpa [hi] using h
set_option maxRecDepth 65536 in
theorem w_c0 : (Jvm.Cond.code x code maxLocals ret).before args0 about1 = true := code_word (m := ⟨1, 1⟩) (meth := k1m1) (c := k1c1) (by decide +kernel) rfl rfl rfl (by decide +kernel)
set_option maxRecDepth 65536 in
theorem w_c1 : (Jvm.Cond.code ({ cls := "java/lang/String", name := "valueOf", desc := "(C)Ljava/lang/String;" } : Jvm.MethodName) jdk_42_method_139_code (1 : Nat) (Option.some (Jvm.ClassFile.FieldType.object "java/lang/String"))).before args0 about1 = true := code_word (m := ⟨7, 1⟩) (meth := k7m1) (c := k7c1) (by decide +kernel) rfl rfl rfl (by decide +kernel)
set_option maxRecDepth 65536 in
theorem w_c2 : (Jvm.Cond.code ({ cls := "java/lang/StringLatin1", name := "canEncode", desc := "(C)Z" } : Jvm.MethodName) jdk_43_method_3_code (1 : Nat) (Option.some Jvm.ClassFile.FieldType.boolean)).before args0 about1 = true := code_word (m := ⟨8, 1⟩) (meth := k8m1) (c := k8c1) (by decide +kernel) rfl rfl rfl (by decide +kernel)
set_option maxRecDepth 65536 in
theorem w_c3 : (Jvm.Cond.code ({ cls := "java/lang/StringLatin1", name := "toBytes", desc := "(C)[B" } : Jvm.MethodName) jdk_43_method_46_code (1 : Nat) (Option.some (Jvm.ClassFile.FieldType.array Jvm.ClassFile.FieldType.byte))).before args0 about1 = true := code_word (m := ⟨8, 2⟩) (meth := k8m2) (c := k8c2) (by decide +kernel) rfl rfl rfl (by decide +kernel)
set_option maxRecDepth 65536 in
theorem w_c4 : (Jvm.Cond.code ({ cls := "java/lang/String", name := "<init>", desc := "([BB)V" } : Jvm.MethodName) jdk_42_method_151_code (3 : Nat) (Option.none : Option Jvm.ClassFile.FieldType)).before args0 about1 = true := code_word (m := ⟨7, 2⟩) (meth := k7m2) (c := k7c2) (by decide +kernel) rfl rfl rfl (by decide +kernel)
set_option maxRecDepth 65536 in
theorem w_c5 : (Jvm.Cond.code ({ cls := "java/lang/Object", name := "<init>", desc := "()V" } : Jvm.MethodName) object_method_1_code (1 : Nat) (Option.none : Option Jvm.ClassFile.FieldType)).before args0 about1 = true := code_word (m := ⟨0, 0⟩) (meth := k0m0) (c := k0c0) (by decide +kernel) rfl rfl rfl (by decide +kernel)
set_option maxRecDepth 65536 in
theorem w_c6 : (Jvm.Cond.code ({ cls := "com/example/slackline/slackline/lp/LinearProgram$Variable", name := "<init>", desc := "(Ljava/lang/String;DDDZ)V" } : Jvm.MethodName) prog_65_method_1_code (9 : Nat) (Option.none : Option Jvm.ClassFile.FieldType)).before args0 about1 = true := code_word (m := ⟨10, 0⟩) (meth := k10m0) (c := k10c0) (by decide +kernel) rfl rfl rfl (by decide +kernel)
set_option maxRecDepth 65536 in
theorem w_c7 : (Jvm.Cond.code ({ cls := "java/lang/Record", name := "<init>", desc := "()V" } : Jvm.MethodName) jdk_30_method_1_code (1 : Nat) (Option.none : Option Jvm.ClassFile.FieldType)).before args0 about1 = true := code_word (m := ⟨9, 0⟩) (meth := k9m0) (c := k9c0) (by decide +kernel) rfl rfl rfl (by decide +kernel)
set_option maxRecDepth 65536 in
theorem w_c8 : (Jvm.Cond.code ({ cls := "com/example/slackline/slackline/lp/LinearProgram$Variable", name := "fixed", desc := "()Z" } : Jvm.MethodName) prog_65_method_2_code (1 : Nat) (Option.some Jvm.ClassFile.FieldType.boolean)).before args0 about1 = true := code_word (m := ⟨10, 1⟩) (meth := k10m1) (c := k10c1) (by decide +kernel) rfl rfl rfl (by decide +kernel)
def codes1 : List Jvm.Cond := [Jvm.Cond.code x code maxLocals ret, Jvm.Cond.code ({ cls := "java/lang/String", name := "valueOf", desc := "(C)Ljava/lang/String;" } : Jvm.MethodName) jdk_42_method_139_code (1 : Nat) (Option.some (Jvm.ClassFile.FieldType.object "java/lang/String")), Jvm.Cond.code ({ cls := "java/lang/StringLatin1", name := "canEncode", desc := "(C)Z" } : Jvm.MethodName) jdk_43_method_3_code (1 : Nat) (Option.some Jvm.ClassFile.FieldType.boolean), Jvm.Cond.code ({ cls := "java/lang/StringLatin1", name := "toBytes", desc := "(C)[B" } : Jvm.MethodName) jdk_43_method_46_code (1 : Nat) (Option.some (Jvm.ClassFile.FieldType.array Jvm.ClassFile.FieldType.byte)), Jvm.Cond.code ({ cls := "java/lang/String", name := "<init>", desc := "([BB)V" } : Jvm.MethodName) jdk_42_method_151_code (3 : Nat) (Option.none : Option Jvm.ClassFile.FieldType), Jvm.Cond.code ({ cls := "java/lang/Object", name := "<init>", desc := "()V" } : Jvm.MethodName) object_method_1_code (1 : Nat) (Option.none : Option Jvm.ClassFile.FieldType), Jvm.Cond.code ({ cls := "com/example/slackline/slackline/lp/LinearProgram$Variable", name := "<init>", desc := "(Ljava/lang/String;DDDZ)V" } : Jvm.MethodName) prog_65_method_1_code (9 : Nat) (Option.none : Option Jvm.ClassFile.FieldType), Jvm.Cond.code ({ cls := "java/lang/Record", name := "<init>", desc := "()V" } : Jvm.MethodName) jdk_30_method_1_code (1 : Nat) (Option.none : Option Jvm.ClassFile.FieldType), Jvm.Cond.code ({ cls := "com/example/slackline/slackline/lp/LinearProgram$Variable", name := "fixed", desc := "()Z" } : Jvm.MethodName) prog_65_method_2_code (1 : Nat) (Option.some Jvm.ClassFile.FieldType.boolean)]
set_option maxRecDepth 65536 in
theorem codes_eq : words1.filter isCode = codes1 := rfl
theorem w_codes : ∀ c ∈ words1.filter isCode, c.before args0 about1 = true := by
  rw [codes_eq]
  intro c hc
  simp only [codes1, List.mem_cons, List.not_mem_nil, or_false] at hc
  rcases hc with rfl | rfl | rfl | rfl | rfl | rfl | rfl | rfl | rfl
  · exact w_c0
  · exact w_c1
  · exact w_c2
  · exact w_c3
  · exact w_c4
  · exact w_c5
  · exact w_c6
  · exact w_c7
  · exact w_c8
set_option maxRecDepth 65536 in
theorem w_t1 : (words1.take 24).all (fun c => isCode c || c.before args0 about1) = true := by decide +kernel
set_option maxRecDepth 65536 in
theorem w_t2 : ((words1.drop 24).take 24).all (fun c => isCode c || c.before args0 about1) = true := by decide +kernel
set_option maxRecDepth 65536 in
theorem w_t3 : ((words1.drop 24).drop 24).all (fun c => isCode c || c.before args0 about1) = true := by decide +kernel
theorem w_tables : (allAtoms (Jvm.Cond.code x code maxLocals ret :: tables_1)).before args0 about1 = true := by
  rw [allAtoms_all]
  show words1.all (fun c => c.before args0 about1) = true
  refine all_split ?_ w_codes
  rw [← List.take_append_drop 24 words1, List.all_append, w_t1, ← List.take_append_drop 24 (words1.drop 24), List.all_append, w_t2, w_t3]
  rfl
set_option maxRecDepth 65536 in
theorem w_rest : rest_1_c.before args0 about1 = true := by decide +kernel
set_option maxRecDepth 65536 in
theorem w_case : (Jvm.Cond.and given_1 narrow_1).before args0 about1 = true := by decide +kernel
theorem w_applies : (headSpec (Jvm.Cond.code x code maxLocals ret :: tables_1) room_1).applies x e0.platform about1 = true :=
  (Spec.applies_iff w_frames).mpr ⟨w_running, w_runnable, w_alone, w_named, w_hears, w_ripe, w_room, w_tables⟩
theorem atStart : AtStart classFile x code maxLocals ret World_1 tables_1 room_1 Calls_1 rest_1 Pre_1 launch0 p0 e0 about1 theMethod args0 below0 :=
  ⟨lists_1, trivial, launch0.admits_env _ _ _, launch0.least_env, fairChoices_fair.cas, fairChoices_fair.clock, w_frames, w_args, w_heap, w_applies, trivial, w_rest, w_case⟩
end start1
theorem witness_1 : WitnessClaimed_1 := ⟨start1.p0, start1.e0, start1.about1, start1.theMethod, start1.args0, start1.below0, start1.atStart⟩
end Jvm.Pilot.@@N@@
