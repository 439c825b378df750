import JvmDerived
import JvmDerived.Pilot.@@N@@Statement
import JvmDerived.Pilot.@@N@@Code
set_option linter.unusedVariables false
set_option linter.unusedSimpArgs false
namespace Jvm.Pilot.@@N@@
open Jvm Jvm.ClassFile Sem Op Lib Jvm.Free Jvm.Free.Fl Jvm.Stand Jvm.LawKit Jvm.RoadKit Bundle Jvm.Pilot.@@N@@.Jvm.D
section own_go
/-- where the walk stands, with the two facts that every step asks -/
def Ax (p : Program) (l : Launch) (e : Env) (R : Room) (s : State) (m : MethodId) (args : Array Value) (below : List Frame) (meth : Method) (c : Code) (T : State) (locs : List Loc) (cells slots : Nat) (B : ByteArray) : Prop := Stand p l e R s m args below meth c T locs cells slots ∧ p.tables.exec = Jvm.exec ∧ c.code = B
/-- from this frame the run ends, and P holds of its end -/
def Go (p : Program) (e : Env) (below : List Frame) (P : State → Outcome → Prop) (T : State) (g : JFrame) : Prop := ∃ U o, Steps p.tables e below (T.setTop g) U ∧ U.status = .running ∧ Ended U below o ∧ P U o
variable {p : Program} {l : Launch} {e : Env} {R : Room} {s : State} {m : MethodId} {args : Array Value} {below : List Frame} {meth : Method} {c : Code} {T : State} {locs : List Loc} {cells slots : Nat} {P : State → Outcome → Prop} {B : ByteArray} {pc pc' : Nat} {ls ls' : Array Slot} {st : List Value}
theorem Go.of {T' : State} {g g' : JFrame} (k : ∀ t, Steps p.tables e below (T'.setTop g') t → Steps p.tables e below (T.setTop g) t) (h : Go p e below P T' g') : Go p e below P T g := by
  obtain ⟨U, o, h1, h2⟩ := h
  exact ⟨U, o, k _ h1, h2⟩
theorem Go.tr {T' : State} {g g' : JFrame} (k : Steps p.tables e below (T.setTop g) (T'.setTop g')) (h : Go p e below P T' g') : Go p e below P T g := Go.of (fun _ h => k.trans h) h
theorem Go.cast {g g' : JFrame} (q : g = g') (h : Go p e below P T g') : Go p e below P T g := q ▸ h

theorem g_iadd (A : Ax p l e R s m args below meth c T locs cells slots B) {x : Int32} {y : Int32} (hd : decode B pc = .ok (.iadd, 1)) (hp : pc + 1 = pc') (k : Go p e below P T (mkF m pc' ls (.int (x + y) :: st))) : Go p e below P T (mkF m pc ls (.int y :: .int x :: st)) := by
  subst hp; exact Go.of (fun _ k' => XS.iadd A.1.here A.2.1 rfl (hb A.2.2 hd) rfl k') k
theorem g_isub (A : Ax p l e R s m args below meth c T locs cells slots B) {x : Int32} {y : Int32} (hd : decode B pc = .ok (.isub, 1)) (hp : pc + 1 = pc') (k : Go p e below P T (mkF m pc' ls (.int (x - y) :: st))) : Go p e below P T (mkF m pc ls (.int y :: .int x :: st)) := by
  subst hp; exact Go.of (fun _ k' => XS.isub A.1.here A.2.1 rfl (hb A.2.2 hd) rfl k') k
theorem g_iand (A : Ax p l e R s m args below meth c T locs cells slots B) {x : Int32} {y : Int32} (hd : decode B pc = .ok (.iand, 1)) (hp : pc + 1 = pc') (k : Go p e below P T (mkF m pc' ls (.int (x &&& y) :: st))) : Go p e below P T (mkF m pc ls (.int y :: .int x :: st)) := by
  subst hp; exact Go.of (fun _ k' => XS.iand A.1.here A.2.1 rfl (hb A.2.2 hd) rfl k') k
theorem g_imul (A : Ax p l e R s m args below meth c T locs cells slots B) {x : Int32} {y : Int32} (hd : decode B pc = .ok (.imul, 1)) (hp : pc + 1 = pc') (k : Go p e below P T (mkF m pc' ls (.int (x * y) :: st))) : Go p e below P T (mkF m pc ls (.int y :: .int x :: st)) := by
  subst hp; exact Go.of (fun _ k' => XS.imul A.1.here A.2.1 rfl (hb A.2.2 hd) rfl k') k
theorem g_iaddL (A : Ax p l e R s m args below meth c T locs cells slots B) {x y z : Int32} (hd : decode B pc = .ok (.iadd, 1)) (hz : x + y = z) (hp : pc + 1 = pc') (k : Go p e below P T (mkF m pc' ls (.int z :: st))) : Go p e below P T (mkF m pc ls (.int y :: .int x :: st)) := g_iadd A hd hp (hz.symm ▸ k)
theorem g_isubL (A : Ax p l e R s m args below meth c T locs cells slots B) {x y z : Int32} (hd : decode B pc = .ok (.isub, 1)) (hz : x - y = z) (hp : pc + 1 = pc') (k : Go p e below P T (mkF m pc' ls (.int z :: st))) : Go p e below P T (mkF m pc ls (.int y :: .int x :: st)) := g_isub A hd hp (hz.symm ▸ k)
theorem g_imulL (A : Ax p l e R s m args below meth c T locs cells slots B) {x y z : Int32} (hd : decode B pc = .ok (.imul, 1)) (hz : x * y = z) (hp : pc + 1 = pc') (k : Go p e below P T (mkF m pc' ls (.int z :: st))) : Go p e below P T (mkF m pc ls (.int y :: .int x :: st)) := g_imul A hd hp (hz.symm ▸ k)
theorem g_iandL (A : Ax p l e R s m args below meth c T locs cells slots B) {x y z : Int32} (hd : decode B pc = .ok (.iand, 1)) (hz : x &&& y = z) (hp : pc + 1 = pc') (k : Go p e below P T (mkF m pc' ls (.int z :: st))) : Go p e below P T (mkF m pc ls (.int y :: .int x :: st)) := g_iand A hd hp (hz.symm ▸ k)
theorem g_ixor (A : Ax p l e R s m args below meth c T locs cells slots B) {x : Int32} {y : Int32} (hd : decode B pc = .ok (.ixor, 1)) (hp : pc + 1 = pc') (k : Go p e below P T (mkF m pc' ls (.int (x ^^^ y) :: st))) : Go p e below P T (mkF m pc ls (.int y :: .int x :: st)) := by
  subst hp; exact Go.of (fun _ k' => XT.ixor A.1.here A.2.1 rfl (hb A.2.2 hd) rfl k') k
theorem g_ior (A : Ax p l e R s m args below meth c T locs cells slots B) {x : Int32} {y : Int32} (hd : decode B pc = .ok (.ior, 1)) (hp : pc + 1 = pc') (k : Go p e below P T (mkF m pc' ls (.int (x ||| y) :: st))) : Go p e below P T (mkF m pc ls (.int y :: .int x :: st)) := by
  subst hp; exact Go.of (fun _ k' => XT.ior A.1.here A.2.1 rfl (hb A.2.2 hd) rfl k') k
theorem g_ishl (A : Ax p l e R s m args below meth c T locs cells slots B) {x : Int32} {y : Int32} (hd : decode B pc = .ok (.ishl, 1)) (hp : pc + 1 = pc') (k : Go p e below P T (mkF m pc' ls (.int (x <<< (y &&& 31)) :: st))) : Go p e below P T (mkF m pc ls (.int y :: .int x :: st)) := by
  subst hp; exact Go.of (fun _ k' => XT.ishl A.1.here A.2.1 rfl (hb A.2.2 hd) rfl k') k
theorem g_ishr (A : Ax p l e R s m args below meth c T locs cells slots B) {x : Int32} {y : Int32} (hd : decode B pc = .ok (.ishr, 1)) (hp : pc + 1 = pc') (k : Go p e below P T (mkF m pc' ls (.int (x >>> (y &&& 31)) :: st))) : Go p e below P T (mkF m pc ls (.int y :: .int x :: st)) := by
  subst hp; exact Go.of (fun _ k' => XT.ishr A.1.here A.2.1 rfl (hb A.2.2 hd) rfl k') k
theorem g_iushr (A : Ax p l e R s m args below meth c T locs cells slots B) {x : Int32} {y : Int32} (hd : decode B pc = .ok (.iushr, 1)) (hp : pc + 1 = pc') (k : Go p e below P T (mkF m pc' ls (.int (XT.ushr x y) :: st))) : Go p e below P T (mkF m pc ls (.int y :: .int x :: st)) := by
  subst hp; exact Go.of (fun _ k' => XT.iushr A.1.here A.2.1 rfl (hb A.2.2 hd) rfl k') k
theorem g_idiv (A : Ax p l e R s m args below meth c T locs cells slots B) {x : Int32} {y : Int32} (hd : decode B pc = .ok (.idiv, 1)) (hy : y ≠ 0) (hp : pc + 1 = pc') (k : Go p e below P T (mkF m pc' ls (.int (x / y) :: st))) : Go p e below P T (mkF m pc ls (.int y :: .int x :: st)) := by
  subst hp; exact Go.of (fun _ k' => XS.idiv A.1.here A.2.1 rfl (hb A.2.2 hd) rfl hy k') k
theorem g_ladd (A : Ax p l e R s m args below meth c T locs cells slots B) {x : Int64} {y : Int64} (hd : decode B pc = .ok (.ladd, 1)) (hp : pc + 1 = pc') (k : Go p e below P T (mkF m pc' ls (.long (x + y) :: st))) : Go p e below P T (mkF m pc ls (.long y :: .long x :: st)) := by
  subst hp; exact Go.of (fun _ k' => XT.ladd A.1.here A.2.1 rfl (hb A.2.2 hd) rfl k') k
theorem g_lsub (A : Ax p l e R s m args below meth c T locs cells slots B) {x : Int64} {y : Int64} (hd : decode B pc = .ok (.lsub, 1)) (hp : pc + 1 = pc') (k : Go p e below P T (mkF m pc' ls (.long (x - y) :: st))) : Go p e below P T (mkF m pc ls (.long y :: .long x :: st)) := by
  subst hp; exact Go.of (fun _ k' => XT.lsub A.1.here A.2.1 rfl (hb A.2.2 hd) rfl k') k
theorem g_lmul (A : Ax p l e R s m args below meth c T locs cells slots B) {x : Int64} {y : Int64} (hd : decode B pc = .ok (.lmul, 1)) (hp : pc + 1 = pc') (k : Go p e below P T (mkF m pc' ls (.long (x * y) :: st))) : Go p e below P T (mkF m pc ls (.long y :: .long x :: st)) := by
  subst hp; exact Go.of (fun _ k' => XT.lmul A.1.here A.2.1 rfl (hb A.2.2 hd) rfl k') k
theorem g_land (A : Ax p l e R s m args below meth c T locs cells slots B) {x : Int64} {y : Int64} (hd : decode B pc = .ok (.land, 1)) (hp : pc + 1 = pc') (k : Go p e below P T (mkF m pc' ls (.long (x &&& y) :: st))) : Go p e below P T (mkF m pc ls (.long y :: .long x :: st)) := by
  subst hp; exact Go.of (fun _ k' => XT.land A.1.here A.2.1 rfl (hb A.2.2 hd) rfl k') k
theorem g_lor (A : Ax p l e R s m args below meth c T locs cells slots B) {x : Int64} {y : Int64} (hd : decode B pc = .ok (.lor, 1)) (hp : pc + 1 = pc') (k : Go p e below P T (mkF m pc' ls (.long (x ||| y) :: st))) : Go p e below P T (mkF m pc ls (.long y :: .long x :: st)) := by
  subst hp; exact Go.of (fun _ k' => XT.lor A.1.here A.2.1 rfl (hb A.2.2 hd) rfl k') k
theorem g_lxor (A : Ax p l e R s m args below meth c T locs cells slots B) {x : Int64} {y : Int64} (hd : decode B pc = .ok (.lxor, 1)) (hp : pc + 1 = pc') (k : Go p e below P T (mkF m pc' ls (.long (x ^^^ y) :: st))) : Go p e below P T (mkF m pc ls (.long y :: .long x :: st)) := by
  subst hp; exact Go.of (fun _ k' => XT.lxor A.1.here A.2.1 rfl (hb A.2.2 hd) rfl k') k
theorem g_lshl (A : Ax p l e R s m args below meth c T locs cells slots B) {x : Int64} {y : Int32} (hd : decode B pc = .ok (.lshl, 1)) (hp : pc + 1 = pc') (k : Go p e below P T (mkF m pc' ls (.long (x <<< (y.toInt64 &&& 63)) :: st))) : Go p e below P T (mkF m pc ls (.int y :: .long x :: st)) := by
  subst hp; exact Go.of (fun _ k' => XT.lshl A.1.here A.2.1 rfl (hb A.2.2 hd) rfl k') k
theorem g_lshr (A : Ax p l e R s m args below meth c T locs cells slots B) {x : Int64} {y : Int32} (hd : decode B pc = .ok (.lshr, 1)) (hp : pc + 1 = pc') (k : Go p e below P T (mkF m pc' ls (.long (x >>> (y.toInt64 &&& 63)) :: st))) : Go p e below P T (mkF m pc ls (.int y :: .long x :: st)) := by
  subst hp; exact Go.of (fun _ k' => XT.lshr A.1.here A.2.1 rfl (hb A.2.2 hd) rfl k') k
theorem g_lushr (A : Ax p l e R s m args below meth c T locs cells slots B) {x : Int64} {y : Int32} (hd : decode B pc = .ok (.lushr, 1)) (hp : pc + 1 = pc') (k : Go p e below P T (mkF m pc' ls (.long (XT.ushrL x y) :: st))) : Go p e below P T (mkF m pc ls (.int y :: .long x :: st)) := by
  subst hp; exact Go.of (fun _ k' => XT.lushr A.1.here A.2.1 rfl (hb A.2.2 hd) rfl k') k
theorem g_ldiv (A : Ax p l e R s m args below meth c T locs cells slots B) {x : Int64} {y : Int64} (hd : decode B pc = .ok (.ldiv, 1)) (hy : y ≠ 0) (hp : pc + 1 = pc') (k : Go p e below P T (mkF m pc' ls (.long (x / y) :: st))) : Go p e below P T (mkF m pc ls (.long y :: .long x :: st)) := by
  subst hp; exact Go.of (fun _ k' => XT.ldiv A.1.here A.2.1 rfl (hb A.2.2 hd) rfl hy k') k
theorem g_lrem (A : Ax p l e R s m args below meth c T locs cells slots B) {x y : Int64} (hd : decode B pc = .ok (.lrem, 1)) (hy : y ≠ 0) (hp : pc + 1 = pc') (k : Go p e below P T (mkF m pc' ls (.long (x % y) :: st))) : Go p e below P T (mkF m pc ls (.long y :: .long x :: st)) := by
  subst hp; rw [← lrem_mod] at k; exact Go.of (fun _ k' => XT.lrem A.1.here A.2.1 rfl (hb A.2.2 hd) rfl hy k') k
theorem g_i2s (A : Ax p l e R s m args below meth c T locs cells slots B) {x : Int32} (hd : decode B pc = .ok (.i2s, 1)) (hp : pc + 1 = pc') (k : Go p e below P T (mkF m pc' ls (.int (x.toInt16.toInt32) :: st))) : Go p e below P T (mkF m pc ls (.int x :: st)) := by
  subst hp; exact Go.of (fun _ k' => XT.i2s A.1.here A.2.1 rfl (hb A.2.2 hd) rfl k') k
theorem g_i2b (A : Ax p l e R s m args below meth c T locs cells slots B) {x : Int32} (hd : decode B pc = .ok (.i2b, 1)) (hp : pc + 1 = pc') (k : Go p e below P T (mkF m pc' ls (.int (x.toInt8.toInt32) :: st))) : Go p e below P T (mkF m pc ls (.int x :: st)) := by
  subst hp; exact Go.of (fun _ k' => XT.i2b A.1.here A.2.1 rfl (hb A.2.2 hd) rfl k') k
theorem g_i2c (A : Ax p l e R s m args below meth c T locs cells slots B) {x : Int32} (hd : decode B pc = .ok (.i2c, 1)) (hp : pc + 1 = pc') (k : Go p e below P T (mkF m pc' ls (.int (x.toUInt32.toUInt16.toUInt32.toInt32) :: st))) : Go p e below P T (mkF m pc ls (.int x :: st)) := by
  subst hp; exact Go.of (fun _ k' => XT.i2c A.1.here A.2.1 rfl (hb A.2.2 hd) rfl k') k
theorem g_ineg (A : Ax p l e R s m args below meth c T locs cells slots B) {x : Int32} (hd : decode B pc = .ok (.ineg, 1)) (hp : pc + 1 = pc') (k : Go p e below P T (mkF m pc' ls (.int (-x) :: st))) : Go p e below P T (mkF m pc ls (.int x :: st)) := by
  subst hp; exact Go.of (fun _ k' => XS.ineg A.1.here A.2.1 rfl (hb A.2.2 hd) rfl k') k
theorem g_lneg (A : Ax p l e R s m args below meth c T locs cells slots B) {x : Int64} (hd : decode B pc = .ok (.lneg, 1)) (hp : pc + 1 = pc') (k : Go p e below P T (mkF m pc' ls (.long (-x) :: st))) : Go p e below P T (mkF m pc ls (.long x :: st)) := by
  subst hp; exact Go.of (fun _ k' => XT.lneg A.1.here A.2.1 rfl (hb A.2.2 hd) rfl k') k
theorem g_i2l (A : Ax p l e R s m args below meth c T locs cells slots B) {x : Int32} (hd : decode B pc = .ok (.i2l, 1)) (hp : pc + 1 = pc') (k : Go p e below P T (mkF m pc' ls (.long (x.toInt64) :: st))) : Go p e below P T (mkF m pc ls (.int x :: st)) := by
  subst hp; exact Go.of (fun _ k' => XT.i2l A.1.here A.2.1 rfl (hb A.2.2 hd) rfl k') k
theorem g_l2i (A : Ax p l e R s m args below meth c T locs cells slots B) {x : Int64} (hd : decode B pc = .ok (.l2i, 1)) (hp : pc + 1 = pc') (k : Go p e below P T (mkF m pc' ls (.int (x.toInt32) :: st))) : Go p e below P T (mkF m pc ls (.long x :: st)) := by
  subst hp; exact Go.of (fun _ k' => XT.l2i A.1.here A.2.1 rfl (hb A.2.2 hd) rfl k') k
theorem g_irem (A : Ax p l e R s m args below meth c T locs cells slots B) {x y : Int32} (hd : decode B pc = .ok (.irem, 1)) (hy : y ≠ 0) (hp : pc + 1 = pc') (k : Go p e below P T (mkF m pc' ls (.int (x % y) :: st))) : Go p e below P T (mkF m pc ls (.int y :: .int x :: st)) := by
  subst hp; exact Go.of (fun _ k' => iremM A.1 A.2.1 rfl (hb A.2.2 hd) rfl hy k') k
theorem g_iloadN (A : Ax p l e R s m args below meth c T locs cells slots B) {k : Fin 4} {v : Int32} (hd : decode B pc = .ok (.iload_n k, 1)) (hl : ls[k.val]? = some (.val (.int v))) (hp : pc + 1 = pc') (k : Go p e below P T (mkF m pc' ls (.int v :: st))) : Go p e below P T (mkF m pc ls st) := by
  subst hp; exact Go.of (fun _ k' => XS.iloadN A.1.here A.2.1 rfl (hb A.2.2 hd) hl k') k
theorem g_iload (A : Ax p l e R s m args below meth c T locs cells slots B) {k : Nat} {v : Int32} (hd : decode B pc = .ok (.iload k, 2)) (hl : ls[k]? = some (.val (.int v))) (hp : pc + 2 = pc') (k : Go p e below P T (mkF m pc' ls (.int v :: st))) : Go p e below P T (mkF m pc ls st) := by
  subst hp; exact Go.of (fun _ k' => XS.iload A.1.here A.2.1 rfl (hb A.2.2 hd) hl k') k
theorem g_lloadN (A : Ax p l e R s m args below meth c T locs cells slots B) {k : Fin 4} {v : Int64} (hd : decode B pc = .ok (.lload_n k, 1)) (hl : ls[k.val]? = some (.val (.long v))) (hp : pc + 1 = pc') (k : Go p e below P T (mkF m pc' ls (.long v :: st))) : Go p e below P T (mkF m pc ls st) := by
  subst hp; exact Go.of (fun _ k' => XT.lloadN A.1.here A.2.1 rfl (hb A.2.2 hd) hl k') k
theorem g_lload (A : Ax p l e R s m args below meth c T locs cells slots B) {k : Nat} {v : Int64} (hd : decode B pc = .ok (.lload k, 2)) (hl : ls[k]? = some (.val (.long v))) (hp : pc + 2 = pc') (k : Go p e below P T (mkF m pc' ls (.long v :: st))) : Go p e below P T (mkF m pc ls st) := by
  subst hp; exact Go.of (fun _ k' => XT.lload A.1.here A.2.1 rfl (hb A.2.2 hd) hl k') k
theorem g_aloadN (A : Ax p l e R s m args below meth c T locs cells slots B) {k : Fin 4} {v : Value} (hd : decode B pc = .ok (.aload_n k, 1)) (hl : ls[k.val]? = some (.val v)) (hv : v.isRef = true) (hp : pc + 1 = pc') (k : Go p e below P T (mkF m pc' ls (v :: st))) : Go p e below P T (mkF m pc ls st) := by
  subst hp; exact Go.of (fun _ k' => XS.aloadN A.1.here A.2.1 rfl (hb A.2.2 hd) hl hv k') k
theorem g_aload (A : Ax p l e R s m args below meth c T locs cells slots B) {k : Nat} {v : Value} (hd : decode B pc = .ok (.aload k, 2)) (hl : ls[k]? = some (.val v)) (hv : v.isRef = true) (hp : pc + 2 = pc') (k : Go p e below P T (mkF m pc' ls (v :: st))) : Go p e below P T (mkF m pc ls st) := by
  subst hp; exact Go.of (fun _ k' => XS.aload A.1.here A.2.1 rfl (hb A.2.2 hd) hl hv k') k
theorem g_dloadN (A : Ax p l e R s m args below meth c T locs cells slots B) {k : Fin 4} {v : UInt64} (hd : decode B pc = .ok (.dload_n k, 1)) (hl : ls[k.val]? = some (.val (.double v))) (hp : pc + 1 = pc') (k : Go p e below P T (mkF m pc' ls (.double v :: st))) : Go p e below P T (mkF m pc ls st) := by
  subst hp
  refine Go.of (fun t k' => ?_) k
  have h := A.1.here
  have hx := A.2.1
  have hd' := hb A.2.2 hd
  show Steps p.tables e below (T.setTop { method := m, pc := pc, locals := ls, stack := st, locked := none }) _
  jvm_step h [h.top, hx, hd', hl]
  exact k'
theorem g_dload (A : Ax p l e R s m args below meth c T locs cells slots B) {k : Nat} {v : UInt64} (hd : decode B pc = .ok (.dload k, 2)) (hl : ls[k]? = some (.val (.double v))) (hp : pc + 2 = pc') (k : Go p e below P T (mkF m pc' ls (.double v :: st))) : Go p e below P T (mkF m pc ls st) := by
  subst hp
  refine Go.of (fun t k' => ?_) k
  have h := A.1.here
  have hx := A.2.1
  have hd' := hb A.2.2 hd
  show Steps p.tables e below (T.setTop { method := m, pc := pc, locals := ls, stack := st, locked := none }) _
  jvm_step h [h.top, hx, hd', hl]
  exact k'
theorem g_istoreN (A : Ax p l e R s m args below meth c T locs cells slots B) {k : Fin 4} {x : Int32} (hd : decode B pc = .ok (.istore_n k, 1)) (hl : storeLocals ls k.val (.int x) = some ls') (hp : pc + 1 = pc') (k : Go p e below P T (mkF m pc' ls' st)) : Go p e below P T (mkF m pc ls (.int x :: st)) := by
  subst hp; exact Go.of (fun _ k' => XS.istoreN A.1.here A.2.1 rfl (hb A.2.2 hd) rfl hl k') k
theorem g_istore (A : Ax p l e R s m args below meth c T locs cells slots B) {k : Nat} {x : Int32} (hd : decode B pc = .ok (.istore k, 2)) (hl : storeLocals ls k (.int x) = some ls') (hp : pc + 2 = pc') (k : Go p e below P T (mkF m pc' ls' st)) : Go p e below P T (mkF m pc ls (.int x :: st)) := by
  subst hp; exact Go.of (fun _ k' => XS.istore A.1.here A.2.1 rfl (hb A.2.2 hd) rfl hl k') k
theorem g_lstoreN (A : Ax p l e R s m args below meth c T locs cells slots B) {k : Fin 4} {x : Int64} (hd : decode B pc = .ok (.lstore_n k, 1)) (hl : storeLocals ls k.val (.long x) = some ls') (hp : pc + 1 = pc') (k : Go p e below P T (mkF m pc' ls' st)) : Go p e below P T (mkF m pc ls (.long x :: st)) := by
  subst hp; exact Go.of (fun _ k' => XT.lstoreN A.1.here A.2.1 rfl (hb A.2.2 hd) rfl hl k') k
theorem g_lstore (A : Ax p l e R s m args below meth c T locs cells slots B) {k : Nat} {x : Int64} (hd : decode B pc = .ok (.lstore k, 2)) (hl : storeLocals ls k (.long x) = some ls') (hp : pc + 2 = pc') (k : Go p e below P T (mkF m pc' ls' st)) : Go p e below P T (mkF m pc ls (.long x :: st)) := by
  subst hp; exact Go.of (fun _ k' => XT.lstore A.1.here A.2.1 rfl (hb A.2.2 hd) rfl hl k') k
theorem g_astoreN (A : Ax p l e R s m args below meth c T locs cells slots B) {k : Fin 4} {x : Value} (hd : decode B pc = .ok (.astore_n k, 1)) (hv : x.isRef = true) (hl : storeLocals ls k.val x = some ls') (hp : pc + 1 = pc') (k : Go p e below P T (mkF m pc' ls' st)) : Go p e below P T (mkF m pc ls (x :: st)) := by
  subst hp; exact Go.of (fun _ k' => XS.astoreN A.1.here A.2.1 rfl (hb A.2.2 hd) rfl hv hl k') k
theorem g_astore (A : Ax p l e R s m args below meth c T locs cells slots B) {k : Nat} {x : Value} (hd : decode B pc = .ok (.astore k, 2)) (hv : x.isRef = true) (hl : storeLocals ls k x = some ls') (hp : pc + 2 = pc') (k : Go p e below P T (mkF m pc' ls' st)) : Go p e below P T (mkF m pc ls (x :: st)) := by
  subst hp; exact Go.of (fun _ k' => XS.astore A.1.here A.2.1 rfl (hb A.2.2 hd) rfl hv hl k') k
theorem g_dstoreN (A : Ax p l e R s m args below meth c T locs cells slots B) {k : Fin 4} {x : UInt64} (hd : decode B pc = .ok (.dstore_n k, 1)) (hl : storeLocals ls k.val (.double x) = some ls') (hp : pc + 1 = pc') (k : Go p e below P T (mkF m pc' ls' st)) : Go p e below P T (mkF m pc ls (.double x :: st)) := by
  subst hp
  refine Go.of (fun t k' => ?_) k
  have h := A.1.here
  have hx := A.2.1
  have hd' := hb A.2.2 hd
  show Steps p.tables e below (T.setTop { method := m, pc := pc, locals := ls, stack := .double x :: st, locked := none }) _
  jvm_step h [h.top, hx, hd']
  exact ⟨ls', hl, k'⟩
theorem g_dstore (A : Ax p l e R s m args below meth c T locs cells slots B) {k : Nat} {x : UInt64} (hd : decode B pc = .ok (.dstore k, 2)) (hl : storeLocals ls k (.double x) = some ls') (hp : pc + 2 = pc') (k : Go p e below P T (mkF m pc' ls' st)) : Go p e below P T (mkF m pc ls (.double x :: st)) := by
  subst hp
  refine Go.of (fun t k' => ?_) k
  have h := A.1.here
  have hx := A.2.1
  have hd' := hb A.2.2 hd
  show Steps p.tables e below (T.setTop { method := m, pc := pc, locals := ls, stack := .double x :: st, locked := none }) _
  jvm_step h [h.top, hx, hd']
  exact ⟨ls', hl, k'⟩
theorem g_iconst (A : Ax p l e R s m args below meth c T locs cells slots B) {i : Int} {v : Int32} (hd : decode B pc = .ok (.iconst i, 1)) (hv : Int32.ofInt i = v) (hp : pc + 1 = pc') (k : Go p e below P T (mkF m pc' ls (.int v :: st))) : Go p e below P T (mkF m pc ls st) := by
  subst hp hv; exact Go.of (fun _ k' => XS.iconst A.1.here A.2.1 rfl (hb A.2.2 hd) k') k
theorem g_bipush (A : Ax p l e R s m args below meth c T locs cells slots B) {i : Int} {v : Int32} (hd : decode B pc = .ok (.bipush i, 2)) (hv : (Int8.ofInt i).toInt32 = v) (hp : pc + 2 = pc') (k : Go p e below P T (mkF m pc' ls (.int v :: st))) : Go p e below P T (mkF m pc ls st) := by
  subst hp hv; exact Go.of (fun _ k' => XS.bipush A.1.here A.2.1 rfl (hb A.2.2 hd) k') k
theorem g_sipush (A : Ax p l e R s m args below meth c T locs cells slots B) {i : Int} {v : Int32} (hd : decode B pc = .ok (.sipush i, 3)) (hv : (Int16.ofInt i).toInt32 = v) (hp : pc + 3 = pc') (k : Go p e below P T (mkF m pc' ls (.int v :: st))) : Go p e below P T (mkF m pc ls st) := by
  subst hp hv; exact Go.of (fun _ k' => XS.sipush A.1.here A.2.1 rfl (hb A.2.2 hd) k') k
theorem g_aconst (A : Ax p l e R s m args below meth c T locs cells slots B) (hd : decode B pc = .ok (.aconst_null, 1)) (hp : pc + 1 = pc') (k : Go p e below P T (mkF m pc' ls (.null :: st))) : Go p e below P T (mkF m pc ls st) := by
  subst hp; exact Go.of (fun _ k' => XS.aconstNull A.1.here A.2.1 rfl (hb A.2.2 hd) k') k
theorem g_lconst (A : Ax p l e R s m args below meth c T locs cells slots B) {i : Fin 2} {v : Int64} (hd : decode B pc = .ok (.lconst i, 1)) (hv : Int64.ofNat i = v) (hp : pc + 1 = pc') (k : Go p e below P T (mkF m pc' ls (.long v :: st))) : Go p e below P T (mkF m pc ls st) := by
  subst hp hv; exact Go.of (fun _ k' => XT.lconst A.1.here A.2.1 rfl (hb A.2.2 hd) k') k
theorem g_dconst0 (A : Ax p l e R s m args below meth c T locs cells slots B) (hd : decode B pc = .ok (.dconst 0, 1)) (hp : pc + 1 = pc') (k : Go p e below P T (mkF m pc' ls (.double (0 : UInt64) :: st))) : Go p e below P T (mkF m pc ls st) := by
  subst hp
  refine Go.of (fun t k' => ?_) k
  have h := A.1.here
  have hx := A.2.1
  have hd' := hb A.2.2 hd
  show Steps p.tables e below (T.setTop { method := m, pc := pc, locals := ls, stack := st, locked := none }) _
  jvm_step h [h.top, hx, hd']
  exact k'
theorem g_dconst1 (A : Ax p l e R s m args below meth c T locs cells slots B) (hd : decode B pc = .ok (.dconst 1, 1)) (hp : pc + 1 = pc') (k : Go p e below P T (mkF m pc' ls (.double (4607182418800017408 : UInt64) :: st))) : Go p e below P T (mkF m pc ls st) := by
  subst hp
  refine Go.of (fun t k' => ?_) k
  have h := A.1.here
  have hx := A.2.1
  have hd' := hb A.2.2 hd
  show Steps p.tables e below (T.setTop { method := m, pc := pc, locals := ls, stack := st, locked := none }) _
  jvm_step h [h.top, hx, hd']
  exact k'
theorem g_dadd (A : Ax p l e R s m args below meth c T locs cells slots B) {x y : UInt64} (hd : decode B pc = .ok (.dadd, 1)) (hn : NoNaN64 (FP.dadd x y)) (hp : pc + 1 = pc') (k : Go p e below P T (mkF m pc' ls (.double (FP.dadd x y) :: st))) : Go p e below P T (mkF m pc ls (.double y :: .double x :: st)) := by
  subst hp
  refine Go.of (fun t k' => ?_) k
  have h := A.1.here
  have hx := A.2.1
  have hd' := hb A.2.2 hd
  show Steps p.tables e below (T.setTop { method := m, pc := pc, locals := ls, stack := .double y :: .double x :: st, locked := none }) _
  jvm_step h [h.top, hx, hd', Op.dadd.at_number h.top hn]
  exact k'
theorem g_dsub (A : Ax p l e R s m args below meth c T locs cells slots B) {x y : UInt64} (hd : decode B pc = .ok (.dsub, 1)) (hn : NoNaN64 (FP.dsub x y)) (hp : pc + 1 = pc') (k : Go p e below P T (mkF m pc' ls (.double (FP.dsub x y) :: st))) : Go p e below P T (mkF m pc ls (.double y :: .double x :: st)) := by
  subst hp
  refine Go.of (fun t k' => ?_) k
  have h := A.1.here
  have hx := A.2.1
  have hd' := hb A.2.2 hd
  show Steps p.tables e below (T.setTop { method := m, pc := pc, locals := ls, stack := .double y :: .double x :: st, locked := none }) _
  jvm_step h [h.top, hx, hd', Op.dsub.at_number h.top hn]
  exact k'
theorem g_dmul (A : Ax p l e R s m args below meth c T locs cells slots B) {x y : UInt64} (hd : decode B pc = .ok (.dmul, 1)) (hn : NoNaN64 (FP.dmul x y)) (hp : pc + 1 = pc') (k : Go p e below P T (mkF m pc' ls (.double (FP.dmul x y) :: st))) : Go p e below P T (mkF m pc ls (.double y :: .double x :: st)) := by
  subst hp
  refine Go.of (fun t k' => ?_) k
  have h := A.1.here
  have hx := A.2.1
  have hd' := hb A.2.2 hd
  show Steps p.tables e below (T.setTop { method := m, pc := pc, locals := ls, stack := .double y :: .double x :: st, locked := none }) _
  jvm_step h [h.top, hx, hd', Op.dmul.at_number h.top hn]
  exact k'
theorem g_ddiv (A : Ax p l e R s m args below meth c T locs cells slots B) {x y : UInt64} (hd : decode B pc = .ok (.ddiv, 1)) (hn : NoNaN64 (FP.ddiv x y)) (hp : pc + 1 = pc') (k : Go p e below P T (mkF m pc' ls (.double (FP.ddiv x y) :: st))) : Go p e below P T (mkF m pc ls (.double y :: .double x :: st)) := by
  subst hp
  refine Go.of (fun t k' => ?_) k
  have h := A.1.here
  have hx := A.2.1
  have hd' := hb A.2.2 hd
  show Steps p.tables e below (T.setTop { method := m, pc := pc, locals := ls, stack := .double y :: .double x :: st, locked := none }) _
  jvm_step h [h.top, hx, hd', Op.ddiv.at_number h.top hn]
  exact k'
theorem g_daddL (A : Ax p l e R s m args below meth c T locs cells slots B) {x y z : UInt64} (hd : decode B pc = .ok (.dadd, 1)) (hz : FP.dadd x y = z) (hn : NoNaN64 z) (hp : pc + 1 = pc') (k : Go p e below P T (mkF m pc' ls (.double z :: st))) : Go p e below P T (mkF m pc ls (.double y :: .double x :: st)) := g_dadd A hd (hz.symm ▸ hn) hp (hz.symm ▸ k)
theorem g_dsubL (A : Ax p l e R s m args below meth c T locs cells slots B) {x y z : UInt64} (hd : decode B pc = .ok (.dsub, 1)) (hz : FP.dsub x y = z) (hn : NoNaN64 z) (hp : pc + 1 = pc') (k : Go p e below P T (mkF m pc' ls (.double z :: st))) : Go p e below P T (mkF m pc ls (.double y :: .double x :: st)) := g_dsub A hd (hz.symm ▸ hn) hp (hz.symm ▸ k)
theorem g_dmulL (A : Ax p l e R s m args below meth c T locs cells slots B) {x y z : UInt64} (hd : decode B pc = .ok (.dmul, 1)) (hz : FP.dmul x y = z) (hn : NoNaN64 z) (hp : pc + 1 = pc') (k : Go p e below P T (mkF m pc' ls (.double z :: st))) : Go p e below P T (mkF m pc ls (.double y :: .double x :: st)) := g_dmul A hd (hz.symm ▸ hn) hp (hz.symm ▸ k)
theorem g_ddivL (A : Ax p l e R s m args below meth c T locs cells slots B) {x y z : UInt64} (hd : decode B pc = .ok (.ddiv, 1)) (hz : FP.ddiv x y = z) (hn : NoNaN64 z) (hp : pc + 1 = pc') (k : Go p e below P T (mkF m pc' ls (.double z :: st))) : Go p e below P T (mkF m pc ls (.double y :: .double x :: st)) := g_ddiv A hd (hz.symm ▸ hn) hp (hz.symm ▸ k)
theorem g_dneg (A : Ax p l e R s m args below meth c T locs cells slots B) {x : UInt64} (hd : decode B pc = .ok (.dneg, 1)) (hp : pc + 1 = pc') (k : Go p e below P T (mkF m pc' ls (.double (FP.dneg x) :: st))) : Go p e below P T (mkF m pc ls (.double x :: st)) := by
  subst hp
  refine Go.of (fun t k' => ?_) k
  have h := A.1.here
  have hx := A.2.1
  have hd' := hb A.2.2 hd
  show Steps p.tables e below (T.setTop { method := m, pc := pc, locals := ls, stack := .double x :: st, locked := none }) _
  jvm_step h [h.top, hx, hd']
  exact k'
theorem g_i2d (A : Ax p l e R s m args below meth c T locs cells slots B) {x : Int32} (hd : decode B pc = .ok (.i2d, 1)) (hp : pc + 1 = pc') (k : Go p e below P T (mkF m pc' ls (.double (FP.i2d x) :: st))) : Go p e below P T (mkF m pc ls (.int x :: st)) := by
  subst hp
  refine Go.of (fun t k' => ?_) k
  have h := A.1.here
  have hx := A.2.1
  have hd' := hb A.2.2 hd
  show Steps p.tables e below (T.setTop { method := m, pc := pc, locals := ls, stack := .int x :: st, locked := none }) _
  jvm_step h [h.top, hx, hd']
  exact k'
theorem g_l2d (A : Ax p l e R s m args below meth c T locs cells slots B) {x : Int64} (hd : decode B pc = .ok (.l2d, 1)) (hp : pc + 1 = pc') (k : Go p e below P T (mkF m pc' ls (.double (FP.l2d x) :: st))) : Go p e below P T (mkF m pc ls (.long x :: st)) := by
  subst hp
  refine Go.of (fun t k' => ?_) k
  have h := A.1.here
  have hx := A.2.1
  have hd' := hb A.2.2 hd
  show Steps p.tables e below (T.setTop { method := m, pc := pc, locals := ls, stack := .long x :: st, locked := none }) _
  jvm_step h [h.top, hx, hd']
  exact k'
theorem g_dcmp (A : Ax p l e R s m args below meth c T locs cells slots B) {x y : UInt64} {op : CmpOp} (hd : decode B pc = .ok (.dcmp op, 1)) (hp : pc + 1 = pc') (k : Go p e below P T (mkF m pc' ls (.int (cmpValue (FP.dcmp x y) op) :: st))) : Go p e below P T (mkF m pc ls (.double y :: .double x :: st)) := by
  subst hp
  refine Go.of (fun t k' => ?_) k
  have h := A.1.here
  have hx := A.2.1
  have hd' := hb A.2.2 hd
  show Steps p.tables e below (T.setTop { method := m, pc := pc, locals := ls, stack := .double y :: .double x :: st, locked := none }) _
  jvm_step h [h.top, hx, hd']
  exact k'
theorem g_lcmp (A : Ax p l e R s m args below meth c T locs cells slots B) {x y : Int64} (hd : decode B pc = .ok (.lcmp, 1)) (hp : pc + 1 = pc') (k : Go p e below P T (mkF m pc' ls (.int (XT.cmpL x y) :: st))) : Go p e below P T (mkF m pc ls (.long y :: .long x :: st)) := by
  subst hp; exact Go.of (fun _ k' => XT.lcmp A.1.here A.2.1 rfl (hb A.2.2 hd) rfl k') k
theorem g_dup (A : Ax p l e R s m args below meth c T locs cells slots B) {x : Value} (hd : decode B pc = .ok (.dup, 1)) (hc : x.category = 1) (hp : pc + 1 = pc') (k : Go p e below P T (mkF m pc' ls (x :: x :: st))) : Go p e below P T (mkF m pc ls (x :: st)) := by
  subst hp; exact Go.of (fun _ k' => XS.dup A.1.here A.2.1 rfl (hb A.2.2 hd) rfl hc k') k
theorem g_pop (A : Ax p l e R s m args below meth c T locs cells slots B) {x : Value} (hd : decode B pc = .ok (.pop, 1)) (hc : x.category = 1) (hp : pc + 1 = pc') (k : Go p e below P T (mkF m pc' ls st)) : Go p e below P T (mkF m pc ls (x :: st)) := by
  subst hp; exact Go.of (fun _ k' => XT.pop A.1.here A.2.1 rfl (hb A.2.2 hd) rfl hc k') k
theorem g_iinc (A : Ax p l e R s m args below meth c T locs cells slots B) {k : Nat} {i : Int} {x y : Int32} (hd : decode B pc = .ok (.iinc k i, 3)) (hl : ls[k]? = some (.val (.int x))) (hy : x + Int32.ofInt i = y) (hl' : storeLocals ls k (.int y) = some ls') (hp : pc + 3 = pc') (k : Go p e below P T (mkF m pc' ls' st)) : Go p e below P T (mkF m pc ls st) := by
  subst hp hy; exact Go.of (fun _ k' => XS.iinc A.1.here A.2.1 rfl (hb A.2.2 hd) hl hl' k') k
theorem own_off {pc pc' : Nat} {o : Int} (h : (pc : Int) + o = (pc' : Int)) : 0 ≤ (pc : Int) + o ∧ ((pc : Int) + o).toNat = pc' := by omega
theorem g_goto (A : Ax p l e R s m args below meth c T locs cells slots B) {o : Int} (hd : decode B pc = .ok (.goto o, 3)) (hp : (pc : Int) + o = (pc' : Int)) (k : Go p e below P T (mkF m pc' ls st)) : Go p e below P T (mkF m pc ls st) := Go.of (fun _ k' => XS.goto A.1.here A.2.1 rfl rfl (hb A.2.2 hd) (own_off hp).1 (own_off hp).2 k') k
theorem g_ifY (A : Ax p l e R s m args below meth c T locs cells slots B) {o : Int} {cd : ClassFile.Cond} {x : Int32} (hd : decode B pc = .ok (.ifCond cd o, 3)) (hc : ifCond.holds cd x = true) (hp : (pc : Int) + o = (pc' : Int)) (k : Go p e below P T (mkF m pc' ls st)) : Go p e below P T (mkF m pc ls (.int x :: st)) := Go.of (fun _ k' => XS.ifYes A.1.here A.2.1 rfl rfl (hb A.2.2 hd) rfl hc (own_off hp).1 (own_off hp).2 k') k
theorem g_ifN (A : Ax p l e R s m args below meth c T locs cells slots B) {o : Int} {cd : ClassFile.Cond} {x : Int32} (hd : decode B pc = .ok (.ifCond cd o, 3)) (hc : ifCond.holds cd x = false) (hp : pc + 3 = pc') (k : Go p e below P T (mkF m pc' ls st)) : Go p e below P T (mkF m pc ls (.int x :: st)) := by
  subst hp; exact Go.of (fun _ k' => XS.ifNo A.1.here A.2.1 rfl (hb A.2.2 hd) rfl hc k') k
theorem g_icY (A : Ax p l e R s m args below meth c T locs cells slots B) {o : Int} {cd : ClassFile.Cond} {x y : Int32} (hd : decode B pc = .ok (.if_icmp cd o, 3)) (hc : if_icmp.holds cd x y = true) (hp : (pc : Int) + o = (pc' : Int)) (k : Go p e below P T (mkF m pc' ls st)) : Go p e below P T (mkF m pc ls (.int y :: .int x :: st)) := Go.of (fun _ k' => XS.icmpYes A.1.here A.2.1 rfl rfl (hb A.2.2 hd) rfl hc (own_off hp).1 (own_off hp).2 k') k
theorem g_icN (A : Ax p l e R s m args below meth c T locs cells slots B) {o : Int} {cd : ClassFile.Cond} {x y : Int32} (hd : decode B pc = .ok (.if_icmp cd o, 3)) (hc : if_icmp.holds cd x y = false) (hp : pc + 3 = pc') (k : Go p e below P T (mkF m pc' ls st)) : Go p e below P T (mkF m pc ls (.int y :: .int x :: st)) := by
  subst hp; exact Go.of (fun _ k' => XS.icmpNo A.1.here A.2.1 rfl (hb A.2.2 hd) rfl hc k') k
theorem c0_eq_t {x : Int32} (h : x = 0) : ifCond.holds .eq x = true := (if0 _ _).trans (teq h).1
theorem c0_eq_f {x : Int32} (h : ¬ x = 0) : ifCond.holds .eq x = false := (if0 _ _).trans (feq h).1
theorem c0_ne_t {x : Int32} (h : ¬ x = 0) : ifCond.holds .ne x = true := (if0 _ _).trans (feq h).2
theorem c0_ne_f {x : Int32} (h : x = 0) : ifCond.holds .ne x = false := (if0 _ _).trans (teq h).2
theorem c0_lt_t {x : Int32} (h : x < 0) : ifCond.holds .lt x = true := (if0 _ _).trans (tlt h).1
theorem c0_lt_f {x : Int32} (h : ¬ x < 0) : ifCond.holds .lt x = false := (if0 _ _).trans (flt h).1
theorem c0_ge_t {x : Int32} (h : ¬ x < 0) : ifCond.holds .ge x = true := (if0 _ _).trans (flt h).2.1
theorem c0_ge_f {x : Int32} (h : x < 0) : ifCond.holds .ge x = false := (if0 _ _).trans (tlt h).2.1
theorem c0_gt_t {x : Int32} (h : 0 < x) : ifCond.holds .gt x = true := (if0 _ _).trans (tlt h).2.2.1
theorem c0_gt_f {x : Int32} (h : ¬ 0 < x) : ifCond.holds .gt x = false := (if0 _ _).trans (flt h).2.2.1
theorem c0_le_t {x : Int32} (h : ¬ 0 < x) : ifCond.holds .le x = true := (if0 _ _).trans (flt h).2.2.2
theorem c0_le_f {x : Int32} (h : 0 < x) : ifCond.holds .le x = false := (if0 _ _).trans (tlt h).2.2.2
theorem c2_eq_t {x y : Int32} (h : x = y) : if_icmp.holds .eq x y = true := (teq h).1
theorem c2_eq_f {x y : Int32} (h : ¬ x = y) : if_icmp.holds .eq x y = false := (feq h).1
theorem c2_ne_t {x y : Int32} (h : ¬ x = y) : if_icmp.holds .ne x y = true := (feq h).2
theorem c2_ne_f {x y : Int32} (h : x = y) : if_icmp.holds .ne x y = false := (teq h).2
theorem c2_lt_t {x y : Int32} (h : x < y) : if_icmp.holds .lt x y = true := (tlt h).1
theorem c2_lt_f {x y : Int32} (h : ¬ x < y) : if_icmp.holds .lt x y = false := (flt h).1
theorem c2_ge_t {x y : Int32} (h : ¬ x < y) : if_icmp.holds .ge x y = true := (flt h).2.1
theorem c2_ge_f {x y : Int32} (h : x < y) : if_icmp.holds .ge x y = false := (tlt h).2.1
theorem c2_gt_t {x y : Int32} (h : y < x) : if_icmp.holds .gt x y = true := (tlt h).2.2.1
theorem c2_gt_f {x y : Int32} (h : ¬ y < x) : if_icmp.holds .gt x y = false := (flt h).2.2.1
theorem c2_le_t {x y : Int32} (h : ¬ y < x) : if_icmp.holds .le x y = true := (flt h).2.2.2
theorem c2_le_f {x y : Int32} (h : y < x) : if_icmp.holds .le x y = false := (tlt h).2.2.2
theorem b0_eq_t {C : Prop} [Decidable C] {v : Int32} (e : v = if C then 1 else 0) (h : ¬ C) : ifCond.holds .eq v = true := c0_eq_t (by rw [e, if_neg h])
theorem b0_eq_f {C : Prop} [Decidable C] {v : Int32} (e : v = if C then 1 else 0) (h : C) : ifCond.holds .eq v = false := c0_eq_f (by rw [e, if_pos h]; decide)
theorem b0_ne_t {C : Prop} [Decidable C] {v : Int32} (e : v = if C then 1 else 0) (h : C) : ifCond.holds .ne v = true := c0_ne_t (by rw [e, if_pos h]; decide)
theorem b0_ne_f {C : Prop} [Decidable C] {v : Int32} (e : v = if C then 1 else 0) (h : ¬ C) : ifCond.holds .ne v = false := c0_ne_f (by rw [e, if_neg h])
theorem own_b01 {C : Prop} [Decidable C] {v : Int32} (e : v = if C then 1 else 0) : narrow .boolean (.int v) = .int v := by
  subst e; by_cases h : C
  · rw [if_pos h]; rfl
  · rw [if_neg h]; rfl
theorem own_fb {C : Prop} [Decidable C] {v : Int32} (e : v = if C then 1 else 0) : fits .boolean (.int v) = true := by
  subst e; by_cases h : C
  · rw [if_pos h]; rfl
  · rw [if_neg h]; rfl
theorem own_ndadd {x y : UInt64} (h1 : Fin64 x) (h2 : Fin64 y) : NoNaN64 (FP.dadd x y) := dadd_out h1.noNaN h2
theorem own_ndsub {x y : UInt64} (h1 : Fin64 x) (h2 : Fin64 y) : NoNaN64 (FP.dsub x y) := dsub_out h1.noNaN h2
theorem own_ndmul {x y : UInt64} (h1 : Fin64 x) (h2 : Fin64 y) : NoNaN64 (FP.dmul x y) := dmul_out h1 h2
theorem own_fin {x : UInt64} : Fin64 x ↔ FP.Core.DFin x := fin64_core
theorem own_fneg {x : UInt64} (h : Fin64 x) : Fin64 (FP.dneg x) := by
  obtain ⟨s, c, q, e⟩ := fin64_core.mp h
  exact fin64_core.mpr ⟨!s, c, q, (FP.val64_dneg x).trans (by rw [e]; rfl)⟩
theorem own_self {x : UInt64} (h : Fin64 x) : FP.dcmp x x = some .eq := FP.Core.dcmp_self (fin64_core.mp h).ne_nan
theorem own_sgt {x : UInt64} (h : Fin64 x) : ¬ FP.dcmp x x = some .gt := by rw [own_self h]; decide
theorem own_slt {x : UInt64} (h : Fin64 x) : ¬ FP.dcmp x x = some .lt := by rw [own_self h]; decide
theorem own_and {c d : Jvm.Cond} {a : Array Value} {s : State} (h1 : c.before a s = true) (h2 : d.before a s = true) : (Jvm.Cond.and c d).before a s = true := by rw [Cond.before_and, h1, h2]; rfl
theorem own_isfin {x : UInt64} (h : Fin64 x) : some (Value.int (if Jvm.Free.Fl.relLe (FP.dcmp (x &&& 0x7fffffffffffffff) Jvm.Free.Fl.maxD) = true then (1 : Int32) else 0)) = some (.int (1 : Int32)) := by rw [if_pos ((le_max_iff h.noNaN).mpr h)]
theorem own_isinf {x : UInt64} (h : Fin64 x) : some (Value.int (if Jvm.Free.Fl.relGt (FP.dcmp (x &&& 0x7fffffffffffffff) Jvm.Free.Fl.maxD) = true then (1 : Int32) else 0)) = some (.int (0 : Int32)) := by rw [if_neg (fun h4 => (gt_max_iff h.noNaN).mp h4 h)]
theorem own_dfin {i : Int} {x : UInt64} (h : FP.Core.DInt i x) : Fin64 x := by
  refine fin64_core.mpr ?_
  have q : FP.Core.Whole i (FP.Core.val64 x) := h
  cases e : FP.Core.val64 x with
  | nan => rw [e] at q; exact q.elim
  | inf s => rw [e] at q; exact q.elim
  | fin s c q => exact ⟨s, c, q, e⟩
theorem own_fn {v : Int32} (h : narrow .boolean (.int v) = .int v) : fits .boolean (.int v) = true := by
  have q : v &&& 1 = v := Value.int.inj h
  rcases and_one v with z | z <;> rw [z] at q <;> subst q <;> rfl
/-- a double less than, equal to .. another, as the code asks it -/
abbrev oGe (o : Option Ordering) : Prop := o = some .gt ∨ o = some .eq
abbrev oLe (o : Option Ordering) : Prop := o = some .lt ∨ o = some .eq
theorem d_l_eq_t {o : Option Ordering} (h : o = some .eq) : ifCond.holds .eq (cmpValue o .l) = true := by
  rcases o with _ | _ | _ | _ <;> first | rfl | decide | (exfalso; revert h; decide)
theorem d_l_eq_f {o : Option Ordering} (h : ¬ o = some .eq) : ifCond.holds .eq (cmpValue o .l) = false := by
  rcases o with _ | _ | _ | _ <;> first | rfl | decide | (exfalso; revert h; decide)
theorem d_l_ne_t {o : Option Ordering} (h : ¬ o = some .eq) : ifCond.holds .ne (cmpValue o .l) = true := by
  rcases o with _ | _ | _ | _ <;> first | rfl | decide | (exfalso; revert h; decide)
theorem d_l_ne_f {o : Option Ordering} (h : o = some .eq) : ifCond.holds .ne (cmpValue o .l) = false := by
  rcases o with _ | _ | _ | _ <;> first | rfl | decide | (exfalso; revert h; decide)
theorem d_g_eq_t {o : Option Ordering} (h : o = some .eq) : ifCond.holds .eq (cmpValue o .g) = true := by
  rcases o with _ | _ | _ | _ <;> first | rfl | decide | (exfalso; revert h; decide)
theorem d_g_eq_f {o : Option Ordering} (h : ¬ o = some .eq) : ifCond.holds .eq (cmpValue o .g) = false := by
  rcases o with _ | _ | _ | _ <;> first | rfl | decide | (exfalso; revert h; decide)
theorem d_g_ne_t {o : Option Ordering} (h : ¬ o = some .eq) : ifCond.holds .ne (cmpValue o .g) = true := by
  rcases o with _ | _ | _ | _ <;> first | rfl | decide | (exfalso; revert h; decide)
theorem d_g_ne_f {o : Option Ordering} (h : o = some .eq) : ifCond.holds .ne (cmpValue o .g) = false := by
  rcases o with _ | _ | _ | _ <;> first | rfl | decide | (exfalso; revert h; decide)
theorem d_l_lt_t {o : Option Ordering} (h : ¬ oGe o) : ifCond.holds .lt (cmpValue o .l) = true := by
  rcases o with _ | _ | _ | _ <;> first | rfl | decide | (exfalso; revert h; decide)
theorem d_l_lt_f {o : Option Ordering} (h : oGe o) : ifCond.holds .lt (cmpValue o .l) = false := by
  rcases o with _ | _ | _ | _ <;> first | rfl | decide | (exfalso; revert h; decide)
theorem d_l_ge_t {o : Option Ordering} (h : oGe o) : ifCond.holds .ge (cmpValue o .l) = true := by
  rcases o with _ | _ | _ | _ <;> first | rfl | decide | (exfalso; revert h; decide)
theorem d_l_ge_f {o : Option Ordering} (h : ¬ oGe o) : ifCond.holds .ge (cmpValue o .l) = false := by
  rcases o with _ | _ | _ | _ <;> first | rfl | decide | (exfalso; revert h; decide)
theorem d_l_gt_t {o : Option Ordering} (h : o = some .gt) : ifCond.holds .gt (cmpValue o .l) = true := by
  rcases o with _ | _ | _ | _ <;> first | rfl | decide | (exfalso; revert h; decide)
theorem d_l_gt_f {o : Option Ordering} (h : ¬ o = some .gt) : ifCond.holds .gt (cmpValue o .l) = false := by
  rcases o with _ | _ | _ | _ <;> first | rfl | decide | (exfalso; revert h; decide)
theorem d_l_le_t {o : Option Ordering} (h : ¬ o = some .gt) : ifCond.holds .le (cmpValue o .l) = true := by
  rcases o with _ | _ | _ | _ <;> first | rfl | decide | (exfalso; revert h; decide)
theorem d_l_le_f {o : Option Ordering} (h : o = some .gt) : ifCond.holds .le (cmpValue o .l) = false := by
  rcases o with _ | _ | _ | _ <;> first | rfl | decide | (exfalso; revert h; decide)
theorem d_g_lt_t {o : Option Ordering} (h : o = some .lt) : ifCond.holds .lt (cmpValue o .g) = true := by
  rcases o with _ | _ | _ | _ <;> first | rfl | decide | (exfalso; revert h; decide)
theorem d_g_lt_f {o : Option Ordering} (h : ¬ o = some .lt) : ifCond.holds .lt (cmpValue o .g) = false := by
  rcases o with _ | _ | _ | _ <;> first | rfl | decide | (exfalso; revert h; decide)
theorem d_g_ge_t {o : Option Ordering} (h : ¬ o = some .lt) : ifCond.holds .ge (cmpValue o .g) = true := by
  rcases o with _ | _ | _ | _ <;> first | rfl | decide | (exfalso; revert h; decide)
theorem d_g_ge_f {o : Option Ordering} (h : o = some .lt) : ifCond.holds .ge (cmpValue o .g) = false := by
  rcases o with _ | _ | _ | _ <;> first | rfl | decide | (exfalso; revert h; decide)
theorem d_g_gt_t {o : Option Ordering} (h : ¬ oLe o) : ifCond.holds .gt (cmpValue o .g) = true := by
  rcases o with _ | _ | _ | _ <;> first | rfl | decide | (exfalso; revert h; decide)
theorem d_g_gt_f {o : Option Ordering} (h : oLe o) : ifCond.holds .gt (cmpValue o .g) = false := by
  rcases o with _ | _ | _ | _ <;> first | rfl | decide | (exfalso; revert h; decide)
theorem d_g_le_t {o : Option Ordering} (h : oLe o) : ifCond.holds .le (cmpValue o .g) = true := by
  rcases o with _ | _ | _ | _ <;> first | rfl | decide | (exfalso; revert h; decide)
theorem d_g_le_f {o : Option Ordering} (h : ¬ oLe o) : ifCond.holds .le (cmpValue o .g) = false := by
  rcases o with _ | _ | _ | _ <;> first | rfl | decide | (exfalso; revert h; decide)
theorem l_eq (x y : Int64) : XT.cmpL x y = 0 ↔ x = y := lw_eq x y
theorem l_lt (x y : Int64) : XT.cmpL x y < 0 ↔ x < y := lw_lt x y
theorem l_gt (x y : Int64) : 0 < XT.cmpL x y ↔ y < x := lw_gt x y
theorem g_ret (A : Ax p l e R s m args below meth c T locs cells slots B) {w : Value} {t : FieldType} {i : Instr} {Q : Option Value → Heap → List Loc → Prop} {K S : Nat} (hd : decode B pc = .ok (i, 1)) (hlk : meth.locks = false) (hret : meth.sig.returnType = some t) (hn : narrow t w = w)
    (hi : (i = .ireturn ∧ (t = .int ∨ t = .boolean ∨ t = .byte ∨ t = .char ∨ t = .short) ∧ ∃ z, w = .int z) ∨ (i = .lreturn ∧ t = .long ∧ ∃ z, w = .long z) ∨ (i = .dreturn ∧ t = .double ∧ ∃ z, w = .double z) ∨ (i = .freturn ∧ t = .float ∧ ∃ z, w = .float z) ∨ (i = .areturn ∧ t.isReference = true ∧ w.isRef = true))
    (hK : cells ≤ K) (hS : slots ≤ S) (hQ : Q (some w) T.heap locs) : Go p e below (fun U o => ∃ v L, o = .returned v ∧ Q v U.heap L ∧ FrameEnd s o U L K S) T (mkF m pc ls (w :: st)) := by
  obtain ⟨fs, hr, hrun, hended, hW, hsame⟩ := A.1.leave (v := some w) (fun h => by rw [hret] at h; cases h) hlk
  exact ⟨_, _, retOut A.1 A.2.1 hret hn hi (hb A.2.2 hd) hr, hrun, hended, _, _, rfl, hQ, ⟨_, rfl⟩, hW, hsame.mono hK hS⟩
theorem g_retW {vm1 : Vm} (A : Ax p l e R (s.setVm vm1) m args below meth c T locs cells slots B) {w : Value} {t : FieldType} {i : Instr} {Q : Option Value → Heap → List Loc → Prop} {K S n : Nat} (hSi : s.Since vm1 n) (hN : n ≤ T.heap.size) (hd : decode B pc = .ok (i, 1)) (hlk : meth.locks = false) (hret : meth.sig.returnType = some t) (hn : narrow t w = w)
    (hi : (i = .ireturn ∧ (t = .int ∨ t = .boolean ∨ t = .byte ∨ t = .char ∨ t = .short) ∧ ∃ z, w = .int z) ∨ (i = .lreturn ∧ t = .long ∧ ∃ z, w = .long z) ∨ (i = .dreturn ∧ t = .double ∧ ∃ z, w = .double z) ∨ (i = .freturn ∧ t = .float ∧ ∃ z, w = .float z) ∨ (i = .areturn ∧ t.isReference = true ∧ w.isRef = true))
    (hK : cells ≤ K) (hS : slots ≤ S) (hQ : Q (some w) T.heap locs) : Go p e below (fun U o => ∃ v L, o = .returned v ∧ Q v U.heap L ∧ ReturnedEndW s o U L K S) T (mkF m pc ls (w :: st)) := by
  obtain ⟨fs, hr, hrun, hended, hv, h1, h2, hsame⟩ := A.1.leaveW hSi hN (v := some w) (fun h => by rw [hret] at h; cases h) hlk
  exact ⟨_, _, retOut A.1 A.2.1 hret hn hi (hb A.2.2 hd) hr, hrun, hended, _, _, rfl, hQ, hv, h1, h2, hsame.mono hK hS⟩
theorem g_retV (A : Ax p l e R s m args below meth c T locs cells slots B) {Q : Option Value → Heap → List Loc → Prop} {K S : Nat} (hd : decode B pc = .ok (.return_, 1)) (hlk : meth.locks = false) (hret : meth.sig.returnType = none)
    (hK : cells ≤ K) (hS : slots ≤ S) (hQ : Q none T.heap locs) : Go p e below (fun U o => ∃ v L, o = .returned v ∧ Q v U.heap L ∧ FrameEnd s o U L K S) T (mkF m pc ls []) := by
  obtain ⟨fs, hr, hrun, hended, hW, hsame⟩ := A.1.leave (v := none) (fun _ => rfl) hlk
  exact ⟨_, _, A.1.returnOut A.2.1 hret (hb A.2.2 hd) hr, hrun, hended, _, _, rfl, hQ, ⟨_, rfl⟩, hW, hsame.mono hK hS⟩
theorem g_ldcI (A : Ax p l e R s m args below meth c T locs cells slots B) {Z : State} {a0 : Array Value} {own : String} {i : Nat} {v : Int32} (hZ : Z.Warmed39 s.vm) (hown : s.vm.findClass own = some m.cls) (w : (Jvm.Cond.constant own i v).before a0 Z = true) (hd : decode B pc = .ok (.ldc i, 2)) (hp : pc + 2 = pc') (k : Go p e below P T (mkF m pc' ls (.int v :: st))) : Go p e below P T (mkF m pc ls st) := by
  subst hp; exact Go.of (A.1.ldcInt A.2.1 hown (mvT hZ w) (g := mkF m pc ls st) rfl (hb A.2.2 hd)) k
theorem g_ldcD (A : Ax p l e R s m args below meth c T locs cells slots B) {Z : State} {a0 : Array Value} {own : String} {i : Nat} {v : UInt64} (hZ : Z.Warmed39 s.vm) (hown : s.vm.findClass own = some m.cls) (w : (Jvm.Cond.constantDouble own i v).before a0 Z = true) (hd : decode B pc = .ok (.ldc2_w i, 3)) (hp : pc + 3 = pc') (k : Go p e below P T (mkF m pc' ls (.double v :: st))) : Go p e below P T (mkF m pc ls st) := by
  subst hp; exact Go.of (A.1.ldc2DoubleC A.2.1 hown (mvT hZ w) (g := mkF m pc ls st) rfl (hb A.2.2 hd)) k
theorem g_ldcL (A : Ax p l e R s m args below meth c T locs cells slots B) {Z : State} {a0 : Array Value} {own : String} {i : Nat} {v : Int64} (hZ : Z.Warmed39 s.vm) (hown : s.vm.findClass own = some m.cls) (w : (Jvm.Cond.constantLong own i v).before a0 Z = true) (hd : decode B pc = .ok (.ldc2_w i, 3)) (hp : pc + 3 = pc') (k : Go p e below P T (mkF m pc' ls (.long v :: st))) : Go p e below P T (mkF m pc ls st) := by
  subst hp; exact Go.of (A.1.ldc2Long A.2.1 hown (mvT hZ w) (g := mkF m pc ls st) rfl (hb A.2.2 hd)) k
theorem g_nnY (A : Ax p l e R s m args below meth c T locs cells slots B) {o : Int} {b : Addr} (hd : decode B pc = .ok (.ifnonnull o, 3)) (hp : (pc : Int) + o = (pc' : Int)) (k : Go p e below P T (mkF m pc' ls st)) : Go p e below P T (mkF m pc ls (.ref b :: st)) := Go.of (fun _ k' => XT.ifnonnullYes A.1.here A.2.1 rfl rfl (hb A.2.2 hd) rfl (own_off hp).1 (own_off hp).2 k') k
theorem g_nnN (A : Ax p l e R s m args below meth c T locs cells slots B) {o : Int} (hd : decode B pc = .ok (.ifnonnull o, 3)) (hp : pc + 3 = pc') (k : Go p e below P T (mkF m pc' ls st)) : Go p e below P T (mkF m pc ls (.null :: st)) := by
  subst hp; exact Go.of (fun _ k' => XT.ifnonnullNo A.1.here A.2.1 rfl (hb A.2.2 hd) rfl k') k
theorem g_nuY (A : Ax p l e R s m args below meth c T locs cells slots B) {o : Int} (hd : decode B pc = .ok (.ifnull o, 3)) (hp : (pc : Int) + o = (pc' : Int)) (k : Go p e below P T (mkF m pc' ls st)) : Go p e below P T (mkF m pc ls (.null :: st)) := Go.of (fun _ k' => XS.ifnullYes A.1.here A.2.1 rfl rfl (hb A.2.2 hd) rfl (own_off hp).1 (own_off hp).2 k') k
theorem g_nuN (A : Ax p l e R s m args below meth c T locs cells slots B) {o : Int} {b : Addr} (hd : decode B pc = .ok (.ifnull o, 3)) (hp : pc + 3 = pc') (k : Go p e below P T (mkF m pc' ls st)) : Go p e below P T (mkF m pc ls (.ref b :: st)) := by
  subst hp; exact Go.of (fun _ k' => XS.ifnullNo A.1.here A.2.1 rfl (hb A.2.2 hd) rfl k') k
theorem g_acY (A : Ax p l e R s m args below meth c T locs cells slots B) {o : Int} {cd : ClassFile.ACond} {x y : Value} (hd : decode B pc = .ok (.if_acmp cd o, 3)) (h1 : x.isRef = true) (h2 : y.isRef = true) (hc : XT.acmp cd x y = true) (hp : (pc : Int) + o = (pc' : Int)) (k : Go p e below P T (mkF m pc' ls st)) : Go p e below P T (mkF m pc ls (y :: x :: st)) := Go.of (fun _ k' => XT.acmpYes A.1.here A.2.1 rfl rfl (hb A.2.2 hd) rfl h1 h2 hc (own_off hp).1 (own_off hp).2 k') k
theorem g_acN (A : Ax p l e R s m args below meth c T locs cells slots B) {o : Int} {cd : ClassFile.ACond} {x y : Value} (hd : decode B pc = .ok (.if_acmp cd o, 3)) (h1 : x.isRef = true) (h2 : y.isRef = true) (hc : XT.acmp cd x y = false) (hp : pc + 3 = pc') (k : Go p e below P T (mkF m pc' ls st)) : Go p e below P T (mkF m pc ls (y :: x :: st)) := by
  subst hp; exact Go.of (fun _ k' => XT.acmpNo A.1.here A.2.1 rfl (hb A.2.2 hd) rfl h1 h2 hc k') k
/-- an array of n places: its i-th holds f i -/
def Dar (Z : State) (h : Heap) (a : Addr) (ty : FieldType) (n : Nat) (f : Nat → Value) : Prop := ∃ cl : Cell, RoadKit.Arr Z h a cl ty ∧ cl.slots.size = n ∧ n < 2147483648 ∧ ∀ i, i < n → cl.slots[i]? = some (f i)
variable {Z : State} {h h' : Heap} {a b : Addr} {ty : FieldType} {n : Nat} {f g : Nat → Value} {sl : Nat} {v : Value} {ws : List Addr}
theorem Dar.lt (F : Dar Z h a ty n f) : a < h.size := by obtain ⟨cl, A, -⟩ := F; exact A.lt
theorem Dar.ext (E : Ext h h') (F : Dar Z h a ty n f) : Dar Z h' a ty n f := by obtain ⟨cl, A, r⟩ := F; exact ⟨cl, A.ext E, r⟩
theorem Dar.other (W : Wr h h' b sl v) (F : Dar Z h a ty n f) (q : a ≠ b) : Dar Z h' a ty n f := by obtain ⟨cl, A, r⟩ := F; exact ⟨cl, A.other W q, r⟩
theorem Dar.keep (F : Dar Z h a ty n f) (K : Keep h h' ws) (q : a ∉ ws) : Dar Z h' a ty n f := by obtain ⟨cl, A, r⟩ := F; exact ⟨cl, ⟨K.2.1 a cl A.1 q, A.2⟩, r⟩
theorem Dar.congr (F : Dar Z h a ty n f) (q : ∀ i, i < n → f i = g i) : Dar Z h a ty n g := by obtain ⟨cl, A, r1, r2, r3⟩ := F; exact ⟨cl, A, r1, r2, fun i hi => by rw [← q i hi]; exact r3 i hi⟩
theorem Dar.new {cA : ClassId} {z : Int32} (A : RoadKit.Arr Z h a (newA cA ty z) ty) (hz : z.toNatClampNeg = n) : Dar Z h a ty n (fun _ => defaultValue ty) := by
  refine ⟨_, A, (sz_new _ _ _).trans hz, ?_, fun i hi => by subst hz; simp [newA, hi]⟩
  have := z.toInt_lt
  rw [← hz, Int32.toNatClampNeg]; omega
theorem Dar.ne_exa {a0 : Array Value} {k : Nat} {C : String} (F : Dar Z h a ty n f) (E : Exa Z h b C) (wi : (Jvm.Cond.instantiable C k).before a0 Z = true) : a ≠ b := by obtain ⟨cl, A, -⟩ := F; exact fun q => ne_arr E wi A q.symm
theorem own_ne {a b : Nat} {h : Heap} (g : a = h.size) (q : b < h.size) : b ≠ a := by rw [g]; exact Nat.ne_of_lt q
theorem own_clamp {i : Nat} (hi : i < 2147483648) : (Int32.ofNat i).toNatClampNeg = i ∧ ¬ Int32.ofNat i < 0 := by
  have e : (Int32.ofNat i).toInt = i := Int32.toInt_ofNat_of_lt hi
  refine ⟨by rw [Int32.toNatClampNeg, e]; omega, fun q => ?_⟩
  rw [Int32.lt_iff_toInt_lt, e] at q
  have : (0 : Int32).toInt = 0 := rfl
  omega
theorem Dar.set {i : Nat} (F : Dar Z h a ty n f) (W : Wr h h' a i v) (q : ∀ j, j < n → g j = if j = i then v else f j) : Dar Z h' a ty n g := by
  obtain ⟨cl, A, r1, r2, r3⟩ := F
  refine ⟨_, A.same W, (sz_set _ _ _).trans r1, r2, fun j hj => ?_⟩
  rw [q j hj]
  by_cases e : j = i
  · subst e; rw [if_pos rfl]; simp [Cell.setSlot, r1, hj]
  · rw [if_neg e]; exact (Array.getElem?_setIfInBounds_ne (Ne.symm e)).trans (r3 j hj)
theorem own_in {cl : Cell} {i : Nat} (S : cl.slots.size = n) (hn : n < 2147483648) (hi : i < n) : ¬ (Int32.ofNat i < 0 ∨ cl.slots.size ≤ (Int32.ofNat i).toNatClampNeg) := by
  obtain ⟨q1, q2⟩ := own_clamp (i := i) (by omega)
  rw [q1, S]; exact fun z => z.elim q2 (by omega)
theorem g_daload (A : Ax p l e R s m args below meth c T locs cells slots B) (hZ : Z.Warmed39 s.vm) (eT : T.heap = h) {j : Int32} {i : Nat} {x : UInt64} (F : Dar Z h a .double n f) (hi : i < n) (hj : j = Int32.ofNat i) (hv : f i = .double x) (hd : decode B pc = .ok (.daload, 1)) (hp : pc + 1 = pc') (k : Go p e below P T (mkF m pc' ls (.double x :: st))) : Go p e below P T (mkF m pc ls (.int j :: .ref a :: st)) := by
  subst hp hj
  obtain ⟨cl, A2, r1, r2, r3⟩ := F
  have q := (own_clamp (i := i) (by omega)).1
  exact Go.of (fun t k' => A.1.daload A.2.1 (j := Int32.ofNat i) (v := .double x) (by rw [eT]; exact A2.1) (State.isArrayOf_alike hZ.alike A2.2.1) A2.2.2 (own_in r1 r2 hi) (by rw [q, ← hv]; exact r3 i hi) (g := mkF m pc ls (.int (Int32.ofNat i) :: .ref a :: st)) rfl rfl (hb A.2.2 hd) t k') k
theorem g_iaload (A : Ax p l e R s m args below meth c T locs cells slots B) (hZ : Z.Warmed39 s.vm) (eT : T.heap = h) {j : Int32} {i : Nat} {x : Int32} (F : Dar Z h a .int n f) (hi : i < n) (hj : j = Int32.ofNat i) (hv : f i = .int x) (hd : decode B pc = .ok (.iaload, 1)) (hp : pc + 1 = pc') (k : Go p e below P T (mkF m pc' ls (.int x :: st))) : Go p e below P T (mkF m pc ls (.int j :: .ref a :: st)) := by
  subst hp hj
  obtain ⟨cl, A2, r1, r2, r3⟩ := F
  have q := (own_clamp (i := i) (by omega)).1
  exact Go.of (fun t k' => A.1.iaload A.2.1 (j := Int32.ofNat i) (v := .int x) (by rw [eT]; exact A2.1) (State.isArrayOf_alike hZ.alike A2.2.1) A2.2.2 (own_in r1 r2 hi) (by rw [q, ← hv]; exact r3 i hi) (g := mkF m pc ls (.int (Int32.ofNat i) :: .ref a :: st)) rfl rfl (hb A.2.2 hd) t k') k
theorem g_baload (A : Ax p l e R s m args below meth c T locs cells slots B) (hZ : Z.Warmed39 s.vm) (eT : T.heap = h) {j : Int32} {i : Nat} {x : Int32} (F : Dar Z h a .boolean n f) (hi : i < n) (hj : j = Int32.ofNat i) (hv : f i = .int x) (hd : decode B pc = .ok (.baload, 1)) (hp : pc + 1 = pc') (k : Go p e below P T (mkF m pc' ls (.int x :: st))) : Go p e below P T (mkF m pc ls (.int j :: .ref a :: st)) := by
  subst hp hj
  obtain ⟨cl, A2, r1, r2, r3⟩ := F
  have q := (own_clamp (i := i) (by omega)).1
  exact Go.of (fun t k' => A.1.baloadBooleans A.2.1 (j := Int32.ofNat i) (v := .int x) (by rw [eT]; exact A2.1) (State.isArrayOf_alike hZ.alike A2.2.1) A2.2.2 (own_in r1 r2 hi) (by rw [q, ← hv]; exact r3 i hi) (g := mkF m pc ls (.int (Int32.ofNat i) :: .ref a :: st)) rfl rfl (hb A.2.2 hd) t k') k
theorem g_baloadB (A : Ax p l e R s m args below meth c T locs cells slots B) (hZ : Z.Warmed39 s.vm) (eT : T.heap = h) {j : Int32} {i : Nat} {x : Int32} (F : Dar Z h a .byte n f) (hi : i < n) (hj : j = Int32.ofNat i) (hv : f i = .int x) (hd : decode B pc = .ok (.baload, 1)) (hp : pc + 1 = pc') (k : Go p e below P T (mkF m pc' ls (.int x :: st))) : Go p e below P T (mkF m pc ls (.int j :: .ref a :: st)) := by
  subst hp hj
  obtain ⟨cl, A2, r1, r2, r3⟩ := F
  have q := (own_clamp (i := i) (by omega)).1
  exact Go.of (fun t k' => A.1.baloadBytes A.2.1 (j := Int32.ofNat i) (v := .int x) (by rw [eT]; exact A2.1) (State.isArrayOf_alike hZ.alike A2.2.1) A2.2.2 (own_in r1 r2 hi) (by rw [q, ← hv]; exact r3 i hi) (g := mkF m pc ls (.int (Int32.ofNat i) :: .ref a :: st)) rfl rfl (hb A.2.2 hd) t k') k
theorem g_alen (A : Ax p l e R s m args below meth c T locs cells slots B) (hZ : Z.Warmed39 s.vm) (eT : T.heap = h) (F : Dar Z h a ty n f) (hd : decode B pc = .ok (.arraylength, 1)) {z : Int32} (hz : Int32.ofNat n = z) (hp : pc + 1 = pc') (k : Go p e below P T (mkF m pc' ls (.int z :: st))) : Go p e below P T (mkF m pc ls (.ref a :: st)) := by
  subst hp hz
  obtain ⟨cl, A2, r1, r2, r3⟩ := F
  exact Go.of (fun t k' => A.1.arraylength A.2.1 (cell := cl) (by rw [eT]; exact A2.1) (State.isArrayOf_alike hZ.alike A2.2.1) (g := mkF m pc ls (.ref a :: st)) rfl (rest := st) rfl (hb A.2.2 hd) t (by rw [r1]; exact k')) k
theorem s_dastore (A : Ax p l e R s m args below meth c T locs cells slots B) (hZ : Z.Warmed39 s.vm) (eT : T.heap = h) {j : Int32} {i : Nat} {x : UInt64} (F : Dar Z h a .double n f) (hi : i < n) (hj : j = Int32.ofNat i) (hd : decode B pc = .ok (.dastore, 1)) (hp : pc + 1 = pc') :
    ∃ T' h', Ax p l e R s m args below meth c T' (locs ++ [⟨a, i⟩]) cells slots B ∧ T'.heap = h' ∧ Wr h h' a i (.double x) ∧ ∀ {P : State → Outcome → Prop}, Go p e below P T' (mkF m pc' ls st) → Go p e below P T (mkF m pc ls (.double x :: .int j :: .ref a :: st)) := by
  subst hp hj
  obtain ⟨cl, A2, r1, r2, r3⟩ := F
  have q := (own_clamp (i := i) (by omega)).1
  obtain ⟨X', st'⟩ := A.1.dastore A.2.1 (by rw [eT]; exact A2.1) (State.isArrayOf_alike hZ.alike A2.2.1) A2.2.2 (own_in r1 r2 hi) (x := x) (g := mkF m pc ls (.double x :: .int (Int32.ofNat i) :: .ref a :: st)) rfl rfl (hb A.2.2 hd)
  rw [q] at X' st'
  exact ⟨_, _, ⟨X', A.2⟩, rfl, ⟨cl, A2.1, A2.plain, by rw [r1]; exact hi, by rw [← eT]; rfl⟩, fun k => Go.of st' k⟩
theorem s_iastore (A : Ax p l e R s m args below meth c T locs cells slots B) (hZ : Z.Warmed39 s.vm) (eT : T.heap = h) {j : Int32} {i : Nat} {x : Int32} (F : Dar Z h a .int n f) (hi : i < n) (hj : j = Int32.ofNat i) (hd : decode B pc = .ok (.iastore, 1)) (hp : pc + 1 = pc') :
    ∃ T' h', Ax p l e R s m args below meth c T' (locs ++ [⟨a, i⟩]) cells slots B ∧ T'.heap = h' ∧ Wr h h' a i (.int x) ∧ ∀ {P : State → Outcome → Prop}, Go p e below P T' (mkF m pc' ls st) → Go p e below P T (mkF m pc ls (.int x :: .int j :: .ref a :: st)) := by
  subst hp hj
  obtain ⟨cl, A2, r1, r2, r3⟩ := F
  have q := (own_clamp (i := i) (by omega)).1
  obtain ⟨T', h', X', e', W, st'⟩ := stI A.1 A.2.1 hZ eT A2 (own_in r1 r2 hi) (x := x) (g := mkF m pc ls (.int x :: .int (Int32.ofNat i) :: .ref a :: st)) rfl rfl (hb A.2.2 hd)
  rw [q] at X' W
  exact ⟨_, _, ⟨X', A.2⟩, e', W, fun k => Go.of st' k⟩
theorem s_zastore (A : Ax p l e R s m args below meth c T locs cells slots B) (hZ : Z.Warmed39 s.vm) (eT : T.heap = h) {j : Int32} {i : Nat} {x : Int32} (F : Dar Z h a .boolean n f) (hi : i < n) (hj : j = Int32.ofNat i) (hx1 : narrow .boolean (.int x) = .int x) (hd : decode B pc = .ok (.bastore, 1)) (hp : pc + 1 = pc') :
    ∃ T' h', Ax p l e R s m args below meth c T' (locs ++ [⟨a, i⟩]) cells slots B ∧ T'.heap = h' ∧ Wr h h' a i (.int x) ∧ ∀ {P : State → Outcome → Prop}, Go p e below P T' (mkF m pc' ls st) → Go p e below P T (mkF m pc ls (.int x :: .int j :: .ref a :: st)) := by
  subst hp hj
  obtain ⟨cl, A2, r1, r2, r3⟩ := F
  have q := (own_clamp (i := i) (by omega)).1
  obtain ⟨T', h', X', e', W, st'⟩ := stZ A.1 A.2.1 hZ eT A2 (own_in r1 r2 hi) (x := x) (g := mkF m pc ls (.int x :: .int (Int32.ofNat i) :: .ref a :: st)) rfl rfl (hb A.2.2 hd)
  have q2 : nar .boolean x = x := Value.int.inj hx1
  rw [q] at X' W; rw [q2] at W
  exact ⟨_, _, ⟨X', A.2⟩, e', W, fun k => Go.of st' k⟩
end own_go
theorem own_arv1 {Z : State} {h : Heap} {b : Addr} {k : ClassId} {x : Int32} (F : Arv Z h b k .byte (1 : Int32) [.int x] (.int 0)) : Dar Z h b .byte 1 (fun _ => .int x) := by
  obtain ⟨c, A, -, r2, -, H, -⟩ := F
  have e : c.slots.size = 1 := r2
  refine ⟨c, A, e, by decide, fun i hi => ?_⟩
  obtain rfl : i = 0 := by omega
  exact H 0 (by omega)
theorem own_ints {first s : State} {o : Option Outcome} {args : Array Value} {idx : List Nat} {t : Term} {k : Int32} (h : (Jvm.Cond.eq t (Jvm.Term.int k)).value args first o s idx = some true) : t.eval args first o idx s = some (.int k) := by
  cases ht : t.eval args first o idx s with
  | none => simp [Cond.value, ht] at h
  | some v => cases v <;> simp [Cond.value, ht, Term.eval] at h ⊢ <;> exact h
theorem own_fld {s : State} {args : Array Value} {t : Term} {C n d : String} {a : Addr} {v : Value} (ht : t.eval args s none [] s = some (.ref a)) (h : (Term.field t C n d).eval args s none [] s = some v) : Fld s s.heap a C n d v := Fld.start (by simpa [Term.eval, ht] using h)
theorem own_dar1 {s : State} {args : Array Value} {t : Term} {k : Int32} (hA : (Jvm.Cond.arrayOf t .byte).value args s none s [] = some true) (hL : (Jvm.Cond.eq (.length t) (.int (1 : Int32))).value args s none s [] = some true) (hE : (Jvm.Cond.eq (.elem t (.int (0 : Int32))) (.int k)).value args s none s [] = some true) : ∃ b, t.eval args s none [] s = some (.ref b) ∧ Dar s s.heap b .byte 1 (fun _ => .int k) := by
  have hlen := own_ints hL
  obtain ⟨sd, SA, hev, harrAt, -⟩ := Term.length_spec hlen
  have h31 := Jvm.Free.SBG.length_lt hev harrAt hlen
  have hsz : SA.slots.size = 1 := by
    have e : (Term.length t).eval args s none [] s = some (.int (Int32.ofNat SA.slots.size)) := by simp [Term.eval, hev, harrAt, h31]
    have h2 : Int32.ofNat SA.slots.size = Int32.ofNat 1 := by simpa using Option.some.inj (e.symm.trans hlen)
    have := congrArg Int32.toInt h2
    rw [Int32.toInt_ofNat_small h31, Int32.toInt_ofNat_small (by omega)] at this; omega
  have h0 : SA.slots[0]? = some (.int k) := by
    have e1 := own_ints hE
    rw [Jvm.Free.SBG.elem_at (ix := .int (0 : Int32)) (i := 0) hev harrAt (by omega) h31 rfl] at e1; exact e1
  obtain ⟨c, A⟩ := Arr.start hev hA
  have hc : c = SA := by
    have q := harrAt
    simp only [State.arrayAt?, Option.bind_eq_bind, A.1, Option.bind_some] at q
    grind
  subst hc
  refine ⟨sd, hev, c, A, hsz, by decide, fun i hi => ?_⟩
  obtain rfl : i = 0 := by omega
  exact h0
theorem own_ref {Z : State} {h : Heap} {a b c : Addr} {C n d : String} (F : Fld Z h a C n d (.ref b)) (G : Fld Z h a C n d (.ref c)) : b = c := by
  by_cases q : b = c
  · exact q
  · exact absurd rfl (Fld.ne F G (fun z => q (Value.ref.inj z)))
theorem own_dne {Z : State} {h : Heap} {b : Addr} {x y : Int32} (F : Dar Z h b .byte 1 (fun _ => .int x)) (G : Dar Z h b .byte 1 (fun _ => .int y)) : x = y := by
  obtain ⟨c, A, -, -, r⟩ := F
  obtain ⟨c', A', -, -, r'⟩ := G
  cases A.1.symm.trans A'.1
  exact Value.int.inj (Option.some.inj ((r 0 (by decide)).symm.trans (r' 0 (by decide))))
theorem own_nn (x : UInt64) : FP.dneg (FP.dneg x) = x := by
  show (x ^^^ _) ^^^ _ = x
  rw [UInt64.xor_assoc, UInt64.xor_self, UInt64.xor_zero]
theorem own_nns {x : UInt64} (h : Fin64 x) : FP.dcmp x (FP.dneg (FP.dneg x)) = some .eq := by rw [own_nn]; exact own_self h
theorem d1_0 : decode prog_35_method_6_code 0 = .ok (.aload_n 0, 1) := by decide +kernel
theorem d1_1 : decode prog_35_method_6_code 1 = .ok (.getstatic 3, 3) := by decide +kernel
theorem d1_4 : decode prog_35_method_6_code 4 = .ok (.if_acmp .ne 7, 3) := by decide +kernel
theorem d1_7 : decode prog_35_method_6_code 7 = .ok (.dload_n 1, 1) := by decide +kernel
theorem d1_8 : decode prog_35_method_6_code 8 = .ok (.goto 5, 3) := by decide +kernel
theorem d1_11 : decode prog_35_method_6_code 11 = .ok (.dload_n 1, 1) := by decide +kernel
theorem d1_12 : decode prog_35_method_6_code 12 = .ok (.dneg, 1) := by decide +kernel
theorem d1_13 : decode prog_35_method_6_code 13 = .ok (.dreturn, 1) := by decide +kernel
theorem pn_0 : plainName "com/example/slackline/slackline/link/Direction" = true := by first | (simp [plainName, overriddenIn]; done) | decide +kernel
theorem ef1 (m : MethodId) (a1 : Addr) (x1 : UInt64) : entryFrame m #[(.ref a1), (.double x1)] 3 = mkF m 0 #[.val (.ref a1), .val (.double x1), .second] [] := by first | (simp [entryFrame, mkF, argsToLocals, Value.category]; done) | rfl
def QU (Z : State) (a1 : Addr) (x1 : UInt64) (h0 : Heap) (n0 : Nat) (v : Option Value) (h : Heap) (L : List Loc) : Prop := v = some (.double x1) ∧ Fr n0 L ∧ h = h0
set_option maxRecDepth 65536 in
set_option maxHeartbeats 40000000 in
theorem rmU (l : Launch) (Z : State) (a0 : Array Value) (hw : ∀ d ∈ tables_1, d.before a0 Z = true) (ws : List Jvm.Cond) (a1 : Addr) (x1 : UInt64) (h0 : Heap) (n0 : Nat) (Z0 : n0 ≤ h0.size) (S2 : Sta Z h0 "com/example/slackline/slackline/link/Direction" "UV" "Lcom/example/slackline/slackline/link/Direction;" (.ref a1)) :
    MetFree l (⟨"com/example/slackline/slackline/link/Direction", "net", "(D)D"⟩ : MethodName) (head1 (Jvm.Cond.code (⟨"com/example/slackline/slackline/link/Direction", "net", "(D)D"⟩ : MethodName) prog_35_method_6_code 3 (some .double) :: ws) ({ frames := 0, cells := 0, slots := 0, locals := 0 } : Room)) (fun a U => a = #[(.ref a1), (.double x1)] ∧ Z.Warmed39 U.vm ∧ U.heap = h0) (fun _ _ _ _ _ => True) (fun _ U o U' => ∃ v L, o = .returned v ∧ QU Z a1 x1 h0 n0 v U'.heap L ∧ FrameEnd U o U' L 0 0) := by
  refine MetFree.of_bodySF (plainFor_of_name pn_0) hisR ?_
  intro p e s m args below meth c s₁ Bd hml0 hP hK
  obtain ⟨rfl, hZ, hh⟩ := hP
  have hx := Bd.exec
  have hby := Bd.bytes
  have hml : c.maxLocals = 3 := hml0
  have hown : s.vm.findClass "com/example/slackline/slackline/link/Direction" = some m.cls := findClass_of_methodNamed Bd.named
  have hnm := (name_of_methodNamed Bd.named Bd.method).1
  have X0 : Stand p l e ({ frames := 0, cells := 0, slots := 0, locals := 0 } : Room) s m #[(.ref a1), (.double x1)] below meth c s₁ [] 0 0 := Stand.of_body Bd
  have e0 : s₁.heap = h0 := by rw [← hh, Bd.state]; rfl
  have N0 := Fr.nil n0
  have A0 := (⟨X0, hx, hby⟩ : Ax _ _ _ _ _ _ _ _ _ _ _ _ _ _ _)
  show Go p e below (fun U o => ∃ v L, o = .returned v ∧ QU Z a1 x1 h0 n0 v U.heap L ∧ FrameEnd s o U L 0 0) s₁ (entryFrame m #[(.ref a1), (.double x1)] 3)
  refine Go.cast (ef1 m a1 x1) ?_
  refine g_aloadN A0 d1_0 rfl rfl (pc' := 1) rfl ?_
  obtain ⟨T3, X3, e3, st3⟩ := getS X0 hx hZ hown (host := "") (hw _ (List.mem_of_getElem? (i := 10) rfl)) Via.refl e0 S2 (g := (mkF m 1 #[.val (.ref a1), .val (.double x1), .second] [(.ref a1)])) rfl (hb hby d1_1)
  refine Go.of (g' := (mkF m 4 #[.val (.ref a1), .val (.double x1), .second] [(.ref a1), (.ref a1)])) st3 ?_
  have A4 := (⟨X3, hx, hby⟩ : Ax _ _ _ _ _ _ _ _ _ _ _ _ _ _ _)
  refine g_acN A4 d1_4 rfl rfl (by simp [XT.acmp]) (pc' := 7) rfl ?_
  refine g_dloadN A4 d1_7 rfl (pc' := 8) rfl ?_
  refine g_goto A4 d1_8 (pc' := 13) rfl ?_
  exact g_ret (Q := QU Z a1 x1 h0 n0) A4 d1_13 Bd.notSynchronized Bd.returns rfl (Or.inr (Or.inr (Or.inl ⟨rfl, rfl, _, rfl⟩))) (by decide) (by decide) (by rw [e3]; exact ⟨rfl, N0, rfl⟩)
theorem ef5 (m : MethodId) (a1 : Addr) (x1 : UInt64) (zu : Addr) : entryFrame m #[(.ref a1), (.double x1)] 3 = mkF m 0 #[.val (.ref a1), .val (.double x1), .second] [] := by first | (simp [entryFrame, mkF, argsToLocals, Value.category]; done) | rfl
def QV (Z : State) (a1 : Addr) (x1 : UInt64) (zu : Addr) (h0 : Heap) (n0 : Nat) (v : Option Value) (h : Heap) (L : List Loc) : Prop := v = some (.double (FP.dneg x1)) ∧ Fr n0 L ∧ h = h0
set_option maxRecDepth 65536 in
set_option maxHeartbeats 40000000 in
theorem rmV (l : Launch) (Z : State) (a0 : Array Value) (hw : ∀ d ∈ tables_1, d.before a0 Z = true) (ws : List Jvm.Cond) (a1 : Addr) (x1 : UInt64) (zu : Addr) (h0 : Heap) (n0 : Nat) (Z0 : n0 ≤ h0.size) (S6 : Sta Z h0 "com/example/slackline/slackline/link/Direction" "UV" "Lcom/example/slackline/slackline/link/Direction;" (.ref zu)) (ne7 : a1 ≠ zu) :
    MetFree l (⟨"com/example/slackline/slackline/link/Direction", "net", "(D)D"⟩ : MethodName) (head1 (Jvm.Cond.code (⟨"com/example/slackline/slackline/link/Direction", "net", "(D)D"⟩ : MethodName) prog_35_method_6_code 3 (some .double) :: ws) ({ frames := 0, cells := 0, slots := 0, locals := 0 } : Room)) (fun a U => a = #[(.ref a1), (.double x1)] ∧ Z.Warmed39 U.vm ∧ U.heap = h0) (fun _ _ _ _ _ => True) (fun _ U o U' => ∃ v L, o = .returned v ∧ QV Z a1 x1 zu h0 n0 v U'.heap L ∧ FrameEnd U o U' L 0 0) := by
  refine MetFree.of_bodySF (plainFor_of_name pn_0) hisR ?_
  intro p e s m args below meth c s₁ Bd hml0 hP hK
  obtain ⟨rfl, hZ, hh⟩ := hP
  have hx := Bd.exec
  have hby := Bd.bytes
  have hml : c.maxLocals = 3 := hml0
  have hown : s.vm.findClass "com/example/slackline/slackline/link/Direction" = some m.cls := findClass_of_methodNamed Bd.named
  have hnm := (name_of_methodNamed Bd.named Bd.method).1
  have X0 : Stand p l e ({ frames := 0, cells := 0, slots := 0, locals := 0 } : Room) s m #[(.ref a1), (.double x1)] below meth c s₁ [] 0 0 := Stand.of_body Bd
  have e0 : s₁.heap = h0 := by rw [← hh, Bd.state]; rfl
  have N0 := Fr.nil n0
  have A0 := (⟨X0, hx, hby⟩ : Ax _ _ _ _ _ _ _ _ _ _ _ _ _ _ _)
  show Go p e below (fun U o => ∃ v L, o = .returned v ∧ QV Z a1 x1 zu h0 n0 v U.heap L ∧ FrameEnd s o U L 0 0) s₁ (entryFrame m #[(.ref a1), (.double x1)] 3)
  refine Go.cast (ef5 m a1 x1 zu) ?_
  refine g_aloadN A0 d1_0 rfl rfl (pc' := 1) rfl ?_
  obtain ⟨T8, X8, e8, st8⟩ := getS X0 hx hZ hown (host := "") (hw _ (List.mem_of_getElem? (i := 10) rfl)) Via.refl e0 S6 (g := (mkF m 1 #[.val (.ref a1), .val (.double x1), .second] [(.ref a1)])) rfl (hb hby d1_1)
  refine Go.of (g' := (mkF m 4 #[.val (.ref a1), .val (.double x1), .second] [(.ref zu), (.ref a1)])) st8 ?_
  have A9 := (⟨X8, hx, hby⟩ : Ax _ _ _ _ _ _ _ _ _ _ _ _ _ _ _)
  refine g_acY A9 d1_4 rfl rfl (by simp [XT.acmp, ne7]) (pc' := 11) rfl ?_
  refine g_dloadN A9 d1_11 rfl (pc' := 12) rfl ?_
  refine g_dneg A9 d1_12 (pc' := 13) rfl ?_
  exact g_ret (Q := QV Z a1 x1 zu h0 n0) A9 d1_13 Bd.notSynchronized Bd.returns rfl (Or.inr (Or.inr (Or.inl ⟨rfl, rfl, _, rfl⟩))) (by decide) (by decide) (by rw [e8]; exact ⟨rfl, N0, rfl⟩)
theorem d2_0 : decode prog_35_method_5_code 0 = .ok (.aload_n 0, 1) := by decide +kernel
theorem d2_1 : decode prog_35_method_5_code 1 = .ok (.getfield 33, 3) := by decide +kernel
theorem d2_4 : decode prog_35_method_5_code 4 = .ok (.areturn, 1) := by decide +kernel
theorem ef10 (m : MethodId) (a1 : Addr) (x2 : Addr) : entryFrame m #[(.ref a1)] 1 = mkF m 0 #[.val (.ref a1)] [] := by first | (simp [entryFrame, mkF, argsToLocals, Value.category]; done) | rfl
def Q2 (Z : State) (a1 : Addr) (x2 : Addr) (h0 : Heap) (n0 : Nat) (v : Option Value) (h : Heap) (L : List Loc) : Prop := v = some (.ref x2) ∧ Fr n0 L ∧ h = h0
set_option maxRecDepth 65536 in
set_option maxHeartbeats 40000000 in
theorem rm2 (l : Launch) (Z : State) (a0 : Array Value) (hw : ∀ d ∈ tables_1, d.before a0 Z = true) (ws : List Jvm.Cond) (a1 : Addr) (x2 : Addr) (h0 : Heap) (n0 : Nat) (Z0 : n0 ≤ h0.size) (F11 : Fld Z h0 a1 "com/example/slackline/slackline/link/Direction" "payer" "Ljava/lang/String;" (.ref x2)) :
    MetFree l (⟨"com/example/slackline/slackline/link/Direction", "payer", "()Ljava/lang/String;"⟩ : MethodName) (head1 (Jvm.Cond.code (⟨"com/example/slackline/slackline/link/Direction", "payer", "()Ljava/lang/String;"⟩ : MethodName) prog_35_method_5_code 1 (some (.object "java/lang/String")) :: ws) ({ frames := 0, cells := 0, slots := 0, locals := 0 } : Room)) (fun a U => a = #[(.ref a1)] ∧ Z.Warmed39 U.vm ∧ U.heap = h0) (fun _ _ _ _ _ => True) (fun _ U o U' => ∃ v L, o = .returned v ∧ Q2 Z a1 x2 h0 n0 v U'.heap L ∧ FrameEnd U o U' L 0 0) := by
  refine MetFree.of_bodySF (plainFor_of_name pn_0) hisR ?_
  intro p e s m args below meth c s₁ Bd hml0 hP hK
  obtain ⟨rfl, hZ, hh⟩ := hP
  have hx := Bd.exec
  have hby := Bd.bytes
  have hml : c.maxLocals = 1 := hml0
  have hown : s.vm.findClass "com/example/slackline/slackline/link/Direction" = some m.cls := findClass_of_methodNamed Bd.named
  have hnm := (name_of_methodNamed Bd.named Bd.method).1
  have X0 : Stand p l e ({ frames := 0, cells := 0, slots := 0, locals := 0 } : Room) s m #[(.ref a1)] below meth c s₁ [] 0 0 := Stand.of_body Bd
  have e0 : s₁.heap = h0 := by rw [← hh, Bd.state]; rfl
  have N0 := Fr.nil n0
  have A0 := (⟨X0, hx, hby⟩ : Ax _ _ _ _ _ _ _ _ _ _ _ _ _ _ _)
  show Go p e below (fun U o => ∃ v L, o = .returned v ∧ Q2 Z a1 x2 h0 n0 v U.heap L ∧ FrameEnd s o U L 0 0) s₁ (entryFrame m #[(.ref a1)] 1)
  refine Go.cast (ef10 m a1 x2) ?_
  refine g_aloadN A0 d2_0 rfl rfl (pc' := 1) rfl ?_
  obtain ⟨T12, X12, e12, st12⟩ := getF X0 hx hZ hown (host := "") (Or.inl (hw _ (List.mem_of_getElem? (i := 16) rfl))) Via.refl e0 F11 (g := (mkF m 1 #[.val (.ref a1)] [(.ref a1)])) rfl rfl (hb hby d2_1)
  refine Go.of (g' := (mkF m 4 #[.val (.ref a1)] [(.ref x2)])) st12 ?_
  have A13 := (⟨X12, hx, hby⟩ : Ax _ _ _ _ _ _ _ _ _ _ _ _ _ _ _)
  exact g_ret (Q := Q2 Z a1 x2 h0 n0) A13 d2_4 Bd.notSynchronized Bd.returns rfl (Or.inr (Or.inr (Or.inr (Or.inr ⟨rfl, rfl, rfl⟩)))) (by decide) (by decide) (by rw [e12]; exact ⟨rfl, N0, rfl⟩)
theorem d4_0 : decode jdk_43_method_13_code 0 = .ok (.aload_n 0, 1) := by decide +kernel
theorem d4_1 : decode jdk_43_method_13_code 1 = .ok (.arraylength, 1) := by decide +kernel
theorem d4_2 : decode jdk_43_method_13_code 2 = .ok (.aload_n 1, 1) := by decide +kernel
theorem d4_3 : decode jdk_43_method_13_code 3 = .ok (.arraylength, 1) := by decide +kernel
theorem d4_4 : decode jdk_43_method_13_code 4 = .ok (.if_icmp .ne 30, 3) := by decide +kernel
theorem d4_7 : decode jdk_43_method_13_code 7 = .ok (.iconst 0, 1) := by decide +kernel
theorem d4_8 : decode jdk_43_method_13_code 8 = .ok (.istore_n 2, 1) := by decide +kernel
theorem d4_9 : decode jdk_43_method_13_code 9 = .ok (.iload_n 2, 1) := by decide +kernel
theorem d4_10 : decode jdk_43_method_13_code 10 = .ok (.aload_n 0, 1) := by decide +kernel
theorem d4_11 : decode jdk_43_method_13_code 11 = .ok (.arraylength, 1) := by decide +kernel
theorem d4_12 : decode jdk_43_method_13_code 12 = .ok (.if_icmp .ge 20, 3) := by decide +kernel
theorem d4_15 : decode jdk_43_method_13_code 15 = .ok (.aload_n 0, 1) := by decide +kernel
theorem d4_16 : decode jdk_43_method_13_code 16 = .ok (.iload_n 2, 1) := by decide +kernel
theorem d4_17 : decode jdk_43_method_13_code 17 = .ok (.baload, 1) := by decide +kernel
theorem d4_18 : decode jdk_43_method_13_code 18 = .ok (.aload_n 1, 1) := by decide +kernel
theorem d4_19 : decode jdk_43_method_13_code 19 = .ok (.iload_n 2, 1) := by decide +kernel
theorem d4_20 : decode jdk_43_method_13_code 20 = .ok (.baload, 1) := by decide +kernel
theorem d4_21 : decode jdk_43_method_13_code 21 = .ok (.if_icmp .eq 5, 3) := by decide +kernel
theorem d4_24 : decode jdk_43_method_13_code 24 = .ok (.iconst 0, 1) := by decide +kernel
theorem d4_25 : decode jdk_43_method_13_code 25 = .ok (.ireturn, 1) := by decide +kernel
theorem d4_26 : decode jdk_43_method_13_code 26 = .ok (.iinc 2 1, 3) := by decide +kernel
theorem d4_29 : decode jdk_43_method_13_code 29 = .ok (.goto (-20), 3) := by decide +kernel
theorem d4_32 : decode jdk_43_method_13_code 32 = .ok (.iconst 1, 1) := by decide +kernel
theorem d4_33 : decode jdk_43_method_13_code 33 = .ok (.ireturn, 1) := by decide +kernel
theorem d4_34 : decode jdk_43_method_13_code 34 = .ok (.iconst 0, 1) := by decide +kernel
theorem d4_35 : decode jdk_43_method_13_code 35 = .ok (.ireturn, 1) := by decide +kernel
theorem pn_1 : plainName "java/lang/StringLatin1" = true := by first | (simp [plainName, overriddenIn]; done) | decide +kernel
theorem ef14 (m : MethodId) (b1 : Addr) (b2 : Addr) : entryFrame m #[(.ref b1), (.ref b2)] 3 = mkF m 0 #[.val (.ref b1), .val (.ref b2), .unset] [] := by first | (simp [entryFrame, mkF, argsToLocals, Value.category]; done) | rfl
def QL117 (Z : State) (b1 : Addr) (b2 : Addr) (h0 : Heap) (n0 : Nat) (v : Option Value) (h : Heap) (L : List Loc) : Prop := v = some (.int (1 : Int32)) ∧ Fr n0 L ∧ h = h0
set_option maxRecDepth 65536 in
set_option maxHeartbeats 40000000 in
theorem rmL117 (l : Launch) (Z : State) (a0 : Array Value) (hw : ∀ d ∈ tables_1, d.before a0 Z = true) (ws : List Jvm.Cond) (b1 : Addr) (b2 : Addr) (h0 : Heap) (n0 : Nat) (Z0 : n0 ≤ h0.size) (V15 : Dar Z h0 b1 .byte 1 (fun _ => .int (117 : Int32))) (V16 : Dar Z h0 b2 .byte 1 (fun _ => .int (117 : Int32))) :
    MetFree l (⟨"java/lang/StringLatin1", "equals", "([B[B)Z"⟩ : MethodName) (head1 (Jvm.Cond.code (⟨"java/lang/StringLatin1", "equals", "([B[B)Z"⟩ : MethodName) jdk_43_method_13_code 3 (some .boolean) :: ws) ({ frames := 0, cells := 0, slots := 0, locals := 0 } : Room)) (fun a U => a = #[(.ref b1), (.ref b2)] ∧ Z.Warmed39 U.vm ∧ U.heap = h0) (fun _ _ _ _ _ => True) (fun _ U o U' => ∃ v L, o = .returned v ∧ QL117 Z b1 b2 h0 n0 v U'.heap L ∧ FrameEnd U o U' L 0 0) := by
  refine MetFree.of_bodySF (plainFor_of_name pn_1) hisR ?_
  intro p e s m args below meth c s₁ Bd hml0 hP hK
  obtain ⟨rfl, hZ, hh⟩ := hP
  have hx := Bd.exec
  have hby := Bd.bytes
  have hml : c.maxLocals = 3 := hml0
  have hown : s.vm.findClass "java/lang/StringLatin1" = some m.cls := findClass_of_methodNamed Bd.named
  have hnm := (name_of_methodNamed Bd.named Bd.method).1
  have X0 : Stand p l e ({ frames := 0, cells := 0, slots := 0, locals := 0 } : Room) s m #[(.ref b1), (.ref b2)] below meth c s₁ [] 0 0 := Stand.of_body Bd
  have e0 : s₁.heap = h0 := by rw [← hh, Bd.state]; rfl
  have N0 := Fr.nil n0
  have A0 := (⟨X0, hx, hby⟩ : Ax _ _ _ _ _ _ _ _ _ _ _ _ _ _ _)
  show Go p e below (fun U o => ∃ v L, o = .returned v ∧ QL117 Z b1 b2 h0 n0 v U.heap L ∧ FrameEnd s o U L 0 0) s₁ (entryFrame m #[(.ref b1), (.ref b2)] 3)
  refine Go.cast (ef14 m b1 b2) ?_
  refine g_aloadN A0 d4_0 rfl rfl (pc' := 1) rfl ?_
  refine g_alen A0 hZ e0 V15 d4_1 (z := (1 : Int32)) rfl (pc' := 2) rfl ?_
  refine g_aloadN A0 d4_2 rfl rfl (pc' := 3) rfl ?_
  refine g_alen A0 hZ e0 V16 d4_3 (z := (1 : Int32)) rfl (pc' := 4) rfl ?_
  refine g_icN A0 d4_4 (c2_ne_f rfl) (pc' := 7) rfl ?_
  refine g_iconst A0 d4_7 (v := (0 : Int32)) rfl (pc' := 8) rfl ?_
  refine g_istoreN A0 d4_8 (ls' := #[.val (.ref b1), .val (.ref b2), .val (.int (0 : Int32))]) rfl (pc' := 9) rfl ?_
  refine g_iloadN A0 d4_9 rfl (pc' := 10) rfl ?_
  refine g_aloadN A0 d4_10 rfl rfl (pc' := 11) rfl ?_
  refine g_alen A0 hZ e0 V15 d4_11 (z := (1 : Int32)) rfl (pc' := 12) rfl ?_
  refine g_icN A0 d4_12 (c2_ge_f (by decide)) (pc' := 15) rfl ?_
  refine g_aloadN A0 d4_15 rfl rfl (pc' := 16) rfl ?_
  refine g_iloadN A0 d4_16 rfl (pc' := 17) rfl ?_
  refine g_baloadB A0 hZ e0 V15 (i := 0) (by decide) rfl (x := (117 : Int32)) rfl d4_17 (pc' := 18) rfl ?_
  refine g_aloadN A0 d4_18 rfl rfl (pc' := 19) rfl ?_
  refine g_iloadN A0 d4_19 rfl (pc' := 20) rfl ?_
  refine g_baloadB A0 hZ e0 V16 (i := 0) (by decide) rfl (x := (117 : Int32)) rfl d4_20 (pc' := 21) rfl ?_
  refine g_icY A0 d4_21 (c2_eq_t rfl) (pc' := 26) rfl ?_
  refine g_iinc A0 d4_26 rfl (y := (1 : Int32)) (by decide) (ls' := #[.val (.ref b1), .val (.ref b2), .val (.int (1 : Int32))]) rfl (pc' := 29) rfl ?_
  refine g_goto A0 d4_29 (pc' := 9) rfl ?_
  refine g_iloadN A0 d4_9 rfl (pc' := 10) rfl ?_
  refine g_aloadN A0 d4_10 rfl rfl (pc' := 11) rfl ?_
  refine g_alen A0 hZ e0 V15 d4_11 (z := (1 : Int32)) rfl (pc' := 12) rfl ?_
  refine g_icY A0 d4_12 (c2_ge_t (by decide)) (pc' := 32) rfl ?_
  refine g_iconst A0 d4_32 (v := (1 : Int32)) rfl (pc' := 33) rfl ?_
  exact g_ret (Q := QL117 Z b1 b2 h0 n0) A0 d4_33 Bd.notSynchronized Bd.returns rfl (Or.inl ⟨rfl, by simp, _, rfl⟩) (by decide) (by decide) (by rw [e0]; exact ⟨rfl, N0, rfl⟩)
theorem d3_0 : decode jdk_42_method_66_code 0 = .ok (.aload_n 0, 1) := by decide +kernel
theorem d3_1 : decode jdk_42_method_66_code 1 = .ok (.aload_n 1, 1) := by decide +kernel
theorem d3_2 : decode jdk_42_method_66_code 2 = .ok (.if_acmp .ne 5, 3) := by decide +kernel
theorem d3_5 : decode jdk_42_method_66_code 5 = .ok (.iconst 1, 1) := by decide +kernel
theorem d3_6 : decode jdk_42_method_66_code 6 = .ok (.ireturn, 1) := by decide +kernel
theorem d3_7 : decode jdk_42_method_66_code 7 = .ok (.aload_n 1, 1) := by decide +kernel
theorem d3_8 : decode jdk_42_method_66_code 8 = .ok (.instanceof 10, 3) := by decide +kernel
theorem d3_11 : decode jdk_42_method_66_code 11 = .ok (.ifCond .eq 43, 3) := by decide +kernel
theorem d3_14 : decode jdk_42_method_66_code 14 = .ok (.aload_n 1, 1) := by decide +kernel
theorem d3_15 : decode jdk_42_method_66_code 15 = .ok (.checkcast 10, 3) := by decide +kernel
theorem d3_18 : decode jdk_42_method_66_code 18 = .ok (.astore_n 2, 1) := by decide +kernel
theorem d3_19 : decode jdk_42_method_66_code 19 = .ok (.getstatic 38, 3) := by decide +kernel
theorem d3_22 : decode jdk_42_method_66_code 22 = .ok (.ifCond .eq 14, 3) := by decide +kernel
theorem d3_25 : decode jdk_42_method_66_code 25 = .ok (.aload_n 0, 1) := by decide +kernel
theorem d3_26 : decode jdk_42_method_66_code 26 = .ok (.getfield 15, 3) := by decide +kernel
theorem d3_29 : decode jdk_42_method_66_code 29 = .ok (.aload_n 2, 1) := by decide +kernel
theorem d3_30 : decode jdk_42_method_66_code 30 = .ok (.getfield 15, 3) := by decide +kernel
theorem d3_33 : decode jdk_42_method_66_code 33 = .ok (.if_icmp .ne 21, 3) := by decide +kernel
theorem d3_36 : decode jdk_42_method_66_code 36 = .ok (.aload_n 0, 1) := by decide +kernel
theorem d3_37 : decode jdk_42_method_66_code 37 = .ok (.getfield 9, 3) := by decide +kernel
theorem d3_40 : decode jdk_42_method_66_code 40 = .ok (.aload_n 2, 1) := by decide +kernel
theorem d3_41 : decode jdk_42_method_66_code 41 = .ok (.getfield 9, 3) := by decide +kernel
theorem d3_44 : decode jdk_42_method_66_code 44 = .ok (.invokestatic 541, 3) := by decide +kernel
theorem d3_47 : decode jdk_42_method_66_code 47 = .ok (.ifCond .eq 7, 3) := by decide +kernel
theorem d3_50 : decode jdk_42_method_66_code 50 = .ok (.iconst 1, 1) := by decide +kernel
theorem d3_51 : decode jdk_42_method_66_code 51 = .ok (.goto 4, 3) := by decide +kernel
theorem d3_54 : decode jdk_42_method_66_code 54 = .ok (.iconst 0, 1) := by decide +kernel
theorem d3_55 : decode jdk_42_method_66_code 55 = .ok (.ireturn, 1) := by decide +kernel
theorem pn_2 : plainName "java/lang/String" = true := by first | (simp [plainName, overriddenIn]; done) | decide +kernel
theorem ef17 (m : MethodId) (a1 : Addr) (a2 : Addr) (b1 : Addr) (b2 : Addr) (cs : Int32) : entryFrame m #[(.ref a1), (.ref a2)] 3 = mkF m 0 #[.val (.ref a1), .val (.ref a2), .unset] [] := by first | (simp [entryFrame, mkF, argsToLocals, Value.category]; done) | rfl
def QE117 (Z : State) (a1 : Addr) (a2 : Addr) (b1 : Addr) (b2 : Addr) (cs : Int32) (h0 : Heap) (n0 : Nat) (v : Option Value) (h : Heap) (L : List Loc) : Prop := v = some (.int (1 : Int32)) ∧ Fr n0 L ∧ h = h0
theorem pd_0 : parseMethodDescriptor "([B[B)Z" = some ⟨[(.array .byte), (.array .byte)], some .boolean⟩ := by decide +kernel
set_option maxRecDepth 65536 in
set_option maxHeartbeats 40000000 in
theorem rmE117 (l : Launch) (Z : State) (a0 : Array Value) (hw : ∀ d ∈ tables_1, d.before a0 Z = true) (ws : List Jvm.Cond) (a1 : Addr) (a2 : Addr) (b1 : Addr) (b2 : Addr) (cs : Int32) (h0 : Heap) (n0 : Nat) (Z0 : n0 ≤ h0.size) (E18 : Exa Z h0 a1 "java/lang/String") (F19 : Fld Z h0 a1 "java/lang/String" "coder" "B" (.int (0 : Int32))) (F20 : Fld Z h0 a1 "java/lang/String" "value" "[B" (.ref b1)) (V21 : Dar Z h0 b1 .byte 1 (fun _ => .int (117 : Int32))) (E22 : Exa Z h0 a2 "java/lang/String") (F23 : Fld Z h0 a2 "java/lang/String" "coder" "B" (.int (0 : Int32))) (F24 : Fld Z h0 a2 "java/lang/String" "value" "[B" (.ref b2)) (V25 : Dar Z h0 b2 .byte 1 (fun _ => .int (117 : Int32))) (S26 : Sta Z h0 "java/lang/String" "COMPACT_STRINGS" "Z" (.int cs)) (ne27 : a1 ≠ a2) (hcs : ¬ cs = 0) :
    MetFree l (⟨"java/lang/String", "equals", "(Ljava/lang/Object;)Z"⟩ : MethodName) (head1 (Jvm.Cond.code (⟨"java/lang/String", "equals", "(Ljava/lang/Object;)Z"⟩ : MethodName) jdk_42_method_66_code 3 (some .boolean) :: ws) ({ frames := 1, cells := 0, slots := 0, locals := 14 } : Room)) (fun a U => a = #[(.ref a1), (.ref a2)] ∧ Z.Warmed39 U.vm ∧ U.heap = h0) (fun _ _ _ _ _ => True) (fun _ U o U' => ∃ v L, o = .returned v ∧ QE117 Z a1 a2 b1 b2 cs h0 n0 v U'.heap L ∧ FrameEnd U o U' L 0 0) := by
  refine MetFree.of_bodySF (plainFor_of_name pn_2) hisR ?_
  intro p e s m args below meth c s₁ Bd hml0 hP hK
  obtain ⟨rfl, hZ, hh⟩ := hP
  have hx := Bd.exec
  have hby := Bd.bytes
  have hml : c.maxLocals = 3 := hml0
  have hown : s.vm.findClass "java/lang/String" = some m.cls := findClass_of_methodNamed Bd.named
  have hnm := (name_of_methodNamed Bd.named Bd.method).1
  have X0 : Stand p l e ({ frames := 1, cells := 0, slots := 0, locals := 14 } : Room) s m #[(.ref a1), (.ref a2)] below meth c s₁ [] 0 0 := Stand.of_body Bd
  have e0 : s₁.heap = h0 := by rw [← hh, Bd.state]; rfl
  have N0 := Fr.nil n0
  have A0 := (⟨X0, hx, hby⟩ : Ax _ _ _ _ _ _ _ _ _ _ _ _ _ _ _)
  show Go p e below (fun U o => ∃ v L, o = .returned v ∧ QE117 Z a1 a2 b1 b2 cs h0 n0 v U.heap L ∧ FrameEnd s o U L 0 0) s₁ (entryFrame m #[(.ref a1), (.ref a2)] 3)
  refine Go.cast (ef17 m a1 a2 b1 b2 cs) ?_
  refine g_aloadN A0 d3_0 rfl rfl (pc' := 1) rfl ?_
  refine g_aloadN A0 d3_1 rfl rfl (pc' := 2) rfl ?_
  refine g_acY A0 d3_2 rfl rfl (by simp [XT.acmp, ne27]) (pc' := 7) rfl ?_
  refine g_aloadN A0 d3_7 rfl rfl (pc' := 8) rfl ?_
  obtain ⟨T28, X28, e28, st28⟩ := instY X0 hx hZ hown (hw _ (List.mem_of_getElem? (i := 31) rfl)) e0 (Ins.self E22) (g := (mkF m 8 #[.val (.ref a1), .val (.ref a2), .unset] [(.ref a2)])) rfl rfl (hb hby d3_8)
  refine Go.of (g' := (mkF m 11 #[.val (.ref a1), .val (.ref a2), .unset] [(.int (1 : Int32))])) st28 ?_
  have A29 := (⟨X28, hx, hby⟩ : Ax _ _ _ _ _ _ _ _ _ _ _ _ _ _ _)
  refine g_ifN A29 d3_11 (c0_eq_f (by decide)) (pc' := 14) rfl ?_
  refine g_aloadN A29 d3_14 rfl rfl (pc' := 15) rfl ?_
  obtain ⟨T30, X30, e30, st30⟩ := castY X28 hx hZ hown (hw _ (List.mem_of_getElem? (i := 31) rfl)) e28 (Ins.self E22) (g := (mkF m 15 #[.val (.ref a1), .val (.ref a2), .unset] [(.ref a2)])) rfl rfl (hb hby d3_15)
  refine Go.of (g' := (mkF m 18 #[.val (.ref a1), .val (.ref a2), .unset] [(.ref a2)])) st30 ?_
  have A31 := (⟨X30, hx, hby⟩ : Ax _ _ _ _ _ _ _ _ _ _ _ _ _ _ _)
  refine g_astoreN A31 d3_18 rfl (ls' := #[.val (.ref a1), .val (.ref a2), .val (.ref a2)]) rfl (pc' := 19) rfl ?_
  obtain ⟨T32, X32, e32, st32⟩ := getS X30 hx hZ hown (host := "") (hw _ (List.mem_of_getElem? (i := 33) rfl)) Via.refl e30 S26 (g := (mkF m 19 #[.val (.ref a1), .val (.ref a2), .val (.ref a2)] [])) rfl (hb hby d3_19)
  refine Go.of (g' := (mkF m 22 #[.val (.ref a1), .val (.ref a2), .val (.ref a2)] [(.int cs)])) st32 ?_
  have A33 := (⟨X32, hx, hby⟩ : Ax _ _ _ _ _ _ _ _ _ _ _ _ _ _ _)
  refine g_ifN A33 d3_22 (c0_eq_f hcs) (pc' := 25) rfl ?_
  refine g_aloadN A33 d3_25 rfl rfl (pc' := 26) rfl ?_
  obtain ⟨T34, X34, e34, st34⟩ := getF X32 hx hZ hown (host := "") (Or.inl (hw _ (List.mem_of_getElem? (i := 34) rfl))) Via.refl e32 F19 (g := (mkF m 26 #[.val (.ref a1), .val (.ref a2), .val (.ref a2)] [(.ref a1)])) rfl rfl (hb hby d3_26)
  refine Go.of (g' := (mkF m 29 #[.val (.ref a1), .val (.ref a2), .val (.ref a2)] [(.int (0 : Int32))])) st34 ?_
  have A35 := (⟨X34, hx, hby⟩ : Ax _ _ _ _ _ _ _ _ _ _ _ _ _ _ _)
  refine g_aloadN A35 d3_29 rfl rfl (pc' := 30) rfl ?_
  obtain ⟨T36, X36, e36, st36⟩ := getF X34 hx hZ hown (host := "") (Or.inl (hw _ (List.mem_of_getElem? (i := 34) rfl))) Via.refl e34 F23 (g := (mkF m 30 #[.val (.ref a1), .val (.ref a2), .val (.ref a2)] [(.ref a2), (.int (0 : Int32))])) rfl rfl (hb hby d3_30)
  refine Go.of (g' := (mkF m 33 #[.val (.ref a1), .val (.ref a2), .val (.ref a2)] [(.int (0 : Int32)), (.int (0 : Int32))])) st36 ?_
  have A37 := (⟨X36, hx, hby⟩ : Ax _ _ _ _ _ _ _ _ _ _ _ _ _ _ _)
  refine g_icN A37 d3_33 (c2_ne_f rfl) (pc' := 36) rfl ?_
  refine g_aloadN A37 d3_36 rfl rfl (pc' := 37) rfl ?_
  obtain ⟨T38, X38, e38, st38⟩ := getF X36 hx hZ hown (host := "") (Or.inl (hw _ (List.mem_of_getElem? (i := 35) rfl))) Via.refl e36 F20 (g := (mkF m 37 #[.val (.ref a1), .val (.ref a2), .val (.ref a2)] [(.ref a1)])) rfl rfl (hb hby d3_37)
  refine Go.of (g' := (mkF m 40 #[.val (.ref a1), .val (.ref a2), .val (.ref a2)] [(.ref b1)])) st38 ?_
  have A39 := (⟨X38, hx, hby⟩ : Ax _ _ _ _ _ _ _ _ _ _ _ _ _ _ _)
  refine g_aloadN A39 d3_40 rfl rfl (pc' := 41) rfl ?_
  obtain ⟨T40, X40, e40, st40⟩ := getF X38 hx hZ hown (host := "") (Or.inl (hw _ (List.mem_of_getElem? (i := 35) rfl))) Via.refl e38 F24 (g := (mkF m 41 #[.val (.ref a1), .val (.ref a2), .val (.ref a2)] [(.ref a2), (.ref b1)])) rfl rfl (hb hby d3_41)
  refine Go.of (g' := (mkF m 44 #[.val (.ref a1), .val (.ref a2), .val (.ref a2)] [(.ref b2), (.ref b1)])) st40 ?_
  have A41 := (⟨X40, hx, hby⟩ : Ax _ _ _ _ _ _ _ _ _ _ _ _ _ _ _)
  obtain ⟨vv42, _, ⟨T42, L42, k42, n42⟩, -, X42, ⟨L42c, hQ42, l42, y42, z42⟩, st42⟩ := Jvm.LawKit.callS X40 hx (y := (⟨"java/lang/StringLatin1", "equals", "([B[B)Z"⟩ : MethodName)) hown (mvT hZ (hw _ (List.mem_of_getElem? (i := 36) rfl))) (mvT hZ (hw _ (List.mem_of_getElem? (i := 37) rfl))) (mvT hZ (hw _ (List.mem_of_getElem? (i := 38) rfl))) (mvT hZ (hw _ (List.mem_of_getElem? (i := 39) rfl))) (by decide) (backOf (W := 0) (rmL117 l Z a0 hw [] b1 b2 h0 n0 Z0 V21 V25) hZ (hw _ (List.mem_of_getElem? (i := 39) rfl)) (hw _ (List.mem_of_getElem? (i := 38) rfl)) (by decide) (by decide)) (g := (mkF m 44 #[.val (.ref a1), .val (.ref a2), .val (.ref a2)] [(.ref b2), (.ref b1)])) rfl (by rw [hml]; rfl) (argsL := [(.ref b1), (.ref b2)]) (rest := []) (lenOf pd_0 rfl) rfl (by show 2 * 0 + _ ≤ _; exact Nat.le_of_eq rfl) (hb hby d3_44) (fun _ _ => ⟨rfl, e40, (by decide : 0 + 0 ≤ _), (by decide : 0 + 0 ≤ _)⟩)
  have hQ42b : QL117 Z b1 b2 h0 n0 vv42 T42.heap L42c := hQ42
  clear hQ42
  dsimp only [Pt.U, Pt.locs, Pt.cells, Pt.slots] at X42 l42 y42 z42 st42
  subst y42 z42
  obtain ⟨rfl, Nq43, Kq44⟩ := hQ42b
  have N45 : Fr n0 L42 := by rw [l42]; exact Fr.app N0 Nq43
  refine Go.of (g' := (mkF m 47 #[.val (.ref a1), .val (.ref a2), .val (.ref a2)] [(.int (1 : Int32))])) st42 ?_
  have e46 : T42.heap = h0 := Kq44
  have A47 := (⟨X42, hx, hby⟩ : Ax _ _ _ _ _ _ _ _ _ _ _ _ _ _ _)
  refine g_ifN A47 d3_47 (c0_eq_f (by decide)) (pc' := 50) rfl ?_
  refine g_iconst A47 d3_50 (v := (1 : Int32)) rfl (pc' := 51) rfl ?_
  refine g_goto A47 d3_51 (pc' := 55) rfl ?_
  exact g_ret (Q := QE117 Z a1 a2 b1 b2 cs h0 n0) A47 d3_55 Bd.notSynchronized Bd.returns rfl (Or.inl ⟨rfl, by simp, _, rfl⟩) (by decide) (by decide) (by rw [e46]; exact ⟨rfl, N45, rfl⟩)
theorem ef48 (m : MethodId) (b1 : Addr) (b2 : Addr) : entryFrame m #[(.ref b1), (.ref b2)] 3 = mkF m 0 #[.val (.ref b1), .val (.ref b2), .unset] [] := by first | (simp [entryFrame, mkF, argsToLocals, Value.category]; done) | rfl
def QL118 (Z : State) (b1 : Addr) (b2 : Addr) (h0 : Heap) (n0 : Nat) (v : Option Value) (h : Heap) (L : List Loc) : Prop := v = some (.int (0 : Int32)) ∧ Fr n0 L ∧ h = h0
set_option maxRecDepth 65536 in
set_option maxHeartbeats 40000000 in
theorem rmL118 (l : Launch) (Z : State) (a0 : Array Value) (hw : ∀ d ∈ tables_1, d.before a0 Z = true) (ws : List Jvm.Cond) (b1 : Addr) (b2 : Addr) (h0 : Heap) (n0 : Nat) (Z0 : n0 ≤ h0.size) (V49 : Dar Z h0 b1 .byte 1 (fun _ => .int (118 : Int32))) (V50 : Dar Z h0 b2 .byte 1 (fun _ => .int (117 : Int32))) :
    MetFree l (⟨"java/lang/StringLatin1", "equals", "([B[B)Z"⟩ : MethodName) (head1 (Jvm.Cond.code (⟨"java/lang/StringLatin1", "equals", "([B[B)Z"⟩ : MethodName) jdk_43_method_13_code 3 (some .boolean) :: ws) ({ frames := 0, cells := 0, slots := 0, locals := 0 } : Room)) (fun a U => a = #[(.ref b1), (.ref b2)] ∧ Z.Warmed39 U.vm ∧ U.heap = h0) (fun _ _ _ _ _ => True) (fun _ U o U' => ∃ v L, o = .returned v ∧ QL118 Z b1 b2 h0 n0 v U'.heap L ∧ FrameEnd U o U' L 0 0) := by
  refine MetFree.of_bodySF (plainFor_of_name pn_1) hisR ?_
  intro p e s m args below meth c s₁ Bd hml0 hP hK
  obtain ⟨rfl, hZ, hh⟩ := hP
  have hx := Bd.exec
  have hby := Bd.bytes
  have hml : c.maxLocals = 3 := hml0
  have hown : s.vm.findClass "java/lang/StringLatin1" = some m.cls := findClass_of_methodNamed Bd.named
  have hnm := (name_of_methodNamed Bd.named Bd.method).1
  have X0 : Stand p l e ({ frames := 0, cells := 0, slots := 0, locals := 0 } : Room) s m #[(.ref b1), (.ref b2)] below meth c s₁ [] 0 0 := Stand.of_body Bd
  have e0 : s₁.heap = h0 := by rw [← hh, Bd.state]; rfl
  have N0 := Fr.nil n0
  have A0 := (⟨X0, hx, hby⟩ : Ax _ _ _ _ _ _ _ _ _ _ _ _ _ _ _)
  show Go p e below (fun U o => ∃ v L, o = .returned v ∧ QL118 Z b1 b2 h0 n0 v U.heap L ∧ FrameEnd s o U L 0 0) s₁ (entryFrame m #[(.ref b1), (.ref b2)] 3)
  refine Go.cast (ef48 m b1 b2) ?_
  refine g_aloadN A0 d4_0 rfl rfl (pc' := 1) rfl ?_
  refine g_alen A0 hZ e0 V49 d4_1 (z := (1 : Int32)) rfl (pc' := 2) rfl ?_
  refine g_aloadN A0 d4_2 rfl rfl (pc' := 3) rfl ?_
  refine g_alen A0 hZ e0 V50 d4_3 (z := (1 : Int32)) rfl (pc' := 4) rfl ?_
  refine g_icN A0 d4_4 (c2_ne_f rfl) (pc' := 7) rfl ?_
  refine g_iconst A0 d4_7 (v := (0 : Int32)) rfl (pc' := 8) rfl ?_
  refine g_istoreN A0 d4_8 (ls' := #[.val (.ref b1), .val (.ref b2), .val (.int (0 : Int32))]) rfl (pc' := 9) rfl ?_
  refine g_iloadN A0 d4_9 rfl (pc' := 10) rfl ?_
  refine g_aloadN A0 d4_10 rfl rfl (pc' := 11) rfl ?_
  refine g_alen A0 hZ e0 V49 d4_11 (z := (1 : Int32)) rfl (pc' := 12) rfl ?_
  refine g_icN A0 d4_12 (c2_ge_f (by decide)) (pc' := 15) rfl ?_
  refine g_aloadN A0 d4_15 rfl rfl (pc' := 16) rfl ?_
  refine g_iloadN A0 d4_16 rfl (pc' := 17) rfl ?_
  refine g_baloadB A0 hZ e0 V49 (i := 0) (by decide) rfl (x := (118 : Int32)) rfl d4_17 (pc' := 18) rfl ?_
  refine g_aloadN A0 d4_18 rfl rfl (pc' := 19) rfl ?_
  refine g_iloadN A0 d4_19 rfl (pc' := 20) rfl ?_
  refine g_baloadB A0 hZ e0 V50 (i := 0) (by decide) rfl (x := (117 : Int32)) rfl d4_20 (pc' := 21) rfl ?_
  refine g_icN A0 d4_21 (c2_eq_f (by decide)) (pc' := 24) rfl ?_
  refine g_iconst A0 d4_24 (v := (0 : Int32)) rfl (pc' := 25) rfl ?_
  exact g_ret (Q := QL118 Z b1 b2 h0 n0) A0 d4_25 Bd.notSynchronized Bd.returns rfl (Or.inl ⟨rfl, by simp, _, rfl⟩) (by decide) (by decide) (by rw [e0]; exact ⟨rfl, N0, rfl⟩)
theorem ef51 (m : MethodId) (a1 : Addr) (a2 : Addr) (b1 : Addr) (b2 : Addr) (cs : Int32) : entryFrame m #[(.ref a1), (.ref a2)] 3 = mkF m 0 #[.val (.ref a1), .val (.ref a2), .unset] [] := by first | (simp [entryFrame, mkF, argsToLocals, Value.category]; done) | rfl
def QE118 (Z : State) (a1 : Addr) (a2 : Addr) (b1 : Addr) (b2 : Addr) (cs : Int32) (h0 : Heap) (n0 : Nat) (v : Option Value) (h : Heap) (L : List Loc) : Prop := v = some (.int (0 : Int32)) ∧ Fr n0 L ∧ h = h0
set_option maxRecDepth 65536 in
set_option maxHeartbeats 40000000 in
theorem rmE118 (l : Launch) (Z : State) (a0 : Array Value) (hw : ∀ d ∈ tables_1, d.before a0 Z = true) (ws : List Jvm.Cond) (a1 : Addr) (a2 : Addr) (b1 : Addr) (b2 : Addr) (cs : Int32) (h0 : Heap) (n0 : Nat) (Z0 : n0 ≤ h0.size) (E52 : Exa Z h0 a1 "java/lang/String") (F53 : Fld Z h0 a1 "java/lang/String" "coder" "B" (.int (0 : Int32))) (F54 : Fld Z h0 a1 "java/lang/String" "value" "[B" (.ref b1)) (V55 : Dar Z h0 b1 .byte 1 (fun _ => .int (118 : Int32))) (E56 : Exa Z h0 a2 "java/lang/String") (F57 : Fld Z h0 a2 "java/lang/String" "coder" "B" (.int (0 : Int32))) (F58 : Fld Z h0 a2 "java/lang/String" "value" "[B" (.ref b2)) (V59 : Dar Z h0 b2 .byte 1 (fun _ => .int (117 : Int32))) (S60 : Sta Z h0 "java/lang/String" "COMPACT_STRINGS" "Z" (.int cs)) (ne61 : a1 ≠ a2) (hcs : ¬ cs = 0) :
    MetFree l (⟨"java/lang/String", "equals", "(Ljava/lang/Object;)Z"⟩ : MethodName) (head1 (Jvm.Cond.code (⟨"java/lang/String", "equals", "(Ljava/lang/Object;)Z"⟩ : MethodName) jdk_42_method_66_code 3 (some .boolean) :: ws) ({ frames := 1, cells := 0, slots := 0, locals := 14 } : Room)) (fun a U => a = #[(.ref a1), (.ref a2)] ∧ Z.Warmed39 U.vm ∧ U.heap = h0) (fun _ _ _ _ _ => True) (fun _ U o U' => ∃ v L, o = .returned v ∧ QE118 Z a1 a2 b1 b2 cs h0 n0 v U'.heap L ∧ FrameEnd U o U' L 0 0) := by
  refine MetFree.of_bodySF (plainFor_of_name pn_2) hisR ?_
  intro p e s m args below meth c s₁ Bd hml0 hP hK
  obtain ⟨rfl, hZ, hh⟩ := hP
  have hx := Bd.exec
  have hby := Bd.bytes
  have hml : c.maxLocals = 3 := hml0
  have hown : s.vm.findClass "java/lang/String" = some m.cls := findClass_of_methodNamed Bd.named
  have hnm := (name_of_methodNamed Bd.named Bd.method).1
  have X0 : Stand p l e ({ frames := 1, cells := 0, slots := 0, locals := 14 } : Room) s m #[(.ref a1), (.ref a2)] below meth c s₁ [] 0 0 := Stand.of_body Bd
  have e0 : s₁.heap = h0 := by rw [← hh, Bd.state]; rfl
  have N0 := Fr.nil n0
  have A0 := (⟨X0, hx, hby⟩ : Ax _ _ _ _ _ _ _ _ _ _ _ _ _ _ _)
  show Go p e below (fun U o => ∃ v L, o = .returned v ∧ QE118 Z a1 a2 b1 b2 cs h0 n0 v U.heap L ∧ FrameEnd s o U L 0 0) s₁ (entryFrame m #[(.ref a1), (.ref a2)] 3)
  refine Go.cast (ef51 m a1 a2 b1 b2 cs) ?_
  refine g_aloadN A0 d3_0 rfl rfl (pc' := 1) rfl ?_
  refine g_aloadN A0 d3_1 rfl rfl (pc' := 2) rfl ?_
  refine g_acY A0 d3_2 rfl rfl (by simp [XT.acmp, ne61]) (pc' := 7) rfl ?_
  refine g_aloadN A0 d3_7 rfl rfl (pc' := 8) rfl ?_
  obtain ⟨T62, X62, e62, st62⟩ := instY X0 hx hZ hown (hw _ (List.mem_of_getElem? (i := 31) rfl)) e0 (Ins.self E56) (g := (mkF m 8 #[.val (.ref a1), .val (.ref a2), .unset] [(.ref a2)])) rfl rfl (hb hby d3_8)
  refine Go.of (g' := (mkF m 11 #[.val (.ref a1), .val (.ref a2), .unset] [(.int (1 : Int32))])) st62 ?_
  have A63 := (⟨X62, hx, hby⟩ : Ax _ _ _ _ _ _ _ _ _ _ _ _ _ _ _)
  refine g_ifN A63 d3_11 (c0_eq_f (by decide)) (pc' := 14) rfl ?_
  refine g_aloadN A63 d3_14 rfl rfl (pc' := 15) rfl ?_
  obtain ⟨T64, X64, e64, st64⟩ := castY X62 hx hZ hown (hw _ (List.mem_of_getElem? (i := 31) rfl)) e62 (Ins.self E56) (g := (mkF m 15 #[.val (.ref a1), .val (.ref a2), .unset] [(.ref a2)])) rfl rfl (hb hby d3_15)
  refine Go.of (g' := (mkF m 18 #[.val (.ref a1), .val (.ref a2), .unset] [(.ref a2)])) st64 ?_
  have A65 := (⟨X64, hx, hby⟩ : Ax _ _ _ _ _ _ _ _ _ _ _ _ _ _ _)
  refine g_astoreN A65 d3_18 rfl (ls' := #[.val (.ref a1), .val (.ref a2), .val (.ref a2)]) rfl (pc' := 19) rfl ?_
  obtain ⟨T66, X66, e66, st66⟩ := getS X64 hx hZ hown (host := "") (hw _ (List.mem_of_getElem? (i := 33) rfl)) Via.refl e64 S60 (g := (mkF m 19 #[.val (.ref a1), .val (.ref a2), .val (.ref a2)] [])) rfl (hb hby d3_19)
  refine Go.of (g' := (mkF m 22 #[.val (.ref a1), .val (.ref a2), .val (.ref a2)] [(.int cs)])) st66 ?_
  have A67 := (⟨X66, hx, hby⟩ : Ax _ _ _ _ _ _ _ _ _ _ _ _ _ _ _)
  refine g_ifN A67 d3_22 (c0_eq_f hcs) (pc' := 25) rfl ?_
  refine g_aloadN A67 d3_25 rfl rfl (pc' := 26) rfl ?_
  obtain ⟨T68, X68, e68, st68⟩ := getF X66 hx hZ hown (host := "") (Or.inl (hw _ (List.mem_of_getElem? (i := 34) rfl))) Via.refl e66 F53 (g := (mkF m 26 #[.val (.ref a1), .val (.ref a2), .val (.ref a2)] [(.ref a1)])) rfl rfl (hb hby d3_26)
  refine Go.of (g' := (mkF m 29 #[.val (.ref a1), .val (.ref a2), .val (.ref a2)] [(.int (0 : Int32))])) st68 ?_
  have A69 := (⟨X68, hx, hby⟩ : Ax _ _ _ _ _ _ _ _ _ _ _ _ _ _ _)
  refine g_aloadN A69 d3_29 rfl rfl (pc' := 30) rfl ?_
  obtain ⟨T70, X70, e70, st70⟩ := getF X68 hx hZ hown (host := "") (Or.inl (hw _ (List.mem_of_getElem? (i := 34) rfl))) Via.refl e68 F57 (g := (mkF m 30 #[.val (.ref a1), .val (.ref a2), .val (.ref a2)] [(.ref a2), (.int (0 : Int32))])) rfl rfl (hb hby d3_30)
  refine Go.of (g' := (mkF m 33 #[.val (.ref a1), .val (.ref a2), .val (.ref a2)] [(.int (0 : Int32)), (.int (0 : Int32))])) st70 ?_
  have A71 := (⟨X70, hx, hby⟩ : Ax _ _ _ _ _ _ _ _ _ _ _ _ _ _ _)
  refine g_icN A71 d3_33 (c2_ne_f rfl) (pc' := 36) rfl ?_
  refine g_aloadN A71 d3_36 rfl rfl (pc' := 37) rfl ?_
  obtain ⟨T72, X72, e72, st72⟩ := getF X70 hx hZ hown (host := "") (Or.inl (hw _ (List.mem_of_getElem? (i := 35) rfl))) Via.refl e70 F54 (g := (mkF m 37 #[.val (.ref a1), .val (.ref a2), .val (.ref a2)] [(.ref a1)])) rfl rfl (hb hby d3_37)
  refine Go.of (g' := (mkF m 40 #[.val (.ref a1), .val (.ref a2), .val (.ref a2)] [(.ref b1)])) st72 ?_
  have A73 := (⟨X72, hx, hby⟩ : Ax _ _ _ _ _ _ _ _ _ _ _ _ _ _ _)
  refine g_aloadN A73 d3_40 rfl rfl (pc' := 41) rfl ?_
  obtain ⟨T74, X74, e74, st74⟩ := getF X72 hx hZ hown (host := "") (Or.inl (hw _ (List.mem_of_getElem? (i := 35) rfl))) Via.refl e72 F58 (g := (mkF m 41 #[.val (.ref a1), .val (.ref a2), .val (.ref a2)] [(.ref a2), (.ref b1)])) rfl rfl (hb hby d3_41)
  refine Go.of (g' := (mkF m 44 #[.val (.ref a1), .val (.ref a2), .val (.ref a2)] [(.ref b2), (.ref b1)])) st74 ?_
  have A75 := (⟨X74, hx, hby⟩ : Ax _ _ _ _ _ _ _ _ _ _ _ _ _ _ _)
  obtain ⟨vv76, _, ⟨T76, L76, k76, n76⟩, -, X76, ⟨L76c, hQ76, l76, y76, z76⟩, st76⟩ := Jvm.LawKit.callS X74 hx (y := (⟨"java/lang/StringLatin1", "equals", "([B[B)Z"⟩ : MethodName)) hown (mvT hZ (hw _ (List.mem_of_getElem? (i := 36) rfl))) (mvT hZ (hw _ (List.mem_of_getElem? (i := 37) rfl))) (mvT hZ (hw _ (List.mem_of_getElem? (i := 38) rfl))) (mvT hZ (hw _ (List.mem_of_getElem? (i := 39) rfl))) (by decide) (backOf (W := 0) (rmL118 l Z a0 hw [] b1 b2 h0 n0 Z0 V55 V59) hZ (hw _ (List.mem_of_getElem? (i := 39) rfl)) (hw _ (List.mem_of_getElem? (i := 38) rfl)) (by decide) (by decide)) (g := (mkF m 44 #[.val (.ref a1), .val (.ref a2), .val (.ref a2)] [(.ref b2), (.ref b1)])) rfl (by rw [hml]; rfl) (argsL := [(.ref b1), (.ref b2)]) (rest := []) (lenOf pd_0 rfl) rfl (by show 2 * 0 + _ ≤ _; exact Nat.le_of_eq rfl) (hb hby d3_44) (fun _ _ => ⟨rfl, e74, (by decide : 0 + 0 ≤ _), (by decide : 0 + 0 ≤ _)⟩)
  have hQ76b : QL118 Z b1 b2 h0 n0 vv76 T76.heap L76c := hQ76
  clear hQ76
  dsimp only [Pt.U, Pt.locs, Pt.cells, Pt.slots] at X76 l76 y76 z76 st76
  subst y76 z76
  obtain ⟨rfl, Nq77, Kq78⟩ := hQ76b
  have N79 : Fr n0 L76 := by rw [l76]; exact Fr.app N0 Nq77
  refine Go.of (g' := (mkF m 47 #[.val (.ref a1), .val (.ref a2), .val (.ref a2)] [(.int (0 : Int32))])) st76 ?_
  have e80 : T76.heap = h0 := Kq78
  have A81 := (⟨X76, hx, hby⟩ : Ax _ _ _ _ _ _ _ _ _ _ _ _ _ _ _)
  refine g_ifY A81 d3_47 (c0_eq_t (by decide)) (pc' := 54) rfl ?_
  refine g_iconst A81 d3_54 (v := (0 : Int32)) rfl (pc' := 55) rfl ?_
  exact g_ret (Q := QE118 Z a1 a2 b1 b2 cs h0 n0) A81 d3_55 Bd.notSynchronized Bd.returns rfl (Or.inl ⟨rfl, by simp, _, rfl⟩) (by decide) (by decide) (by rw [e80]; exact ⟨rfl, N79, rfl⟩)
theorem ef82 (m : MethodId) (a1 : Addr) : entryFrame m #[(.ref a1), (.ref a1)] 3 = mkF m 0 #[.val (.ref a1), .val (.ref a1), .unset] [] := by first | (simp [entryFrame, mkF, argsToLocals, Value.category]; done) | rfl
def QES (Z : State) (a1 : Addr) (h0 : Heap) (n0 : Nat) (v : Option Value) (h : Heap) (L : List Loc) : Prop := v = some (.int (1 : Int32)) ∧ Fr n0 L ∧ h = h0
set_option maxRecDepth 65536 in
set_option maxHeartbeats 40000000 in
theorem rmES (l : Launch) (Z : State) (a0 : Array Value) (hw : ∀ d ∈ tables_1, d.before a0 Z = true) (ws : List Jvm.Cond) (a1 : Addr) (h0 : Heap) (n0 : Nat) (Z0 : n0 ≤ h0.size)  :
    MetFree l (⟨"java/lang/String", "equals", "(Ljava/lang/Object;)Z"⟩ : MethodName) (head1 (Jvm.Cond.code (⟨"java/lang/String", "equals", "(Ljava/lang/Object;)Z"⟩ : MethodName) jdk_42_method_66_code 3 (some .boolean) :: ws) ({ frames := 0, cells := 0, slots := 0, locals := 0 } : Room)) (fun a U => a = #[(.ref a1), (.ref a1)] ∧ Z.Warmed39 U.vm ∧ U.heap = h0) (fun _ _ _ _ _ => True) (fun _ U o U' => ∃ v L, o = .returned v ∧ QES Z a1 h0 n0 v U'.heap L ∧ FrameEnd U o U' L 0 0) := by
  refine MetFree.of_bodySF (plainFor_of_name pn_2) hisR ?_
  intro p e s m args below meth c s₁ Bd hml0 hP hK
  obtain ⟨rfl, hZ, hh⟩ := hP
  have hx := Bd.exec
  have hby := Bd.bytes
  have hml : c.maxLocals = 3 := hml0
  have hown : s.vm.findClass "java/lang/String" = some m.cls := findClass_of_methodNamed Bd.named
  have hnm := (name_of_methodNamed Bd.named Bd.method).1
  have X0 : Stand p l e ({ frames := 0, cells := 0, slots := 0, locals := 0 } : Room) s m #[(.ref a1), (.ref a1)] below meth c s₁ [] 0 0 := Stand.of_body Bd
  have e0 : s₁.heap = h0 := by rw [← hh, Bd.state]; rfl
  have N0 := Fr.nil n0
  have A0 := (⟨X0, hx, hby⟩ : Ax _ _ _ _ _ _ _ _ _ _ _ _ _ _ _)
  show Go p e below (fun U o => ∃ v L, o = .returned v ∧ QES Z a1 h0 n0 v U.heap L ∧ FrameEnd s o U L 0 0) s₁ (entryFrame m #[(.ref a1), (.ref a1)] 3)
  refine Go.cast (ef82 m a1) ?_
  refine g_aloadN A0 d3_0 rfl rfl (pc' := 1) rfl ?_
  refine g_aloadN A0 d3_1 rfl rfl (pc' := 2) rfl ?_
  refine g_acN A0 d3_2 rfl rfl (by simp [XT.acmp]) (pc' := 5) rfl ?_
  refine g_iconst A0 d3_5 (v := (1 : Int32)) rfl (pc' := 6) rfl ?_
  exact g_ret (Q := QES Z a1 h0 n0) A0 d3_6 Bd.notSynchronized Bd.returns rfl (Or.inl ⟨rfl, by simp, _, rfl⟩) (by decide) (by decide) (by rw [e0]; exact ⟨rfl, N0, rfl⟩)
theorem pn_3 : plainName "com/example/slackline/slackline/link/DirectionNetPinLaw" = true := by first | (simp [plainName, overriddenIn]; done) | decide +kernel
theorem ef83 (m : MethodId) (p0 : Int32) (p1 : Int32) (zUV : Addr) (sUV : Addr) (bUV : Addr) (zVU : Addr) (sVU : Addr) (bVU : Addr) (cs : Int32) : entryFrame m #[(.int p0), (.int p1)] maxLocals = mkF m 0 #[.val (.int p0), .val (.int p1), .unset, .unset, .unset, .unset, .unset, .unset, .unset, .unset, .unset, .unset, .unset] [] := by first | (simp [entryFrame, mkF, argsToLocals, Value.category, maxLocals]; done) | rfl
def Q0 (Z : State) (p0 : Int32) (p1 : Int32) (zUV : Addr) (sUV : Addr) (bUV : Addr) (zVU : Addr) (sVU : Addr) (bVU : Addr) (cs : Int32) (h0 : Heap) (n0 : Nat) (v : Option Value) (h : Heap) (L : List Loc) : Prop := v = some (.int 1) ∧ Fr n0 L
theorem pd_1 : parseMethodDescriptor "(D)D" = some ⟨[.double], some .double⟩ := by decide +kernel
theorem pd_2 : parseMethodDescriptor "()Ljava/lang/String;" = some ⟨[], some (.object "java/lang/String")⟩ := by decide +kernel
theorem pd_3 : parseMethodDescriptor "(Ljava/lang/Object;)Z" = some ⟨[(.object "java/lang/Object")], some .boolean⟩ := by decide +kernel
set_option maxRecDepth 65536 in
set_option maxHeartbeats 40000000 in
theorem rm0 (l : Launch) (Z : State) (a0 : Array Value) (hw : ∀ d ∈ tables_1, d.before a0 Z = true) (ws : List Jvm.Cond) (p0 : Int32) (p1 : Int32) (zUV : Addr) (sUV : Addr) (bUV : Addr) (zVU : Addr) (sVU : Addr) (bVU : Addr) (cs : Int32) (h0 : Heap) (n0 : Nat) (Z0 : n0 ≤ h0.size) (S84 : Sta Z h0 "com/example/slackline/slackline/link/Direction" "UV" "Lcom/example/slackline/slackline/link/Direction;" (.ref zUV)) (E85 : Exa Z h0 zUV "com/example/slackline/slackline/link/Direction") (F86 : Fld Z h0 zUV "com/example/slackline/slackline/link/Direction" "payer" "Ljava/lang/String;" (.ref sUV)) (E87 : Exa Z h0 sUV "java/lang/String") (F88 : Fld Z h0 sUV "java/lang/String" "coder" "B" (.int (0 : Int32))) (F89 : Fld Z h0 sUV "java/lang/String" "value" "[B" (.ref bUV)) (V90 : Dar Z h0 bUV .byte 1 (fun _ => .int (117 : Int32))) (S91 : Sta Z h0 "com/example/slackline/slackline/link/Direction" "VU" "Lcom/example/slackline/slackline/link/Direction;" (.ref zVU)) (E92 : Exa Z h0 zVU "com/example/slackline/slackline/link/Direction") (F93 : Fld Z h0 zVU "com/example/slackline/slackline/link/Direction" "payer" "Ljava/lang/String;" (.ref sVU)) (E94 : Exa Z h0 sVU "java/lang/String") (F95 : Fld Z h0 sVU "java/lang/String" "coder" "B" (.int (0 : Int32))) (F96 : Fld Z h0 sVU "java/lang/String" "value" "[B" (.ref bVU)) (V97 : Dar Z h0 bVU .byte 1 (fun _ => .int (118 : Int32))) (S98 : Sta Z h0 "java/lang/String" "COMPACT_STRINGS" "Z" (.int cs)) (ne99 : zVU ≠ zUV) (hcs : ¬ cs = 0) (hheld : Jvm.Lit.constHeld Z "com/example/slackline/slackline/link/DirectionNetPinLaw" 24) (hcw : Jvm.Lit.compactW.before a0 Z = true) (hn0 : n0 = h0.size) :
    MetFree l x (head1 (Jvm.Cond.code x code maxLocals ret :: ws) room_1) (fun a U => a = #[(.int p0), (.int p1)] ∧ Z.Warmed39 U.vm ∧ U.heap = h0 ∧ U = Z) (fun _ _ _ _ _ => True) (fun _ U o U' => ∃ v L, o = .returned v ∧ Q0 Z p0 p1 zUV sUV bUV zVU sVU bVU cs h0 n0 v U'.heap L ∧ ReturnedEndW U o U' L 2 8) := by
  refine MetFree.of_bodySF (plainFor_of_name pn_3) hisR ?_
  intro p e s m args below meth c s₁ Bd hml0 hP hK
  obtain ⟨rfl, hZ, hh, hUZ⟩ := hP
  have hx := Bd.exec
  have hby := Bd.bytes
  have hml : c.maxLocals = 13 := hml0
  have hown : s.vm.findClass "com/example/slackline/slackline/link/DirectionNetPinLaw" = some m.cls := findClass_of_methodNamed Bd.named
  have hnm := (name_of_methodNamed Bd.named Bd.method).1
  have X0 : Stand p l e room_1 s m #[(.int p0), (.int p1)] below meth c s₁ [] 0 0 := Stand.of_body Bd
  have e0 : s₁.heap = h0 := by rw [← hh, Bd.state]; rfl
  have N0 := Fr.nil n0
  have A0 := (⟨X0, hx, hby⟩ : Ax _ _ _ _ _ _ _ _ _ _ _ _ _ _ _)
  show Go p e below (fun U o => ∃ v L, o = .returned v ∧ Q0 Z p0 p1 zUV sUV bUV zVU sVU bVU cs h0 n0 v U.heap L ∧ ReturnedEndW s o U L 2 8) s₁ (entryFrame m #[(.int p0), (.int p1)] maxLocals)
  refine Go.cast (ef83 m p0 p1 zUV sUV bUV zVU sVU bVU cs) ?_
  refine g_iloadN A0 at_0 rfl (pc' := 1) rfl ?_
  refine g_iconst A0 at_1 (v := (1 : Int32)) rfl (pc' := 2) rfl ?_
  refine g_iand A0 at_2 (pc' := 3) rfl ?_
  by_cases hc100 : (p1 &&& (1 : Int32)) = 0
  · skip
    refine g_ifN A0 at_3 (c0_ne_f hc100) (pc' := 6) rfl ?_
    obtain ⟨T101, X101, e101, st101⟩ := getS X0 hx hZ hown (host := "") (hw _ (List.mem_of_getElem? (i := 3) rfl)) Via.refl e0 S84 (g := (mkF m 6 #[.val (.int p0), .val (.int p1), .unset, .unset, .unset, .unset, .unset, .unset, .unset, .unset, .unset, .unset, .unset] [])) rfl (hb hby at_6)
    refine Go.of (g' := (mkF m 9 #[.val (.int p0), .val (.int p1), .unset, .unset, .unset, .unset, .unset, .unset, .unset, .unset, .unset, .unset, .unset] [(.ref zUV)])) st101 ?_
    have A102 := (⟨X101, hx, hby⟩ : Ax _ _ _ _ _ _ _ _ _ _ _ _ _ _ _)
    refine g_goto A102 at_9 (pc' := 15) rfl ?_
    refine g_astoreN A102 at_15 rfl (ls' := #[.val (.int p0), .val (.int p1), .val (.ref zUV), .unset, .unset, .unset, .unset, .unset, .unset, .unset, .unset, .unset, .unset]) rfl (pc' := 16) rfl ?_
    refine g_iloadN A102 at_16 rfl (pc' := 17) rfl ?_
    refine g_iconst A102 at_17 (v := (1 : Int32)) rfl (pc' := 18) rfl ?_
    refine g_iand A102 at_18 (pc' := 19) rfl ?_
    refine g_ifN A102 at_19 (c0_ne_f hc100) (pc' := 22) rfl ?_
    obtain ⟨T103, X103, e103, st103⟩ := getS X101 hx hZ hown (host := "") (hw _ (List.mem_of_getElem? (i := 0) rfl)) Via.refl e101 S91 (g := (mkF m 22 #[.val (.int p0), .val (.int p1), .val (.ref zUV), .unset, .unset, .unset, .unset, .unset, .unset, .unset, .unset, .unset, .unset] [])) rfl (hb hby at_22)
    refine Go.of (g' := (mkF m 25 #[.val (.int p0), .val (.int p1), .val (.ref zUV), .unset, .unset, .unset, .unset, .unset, .unset, .unset, .unset, .unset, .unset] [(.ref zVU)])) st103 ?_
    have A104 := (⟨X103, hx, hby⟩ : Ax _ _ _ _ _ _ _ _ _ _ _ _ _ _ _)
    refine g_goto A104 at_25 (pc' := 31) rfl ?_
    refine g_astoreN A104 at_31 rfl (ls' := #[.val (.int p0), .val (.int p1), .val (.ref zUV), .val (.ref zVU), .unset, .unset, .unset, .unset, .unset, .unset, .unset, .unset, .unset]) rfl (pc' := 32) rfl ?_
    refine g_iloadN A104 at_32 rfl (pc' := 33) rfl ?_
    refine g_i2d A104 at_33 (pc' := 34) rfl ?_
    refine g_dstore A104 at_34 (ls' := #[.val (.int p0), .val (.int p1), .val (.ref zUV), .val (.ref zVU), .val (.double (FP.i2d p0)), .second, .unset, .unset, .unset, .unset, .unset, .unset, .unset]) rfl (pc' := 36) rfl ?_
    refine g_aloadN A104 at_36 rfl rfl (pc' := 37) rfl ?_
    refine g_dload A104 at_37 rfl (pc' := 39) rfl ?_
    obtain ⟨cq106, kq106, q106a, q106b, q106c⟩ := isOf hZ e103 E85
    obtain ⟨vv105, _, ⟨T105, L105, k105, n105⟩, -, X105, ⟨L105c, hQ105, l105, y105, z105⟩, st105⟩ := X103.virtualBack hx (y := (⟨"com/example/slackline/slackline/link/Direction", "net", "(D)D"⟩ : MethodName)) (z := (⟨"com/example/slackline/slackline/link/Direction", "net", "(D)D"⟩ : MethodName)) hown (mvT hZ (hw _ (List.mem_of_getElem? (i := 5) rfl))) (mvT hZ (hw _ (List.mem_of_getElem? (i := 6) rfl))) (notFace_of_selects (args := #[]) (mvT hZ (hw _ (List.mem_of_getElem? (i := 8) rfl)))) (mvT hZ (hw _ (List.mem_of_getElem? (i := 8) rfl))) (mvT hZ (hw _ (List.mem_of_getElem? (i := 7) rfl))) (by decide) (backOf (W := 0) (rmU l Z a0 hw [] zUV (FP.i2d p0) h0 n0 Z0 S84) hZ (hw _ (List.mem_of_getElem? (i := 9) rfl)) (hw _ (List.mem_of_getElem? (i := 1) rfl)) (by decide) (by decide)) q106a q106c (g := (mkF m 39 #[.val (.int p0), .val (.int p1), .val (.ref zUV), .val (.ref zVU), .val (.double (FP.i2d p0)), .second, .unset, .unset, .unset, .unset, .unset, .unset, .unset] [(.double (FP.i2d p0)), (.ref zUV)])) rfl (by rw [hml]; rfl) (Steps.refl _) (argsL := [(.double (FP.i2d p0))]) (rest := []) (lenOf pd_1 rfl) rfl (by show 2 * 0 + _ ≤ _; exact Nat.le_of_eq rfl) (hb hby at_39) (fun _ _ => ⟨rfl, e103, (by decide : 0 + 0 ≤ _), (by decide : 0 + 0 ≤ _)⟩)
    have hQ105b : QU Z zUV (FP.i2d p0) h0 n0 vv105 T105.heap L105c := hQ105
    clear hQ105
    dsimp only [Pt.U, Pt.locs, Pt.cells, Pt.slots] at X105 l105 y105 z105 st105
    subst y105 z105
    obtain ⟨rfl, Nq107, Kq108⟩ := hQ105b
    have N109 : Fr n0 L105 := by rw [l105]; exact Fr.app N0 Nq107
    refine Go.tr (g' := (mkF m 42 #[.val (.int p0), .val (.int p1), .val (.ref zUV), .val (.ref zVU), .val (.double (FP.i2d p0)), .second, .unset, .unset, .unset, .unset, .unset, .unset, .unset] [(.double (FP.i2d p0))])) st105 ?_
    have e110 : T105.heap = h0 := Kq108
    have A111 := (⟨X105, hx, hby⟩ : Ax _ _ _ _ _ _ _ _ _ _ _ _ _ _ _)
    refine g_dstore A111 at_42 (ls' := #[.val (.int p0), .val (.int p1), .val (.ref zUV), .val (.ref zVU), .val (.double (FP.i2d p0)), .second, .val (.double (FP.i2d p0)), .second, .unset, .unset, .unset, .unset, .unset]) rfl (pc' := 44) rfl ?_
    refine g_aloadN A111 at_44 rfl rfl (pc' := 45) rfl ?_
    obtain ⟨cq113, kq113, q113a, q113b, q113c⟩ := isOf hZ e110 E85
    obtain ⟨vv112, _, ⟨T112, L112, k112, n112⟩, -, X112, ⟨L112c, hQ112, l112, y112, z112⟩, st112⟩ := X105.virtualBack hx (y := (⟨"com/example/slackline/slackline/link/Direction", "payer", "()Ljava/lang/String;"⟩ : MethodName)) (z := (⟨"com/example/slackline/slackline/link/Direction", "payer", "()Ljava/lang/String;"⟩ : MethodName)) hown (mvT hZ (hw _ (List.mem_of_getElem? (i := 11) rfl))) (mvT hZ (hw _ (List.mem_of_getElem? (i := 12) rfl))) (notFace_of_selects (args := #[]) (mvT hZ (hw _ (List.mem_of_getElem? (i := 14) rfl)))) (mvT hZ (hw _ (List.mem_of_getElem? (i := 14) rfl))) (mvT hZ (hw _ (List.mem_of_getElem? (i := 13) rfl))) (by decide) (backOf (W := 0) (rm2 l Z a0 hw [] zUV sUV h0 n0 Z0 F86) hZ (hw _ (List.mem_of_getElem? (i := 15) rfl)) (hw _ (List.mem_of_getElem? (i := 1) rfl)) (by decide) (by decide)) q113a q113c (g := (mkF m 45 #[.val (.int p0), .val (.int p1), .val (.ref zUV), .val (.ref zVU), .val (.double (FP.i2d p0)), .second, .val (.double (FP.i2d p0)), .second, .unset, .unset, .unset, .unset, .unset] [(.ref zUV)])) rfl (by rw [hml]; rfl) (Steps.refl _) (argsL := []) (rest := []) (lenOf pd_2 rfl) rfl (by show 2 * 0 + _ ≤ _; exact Nat.le_of_eq rfl) (hb hby at_45) (fun _ _ => ⟨rfl, e110, (by decide : 0 + 0 ≤ _), (by decide : 0 + 0 ≤ _)⟩)
    have hQ112b : Q2 Z zUV sUV h0 n0 vv112 T112.heap L112c := hQ112
    clear hQ112
    dsimp only [Pt.U, Pt.locs, Pt.cells, Pt.slots] at X112 l112 y112 z112 st112
    subst y112 z112
    obtain ⟨rfl, Nq114, Kq115⟩ := hQ112b
    have N116 : Fr n0 L112 := by rw [l112]; exact Fr.app N109 Nq114
    refine Go.tr (g' := (mkF m 48 #[.val (.int p0), .val (.int p1), .val (.ref zUV), .val (.ref zVU), .val (.double (FP.i2d p0)), .second, .val (.double (FP.i2d p0)), .second, .unset, .unset, .unset, .unset, .unset] [(.ref sUV)])) st112 ?_
    have e117 : T112.heap = h0 := Kq115
    have A118 := (⟨X112, hx, hby⟩ : Ax _ _ _ _ _ _ _ _ _ _ _ _ _ _ _)
    have wS119 : ∀ d ∈ Bundle.stringAtoms, d.before a0 Z = true := by
      intro d hd
      simp only [Bundle.stringAtoms, List.mem_cons, List.not_mem_nil, or_false] at hd
      rcases hd with rfl | rfl | rfl | rfl | rfl | rfl | rfl
      · exact (hw _ (List.mem_of_getElem? (i := 19) rfl))
      · exact (hw _ (List.mem_of_getElem? (i := 20) rfl))
      · exact (hw _ (List.mem_of_getElem? (i := 21) rfl))
      · exact (hw _ (List.mem_of_getElem? (i := 22) rfl))
      · exact (hw _ (List.mem_of_getElem? (i := 23) rfl))
      · exact (hw _ (List.mem_of_getElem? (i := 24) rfl))
      · exact (hw _ (List.mem_of_getElem? (i := 25) rfl))
    obtain ⟨li120, T120, h120, k120, lb120, kc120, X120, e120, E120, hSi, hSk, hZ, hown, Ea120, Fc120, Fv120, Ar120, -, -, -, st120⟩ := ldcSV (s := s) (vm0 := s.vm) X112 hx hZ hown (hw _ (List.mem_of_getElem? (i := 18) rfl)) wS119 e117 (k0 := 0) ((State.WarmedH.refl s).since 0) (Nat.zero_le _) (by rw [hh, ← hn0]; exact N116) (fun z c q => by rw [hUZ]; exact q) (Ts := []) (by rw [hUZ]; exact IB.start) (by simp) hheld hcw (vs := [.int (117 : Int32)]) (z := (1 : Int32)) ⟨by decide, by decide⟩ (by decide) (by decide) (g := (mkF m 48 #[.val (.int p0), .val (.int p1), .val (.ref zUV), .val (.ref zVU), .val (.double (FP.i2d p0)), .second, .val (.double (FP.i2d p0)), .second, .unset, .unset, .unset, .unset, .unset] [(.ref sUV)])) rfl (hb hby at_48) (n := 4) (by decide) (by decide) (by decide) (by decide)
    have K121 : Keep h0 h120 [] := (Keep.refl h0 []).ext E120
    have S122 : Sta Z h120 "com/example/slackline/slackline/link/Direction" "UV" "Lcom/example/slackline/slackline/link/Direction;" (.ref zUV) := Sta.ext E120 S84
    have E123 : Exa Z h120 zUV "com/example/slackline/slackline/link/Direction" := Exa.ext E120 E85
    have F124 : Fld Z h120 zUV "com/example/slackline/slackline/link/Direction" "payer" "Ljava/lang/String;" (.ref sUV) := Fld.ext E120 F86
    have E125 : Exa Z h120 sUV "java/lang/String" := Exa.ext E120 E87
    have F126 : Fld Z h120 sUV "java/lang/String" "coder" "B" (.int (0 : Int32)) := Fld.ext E120 F88
    have F127 : Fld Z h120 sUV "java/lang/String" "value" "[B" (.ref bUV) := Fld.ext E120 F89
    have V128 : Dar Z h120 bUV .byte 1 (fun _ => .int (117 : Int32)) := Dar.ext E120 V90
    have S129 : Sta Z h120 "com/example/slackline/slackline/link/Direction" "VU" "Lcom/example/slackline/slackline/link/Direction;" (.ref zVU) := Sta.ext E120 S91
    have E130 : Exa Z h120 zVU "com/example/slackline/slackline/link/Direction" := Exa.ext E120 E92
    have F131 : Fld Z h120 zVU "com/example/slackline/slackline/link/Direction" "payer" "Ljava/lang/String;" (.ref sVU) := Fld.ext E120 F93
    have E132 : Exa Z h120 sVU "java/lang/String" := Exa.ext E120 E94
    have F133 : Fld Z h120 sVU "java/lang/String" "coder" "B" (.int (0 : Int32)) := Fld.ext E120 F95
    have F134 : Fld Z h120 sVU "java/lang/String" "value" "[B" (.ref bVU) := Fld.ext E120 F96
    have V135 : Dar Z h120 bVU .byte 1 (fun _ => .int (118 : Int32)) := Dar.ext E120 V97
    have S136 : Sta Z h120 "java/lang/String" "COMPACT_STRINGS" "Z" (.int cs) := Sta.ext E120 S98
    have Z137 : n0 ≤ h120.size := Nat.le_trans Z0 E120.1
    have V138 : Dar Z h120 lb120 .byte 1 (fun _ => .int (117 : Int32)) := own_arv1 Ar120
    refine Go.of (g' := (mkF m 50 #[.val (.int p0), .val (.int p1), .val (.ref zUV), .val (.ref zVU), .val (.double (FP.i2d p0)), .second, .val (.double (FP.i2d p0)), .second, .unset, .unset, .unset, .unset, .unset] [(.ref li120), (.ref sUV)])) st120 ?_
    have A139 := (⟨X120, hx, hby⟩ : Ax _ _ _ _ _ _ _ _ _ _ _ _ _ _ _)
    by_cases hq140 : sUV = li120
    · skip
      subst hq140
      obtain ⟨cq142, kq142, q142a, q142b, q142c⟩ := isOf hZ e120 E125
      obtain ⟨vv141, _, ⟨T141, L141, k141, n141⟩, -, X141, ⟨L141c, hQ141, l141, y141, z141⟩, st141⟩ := X120.virtualBack hx (y := (⟨"java/lang/String", "equals", "(Ljava/lang/Object;)Z"⟩ : MethodName)) (z := (⟨"java/lang/String", "equals", "(Ljava/lang/Object;)Z"⟩ : MethodName)) hown (mvT hZ (hw _ (List.mem_of_getElem? (i := 26) rfl))) (mvT hZ (hw _ (List.mem_of_getElem? (i := 27) rfl))) (notFace_of_selects (args := #[]) (mvT hZ (hw _ (List.mem_of_getElem? (i := 29) rfl)))) (mvT hZ (hw _ (List.mem_of_getElem? (i := 29) rfl))) (mvT hZ (hw _ (List.mem_of_getElem? (i := 28) rfl))) (by decide) (backOf (W := 0) (rmES l Z a0 hw [] sUV h120 n0 Z137 ) hZ (hw _ (List.mem_of_getElem? (i := 30) rfl)) (hw _ (List.mem_of_getElem? (i := 19) rfl)) (by decide) (by decide)) q142a q142c (g := (mkF m 50 #[.val (.int p0), .val (.int p1), .val (.ref zUV), .val (.ref zVU), .val (.double (FP.i2d p0)), .second, .val (.double (FP.i2d p0)), .second, .unset, .unset, .unset, .unset, .unset] [(.ref sUV), (.ref sUV)])) rfl (by rw [hml]; rfl) (Steps.refl _) (argsL := [(.ref sUV)]) (rest := []) (lenOf pd_3 rfl) rfl (by show 2 * 0 + _ ≤ _; exact Nat.le_of_eq rfl) (hb hby at_50) (fun _ _ => ⟨rfl, e120, (by decide : 2 + 0 ≤ _), (by decide : 8 + 0 ≤ _)⟩)
      have hQ141b : QES Z sUV h120 n0 vv141 T141.heap L141c := hQ141
      clear hQ141
      dsimp only [Pt.U, Pt.locs, Pt.cells, Pt.slots] at X141 l141 y141 z141 st141
      subst y141 z141
      obtain ⟨rfl, Nq143, Kq144⟩ := hQ141b
      have N145 : Fr n0 L141 := by rw [l141]; exact Fr.app N116 Nq143
      refine Go.tr (g' := (mkF m 53 #[.val (.int p0), .val (.int p1), .val (.ref zUV), .val (.ref zVU), .val (.double (FP.i2d p0)), .second, .val (.double (FP.i2d p0)), .second, .unset, .unset, .unset, .unset, .unset] [(.int (1 : Int32))])) st141 ?_
      have e146 : T141.heap = h120 := Kq144
      have A147 := (⟨X141, hx, hby⟩ : Ax _ _ _ _ _ _ _ _ _ _ _ _ _ _ _)
      refine g_istore A147 at_53 (ls' := #[.val (.int p0), .val (.int p1), .val (.ref zUV), .val (.ref zVU), .val (.double (FP.i2d p0)), .second, .val (.double (FP.i2d p0)), .second, .val (.int (1 : Int32)), .unset, .unset, .unset, .unset]) rfl (pc' := 55) rfl ?_
      refine g_iload A147 at_55 rfl (pc' := 57) rfl ?_
      refine g_ifN A147 at_57 (c0_eq_f (by decide)) (pc' := 60) rfl ?_
      refine g_dload A147 at_60 rfl (pc' := 62) rfl ?_
      refine g_goto A147 at_62 (pc' := 68) rfl ?_
      refine g_dstore A147 at_68 (ls' := #[.val (.int p0), .val (.int p1), .val (.ref zUV), .val (.ref zVU), .val (.double (FP.i2d p0)), .second, .val (.double (FP.i2d p0)), .second, .val (.int (1 : Int32)), .val (.double (FP.i2d p0)), .second, .unset, .unset]) rfl (pc' := 70) rfl ?_
      refine g_aloadN A147 at_70 rfl rfl (pc' := 71) rfl ?_
      refine g_dload A147 at_71 rfl (pc' := 73) rfl ?_
      obtain ⟨cq149, kq149, q149a, q149b, q149c⟩ := isOf hZ e146 E130
      obtain ⟨vv148, _, ⟨T148, L148, k148, n148⟩, -, X148, ⟨L148c, hQ148, l148, y148, z148⟩, st148⟩ := X141.virtualBack hx (y := (⟨"com/example/slackline/slackline/link/Direction", "net", "(D)D"⟩ : MethodName)) (z := (⟨"com/example/slackline/slackline/link/Direction", "net", "(D)D"⟩ : MethodName)) hown (mvT hZ (hw _ (List.mem_of_getElem? (i := 5) rfl))) (mvT hZ (hw _ (List.mem_of_getElem? (i := 6) rfl))) (notFace_of_selects (args := #[]) (mvT hZ (hw _ (List.mem_of_getElem? (i := 8) rfl)))) (mvT hZ (hw _ (List.mem_of_getElem? (i := 8) rfl))) (mvT hZ (hw _ (List.mem_of_getElem? (i := 7) rfl))) (by decide) (backOf (W := 0) (rmV l Z a0 hw [] zVU (FP.i2d p0) zUV h120 n0 Z137 S122 ne99) hZ (hw _ (List.mem_of_getElem? (i := 9) rfl)) (hw _ (List.mem_of_getElem? (i := 1) rfl)) (by decide) (by decide)) q149a q149c (g := (mkF m 73 #[.val (.int p0), .val (.int p1), .val (.ref zUV), .val (.ref zVU), .val (.double (FP.i2d p0)), .second, .val (.double (FP.i2d p0)), .second, .val (.int (1 : Int32)), .val (.double (FP.i2d p0)), .second, .unset, .unset] [(.double (FP.i2d p0)), (.ref zVU)])) rfl (by rw [hml]; rfl) (Steps.refl _) (argsL := [(.double (FP.i2d p0))]) (rest := []) (lenOf pd_1 rfl) rfl (by show 2 * 0 + _ ≤ _; exact Nat.le_of_eq rfl) (hb hby at_73) (fun _ _ => ⟨rfl, e146, (by decide : 2 + 0 ≤ _), (by decide : 8 + 0 ≤ _)⟩)
      have hQ148b : QV Z zVU (FP.i2d p0) zUV h120 n0 vv148 T148.heap L148c := hQ148
      clear hQ148
      dsimp only [Pt.U, Pt.locs, Pt.cells, Pt.slots] at X148 l148 y148 z148 st148
      subst y148 z148
      obtain ⟨rfl, Nq150, Kq151⟩ := hQ148b
      have N152 : Fr n0 L148 := by rw [l148]; exact Fr.app N145 Nq150
      refine Go.tr (g' := (mkF m 76 #[.val (.int p0), .val (.int p1), .val (.ref zUV), .val (.ref zVU), .val (.double (FP.i2d p0)), .second, .val (.double (FP.i2d p0)), .second, .val (.int (1 : Int32)), .val (.double (FP.i2d p0)), .second, .unset, .unset] [(.double (FP.dneg (FP.i2d p0)))])) st148 ?_
      have e153 : T148.heap = h120 := Kq151
      have A154 := (⟨X148, hx, hby⟩ : Ax _ _ _ _ _ _ _ _ _ _ _ _ _ _ _)
      refine g_dstore A154 at_76 (ls' := #[.val (.int p0), .val (.int p1), .val (.ref zUV), .val (.ref zVU), .val (.double (FP.i2d p0)), .second, .val (.double (FP.i2d p0)), .second, .val (.int (1 : Int32)), .val (.double (FP.i2d p0)), .second, .val (.double (FP.dneg (FP.i2d p0))), .second]) rfl (pc' := 78) rfl ?_
      refine g_dload A154 at_78 rfl (pc' := 80) rfl ?_
      refine g_dload A154 at_80 rfl (pc' := 82) rfl ?_
      refine g_dcmp A154 at_82 (pc' := 83) rfl ?_
      refine g_ifN A154 at_83 (d_l_ne_f (own_self (i2d_fin p0))) (pc' := 86) rfl ?_
      refine g_dload A154 at_86 rfl (pc' := 88) rfl ?_
      refine g_dload A154 at_88 rfl (pc' := 90) rfl ?_
      refine g_dneg A154 at_90 (pc' := 91) rfl ?_
      refine g_dcmp A154 at_91 (pc' := 92) rfl ?_
      refine g_ifN A154 at_92 (d_l_ne_f (own_self (own_fneg (i2d_fin p0)))) (pc' := 95) rfl ?_
      refine g_iconst A154 at_95 (v := (1 : Int32)) rfl (pc' := 96) rfl ?_
      refine g_goto A154 at_96 (pc' := 100) rfl ?_
      exact g_retW (Q := Q0 Z p0 p1 zUV sUV bUV zVU sVU bVU cs h0 n0) A154 hSi (by rw [e153]; exact hSk) at_100 Bd.notSynchronized Bd.returns rfl (Or.inl ⟨rfl, by simp, _, rfl⟩) (by decide) (by decide) (by rw [e153]; exact ⟨rfl, N152⟩)
    · skip
      obtain ⟨cq156, kq156, q156a, q156b, q156c⟩ := isOf hZ e120 E125
      obtain ⟨vv155, _, ⟨T155, L155, k155, n155⟩, -, X155, ⟨L155c, hQ155, l155, y155, z155⟩, st155⟩ := X120.virtualBack hx (y := (⟨"java/lang/String", "equals", "(Ljava/lang/Object;)Z"⟩ : MethodName)) (z := (⟨"java/lang/String", "equals", "(Ljava/lang/Object;)Z"⟩ : MethodName)) hown (mvT hZ (hw _ (List.mem_of_getElem? (i := 26) rfl))) (mvT hZ (hw _ (List.mem_of_getElem? (i := 27) rfl))) (notFace_of_selects (args := #[]) (mvT hZ (hw _ (List.mem_of_getElem? (i := 29) rfl)))) (mvT hZ (hw _ (List.mem_of_getElem? (i := 29) rfl))) (mvT hZ (hw _ (List.mem_of_getElem? (i := 28) rfl))) (by decide) (backOf (W := 0) (rmE117 l Z a0 hw [] sUV li120 bUV lb120 cs h120 n0 Z137 E125 F126 F127 V128 Ea120 Fc120 Fv120 V138 S136 hq140 hcs) hZ (hw _ (List.mem_of_getElem? (i := 30) rfl)) (hw _ (List.mem_of_getElem? (i := 19) rfl)) (by decide) (by decide)) q156a q156c (g := (mkF m 50 #[.val (.int p0), .val (.int p1), .val (.ref zUV), .val (.ref zVU), .val (.double (FP.i2d p0)), .second, .val (.double (FP.i2d p0)), .second, .unset, .unset, .unset, .unset, .unset] [(.ref li120), (.ref sUV)])) rfl (by rw [hml]; rfl) (Steps.refl _) (argsL := [(.ref li120)]) (rest := []) (lenOf pd_3 rfl) rfl (by show 2 * 0 + _ ≤ _; exact Nat.le_of_eq rfl) (hb hby at_50) (fun _ _ => ⟨rfl, e120, (by decide : 2 + 0 ≤ _), (by decide : 8 + 0 ≤ _)⟩)
      have hQ155b : QE117 Z sUV li120 bUV lb120 cs h120 n0 vv155 T155.heap L155c := hQ155
      clear hQ155
      dsimp only [Pt.U, Pt.locs, Pt.cells, Pt.slots] at X155 l155 y155 z155 st155
      subst y155 z155
      obtain ⟨rfl, Nq157, Kq158⟩ := hQ155b
      have N159 : Fr n0 L155 := by rw [l155]; exact Fr.app N116 Nq157
      refine Go.tr (g' := (mkF m 53 #[.val (.int p0), .val (.int p1), .val (.ref zUV), .val (.ref zVU), .val (.double (FP.i2d p0)), .second, .val (.double (FP.i2d p0)), .second, .unset, .unset, .unset, .unset, .unset] [(.int (1 : Int32))])) st155 ?_
      have e160 : T155.heap = h120 := Kq158
      have A161 := (⟨X155, hx, hby⟩ : Ax _ _ _ _ _ _ _ _ _ _ _ _ _ _ _)
      refine g_istore A161 at_53 (ls' := #[.val (.int p0), .val (.int p1), .val (.ref zUV), .val (.ref zVU), .val (.double (FP.i2d p0)), .second, .val (.double (FP.i2d p0)), .second, .val (.int (1 : Int32)), .unset, .unset, .unset, .unset]) rfl (pc' := 55) rfl ?_
      refine g_iload A161 at_55 rfl (pc' := 57) rfl ?_
      refine g_ifN A161 at_57 (c0_eq_f (by decide)) (pc' := 60) rfl ?_
      refine g_dload A161 at_60 rfl (pc' := 62) rfl ?_
      refine g_goto A161 at_62 (pc' := 68) rfl ?_
      refine g_dstore A161 at_68 (ls' := #[.val (.int p0), .val (.int p1), .val (.ref zUV), .val (.ref zVU), .val (.double (FP.i2d p0)), .second, .val (.double (FP.i2d p0)), .second, .val (.int (1 : Int32)), .val (.double (FP.i2d p0)), .second, .unset, .unset]) rfl (pc' := 70) rfl ?_
      refine g_aloadN A161 at_70 rfl rfl (pc' := 71) rfl ?_
      refine g_dload A161 at_71 rfl (pc' := 73) rfl ?_
      obtain ⟨cq163, kq163, q163a, q163b, q163c⟩ := isOf hZ e160 E130
      obtain ⟨vv162, _, ⟨T162, L162, k162, n162⟩, -, X162, ⟨L162c, hQ162, l162, y162, z162⟩, st162⟩ := X155.virtualBack hx (y := (⟨"com/example/slackline/slackline/link/Direction", "net", "(D)D"⟩ : MethodName)) (z := (⟨"com/example/slackline/slackline/link/Direction", "net", "(D)D"⟩ : MethodName)) hown (mvT hZ (hw _ (List.mem_of_getElem? (i := 5) rfl))) (mvT hZ (hw _ (List.mem_of_getElem? (i := 6) rfl))) (notFace_of_selects (args := #[]) (mvT hZ (hw _ (List.mem_of_getElem? (i := 8) rfl)))) (mvT hZ (hw _ (List.mem_of_getElem? (i := 8) rfl))) (mvT hZ (hw _ (List.mem_of_getElem? (i := 7) rfl))) (by decide) (backOf (W := 0) (rmV l Z a0 hw [] zVU (FP.i2d p0) zUV h120 n0 Z137 S122 ne99) hZ (hw _ (List.mem_of_getElem? (i := 9) rfl)) (hw _ (List.mem_of_getElem? (i := 1) rfl)) (by decide) (by decide)) q163a q163c (g := (mkF m 73 #[.val (.int p0), .val (.int p1), .val (.ref zUV), .val (.ref zVU), .val (.double (FP.i2d p0)), .second, .val (.double (FP.i2d p0)), .second, .val (.int (1 : Int32)), .val (.double (FP.i2d p0)), .second, .unset, .unset] [(.double (FP.i2d p0)), (.ref zVU)])) rfl (by rw [hml]; rfl) (Steps.refl _) (argsL := [(.double (FP.i2d p0))]) (rest := []) (lenOf pd_1 rfl) rfl (by show 2 * 0 + _ ≤ _; exact Nat.le_of_eq rfl) (hb hby at_73) (fun _ _ => ⟨rfl, e160, (by decide : 2 + 0 ≤ _), (by decide : 8 + 0 ≤ _)⟩)
      have hQ162b : QV Z zVU (FP.i2d p0) zUV h120 n0 vv162 T162.heap L162c := hQ162
      clear hQ162
      dsimp only [Pt.U, Pt.locs, Pt.cells, Pt.slots] at X162 l162 y162 z162 st162
      subst y162 z162
      obtain ⟨rfl, Nq164, Kq165⟩ := hQ162b
      have N166 : Fr n0 L162 := by rw [l162]; exact Fr.app N159 Nq164
      refine Go.tr (g' := (mkF m 76 #[.val (.int p0), .val (.int p1), .val (.ref zUV), .val (.ref zVU), .val (.double (FP.i2d p0)), .second, .val (.double (FP.i2d p0)), .second, .val (.int (1 : Int32)), .val (.double (FP.i2d p0)), .second, .unset, .unset] [(.double (FP.dneg (FP.i2d p0)))])) st162 ?_
      have e167 : T162.heap = h120 := Kq165
      have A168 := (⟨X162, hx, hby⟩ : Ax _ _ _ _ _ _ _ _ _ _ _ _ _ _ _)
      refine g_dstore A168 at_76 (ls' := #[.val (.int p0), .val (.int p1), .val (.ref zUV), .val (.ref zVU), .val (.double (FP.i2d p0)), .second, .val (.double (FP.i2d p0)), .second, .val (.int (1 : Int32)), .val (.double (FP.i2d p0)), .second, .val (.double (FP.dneg (FP.i2d p0))), .second]) rfl (pc' := 78) rfl ?_
      refine g_dload A168 at_78 rfl (pc' := 80) rfl ?_
      refine g_dload A168 at_80 rfl (pc' := 82) rfl ?_
      refine g_dcmp A168 at_82 (pc' := 83) rfl ?_
      refine g_ifN A168 at_83 (d_l_ne_f (own_self (i2d_fin p0))) (pc' := 86) rfl ?_
      refine g_dload A168 at_86 rfl (pc' := 88) rfl ?_
      refine g_dload A168 at_88 rfl (pc' := 90) rfl ?_
      refine g_dneg A168 at_90 (pc' := 91) rfl ?_
      refine g_dcmp A168 at_91 (pc' := 92) rfl ?_
      refine g_ifN A168 at_92 (d_l_ne_f (own_self (own_fneg (i2d_fin p0)))) (pc' := 95) rfl ?_
      refine g_iconst A168 at_95 (v := (1 : Int32)) rfl (pc' := 96) rfl ?_
      refine g_goto A168 at_96 (pc' := 100) rfl ?_
      exact g_retW (Q := Q0 Z p0 p1 zUV sUV bUV zVU sVU bVU cs h0 n0) A168 hSi (by rw [e167]; exact hSk) at_100 Bd.notSynchronized Bd.returns rfl (Or.inl ⟨rfl, by simp, _, rfl⟩) (by decide) (by decide) (by rw [e167]; exact ⟨rfl, N166⟩)
  · skip
    refine g_ifY A0 at_3 (c0_ne_t hc100) (pc' := 12) rfl ?_
    obtain ⟨T169, X169, e169, st169⟩ := getS X0 hx hZ hown (host := "") (hw _ (List.mem_of_getElem? (i := 0) rfl)) Via.refl e0 S91 (g := (mkF m 12 #[.val (.int p0), .val (.int p1), .unset, .unset, .unset, .unset, .unset, .unset, .unset, .unset, .unset, .unset, .unset] [])) rfl (hb hby at_12)
    refine Go.of (g' := (mkF m 15 #[.val (.int p0), .val (.int p1), .unset, .unset, .unset, .unset, .unset, .unset, .unset, .unset, .unset, .unset, .unset] [(.ref zVU)])) st169 ?_
    have A170 := (⟨X169, hx, hby⟩ : Ax _ _ _ _ _ _ _ _ _ _ _ _ _ _ _)
    refine g_astoreN A170 at_15 rfl (ls' := #[.val (.int p0), .val (.int p1), .val (.ref zVU), .unset, .unset, .unset, .unset, .unset, .unset, .unset, .unset, .unset, .unset]) rfl (pc' := 16) rfl ?_
    refine g_iloadN A170 at_16 rfl (pc' := 17) rfl ?_
    refine g_iconst A170 at_17 (v := (1 : Int32)) rfl (pc' := 18) rfl ?_
    refine g_iand A170 at_18 (pc' := 19) rfl ?_
    refine g_ifY A170 at_19 (c0_ne_t hc100) (pc' := 28) rfl ?_
    obtain ⟨T171, X171, e171, st171⟩ := getS X169 hx hZ hown (host := "") (hw _ (List.mem_of_getElem? (i := 3) rfl)) Via.refl e169 S84 (g := (mkF m 28 #[.val (.int p0), .val (.int p1), .val (.ref zVU), .unset, .unset, .unset, .unset, .unset, .unset, .unset, .unset, .unset, .unset] [])) rfl (hb hby at_28)
    refine Go.of (g' := (mkF m 31 #[.val (.int p0), .val (.int p1), .val (.ref zVU), .unset, .unset, .unset, .unset, .unset, .unset, .unset, .unset, .unset, .unset] [(.ref zUV)])) st171 ?_
    have A172 := (⟨X171, hx, hby⟩ : Ax _ _ _ _ _ _ _ _ _ _ _ _ _ _ _)
    refine g_astoreN A172 at_31 rfl (ls' := #[.val (.int p0), .val (.int p1), .val (.ref zVU), .val (.ref zUV), .unset, .unset, .unset, .unset, .unset, .unset, .unset, .unset, .unset]) rfl (pc' := 32) rfl ?_
    refine g_iloadN A172 at_32 rfl (pc' := 33) rfl ?_
    refine g_i2d A172 at_33 (pc' := 34) rfl ?_
    refine g_dstore A172 at_34 (ls' := #[.val (.int p0), .val (.int p1), .val (.ref zVU), .val (.ref zUV), .val (.double (FP.i2d p0)), .second, .unset, .unset, .unset, .unset, .unset, .unset, .unset]) rfl (pc' := 36) rfl ?_
    refine g_aloadN A172 at_36 rfl rfl (pc' := 37) rfl ?_
    refine g_dload A172 at_37 rfl (pc' := 39) rfl ?_
    obtain ⟨cq174, kq174, q174a, q174b, q174c⟩ := isOf hZ e171 E92
    obtain ⟨vv173, _, ⟨T173, L173, k173, n173⟩, -, X173, ⟨L173c, hQ173, l173, y173, z173⟩, st173⟩ := X171.virtualBack hx (y := (⟨"com/example/slackline/slackline/link/Direction", "net", "(D)D"⟩ : MethodName)) (z := (⟨"com/example/slackline/slackline/link/Direction", "net", "(D)D"⟩ : MethodName)) hown (mvT hZ (hw _ (List.mem_of_getElem? (i := 5) rfl))) (mvT hZ (hw _ (List.mem_of_getElem? (i := 6) rfl))) (notFace_of_selects (args := #[]) (mvT hZ (hw _ (List.mem_of_getElem? (i := 8) rfl)))) (mvT hZ (hw _ (List.mem_of_getElem? (i := 8) rfl))) (mvT hZ (hw _ (List.mem_of_getElem? (i := 7) rfl))) (by decide) (backOf (W := 0) (rmV l Z a0 hw [] zVU (FP.i2d p0) zUV h0 n0 Z0 S84 ne99) hZ (hw _ (List.mem_of_getElem? (i := 9) rfl)) (hw _ (List.mem_of_getElem? (i := 1) rfl)) (by decide) (by decide)) q174a q174c (g := (mkF m 39 #[.val (.int p0), .val (.int p1), .val (.ref zVU), .val (.ref zUV), .val (.double (FP.i2d p0)), .second, .unset, .unset, .unset, .unset, .unset, .unset, .unset] [(.double (FP.i2d p0)), (.ref zVU)])) rfl (by rw [hml]; rfl) (Steps.refl _) (argsL := [(.double (FP.i2d p0))]) (rest := []) (lenOf pd_1 rfl) rfl (by show 2 * 0 + _ ≤ _; exact Nat.le_of_eq rfl) (hb hby at_39) (fun _ _ => ⟨rfl, e171, (by decide : 0 + 0 ≤ _), (by decide : 0 + 0 ≤ _)⟩)
    have hQ173b : QV Z zVU (FP.i2d p0) zUV h0 n0 vv173 T173.heap L173c := hQ173
    clear hQ173
    dsimp only [Pt.U, Pt.locs, Pt.cells, Pt.slots] at X173 l173 y173 z173 st173
    subst y173 z173
    obtain ⟨rfl, Nq175, Kq176⟩ := hQ173b
    have N177 : Fr n0 L173 := by rw [l173]; exact Fr.app N0 Nq175
    refine Go.tr (g' := (mkF m 42 #[.val (.int p0), .val (.int p1), .val (.ref zVU), .val (.ref zUV), .val (.double (FP.i2d p0)), .second, .unset, .unset, .unset, .unset, .unset, .unset, .unset] [(.double (FP.dneg (FP.i2d p0)))])) st173 ?_
    have e178 : T173.heap = h0 := Kq176
    have A179 := (⟨X173, hx, hby⟩ : Ax _ _ _ _ _ _ _ _ _ _ _ _ _ _ _)
    refine g_dstore A179 at_42 (ls' := #[.val (.int p0), .val (.int p1), .val (.ref zVU), .val (.ref zUV), .val (.double (FP.i2d p0)), .second, .val (.double (FP.dneg (FP.i2d p0))), .second, .unset, .unset, .unset, .unset, .unset]) rfl (pc' := 44) rfl ?_
    refine g_aloadN A179 at_44 rfl rfl (pc' := 45) rfl ?_
    obtain ⟨cq181, kq181, q181a, q181b, q181c⟩ := isOf hZ e178 E92
    obtain ⟨vv180, _, ⟨T180, L180, k180, n180⟩, -, X180, ⟨L180c, hQ180, l180, y180, z180⟩, st180⟩ := X173.virtualBack hx (y := (⟨"com/example/slackline/slackline/link/Direction", "payer", "()Ljava/lang/String;"⟩ : MethodName)) (z := (⟨"com/example/slackline/slackline/link/Direction", "payer", "()Ljava/lang/String;"⟩ : MethodName)) hown (mvT hZ (hw _ (List.mem_of_getElem? (i := 11) rfl))) (mvT hZ (hw _ (List.mem_of_getElem? (i := 12) rfl))) (notFace_of_selects (args := #[]) (mvT hZ (hw _ (List.mem_of_getElem? (i := 14) rfl)))) (mvT hZ (hw _ (List.mem_of_getElem? (i := 14) rfl))) (mvT hZ (hw _ (List.mem_of_getElem? (i := 13) rfl))) (by decide) (backOf (W := 0) (rm2 l Z a0 hw [] zVU sVU h0 n0 Z0 F93) hZ (hw _ (List.mem_of_getElem? (i := 15) rfl)) (hw _ (List.mem_of_getElem? (i := 1) rfl)) (by decide) (by decide)) q181a q181c (g := (mkF m 45 #[.val (.int p0), .val (.int p1), .val (.ref zVU), .val (.ref zUV), .val (.double (FP.i2d p0)), .second, .val (.double (FP.dneg (FP.i2d p0))), .second, .unset, .unset, .unset, .unset, .unset] [(.ref zVU)])) rfl (by rw [hml]; rfl) (Steps.refl _) (argsL := []) (rest := []) (lenOf pd_2 rfl) rfl (by show 2 * 0 + _ ≤ _; exact Nat.le_of_eq rfl) (hb hby at_45) (fun _ _ => ⟨rfl, e178, (by decide : 0 + 0 ≤ _), (by decide : 0 + 0 ≤ _)⟩)
    have hQ180b : Q2 Z zVU sVU h0 n0 vv180 T180.heap L180c := hQ180
    clear hQ180
    dsimp only [Pt.U, Pt.locs, Pt.cells, Pt.slots] at X180 l180 y180 z180 st180
    subst y180 z180
    obtain ⟨rfl, Nq182, Kq183⟩ := hQ180b
    have N184 : Fr n0 L180 := by rw [l180]; exact Fr.app N177 Nq182
    refine Go.tr (g' := (mkF m 48 #[.val (.int p0), .val (.int p1), .val (.ref zVU), .val (.ref zUV), .val (.double (FP.i2d p0)), .second, .val (.double (FP.dneg (FP.i2d p0))), .second, .unset, .unset, .unset, .unset, .unset] [(.ref sVU)])) st180 ?_
    have e185 : T180.heap = h0 := Kq183
    have A186 := (⟨X180, hx, hby⟩ : Ax _ _ _ _ _ _ _ _ _ _ _ _ _ _ _)
    have wS187 : ∀ d ∈ Bundle.stringAtoms, d.before a0 Z = true := by
      intro d hd
      simp only [Bundle.stringAtoms, List.mem_cons, List.not_mem_nil, or_false] at hd
      rcases hd with rfl | rfl | rfl | rfl | rfl | rfl | rfl
      · exact (hw _ (List.mem_of_getElem? (i := 19) rfl))
      · exact (hw _ (List.mem_of_getElem? (i := 20) rfl))
      · exact (hw _ (List.mem_of_getElem? (i := 21) rfl))
      · exact (hw _ (List.mem_of_getElem? (i := 22) rfl))
      · exact (hw _ (List.mem_of_getElem? (i := 23) rfl))
      · exact (hw _ (List.mem_of_getElem? (i := 24) rfl))
      · exact (hw _ (List.mem_of_getElem? (i := 25) rfl))
    obtain ⟨li188, T188, h188, k188, lb188, kc188, X188, e188, E188, hSi, hSk, hZ, hown, Ea188, Fc188, Fv188, Ar188, -, -, -, st188⟩ := ldcSV (s := s) (vm0 := s.vm) X180 hx hZ hown (hw _ (List.mem_of_getElem? (i := 18) rfl)) wS187 e185 (k0 := 0) ((State.WarmedH.refl s).since 0) (Nat.zero_le _) (by rw [hh, ← hn0]; exact N184) (fun z c q => by rw [hUZ]; exact q) (Ts := []) (by rw [hUZ]; exact IB.start) (by simp) hheld hcw (vs := [.int (117 : Int32)]) (z := (1 : Int32)) ⟨by decide, by decide⟩ (by decide) (by decide) (g := (mkF m 48 #[.val (.int p0), .val (.int p1), .val (.ref zVU), .val (.ref zUV), .val (.double (FP.i2d p0)), .second, .val (.double (FP.dneg (FP.i2d p0))), .second, .unset, .unset, .unset, .unset, .unset] [(.ref sVU)])) rfl (hb hby at_48) (n := 4) (by decide) (by decide) (by decide) (by decide)
    have K189 : Keep h0 h188 [] := (Keep.refl h0 []).ext E188
    have S190 : Sta Z h188 "com/example/slackline/slackline/link/Direction" "UV" "Lcom/example/slackline/slackline/link/Direction;" (.ref zUV) := Sta.ext E188 S84
    have E191 : Exa Z h188 zUV "com/example/slackline/slackline/link/Direction" := Exa.ext E188 E85
    have F192 : Fld Z h188 zUV "com/example/slackline/slackline/link/Direction" "payer" "Ljava/lang/String;" (.ref sUV) := Fld.ext E188 F86
    have E193 : Exa Z h188 sUV "java/lang/String" := Exa.ext E188 E87
    have F194 : Fld Z h188 sUV "java/lang/String" "coder" "B" (.int (0 : Int32)) := Fld.ext E188 F88
    have F195 : Fld Z h188 sUV "java/lang/String" "value" "[B" (.ref bUV) := Fld.ext E188 F89
    have V196 : Dar Z h188 bUV .byte 1 (fun _ => .int (117 : Int32)) := Dar.ext E188 V90
    have S197 : Sta Z h188 "com/example/slackline/slackline/link/Direction" "VU" "Lcom/example/slackline/slackline/link/Direction;" (.ref zVU) := Sta.ext E188 S91
    have E198 : Exa Z h188 zVU "com/example/slackline/slackline/link/Direction" := Exa.ext E188 E92
    have F199 : Fld Z h188 zVU "com/example/slackline/slackline/link/Direction" "payer" "Ljava/lang/String;" (.ref sVU) := Fld.ext E188 F93
    have E200 : Exa Z h188 sVU "java/lang/String" := Exa.ext E188 E94
    have F201 : Fld Z h188 sVU "java/lang/String" "coder" "B" (.int (0 : Int32)) := Fld.ext E188 F95
    have F202 : Fld Z h188 sVU "java/lang/String" "value" "[B" (.ref bVU) := Fld.ext E188 F96
    have V203 : Dar Z h188 bVU .byte 1 (fun _ => .int (118 : Int32)) := Dar.ext E188 V97
    have S204 : Sta Z h188 "java/lang/String" "COMPACT_STRINGS" "Z" (.int cs) := Sta.ext E188 S98
    have Z205 : n0 ≤ h188.size := Nat.le_trans Z0 E188.1
    have V206 : Dar Z h188 lb188 .byte 1 (fun _ => .int (117 : Int32)) := own_arv1 Ar188
    refine Go.of (g' := (mkF m 50 #[.val (.int p0), .val (.int p1), .val (.ref zVU), .val (.ref zUV), .val (.double (FP.i2d p0)), .second, .val (.double (FP.dneg (FP.i2d p0))), .second, .unset, .unset, .unset, .unset, .unset] [(.ref li188), (.ref sVU)])) st188 ?_
    have A207 := (⟨X188, hx, hby⟩ : Ax _ _ _ _ _ _ _ _ _ _ _ _ _ _ _)
    have ne208 : sVU ≠ li188 := fun z => by
      subst z
      have w := own_ref F202 Fv188
      subst w
      exact absurd (own_dne V203 V206) (by decide)
    obtain ⟨cq210, kq210, q210a, q210b, q210c⟩ := isOf hZ e188 E200
    obtain ⟨vv209, _, ⟨T209, L209, k209, n209⟩, -, X209, ⟨L209c, hQ209, l209, y209, z209⟩, st209⟩ := X188.virtualBack hx (y := (⟨"java/lang/String", "equals", "(Ljava/lang/Object;)Z"⟩ : MethodName)) (z := (⟨"java/lang/String", "equals", "(Ljava/lang/Object;)Z"⟩ : MethodName)) hown (mvT hZ (hw _ (List.mem_of_getElem? (i := 26) rfl))) (mvT hZ (hw _ (List.mem_of_getElem? (i := 27) rfl))) (notFace_of_selects (args := #[]) (mvT hZ (hw _ (List.mem_of_getElem? (i := 29) rfl)))) (mvT hZ (hw _ (List.mem_of_getElem? (i := 29) rfl))) (mvT hZ (hw _ (List.mem_of_getElem? (i := 28) rfl))) (by decide) (backOf (W := 0) (rmE118 l Z a0 hw [] sVU li188 bVU lb188 cs h188 n0 Z205 E200 F201 F202 V203 Ea188 Fc188 Fv188 V206 S204 ne208 hcs) hZ (hw _ (List.mem_of_getElem? (i := 30) rfl)) (hw _ (List.mem_of_getElem? (i := 19) rfl)) (by decide) (by decide)) q210a q210c (g := (mkF m 50 #[.val (.int p0), .val (.int p1), .val (.ref zVU), .val (.ref zUV), .val (.double (FP.i2d p0)), .second, .val (.double (FP.dneg (FP.i2d p0))), .second, .unset, .unset, .unset, .unset, .unset] [(.ref li188), (.ref sVU)])) rfl (by rw [hml]; rfl) (Steps.refl _) (argsL := [(.ref li188)]) (rest := []) (lenOf pd_3 rfl) rfl (by show 2 * 0 + _ ≤ _; exact Nat.le_of_eq rfl) (hb hby at_50) (fun _ _ => ⟨rfl, e188, (by decide : 2 + 0 ≤ _), (by decide : 8 + 0 ≤ _)⟩)
    have hQ209b : QE118 Z sVU li188 bVU lb188 cs h188 n0 vv209 T209.heap L209c := hQ209
    clear hQ209
    dsimp only [Pt.U, Pt.locs, Pt.cells, Pt.slots] at X209 l209 y209 z209 st209
    subst y209 z209
    obtain ⟨rfl, Nq211, Kq212⟩ := hQ209b
    have N213 : Fr n0 L209 := by rw [l209]; exact Fr.app N184 Nq211
    refine Go.tr (g' := (mkF m 53 #[.val (.int p0), .val (.int p1), .val (.ref zVU), .val (.ref zUV), .val (.double (FP.i2d p0)), .second, .val (.double (FP.dneg (FP.i2d p0))), .second, .unset, .unset, .unset, .unset, .unset] [(.int (0 : Int32))])) st209 ?_
    have e214 : T209.heap = h188 := Kq212
    have A215 := (⟨X209, hx, hby⟩ : Ax _ _ _ _ _ _ _ _ _ _ _ _ _ _ _)
    refine g_istore A215 at_53 (ls' := #[.val (.int p0), .val (.int p1), .val (.ref zVU), .val (.ref zUV), .val (.double (FP.i2d p0)), .second, .val (.double (FP.dneg (FP.i2d p0))), .second, .val (.int (0 : Int32)), .unset, .unset, .unset, .unset]) rfl (pc' := 55) rfl ?_
    refine g_iload A215 at_55 rfl (pc' := 57) rfl ?_
    refine g_ifY A215 at_57 (c0_eq_t (by decide)) (pc' := 65) rfl ?_
    refine g_dload A215 at_65 rfl (pc' := 67) rfl ?_
    refine g_dneg A215 at_67 (pc' := 68) rfl ?_
    refine g_dstore A215 at_68 (ls' := #[.val (.int p0), .val (.int p1), .val (.ref zVU), .val (.ref zUV), .val (.double (FP.i2d p0)), .second, .val (.double (FP.dneg (FP.i2d p0))), .second, .val (.int (0 : Int32)), .val (.double (FP.dneg (FP.i2d p0))), .second, .unset, .unset]) rfl (pc' := 70) rfl ?_
    refine g_aloadN A215 at_70 rfl rfl (pc' := 71) rfl ?_
    refine g_dload A215 at_71 rfl (pc' := 73) rfl ?_
    obtain ⟨cq217, kq217, q217a, q217b, q217c⟩ := isOf hZ e214 E191
    obtain ⟨vv216, _, ⟨T216, L216, k216, n216⟩, -, X216, ⟨L216c, hQ216, l216, y216, z216⟩, st216⟩ := X209.virtualBack hx (y := (⟨"com/example/slackline/slackline/link/Direction", "net", "(D)D"⟩ : MethodName)) (z := (⟨"com/example/slackline/slackline/link/Direction", "net", "(D)D"⟩ : MethodName)) hown (mvT hZ (hw _ (List.mem_of_getElem? (i := 5) rfl))) (mvT hZ (hw _ (List.mem_of_getElem? (i := 6) rfl))) (notFace_of_selects (args := #[]) (mvT hZ (hw _ (List.mem_of_getElem? (i := 8) rfl)))) (mvT hZ (hw _ (List.mem_of_getElem? (i := 8) rfl))) (mvT hZ (hw _ (List.mem_of_getElem? (i := 7) rfl))) (by decide) (backOf (W := 0) (rmU l Z a0 hw [] zUV (FP.i2d p0) h188 n0 Z205 S190) hZ (hw _ (List.mem_of_getElem? (i := 9) rfl)) (hw _ (List.mem_of_getElem? (i := 1) rfl)) (by decide) (by decide)) q217a q217c (g := (mkF m 73 #[.val (.int p0), .val (.int p1), .val (.ref zVU), .val (.ref zUV), .val (.double (FP.i2d p0)), .second, .val (.double (FP.dneg (FP.i2d p0))), .second, .val (.int (0 : Int32)), .val (.double (FP.dneg (FP.i2d p0))), .second, .unset, .unset] [(.double (FP.i2d p0)), (.ref zUV)])) rfl (by rw [hml]; rfl) (Steps.refl _) (argsL := [(.double (FP.i2d p0))]) (rest := []) (lenOf pd_1 rfl) rfl (by show 2 * 0 + _ ≤ _; exact Nat.le_of_eq rfl) (hb hby at_73) (fun _ _ => ⟨rfl, e214, (by decide : 2 + 0 ≤ _), (by decide : 8 + 0 ≤ _)⟩)
    have hQ216b : QU Z zUV (FP.i2d p0) h188 n0 vv216 T216.heap L216c := hQ216
    clear hQ216
    dsimp only [Pt.U, Pt.locs, Pt.cells, Pt.slots] at X216 l216 y216 z216 st216
    subst y216 z216
    obtain ⟨rfl, Nq218, Kq219⟩ := hQ216b
    have N220 : Fr n0 L216 := by rw [l216]; exact Fr.app N213 Nq218
    refine Go.tr (g' := (mkF m 76 #[.val (.int p0), .val (.int p1), .val (.ref zVU), .val (.ref zUV), .val (.double (FP.i2d p0)), .second, .val (.double (FP.dneg (FP.i2d p0))), .second, .val (.int (0 : Int32)), .val (.double (FP.dneg (FP.i2d p0))), .second, .unset, .unset] [(.double (FP.i2d p0))])) st216 ?_
    have e221 : T216.heap = h188 := Kq219
    have A222 := (⟨X216, hx, hby⟩ : Ax _ _ _ _ _ _ _ _ _ _ _ _ _ _ _)
    refine g_dstore A222 at_76 (ls' := #[.val (.int p0), .val (.int p1), .val (.ref zVU), .val (.ref zUV), .val (.double (FP.i2d p0)), .second, .val (.double (FP.dneg (FP.i2d p0))), .second, .val (.int (0 : Int32)), .val (.double (FP.dneg (FP.i2d p0))), .second, .val (.double (FP.i2d p0)), .second]) rfl (pc' := 78) rfl ?_
    refine g_dload A222 at_78 rfl (pc' := 80) rfl ?_
    refine g_dload A222 at_80 rfl (pc' := 82) rfl ?_
    refine g_dcmp A222 at_82 (pc' := 83) rfl ?_
    refine g_ifN A222 at_83 (d_l_ne_f (own_self (own_fneg (i2d_fin p0)))) (pc' := 86) rfl ?_
    refine g_dload A222 at_86 rfl (pc' := 88) rfl ?_
    refine g_dload A222 at_88 rfl (pc' := 90) rfl ?_
    refine g_dneg A222 at_90 (pc' := 91) rfl ?_
    refine g_dcmp A222 at_91 (pc' := 92) rfl ?_
    refine g_ifN A222 at_92 (d_l_ne_f (own_nns (i2d_fin p0))) (pc' := 95) rfl ?_
    refine g_iconst A222 at_95 (v := (1 : Int32)) rfl (pc' := 96) rfl ?_
    refine g_goto A222 at_96 (pc' := 100) rfl ?_
    exact g_retW (Q := Q0 Z p0 p1 zUV sUV bUV zVU sVU bVU cs h0 n0) A222 hSi (by rw [e221]; exact hSk) at_100 Bd.notSynchronized Bd.returns rfl (Or.inl ⟨rfl, by simp, _, rfl⟩) (by decide) (by decide) (by rw [e221]; exact ⟨rfl, N220⟩)
set_option maxRecDepth 65536 in
set_option maxHeartbeats 40000000 in
theorem comes_1 {Post : Tables → Env → Array Value → State → Outcome → State → Prop} (hpost : ∀ tb e args s v u, (limb_1_1.after args s (.returned v) u = true ∧ limb_1_2.after args s (.returned v) u = true ∧ True) → FramedW s (.returned v) u (Jvm.fieldLocs frame_1_writes args s ++ Jvm.arrayLocs frame_1_arrays args s ++ Jvm.staticLocs frame_1_statics s) 8 1088 → Post tb e args s (.returned v) u) :
    ArmFor flags0 classFile x code maxLocals ret World_1 tables_1 room_1 Calls_1 rest_1 Pre_1 Post := by
  intro l hfl _ _ p e ha hc hk s m args below hf hA hF happ hP
  obtain ⟨hcalls, hrest, hpre⟩ := hP
  obtain ⟨-, -, -, hnamed, -, -, -, hat⟩ := (Spec.applies_iff hf).mp happ
  obtain ⟨hg, hn⟩ := and_e (Cond.before_iff.mp (show (Jvm.Cond.and given_1 narrow_1).before args s = true from hpre))
  obtain ⟨g0, hg1⟩ := and_e hg
  obtain ⟨w0, w1, rfl⟩ : ∃ w0 w1 : Value, args = #[w0, w1] := by
    have hs : args.size = 2 := by simpa [Cond.value, given_1] using g0
    obtain ⟨L⟩ := args
    match L, hs with
    | [w0, w1], _ => exact ⟨w0, w1, rfl⟩
  have hw := fun d (hd : d ∈ tables_1) => atoms_spec (ws := Jvm.Cond.code x code maxLocals ret :: tables_1) hat d (List.mem_cons_of_mem _ hd)
  have hfit : Fit s := fun {y c} hc i hi => by
    obtain ⟨ha, rfl⟩ := Array.getElem?_eq_some_iff.mp hc
    have q := List.all_eq_true.mp ((Array.all_eq_true_iff_forall_mem.mp hF) _ (Array.getElem_mem ha)) i (List.mem_range.mpr hi)
    simpa [Array.getElem?_eq_getElem hi] using q
  obtain ⟨k0, hg2⟩ := and_e hg1
  obtain ⟨i0, j0⟩ := is_v k0
  obtain rfl : w0 = (.int i0) := Option.some.inj j0
  obtain ⟨i1, j1⟩ := is_v hg2
  obtain rfl : w1 = (.int i1) := Option.some.inj j1
  obtain ⟨y0, hn1⟩ := and_e hn
  obtain ⟨y1, hn2⟩ := and_e hn1
  obtain ⟨y2, hn3⟩ := and_e hn2
  obtain ⟨y3, hn4⟩ := and_e hn3
  obtain ⟨y4, hn5⟩ := and_e hn4
  obtain ⟨y5, hn6⟩ := and_e hn5
  obtain ⟨y6, hn7⟩ := and_e hn6
  obtain ⟨y7, hn8⟩ := and_e hn7
  obtain ⟨y8, hn9⟩ := and_e hn8
  obtain ⟨y9, hn10⟩ := and_e hn9
  obtain ⟨y10, hn11⟩ := and_e hn10
  obtain ⟨y11, hn12⟩ := and_e hn11
  obtain ⟨y12, hn13⟩ := and_e hn12
  obtain ⟨zUV, evzUV⟩ := exa_v y1
  have SzUV : Sta s s.heap "com/example/slackline/slackline/link/Direction" "UV" "Lcom/example/slackline/slackline/link/Direction;" (.ref zUV) := Sta.start evzUV (Or.inr ⟨(hw _ (List.mem_of_getElem? (i := 1) rfl)), (hw _ (List.mem_of_getElem? (i := 4) rfl))⟩)
  have EzUV : Exa s s.heap zUV "com/example/slackline/slackline/link/Direction" := Exa.start evzUV y1
  have OzUV : Fld s s.heap zUV "java/lang/Enum" "ordinal" "I" _ := own_fld evzUV (own_ints y3)
  obtain ⟨sUV, evsUV⟩ := exa_v y9
  have PzUV : Fld s s.heap zUV "com/example/slackline/slackline/link/Direction" "payer" "Ljava/lang/String;" (.ref sUV) := own_fld evzUV evsUV
  have EsUV : Exa s s.heap sUV "java/lang/String" := Exa.start evsUV y9
  have CsUV : Fld s s.heap sUV "java/lang/String" "coder" "B" (.int (0 : Int32)) := own_fld evsUV (own_ints y10)
  obtain ⟨bUV, evbUV, DbUV⟩ := own_dar1 y11 y12 hn13
  have VsUV : Fld s s.heap sUV "java/lang/String" "value" "[B" (.ref bUV) := own_fld evsUV evbUV
  obtain ⟨zVU, evzVU⟩ := exa_v y0
  have SzVU : Sta s s.heap "com/example/slackline/slackline/link/Direction" "VU" "Lcom/example/slackline/slackline/link/Direction;" (.ref zVU) := Sta.start evzVU (Or.inr ⟨(hw _ (List.mem_of_getElem? (i := 1) rfl)), (hw _ (List.mem_of_getElem? (i := 2) rfl))⟩)
  have EzVU : Exa s s.heap zVU "com/example/slackline/slackline/link/Direction" := Exa.start evzVU y0
  have OzVU : Fld s s.heap zVU "java/lang/Enum" "ordinal" "I" _ := own_fld evzVU (own_ints y2)
  obtain ⟨sVU, evsVU⟩ := exa_v y4
  have PzVU : Fld s s.heap zVU "com/example/slackline/slackline/link/Direction" "payer" "Ljava/lang/String;" (.ref sVU) := own_fld evzVU evsVU
  have EsVU : Exa s s.heap sVU "java/lang/String" := Exa.start evsVU y4
  have CsVU : Fld s s.heap sVU "java/lang/String" "coder" "B" (.int (0 : Int32)) := own_fld evsVU (own_ints y5)
  obtain ⟨bVU, evbVU, DbVU⟩ := own_dar1 y6 y7 y8
  have VsVU : Fld s s.heap sVU "java/lang/String" "value" "[B" (.ref bVU) := own_fld evsVU evbVU
  have hne : zVU ≠ zUV := Fld.ne OzVU OzUV (by decide)
  obtain ⟨r1, hr1⟩ := and_e (Cond.before_iff.mp (show rest_1_c.before _ s = true from hrest))
  obtain ⟨r2, hr2⟩ := and_e hr1
  obtain ⟨r3, hr3⟩ := and_e hr2
  obtain ⟨cs, evcs⟩ := is_v r2
  have Scs : Sta s s.heap "java/lang/String" "COMPACT_STRINGS" "Z" (.int cs) := Sta.start evcs (Or.inl (Cond.before_iff.mpr r1))
  have hcw : Jvm.Lit.compactW.before _ s = true := Cond.before_iff.mpr r3
  have hcs : ¬ cs = 0 := by
    intro q
    have r4 := not_v r3
    have r5 : (Jvm.Cond.eq (Jvm.Term.static "java/lang/String" "COMPACT_STRINGS" "Z") (Jvm.Term.int (0 : Int32))).value #[.int i0, .int i1] s none s [] = some true := eq_i evcs (Term.int_eval (0)) (congrArg Value.int q)
    exact absurd (r4.symm.trans r5) (by decide)
  have hheld : Jvm.Lit.constHeld s "com/example/slackline/slackline/link/DirectionNetPinLaw" 24 := hcalls.1 _ (List.mem_of_getElem? (i := 0) rfl)
  obtain ⟨n, o, h1, h2, h3, _, L, rfl, ⟨rfl, N⟩, hq⟩ := rm0 l s _ hw tables_1 i0 i1 zUV sUV bUV zVU sVU bVU cs s.heap s.heap.size (Nat.le_refl _) SzUV EzUV PzUV EsUV CsUV VsUV DbUV SzVU EzVU PzVU EsVU CsVU VsVU DbVU Scs hne hcs hheld hcw rfl p e ha hc hk s m _ below hf ((Spec.applies_iff_loose hf).mp happ).1 ⟨rfl, State.Warmed39.refl s, rfl, rfl⟩ trivial
  refine ⟨n, _, h1, h2, h3, hpost _ _ _ _ _ _ ⟨Cond.after_iff.mpr rfl, Cond.after_iff.mpr (eq_i res_at (Term.int_eval (1)) rfl), trivial⟩ ⟨hq.1, hq.2.1, hq.2.2.1, (hq.2.2.2.sift fun y hy => Or.inr (N y hy)).mono (by decide) (by decide)⟩⟩
theorem main_1_1 : Claimed_1_1 := comes_1 fun _ _ _ _ _ _ h hF => ⟨h.1, hF⟩
theorem main_1_2 : Claimed_1_2 := comes_1 fun _ _ _ _ _ _ h hF => ⟨h.2.1, hF⟩
end Jvm.Pilot.@@N@@
namespace Jvm.Pilot.@@N@@
open Jvm Jvm.ClassFile Sem Op Lib Jvm.Free Jvm.Stand Jvm.Pilot.@@N@@.Jvm.D
/-! MADE BY PROGRAM (witnessworld.py) out of the Statement's table words and the real class files: 18 classes; the members and pool entries that the words name. The judged class is class 1, her method 1. -/
namespace start1
open Jvm.ClassFile
def u (s : String) : CpInfo := .utf8 (stringToUtf16 s)
/-- a pool by its gaps: so many unusable entries, then the entry; so many at the end -/
def gap : Nat → List CpInfo → List CpInfo
  | 0, r => r
  | n + 1, r => .unusable :: gap n r
def poolList (es : List (Nat × CpInfo)) (last : Nat) : List CpInfo := es.foldr (fun e r => gap e.1 (e.2 :: r)) (gap last [])
def pool (es : List (Nat × CpInfo)) (last : Nat) : Array CpInfo := ⟨poolList es last⟩
def fileOf (pool : Array CpInfo) (this : Nat) (attrs : Array Attribute := #[]) (ms : Array MethodInfo := #[]) (fl : Nat := 33) (sup : Nat := 0) (ifs : Array Nat := #[]) (fds : Array FieldInfo := #[]) : ClassFile where
  minorVersion := 0
  majorVersion := 65
  constantPool := pool
  accessFlags := fl
  thisClass := this
  superClass := sup
  interfaces := ifs
  fields := fds
  methods := ms
  attributes := attrs
def plain (name : String) (sup : Option ClassId) : Class where
  name := name
  kind := .ordinary
  loader := none
  accessFlags := 33
  super := sup
  interfaces := #[]
  cf := none
  fields := #[]
  methods := #[]
  instanceTypes := #[]
  staticTypes := #[]
  resolved := #[]
  callSites := []
  init := .initialized
  statics := none
  mirror := none

def pool0 : Array CpInfo := pool [(5, u "<init>"), (0, u "()V"), (1, .class_ 10), (1, u "java/lang/Object")] 113

def k0m0 : Method := { name := "<init>", desc := "()V", sig := { parameters := [], returnType := none }, accessFlags := 1, code := none }
/-- java/lang/Object -/
def k0 : Class := { plain "java/lang/Object" none with
  accessFlags := 33
  interfaces := #[]
  cf := some (fileOf pool0 8 #[] #[{ accessFlags := 1, nameIndex := 5, descriptorIndex := 6, attributes := #[] }] 33 0 #[] #[])
  fields := #[]
  methods := #[k0m0]
  instanceTypes := #[]
  staticTypes := #[]
  resolved := Array.replicate 124 none
  statics := none }

def pool1 : Array CpInfo := pool [(2, .class_ 4), (1, u "java/lang/Object"), (0, u "<init>"), (0, u "()V"), (0, .fieldref 8 9), (0, .class_ 10), (0, .nameAndType 11 12), (0, u "com/example/slackline/slackline/link/Direction"), (0, u "UV"), (0, u "Lcom/example/slackline/slackline/link/Direction;"), (0, .fieldref 8 14), (0, .nameAndType 15 12), (0, u "VU"), (0, .methodref 8 17), (0, .nameAndType 18 19), (0, u "net"), (0, u "(D)D"), (0, .methodref 8 21), (0, .nameAndType 22 23), (0, u "payer"), (0, u "()Ljava/lang/String;"), (0, .string 25), (0, u "u"), (0, .methodref 27 28), (0, .class_ 29), (0, .nameAndType 30 31), (0, u "java/lang/String"), (0, u "equals"), (0, u "(Ljava/lang/Object;)Z"), (0, .class_ 33), (0, u "com/example/slackline/slackline/link/DirectionNetPinLaw"), (2, u "law"), (0, u "(II)Z")] 3

def k1m0 : Method := { name := "<init>", desc := "()V", sig := { parameters := [], returnType := none }, accessFlags := 1, code := none }
def k1c1 : Code := { maxStack := 4, maxLocals := 13, code := code, exceptionTable := #[], attributes := #[] }
def k1m1 : Method := { name := "law", desc := "(II)Z", sig := { parameters := [.int, .int], returnType := some .boolean }, accessFlags := 9, code := some k1c1 }
/-- com/example/slackline/slackline/link/DirectionNetPinLaw -/
def k1 : Class := { plain "com/example/slackline/slackline/link/DirectionNetPinLaw" (some 0) with
  accessFlags := 49
  interfaces := #[]
  cf := some (fileOf pool1 32 #[] #[{ accessFlags := 1, nameIndex := 5, descriptorIndex := 6, attributes := #[] }, { accessFlags := 9, nameIndex := 36, descriptorIndex := 37, attributes := #[] }] 49 2 #[] #[])
  fields := #[]
  methods := #[k1m0, k1m1]
  instanceTypes := #[]
  staticTypes := #[]
  resolved := Array.replicate 41 none
  statics := none }

def pool2 : Array CpInfo := pool [(1, .class_ 2), (0, u "java/lang/constant/Constable"), (0, .class_ 4), (0, u "java/lang/Object")] 6

/-- java/lang/constant/Constable -/
def k2 : Class := { plain "java/lang/constant/Constable" (some 0) with
  accessFlags := 1537
  interfaces := #[]
  cf := some (fileOf pool2 1 #[] #[] 1537 3 #[] #[])
  fields := #[]
  methods := #[]
  instanceTypes := #[]
  staticTypes := #[]
  resolved := Array.replicate 11 none
  statics := none }

def pool3 : Array CpInfo := pool [(1, .class_ 2), (0, u "java/lang/Comparable"), (0, .class_ 4), (0, u "java/lang/Object")] 7

/-- java/lang/Comparable -/
def k3 : Class := { plain "java/lang/Comparable" (some 0) with
  accessFlags := 1537
  interfaces := #[]
  cf := some (fileOf pool3 1 #[] #[] 1537 3 #[] #[])
  fields := #[]
  methods := #[]
  instanceTypes := #[]
  staticTypes := #[]
  resolved := Array.replicate 12 none
  statics := none }

def pool4 : Array CpInfo := pool [(1, .class_ 2), (0, u "java/io/Serializable"), (0, .class_ 4), (0, u "java/lang/Object")] 2

/-- java/io/Serializable -/
def k4 : Class := { plain "java/io/Serializable" (some 0) with
  accessFlags := 1537
  interfaces := #[]
  cf := some (fileOf pool4 1 #[] #[] 1537 3 #[] #[])
  fields := #[]
  methods := #[]
  instanceTypes := #[]
  staticTypes := #[]
  resolved := Array.replicate 7 none
  statics := none }

def pool5 : Array CpInfo := pool [(2, .class_ 4), (1, u "java/lang/Enum"), (0, u "name"), (0, u "Ljava/lang/String;"), (2, u "ordinal"), (0, u "I"), (1, .class_ 14), (1, u "java/lang/Object"), (4, u "hash"), (86, .class_ 108), (1, u "java/lang/Enum$EnumDesc"), (2, .class_ 112), (0, u "java/lang/constant/Constable"), (0, .class_ 114), (0, u "java/lang/Comparable"), (0, .class_ 116), (0, u "java/io/Serializable")] 87

/-- java/lang/Enum -/
def k5 : Class := { plain "java/lang/Enum" (some 0) with
  accessFlags := 1057
  interfaces := #[2, 3, 4]
  cf := some (fileOf pool5 2 #[.nestMembers #[106]] #[] 1057 12 #[111, 113, 115] #[{ accessFlags := 18, nameIndex := 5, descriptorIndex := 6, attributes := #[] }, { accessFlags := 18, nameIndex := 9, descriptorIndex := 10, attributes := #[] }, { accessFlags := 2, nameIndex := 19, descriptorIndex := 10, attributes := #[] }])
  fields := #[{ name := "name", type := (.object "java/lang/String"), accessFlags := 18, slot := 0, constantValue := 0 }, { name := "ordinal", type := .int, accessFlags := 18, slot := 1, constantValue := 0 }, { name := "hash", type := .int, accessFlags := 2, slot := 2, constantValue := 0 }]
  methods := #[]
  instanceTypes := #[(.object "java/lang/String"), .int, .int]
  staticTypes := #[]
  resolved := Array.replicate 204 none
  statics := none }

def pool6 : Array CpInfo := pool [(1, .class_ 2), (0, u "com/example/slackline/slackline/link/Direction"), (0, .fieldref 1 4), (0, .nameAndType 5 6), (0, u "UV"), (0, u "Lcom/example/slackline/slackline/link/Direction;"), (2, u "VU"), (2, u "$VALUES"), (0, u "[Lcom/example/slackline/slackline/link/Direction;"), (6, .class_ 22), (1, u "java/lang/Enum"), (8, u "code"), (0, u "Ljava/lang/String;"), (0, .fieldref 1 34), (0, .nameAndType 35 32), (0, u "payer"), (52, u "()Ljava/lang/String;"), (0, u "net"), (0, u "(D)D")] 31

def k6c0 : Code := { maxStack := 1, maxLocals := 1, code := prog_35_method_5_code, exceptionTable := #[], attributes := #[] }
def k6m0 : Method := { name := "payer", desc := "()Ljava/lang/String;", sig := { parameters := [], returnType := some (.object "java/lang/String") }, accessFlags := 1, code := some k6c0 }
def k6c1 : Code := { maxStack := 2, maxLocals := 3, code := prog_35_method_6_code, exceptionTable := #[], attributes := #[] }
def k6m1 : Method := { name := "net", desc := "(D)D", sig := { parameters := [.double], returnType := some .double }, accessFlags := 1, code := some k6c1 }
/-- com/example/slackline/slackline/link/Direction -/
def k6 : Class := { plain "com/example/slackline/slackline/link/Direction" (some 5) with
  accessFlags := 16433
  interfaces := #[]
  cf := some (fileOf pool6 1 #[] #[{ accessFlags := 1, nameIndex := 35, descriptorIndex := 88, attributes := #[] }, { accessFlags := 1, nameIndex := 89, descriptorIndex := 90, attributes := #[] }] 16433 20 #[] #[{ accessFlags := 16409, nameIndex := 5, descriptorIndex := 6, attributes := #[] }, { accessFlags := 16409, nameIndex := 9, descriptorIndex := 6, attributes := #[] }, { accessFlags := 18, nameIndex := 31, descriptorIndex := 32, attributes := #[] }, { accessFlags := 18, nameIndex := 35, descriptorIndex := 32, attributes := #[] }, { accessFlags := 4122, nameIndex := 12, descriptorIndex := 13, attributes := #[] }])
  fields := #[{ name := "UV", type := (.object "com/example/slackline/slackline/link/Direction"), accessFlags := 16409, slot := 0, constantValue := 0 }, { name := "VU", type := (.object "com/example/slackline/slackline/link/Direction"), accessFlags := 16409, slot := 1, constantValue := 0 }, { name := "code", type := (.object "java/lang/String"), accessFlags := 18, slot := 3, constantValue := 0 }, { name := "payer", type := (.object "java/lang/String"), accessFlags := 18, slot := 4, constantValue := 0 }, { name := "$VALUES", type := (.array (.object "com/example/slackline/slackline/link/Direction")), accessFlags := 4122, slot := 2, constantValue := 0 }]
  methods := #[k6m0, k6m1]
  instanceTypes := #[(.object "java/lang/String"), .int, .int, (.object "java/lang/String"), (.object "java/lang/String")]
  staticTypes := #[(.object "com/example/slackline/slackline/link/Direction"), (.object "com/example/slackline/slackline/link/Direction"), (.array (.object "com/example/slackline/slackline/link/Direction"))]
  resolved := Array.replicate 122 none
  statics := some 0 }

def pool7 : Array CpInfo := pool [(2, .class_ 4), (1, u "java/lang/CharSequence"), (42, .class_ 48), (0, u "java/lang/CharSequence$1CodePointIterator"), (10, .class_ 60), (0, u "java/lang/CharSequence$1CharIterator"), (5, .class_ 67), (0, u "java/lang/Object")] 63

/-- java/lang/CharSequence -/
def k7 : Class := { plain "java/lang/CharSequence" (some 0) with
  accessFlags := 1537
  interfaces := #[]
  cf := some (fileOf pool7 2 #[.nestMembers #[47, 59]] #[] 1537 66 #[] #[])
  fields := #[]
  methods := #[]
  instanceTypes := #[]
  staticTypes := #[]
  resolved := Array.replicate 131 none
  statics := none }

def pool8 : Array CpInfo := pool [(1, .class_ 2), (0, u "java/lang/constant/ConstantDesc"), (0, .class_ 4), (0, u "java/lang/Object")] 32

/-- java/lang/constant/ConstantDesc -/
def k8 : Class := { plain "java/lang/constant/ConstantDesc" (some 0) with
  accessFlags := 1537
  interfaces := #[]
  cf := some (fileOf pool8 1 #[] #[] 1537 3 #[] #[])
  fields := #[]
  methods := #[]
  instanceTypes := #[]
  staticTypes := #[]
  resolved := Array.replicate 37 none
  statics := none }

def pool9 : Array CpInfo := pool [(2, .class_ 4), (1, u "java/lang/Object"), (0, u "<init>"), (0, u "()V"), (2, .fieldref 10 11), (0, .class_ 12), (0, .nameAndType 13 14), (0, u "java/lang/String"), (0, u "value"), (0, u "[B"), (0, .fieldref 10 16), (0, .nameAndType 17 18), (0, u "coder"), (0, u "B"), (2, u "hash"), (0, u "I"), (2, u "hashIsZero"), (0, u "Z"), (11, .fieldref 10 39), (0, .nameAndType 40 26), (0, u "COMPACT_STRINGS"), (66, .class_ 109), (1, u "java/lang/StringLatin1"), (431, .methodref 107 542), (0, .nameAndType 543 544), (0, u "equals"), (0, u "([B[B)Z"), (28, u "(Ljava/lang/Object;)Z"), (1, .class_ 576), (0, u "java/lang/CharSequence"), (22, u "CASE_INSENSITIVE_ORDER"), (0, u "Ljava/util/Comparator;"), (500, u "serialPersistentFields"), (0, u "[Ljava/io/ObjectStreamField;"), (0, .class_ 1104), (0, u "java/lang/String$CaseInsensitiveComparator"), (1, .class_ 1107), (0, u "java/io/Serializable"), (0, .class_ 1109), (0, u "java/lang/Comparable"), (0, .class_ 1111), (0, u "java/lang/constant/Constable"), (0, .class_ 1113), (0, u "java/lang/constant/ConstantDesc"), (2, u "serialVersionUID"), (0, u "J"), (3, u "REPL"), (0, u "C"), (2, u "LATIN1"), (1, u "UTF16")] 323

def k9m0 : Method := { name := "<init>", desc := "()V", sig := { parameters := [], returnType := none }, accessFlags := 1, code := none }
def k9c1 : Code := { maxStack := 2, maxLocals := 3, code := jdk_42_method_66_code, exceptionTable := #[], attributes := #[] }
def k9m1 : Method := { name := "equals", desc := "(Ljava/lang/Object;)Z", sig := { parameters := [(.object "java/lang/Object")], returnType := some .boolean }, accessFlags := 1, code := some k9c1 }
/-- java/lang/String -/
def k9 : Class := { plain "java/lang/String" (some 0) with
  accessFlags := 49
  interfaces := #[4, 3, 7, 2, 8]
  cf := some (fileOf pool9 10 #[.nestMembers #[1103]] #[{ accessFlags := 1, nameIndex := 5, descriptorIndex := 6, attributes := #[] }, { accessFlags := 1, nameIndex := 543, descriptorIndex := 573, attributes := #[] }] 49 2 #[1106, 1108, 575, 1110, 1112] #[{ accessFlags := 18, nameIndex := 13, descriptorIndex := 14, attributes := #[] }, { accessFlags := 18, nameIndex := 17, descriptorIndex := 18, attributes := #[] }, { accessFlags := 2, nameIndex := 21, descriptorIndex := 22, attributes := #[] }, { accessFlags := 2, nameIndex := 25, descriptorIndex := 26, attributes := #[] }, { accessFlags := 26, nameIndex := 1116, descriptorIndex := 1117, attributes := #[] }, { accessFlags := 24, nameIndex := 40, descriptorIndex := 26, attributes := #[] }, { accessFlags := 26, nameIndex := 1101, descriptorIndex := 1102, attributes := #[] }, { accessFlags := 26, nameIndex := 1121, descriptorIndex := 1122, attributes := #[] }, { accessFlags := 25, nameIndex := 599, descriptorIndex := 600, attributes := #[] }, { accessFlags := 24, nameIndex := 1125, descriptorIndex := 18, attributes := #[] }, { accessFlags := 24, nameIndex := 1127, descriptorIndex := 18, attributes := #[] }])
  fields := #[{ name := "value", type := (.array .byte), accessFlags := 18, slot := 0, constantValue := 0 }, { name := "coder", type := .byte, accessFlags := 18, slot := 1, constantValue := 0 }, { name := "hash", type := .int, accessFlags := 2, slot := 2, constantValue := 0 }, { name := "hashIsZero", type := .boolean, accessFlags := 2, slot := 3, constantValue := 0 }, { name := "serialVersionUID", type := .long, accessFlags := 26, slot := 0, constantValue := 0 }, { name := "COMPACT_STRINGS", type := .boolean, accessFlags := 24, slot := 1, constantValue := 0 }, { name := "serialPersistentFields", type := (.array (.object "java/io/ObjectStreamField")), accessFlags := 26, slot := 2, constantValue := 0 }, { name := "REPL", type := .char, accessFlags := 26, slot := 3, constantValue := 0 }, { name := "CASE_INSENSITIVE_ORDER", type := (.object "java/util/Comparator"), accessFlags := 25, slot := 4, constantValue := 0 }, { name := "LATIN1", type := .byte, accessFlags := 24, slot := 5, constantValue := 0 }, { name := "UTF16", type := .byte, accessFlags := 24, slot := 6, constantValue := 0 }]
  methods := #[k9m0, k9m1]
  instanceTypes := #[(.array .byte), .byte, .int, .boolean]
  staticTypes := #[.long, .boolean, (.array (.object "java/io/ObjectStreamField")), .char, (.object "java/util/Comparator"), .byte, .byte]
  resolved := Array.replicate 1451 none
  statics := some 1 }

def pool10 : Array CpInfo := pool [(4, .class_ 6), (1, u "java/lang/Object"), (0, u "<init>"), (0, u "()V"), (5, .class_ 16), (1, u "java/lang/StringLatin1"), (104, u "$assertionsDisabled"), (0, u "Z"), (98, .class_ 223), (1, u "java/lang/StringLatin1$LinesSpliterator"), (57, u "equals"), (0, u "([B[B)Z"), (107, .class_ 391), (0, u "java/lang/StringLatin1$CharsSpliterator")] 3

def k10m0 : Method := { name := "<init>", desc := "()V", sig := { parameters := [], returnType := none }, accessFlags := 0, code := none }
def k10c1 : Code := { maxStack := 3, maxLocals := 3, code := jdk_43_method_13_code, exceptionTable := #[], attributes := #[] }
def k10m1 : Method := { name := "equals", desc := "([B[B)Z", sig := { parameters := [(.array .byte), (.array .byte)], returnType := some .boolean }, accessFlags := 9, code := some k10c1 }
/-- java/lang/StringLatin1 -/
def k10 : Class := { plain "java/lang/StringLatin1" (some 0) with
  accessFlags := 48
  interfaces := #[]
  cf := some (fileOf pool10 14 #[.nestMembers #[390, 221]] #[{ accessFlags := 0, nameIndex := 7, descriptorIndex := 8, attributes := #[] }, { accessFlags := 9, nameIndex := 281, descriptorIndex := 282, attributes := #[] }] 48 4 #[] #[{ accessFlags := 4120, nameIndex := 121, descriptorIndex := 122, attributes := #[] }])
  fields := #[{ name := "$assertionsDisabled", type := .boolean, accessFlags := 4120, slot := 0, constantValue := 0 }]
  methods := #[k10m0, k10m1]
  instanceTypes := #[]
  staticTypes := #[.boolean]
  resolved := Array.replicate 395 none
  statics := none }

def pool11 : Array CpInfo := pool [(2, .class_ 4), (1, u "java/lang/Object"), (0, u "<init>"), (0, u "()V"), (17, .class_ 26), (1, u "jdk/internal/util/Preconditions"), (28, .class_ 56), (0, u "jdk/internal/util/Preconditions$4"), (57, .class_ 115), (0, u "jdk/internal/util/Preconditions$1"), (7, u "SIOOBE_FORMATTER"), (0, u "Ljava/util/function/BiFunction;"), (0, .class_ 126), (0, u "jdk/internal/util/Preconditions$2"), (3, u "AIOOBE_FORMATTER"), (0, .class_ 132), (0, u "jdk/internal/util/Preconditions$3"), (3, u "IOOBE_FORMATTER")] 57

def k11m0 : Method := { name := "<init>", desc := "()V", sig := { parameters := [], returnType := none }, accessFlags := 1, code := none }
/-- jdk/internal/util/Preconditions -/
def k11 : Class := { plain "jdk/internal/util/Preconditions" (some 0) with
  accessFlags := 33
  interfaces := #[]
  cf := some (fileOf pool11 24 #[.nestMembers #[55, 131, 125, 114]] #[{ accessFlags := 1, nameIndex := 5, descriptorIndex := 6, attributes := #[] }] 33 2 #[] #[{ accessFlags := 25, nameIndex := 123, descriptorIndex := 124, attributes := #[] }, { accessFlags := 25, nameIndex := 130, descriptorIndex := 124, attributes := #[] }, { accessFlags := 25, nameIndex := 136, descriptorIndex := 124, attributes := #[] }])
  fields := #[{ name := "SIOOBE_FORMATTER", type := (.object "java/util/function/BiFunction"), accessFlags := 25, slot := 0, constantValue := 0 }, { name := "AIOOBE_FORMATTER", type := (.object "java/util/function/BiFunction"), accessFlags := 25, slot := 1, constantValue := 0 }, { name := "IOOBE_FORMATTER", type := (.object "java/util/function/BiFunction"), accessFlags := 25, slot := 2, constantValue := 0 }]
  methods := #[k11m0]
  instanceTypes := #[]
  staticTypes := #[(.object "java/util/function/BiFunction"), (.object "java/util/function/BiFunction"), (.object "java/util/function/BiFunction")]
  resolved := Array.replicate 194 none
  statics := some 2 }

def pool12 : Array CpInfo := pool [(9, u "<init>"), (6, .class_ 18), (1, u "java/lang/Object"), (0, u "()V"), (1, .class_ 23), (1, u "jdk/internal/util/ArraysSupport"), (0, u "LOG2_ARRAY_LONG_INDEX_SCALE"), (0, u "I"), (2, u "U"), (0, u "Ljdk/internal/misc/Unsafe;"), (8, u "BIG_ENDIAN"), (0, u "Z"), (8, u "LOG2_BYTE_BIT_SIZE"), (4, u "LOG2_ARRAY_INT_INDEX_SCALE"), (54, u "JLA"), (0, u "Ljdk/internal/access/JavaLangAccess;"), (11, u "LOG2_ARRAY_BOOLEAN_INDEX_SCALE"), (9, u "LOG2_ARRAY_BYTE_INDEX_SCALE"), (5, u "LOG2_ARRAY_CHAR_INDEX_SCALE"), (5, u "LOG2_ARRAY_SHORT_INDEX_SCALE"), (18, u "LOG2_ARRAY_FLOAT_INDEX_SCALE"), (24, u "LOG2_ARRAY_DOUBLE_INDEX_SCALE"), (89, u "T_BOOLEAN"), (2, u "T_CHAR"), (1, u "T_FLOAT"), (1, u "T_DOUBLE"), (1, u "T_BYTE"), (1, u "T_SHORT"), (1, u "T_INT"), (1, u "T_LONG"), (1, u "SOFT_MAX_ARRAY_LENGTH")] 83

def k12m0 : Method := { name := "<init>", desc := "()V", sig := { parameters := [], returnType := none }, accessFlags := 2, code := none }
/-- jdk/internal/util/ArraysSupport -/
def k12 : Class := { plain "jdk/internal/util/ArraysSupport" (some 0) with
  accessFlags := 33
  interfaces := #[]
  cf := some (fileOf pool12 21 #[] #[{ accessFlags := 2, nameIndex := 9, descriptorIndex := 19, attributes := #[] }] 33 16 #[] #[{ accessFlags := 24, nameIndex := 28, descriptorIndex := 29, attributes := #[] }, { accessFlags := 26, nameIndex := 38, descriptorIndex := 39, attributes := #[] }, { accessFlags := 25, nameIndex := 121, descriptorIndex := 25, attributes := #[] }, { accessFlags := 25, nameIndex := 131, descriptorIndex := 25, attributes := #[] }, { accessFlags := 25, nameIndex := 137, descriptorIndex := 25, attributes := #[] }, { accessFlags := 25, nameIndex := 143, descriptorIndex := 25, attributes := #[] }, { accessFlags := 25, nameIndex := 53, descriptorIndex := 25, attributes := #[] }, { accessFlags := 25, nameIndex := 24, descriptorIndex := 25, attributes := #[] }, { accessFlags := 25, nameIndex := 162, descriptorIndex := 25, attributes := #[] }, { accessFlags := 25, nameIndex := 187, descriptorIndex := 25, attributes := #[] }, { accessFlags := 26, nameIndex := 48, descriptorIndex := 25, attributes := #[] }, { accessFlags := 25, nameIndex := 277, descriptorIndex := 25, attributes := #[] }, { accessFlags := 25, nameIndex := 280, descriptorIndex := 25, attributes := #[] }, { accessFlags := 25, nameIndex := 282, descriptorIndex := 25, attributes := #[] }, { accessFlags := 25, nameIndex := 284, descriptorIndex := 25, attributes := #[] }, { accessFlags := 25, nameIndex := 286, descriptorIndex := 25, attributes := #[] }, { accessFlags := 25, nameIndex := 288, descriptorIndex := 25, attributes := #[] }, { accessFlags := 25, nameIndex := 290, descriptorIndex := 25, attributes := #[] }, { accessFlags := 25, nameIndex := 292, descriptorIndex := 25, attributes := #[] }, { accessFlags := 26, nameIndex := 108, descriptorIndex := 109, attributes := #[] }, { accessFlags := 25, nameIndex := 294, descriptorIndex := 25, attributes := #[] }])
  fields := #[{ name := "U", type := (.object "jdk/internal/misc/Unsafe"), accessFlags := 24, slot := 0, constantValue := 0 }, { name := "BIG_ENDIAN", type := .boolean, accessFlags := 26, slot := 1, constantValue := 0 }, { name := "LOG2_ARRAY_BOOLEAN_INDEX_SCALE", type := .int, accessFlags := 25, slot := 2, constantValue := 0 }, { name := "LOG2_ARRAY_BYTE_INDEX_SCALE", type := .int, accessFlags := 25, slot := 3, constantValue := 0 }, { name := "LOG2_ARRAY_CHAR_INDEX_SCALE", type := .int, accessFlags := 25, slot := 4, constantValue := 0 }, { name := "LOG2_ARRAY_SHORT_INDEX_SCALE", type := .int, accessFlags := 25, slot := 5, constantValue := 0 }, { name := "LOG2_ARRAY_INT_INDEX_SCALE", type := .int, accessFlags := 25, slot := 6, constantValue := 0 }, { name := "LOG2_ARRAY_LONG_INDEX_SCALE", type := .int, accessFlags := 25, slot := 7, constantValue := 0 }, { name := "LOG2_ARRAY_FLOAT_INDEX_SCALE", type := .int, accessFlags := 25, slot := 8, constantValue := 0 }, { name := "LOG2_ARRAY_DOUBLE_INDEX_SCALE", type := .int, accessFlags := 25, slot := 9, constantValue := 0 }, { name := "LOG2_BYTE_BIT_SIZE", type := .int, accessFlags := 26, slot := 10, constantValue := 0 }, { name := "T_BOOLEAN", type := .int, accessFlags := 25, slot := 11, constantValue := 0 }, { name := "T_CHAR", type := .int, accessFlags := 25, slot := 12, constantValue := 0 }, { name := "T_FLOAT", type := .int, accessFlags := 25, slot := 13, constantValue := 0 }, { name := "T_DOUBLE", type := .int, accessFlags := 25, slot := 14, constantValue := 0 }, { name := "T_BYTE", type := .int, accessFlags := 25, slot := 15, constantValue := 0 }, { name := "T_SHORT", type := .int, accessFlags := 25, slot := 16, constantValue := 0 }, { name := "T_INT", type := .int, accessFlags := 25, slot := 17, constantValue := 0 }, { name := "T_LONG", type := .int, accessFlags := 25, slot := 18, constantValue := 0 }, { name := "JLA", type := (.object "jdk/internal/access/JavaLangAccess"), accessFlags := 26, slot := 19, constantValue := 0 }, { name := "SOFT_MAX_ARRAY_LENGTH", type := .int, accessFlags := 25, slot := 20, constantValue := 0 }]
  methods := #[k12m0]
  instanceTypes := #[]
  staticTypes := #[(.object "jdk/internal/misc/Unsafe"), .boolean, .int, .int, .int, .int, .int, .int, .int, .int, .int, .int, .int, .int, .int, .int, .int, .int, .int, (.object "jdk/internal/access/JavaLangAccess"), .int]
  resolved := Array.replicate 378 none
  statics := none }

def pool13 : Array CpInfo := pool [(1, u "java/lang/Cloneable"), (0, .class_ 1), (0, u "java/lang/Object"), (0, .class_ 3)] 3

/-- java/lang/Cloneable -/
def k13 : Class := { plain "java/lang/Cloneable" (some 0) with
  accessFlags := 1537
  interfaces := #[]
  cf := some (fileOf pool13 2 #[] #[] 1537 4 #[] #[])
  fields := #[]
  methods := #[]
  instanceTypes := #[]
  staticTypes := #[]
  resolved := Array.replicate 8 none
  statics := none }

/-- the primitive byte -/
def k14 : Class := { plain "byte" none with kind := .primitive 'B', accessFlags := 0x411 }
/-- [B -/
def k15 : Class := { plain "[B" (some 0) with kind := .array 14 .byte, interfaces := #[13, 4], accessFlags := 1041 }

/-- the primitive int -/
def k16 : Class := { plain "int" none with kind := .primitive 'I', accessFlags := 0x411 }
/-- [I -/
def k17 : Class := { plain "[I" (some 0) with kind := .array 16 .int, interfaces := #[13, 4], accessFlags := 1041 }

def heap : Heap := #[{ cls := 6, slots := #[.ref 7, .ref 8, .null], vm := .statics 6 },
  { cls := 9, slots := #[.long 0, .int 1, .null, .int 0, .null, .int 0, .int 0], vm := .statics 9 },
  { cls := 11, slots := #[.null, .null, .null], vm := .statics 11 },
  { cls := 15, slots := #[.int 117], vm := .none },
  { cls := 15, slots := #[.int 118], vm := .none },
  { cls := 9, slots := #[.ref 3, .int 0, .int 0, .int 0], vm := .none },
  { cls := 9, slots := #[.ref 4, .int 0, .int 0, .int 0], vm := .none },
  { cls := 6, slots := #[.null, .int 0, .int 0, .null, .ref 5], vm := .none },
  { cls := 6, slots := #[.null, .int 1, .int 0, .null, .ref 6], vm := .none }]
def classes : Array Class := #[k0, k1, k2, k3, k4, k5, k6, k7, k8, k9, k10, k11, k12, k13, k14, k15, k16, k17]
def interned : List (Array UInt16 × Addr) := []
def slotsUsed : Nat := 33
def theMethod : MethodId := ⟨1, 1⟩
def args0 : Array Value := #[.int 5, .int 1]
def aboutOver (below : List Frame) : State where
  vm := { classes := classes, interned := interned.toArray }
  heap := heap
  slotsUsed := slotsUsed
  threads := #[{ frames := .invoking theMethod args0 :: below }]
def below0 : List Frame := [.native { method := ⟨0, 0⟩, args := #[] }]
def about1 : State := aboutOver below0
def p0 : Program := .bare "" "" ""
def e0 : Env := launch0.env 0 0 0
theorem w_frames : about1.frames = Frame.invoking theMethod args0 :: below0 := rfl
set_option maxRecDepth 65536 in
theorem w_args : argsFit about1.vm theMethod args0 = true := by decide +kernel
set_option maxRecDepth 65536 in
theorem w_heap : heapFits about1 = true := by decide +kernel
set_option maxRecDepth 65536 in
theorem w_runnable : about1.curStatus? = some .runnable := by decide +kernel
set_option maxRecDepth 65536 in
theorem w_alone : about1.alone = true := by decide +kernel
set_option maxRecDepth 65536 in
theorem w_named : about1.methodNamed? x = some theMethod := by decide +kernel
set_option maxRecDepth 65536 in
theorem w_hears : about1.hears theMethod below0 = true := by decide +kernel
set_option maxRecDepth 65536 in
theorem w_ripe : about1.ripe theMethod args0 below0 = true := by decide +kernel
theorem w_running : about1.status = .running := rfl
set_option maxRecDepth 65536 in
theorem w_room : about1.hasRoom e0.platform room_1 = true :=
  launch0.hasRoom_least _ room_1 (by decide +kernel) (by decide +kernel) (by decide +kernel) (by decide +kernel) (by decide +kernel) (by decide +kernel)
theorem allAtoms_all (ts : List Jvm.Cond) (a : Array Jvm.Value) (st : Jvm.State) : (allAtoms ts).before a st = ts.all (fun c => c.before a st) := by
  induction ts with
  | nil => rfl
  | cons c t ih =>
    show (Jvm.Cond.and c (allAtoms t)).before a st = _
    rw [Jvm.Cond.before_and, ih, List.all_cons]
def words1 : List Jvm.Cond := Jvm.Cond.code x code maxLocals ret :: tables_1
/-- a 'code' word, met by the world's own term for the bytes: nothing is compared byte by byte -/
theorem code_word {y : MethodName} {bytes : ByteArray} {mx : Nat} {rt : Option FieldType} {a : Array Value} {s : State} {m : MethodId} {meth : Method} {c : Code} (h1 : s.methodNamed? y = some m) (h2 : s.vm.method? m = some meth) (h3 : meth.code = some c) (h4 : c.code = bytes)
    (h5 : (c.maxLocals == mx && c.exceptionTable.isEmpty && decide (c.maxStack ≤ mostOperands) && decide (meth.sig.returnType = rt) && !meth.locks && decide (parseMethodDescriptor y.desc = some meth.sig)) = true) : (Jvm.Cond.code y bytes mx rt).before a s = true := by
  simp only [Bool.and_eq_true, beq_iff_eq, Bool.not_eq_true', decide_eq_true_eq] at h5
  obtain ⟨⟨⟨⟨⟨g1, g2⟩, g3⟩, g4⟩, g5⟩, g6⟩ := h5
  simp [Cond.before, Cond.holds, Cond.value, h1, h2, h3, h4, g1, g2, g3, g4, g5, g6]
def isCode : Jvm.Cond → Bool
  | .code _ _ _ _ => true
  | _ => false
theorem all_split {L : List Jvm.Cond} {P : Jvm.Cond → Bool} (h1 : L.all (fun c => isCode c || P c) = true) (h2 : ∀ c ∈ L.filter isCode, P c = true) : L.all P = true := by
  refine List.all_eq_true.mpr fun c hc => ?_
  have h := List.all_eq_true.mp h1 c hc
  rcases Bool.eq_false_or_eq_true (isCode c) with hi | hi
  · exact h2 c (List.mem_filter.mpr ⟨hc, hi⟩)
  · simpa [hi] using h
set_option maxRecDepth 65536 in
theorem w_c0 : (Jvm.Cond.code x code maxLocals ret).before args0 about1 = true := code_word (m := ⟨1, 1⟩) (meth := k1m1) (c := k1c1) (by decide +kernel) rfl rfl rfl (by decide +kernel)
set_option maxRecDepth 65536 in
theorem w_c1 : (Jvm.Cond.code ({ cls := "com/example/slackline/slackline/link/Direction", name := "net", desc := "(D)D" } : Jvm.MethodName) prog_35_method_6_code (3 : Nat) (Option.some Jvm.ClassFile.FieldType.double)).before args0 about1 = true := code_word (m := ⟨6, 1⟩) (meth := k6m1) (c := k6c1) (by decide +kernel) rfl rfl rfl (by decide +kernel)
set_option maxRecDepth 65536 in
theorem w_c2 : (Jvm.Cond.code ({ cls := "com/example/slackline/slackline/link/Direction", name := "payer", desc := "()Ljava/lang/String;" } : Jvm.MethodName) prog_35_method_5_code (1 : Nat) (Option.some (Jvm.ClassFile.FieldType.object "java/lang/String"))).before args0 about1 = true := code_word (m := ⟨6, 0⟩) (meth := k6m0) (c := k6c0) (by decide +kernel) rfl rfl rfl (by decide +kernel)
set_option maxRecDepth 65536 in
theorem w_c3 : (Jvm.Cond.code ({ cls := "java/lang/String", name := "equals", desc := "(Ljava/lang/Object;)Z" } : Jvm.MethodName) jdk_42_method_66_code (3 : Nat) (Option.some Jvm.ClassFile.FieldType.boolean)).before args0 about1 = true := code_word (m := ⟨9, 1⟩) (meth := k9m1) (c := k9c1) (by decide +kernel) rfl rfl rfl (by decide +kernel)
set_option maxRecDepth 65536 in
theorem w_c4 : (Jvm.Cond.code ({ cls := "java/lang/StringLatin1", name := "equals", desc := "([B[B)Z" } : Jvm.MethodName) jdk_43_method_13_code (3 : Nat) (Option.some Jvm.ClassFile.FieldType.boolean)).before args0 about1 = true := code_word (m := ⟨10, 1⟩) (meth := k10m1) (c := k10c1) (by decide +kernel) rfl rfl rfl (by decide +kernel)
def codes1 : List Jvm.Cond := [Jvm.Cond.code x code maxLocals ret, Jvm.Cond.code ({ cls := "com/example/slackline/slackline/link/Direction", name := "net", desc := "(D)D" } : Jvm.MethodName) prog_35_method_6_code (3 : Nat) (Option.some Jvm.ClassFile.FieldType.double), Jvm.Cond.code ({ cls := "com/example/slackline/slackline/link/Direction", name := "payer", desc := "()Ljava/lang/String;" } : Jvm.MethodName) prog_35_method_5_code (1 : Nat) (Option.some (Jvm.ClassFile.FieldType.object "java/lang/String")), Jvm.Cond.code ({ cls := "java/lang/String", name := "equals", desc := "(Ljava/lang/Object;)Z" } : Jvm.MethodName) jdk_42_method_66_code (3 : Nat) (Option.some Jvm.ClassFile.FieldType.boolean), Jvm.Cond.code ({ cls := "java/lang/StringLatin1", name := "equals", desc := "([B[B)Z" } : Jvm.MethodName) jdk_43_method_13_code (3 : Nat) (Option.some Jvm.ClassFile.FieldType.boolean)]
set_option maxRecDepth 65536 in
theorem codes_eq : words1.filter isCode = codes1 := rfl
theorem w_codes : ∀ c ∈ words1.filter isCode, c.before args0 about1 = true := by
  rw [codes_eq]
  intro c hc
  simp only [codes1, List.mem_cons, List.not_mem_nil, or_false] at hc
  rcases hc with rfl | rfl | rfl | rfl | rfl
  · exact w_c0
  · exact w_c1
  · exact w_c2
  · exact w_c3
  · exact w_c4
set_option maxRecDepth 65536 in
theorem w_t1 : (words1.take 24).all (fun c => isCode c || c.before args0 about1) = true := by decide +kernel
set_option maxRecDepth 65536 in
theorem w_t2 : (words1.drop 24).all (fun c => isCode c || c.before args0 about1) = true := by decide +kernel
theorem w_tables : (allAtoms (Jvm.Cond.code x code maxLocals ret :: tables_1)).before args0 about1 = true := by
  rw [allAtoms_all]
  show words1.all (fun c => c.before args0 about1) = true
  refine all_split ?_ w_codes
  rw [← List.take_append_drop 24 words1, List.all_append, w_t1, w_t2]
  rfl
set_option maxRecDepth 65536 in
theorem w_rest : rest_1_c.before args0 about1 = true := by decide +kernel
set_option maxRecDepth 65536 in
theorem w_case : (Jvm.Cond.and given_1 narrow_1).before args0 about1 = true := by decide +kernel
set_option maxRecDepth 65536 in
theorem w_consts : constsHeld consts_1 about1 := Jvm.Lit.constsHeldB_iff.mp (by decide +kernel)
theorem w_applies : (headSpec (Jvm.Cond.code x code maxLocals ret :: tables_1) room_1).applies x e0.platform about1 = true :=
  (Spec.applies_iff w_frames).mpr ⟨w_running, w_runnable, w_alone, w_named, w_hears, w_ripe, w_room, w_tables⟩
theorem atStart : AtStart classFile x code maxLocals ret World_1 tables_1 room_1 Calls_1 rest_1 Pre_1 launch0 p0 e0 about1 theMethod args0 below0 :=
  ⟨lists_1, trivial, launch0.admits_env _ _ _, launch0.least_env, fairChoices_fair.cas, fairChoices_fair.clock, w_frames, w_args, w_heap, w_applies, ⟨w_consts, trivial⟩, w_rest, w_case⟩
end start1
theorem witness_1 : WitnessClaimed_1 := ⟨start1.p0, start1.e0, start1.about1, start1.theMethod, start1.args0, start1.below0, start1.atStart⟩
end Jvm.Pilot.@@N@@
