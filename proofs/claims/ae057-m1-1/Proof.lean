import JvmDerived
import JvmDerived.Pilot.@@N@@Statement
import JvmDerived.Pilot.@@N@@Code
set_option linter.unusedVariables false
set_option linter.unusedSimpArgs false
namespace Jvm.Pilot.@@N@@
open Jvm Jvm.ClassFile Sem Op Lib Jvm.Free Jvm.Free.Fl Jvm.Stand Jvm.LawKit Jvm.RoadKit Bundle Jvm.Pilot.@@N@@.Jvm.D
section own_go
/-- where the walk stands, with the two facts that every step asks -/
def Ax (p : Program) (l : Launch) (e : Env) (R : Room) (s : State) (m : MethodId) (args : Array Value) (below : List Frame) (meth : Method) (c : Code) (T : State) (locs : List Loc) (cells slots : Nat) (B : ByteArray) : Prop := Stand p l e R s m args below meth c T locs cells slots ∧ p.tables.exec = Jvm.exec ∧ c.code = B
/-- from this frame the run ends, and P holds of its end -/
def Go (p : Program) (e : Env) (below : List Frame) (P : State → Outcome → Prop) (T : State) (g : JFrame) : Prop := ∃ U o, Steps p.tables e below (T.setTop g) U ∧ U.status = .running ∧ Ended U below o ∧ P U o
variable {p : Program} {l : Launch} {e : Env} {R : Room} {s : State} {m : MethodId} {args : Array Value} {below : List Frame} {meth : Method} {c : Code} {T : State} {locs : List Loc} {cells slots : Nat} {P : State → Outcome → Prop} {B : ByteArray} {pc pc' : Nat} {ls ls' : Array Slot} {st : List Value}
theorem Go.of {T' : State} {g g' : JFrame} (k : ∀ t, Steps p.tables e below (T'.setTop g') t → Steps p.tables e below (T.setTop g) t) (h : Go p e below P T' g') : Go p e below P T g := by
  obtain ⟨U, o, h1, h2⟩ := h
  exact ⟨U, o, k _ h1, h2⟩
theorem Go.tr {T' : State} {g g' : JFrame} (k : Steps p.tables e below (T.setTop g) (T'.setTop g')) (h : Go p e below P T' g') : Go p e below P T g := Go.of (fun _ h => k.trans h) h
theorem Go.cast {g g' : JFrame} (q : g = g') (h : Go p e below P T g') : Go p e below P T g := q ▸ h

theorem g_iadd (A : Ax p l e R s m args below meth c T locs cells slots B) {x : Int32} {y : Int32} (hd : decode B pc = .ok (.iadd, 1)) (hp : pc + 1 = pc') (k : Go p e below P T (mkF m pc' ls (.int (x + y) :: st))) : Go p e below P T (mkF m pc ls (.int y :: .int x :: st)) := by
  subst hp; exact Go.of (fun _ k' => XS.iadd A.1.here A.2.1 rfl (hb A.2.2 hd) rfl k') k
theorem g_isub (A : Ax p l e R s m args below meth c T locs cells slots B) {x : Int32} {y : Int32} (hd : decode B pc = .ok (.isub, 1)) (hp : pc + 1 = pc') (k : Go p e below P T (mkF m pc' ls (.int (x - y) :: st))) : Go p e below P T (mkF m pc ls (.int y :: .int x :: st)) := by
  subst hp; exact Go.of (fun _ k' => XS.isub A.1.here A.2.1 rfl (hb A.2.2 hd) rfl k') k
theorem g_iand (A : Ax p l e R s m args below meth c T locs cells slots B) {x : Int32} {y : Int32} (hd : decode B pc = .ok (.iand, 1)) (hp : pc + 1 = pc') (k : Go p e below P T (mkF m pc' ls (.int (x &&& y) :: st))) : Go p e below P T (mkF m pc ls (.int y :: .int x :: st)) := by
  subst hp; exact Go.of (fun _ k' => XS.iand A.1.here A.2.1 rfl (hb A.2.2 hd) rfl k') k
theorem g_imul (A : Ax p l e R s m args below meth c T locs cells slots B) {x : Int32} {y : Int32} (hd : decode B pc = .ok (.imul, 1)) (hp : pc + 1 = pc') (k : Go p e below P T (mkF m pc' ls (.int (x * y) :: st))) : Go p e below P T (mkF m pc ls (.int y :: .int x :: st)) := by
  subst hp; exact Go.of (fun _ k' => XS.imul A.1.here A.2.1 rfl (hb A.2.2 hd) rfl k') k
theorem g_iaddL (A : Ax p l e R s m args below meth c T locs cells slots B) {x y z : Int32} (hd : decode B pc = .ok (.iadd, 1)) (hz : x + y = z) (hp : pc + 1 = pc') (k : Go p e below P T (mkF m pc' ls (.int z :: st))) : Go p e below P T (mkF m pc ls (.int y :: .int x :: st)) := g_iadd A hd hp (hz.symm ▸ k)
theorem g_isubL (A : Ax p l e R s m args below meth c T locs cells slots B) {x y z : Int32} (hd : decode B pc = .ok (.isub, 1)) (hz : x - y = z) (hp : pc + 1 = pc') (k : Go p e below P T (mkF m pc' ls (.int z :: st))) : Go p e below P T (mkF m pc ls (.int y :: .int x :: st)) := g_isub A hd hp (hz.symm ▸ k)
theorem g_imulL (A : Ax p l e R s m args below meth c T locs cells slots B) {x y z : Int32} (hd : decode B pc = .ok (.imul, 1)) (hz : x * y = z) (hp : pc + 1 = pc') (k : Go p e below P T (mkF m pc' ls (.int z :: st))) : Go p e below P T (mkF m pc ls (.int y :: .int x :: st)) := g_imul A hd hp (hz.symm ▸ k)
theorem g_iandL (A : Ax p l e R s m args below meth c T locs cells slots B) {x y z : Int32} (hd : decode B pc = .ok (.iand, 1)) (hz : x &&& y = z) (hp : pc + 1 = pc') (k : Go p e below P T (mkF m pc' ls (.int z :: st))) : Go p e below P T (mkF m pc ls (.int y :: .int x :: st)) := g_iand A hd hp (hz.symm ▸ k)
theorem g_ixor (A : Ax p l e R s m args below meth c T locs cells slots B) {x : Int32} {y : Int32} (hd : decode B pc = .ok (.ixor, 1)) (hp : pc + 1 = pc') (k : Go p e below P T (mkF m pc' ls (.int (x ^^^ y) :: st))) : Go p e below P T (mkF m pc ls (.int y :: .int x :: st)) := by
  subst hp; exact Go.of (fun _ k' => XT.ixor A.1.here A.2.1 rfl (hb A.2.2 hd) rfl k') k
theorem g_ior (A : Ax p l e R s m args below meth c T locs cells slots B) {x : Int32} {y : Int32} (hd : decode B pc = .ok (.ior, 1)) (hp : pc + 1 = pc') (k : Go p e below P T (mkF m pc' ls (.int (x ||| y) :: st))) : Go p e below P T (mkF m pc ls (.int y :: .int x :: st)) := by
  subst hp; exact Go.of (fun _ k' => XT.ior A.1.here A.2.1 rfl (hb A.2.2 hd) rfl k') k
theorem g_ishl (A : Ax p l e R s m args below meth c T locs cells slots B) {x : Int32} {y : Int32} (hd : decode B pc = .ok (.ishl, 1)) (hp : pc + 1 = pc') (k : Go p e below P T (mkF m pc' ls (.int (x <<< (y &&& 31)) :: st))) : Go p e below P T (mkF m pc ls (.int y :: .int x :: st)) := by
  subst hp; exact Go.of (fun _ k' => XT.ishl A.1.here A.2.1 rfl (hb A.2.2 hd) rfl k') k
theorem g_ishr (A : Ax p l e R s m args below meth c T locs cells slots B) {x : Int32} {y : Int32} (hd : decode B pc = .ok (.ishr, 1)) (hp : pc + 1 = pc') (k : Go p e below P T (mkF m pc' ls (.int (x >>> (y &&& 31)) :: st))) : Go p e below P T (mkF m pc ls (.int y :: .int x :: st)) := by
  subst hp; exact Go.of (fun _ k' => XT.ishr A.1.here A.2.1 rfl (hb A.2.2 hd) rfl k') k
theorem g_iushr (A : Ax p l e R s m args below meth c T locs cells slots B) {x : Int32} {y : Int32} (hd : decode B pc = .ok (.iushr, 1)) (hp : pc + 1 = pc') (k : Go p e below P T (mkF m pc' ls (.int (XT.ushr x y) :: st))) : Go p e below P T (mkF m pc ls (.int y :: .int x :: st)) := by
  subst hp; exact Go.of (fun _ k' => XT.iushr A.1.here A.2.1 rfl (hb A.2.2 hd) rfl k') k
theorem g_idiv (A : Ax p l e R s m args below meth c T locs cells slots B) {x : Int32} {y : Int32} (hd : decode B pc = .ok (.idiv, 1)) (hy : y ≠ 0) (hp : pc + 1 = pc') (k : Go p e below P T (mkF m pc' ls (.int (x / y) :: st))) : Go p e below P T (mkF m pc ls (.int y :: .int x :: st)) := by
  subst hp; exact Go.of (fun _ k' => XS.idiv A.1.here A.2.1 rfl (hb A.2.2 hd) rfl hy k') k
theorem g_ladd (A : Ax p l e R s m args below meth c T locs cells slots B) {x : Int64} {y : Int64} (hd : decode B pc = .ok (.ladd, 1)) (hp : pc + 1 = pc') (k : Go p e below P T (mkF m pc' ls (.long (x + y) :: st))) : Go p e below P T (mkF m pc ls (.long y :: .long x :: st)) := by
  subst hp; exact Go.of (fun _ k' => XT.ladd A.1.here A.2.1 rfl (hb A.2.2 hd) rfl k') k
theorem g_lsub (A : Ax p l e R s m args below meth c T locs cells slots B) {x : Int64} {y : Int64} (hd : decode B pc = .ok (.lsub, 1)) (hp : pc + 1 = pc') (k : Go p e below P T (mkF m pc' ls (.long (x - y) :: st))) : Go p e below P T (mkF m pc ls (.long y :: .long x :: st)) := by
  subst hp; exact Go.of (fun _ k' => XT.lsub A.1.here A.2.1 rfl (hb A.2.2 hd) rfl k') k
theorem g_lmul (A : Ax p l e R s m args below meth c T locs cells slots B) {x : Int64} {y : Int64} (hd : decode B pc = .ok (.lmul, 1)) (hp : pc + 1 = pc') (k : Go p e below P T (mkF m pc' ls (.long (x * y) :: st))) : Go p e below P T (mkF m pc ls (.long y :: .long x :: st)) := by
  subst hp; exact Go.of (fun _ k' => XT.lmul A.1.here A.2.1 rfl (hb A.2.2 hd) rfl k') k
theorem g_land (A : Ax p l e R s m args below meth c T locs cells slots B) {x : Int64} {y : Int64} (hd : decode B pc = .ok (.land, 1)) (hp : pc + 1 = pc') (k : Go p e below P T (mkF m pc' ls (.long (x &&& y) :: st))) : Go p e below P T (mkF m pc ls (.long y :: .long x :: st)) := by
  subst hp; exact Go.of (fun _ k' => XT.land A.1.here A.2.1 rfl (hb A.2.2 hd) rfl k') k
theorem g_lor (A : Ax p l e R s m args below meth c T locs cells slots B) {x : Int64} {y : Int64} (hd : decode B pc = .ok (.lor, 1)) (hp : pc + 1 = pc') (k : Go p e below P T (mkF m pc' ls (.long (x ||| y) :: st))) : Go p e below P T (mkF m pc ls (.long y :: .long x :: st)) := by
  subst hp; exact Go.of (fun _ k' => XT.lor A.1.here A.2.1 rfl (hb A.2.2 hd) rfl k') k
theorem g_lxor (A : Ax p l e R s m args below meth c T locs cells slots B) {x : Int64} {y : Int64} (hd : decode B pc = .ok (.lxor, 1)) (hp : pc + 1 = pc') (k : Go p e below P T (mkF m pc' ls (.long (x ^^^ y) :: st))) : Go p e below P T (mkF m pc ls (.long y :: .long x :: st)) := by
  subst hp; exact Go.of (fun _ k' => XT.lxor A.1.here A.2.1 rfl (hb A.2.2 hd) rfl k') k
theorem g_lshl (A : Ax p l e R s m args below meth c T locs cells slots B) {x : Int64} {y : Int32} (hd : decode B pc = .ok (.lshl, 1)) (hp : pc + 1 = pc') (k : Go p e below P T (mkF m pc' ls (.long (x <<< (y.toInt64 &&& 63)) :: st))) : Go p e below P T (mkF m pc ls (.int y :: .long x :: st)) := by
  subst hp; exact Go.of (fun _ k' => XT.lshl A.1.here A.2.1 rfl (hb A.2.2 hd) rfl k') k
theorem g_lshr (A : Ax p l e R s m args below meth c T locs cells slots B) {x : Int64} {y : Int32} (hd : decode B pc = .ok (.lshr, 1)) (hp : pc + 1 = pc') (k : Go p e below P T (mkF m pc' ls (.long (x >>> (y.toInt64 &&& 63)) :: st))) : Go p e below P T (mkF m pc ls (.int y :: .long x :: st)) := by
  subst hp; exact Go.of (fun _ k' => XT.lshr A.1.here A.2.1 rfl (hb A.2.2 hd) rfl k') k
theorem g_lushr (A : Ax p l e R s m args below meth c T locs cells slots B) {x : Int64} {y : Int32} (hd : decode B pc = .ok (.lushr, 1)) (hp : pc + 1 = pc') (k : Go p e below P T (mkF m pc' ls (.long (XT.ushrL x y) :: st))) : Go p e below P T (mkF m pc ls (.int y :: .long x :: st)) := by
  subst hp; exact Go.of (fun _ k' => XT.lushr A.1.here A.2.1 rfl (hb A.2.2 hd) rfl k') k
theorem g_ldiv (A : Ax p l e R s m args below meth c T locs cells slots B) {x : Int64} {y : Int64} (hd : decode B pc = .ok (.ldiv, 1)) (hy : y ≠ 0) (hp : pc + 1 = pc') (k : Go p e below P T (mkF m pc' ls (.long (x / y) :: st))) : Go p e below P T (mkF m pc ls (.long y :: .long x :: st)) := by
  subst hp; exact Go.of (fun _ k' => XT.ldiv A.1.here A.2.1 rfl (hb A.2.2 hd) rfl hy k') k
theorem g_lrem (A : Ax p l e R s m args below meth c T locs cells slots B) {x y : Int64} (hd : decode B pc = .ok (.lrem, 1)) (hy : y ≠ 0) (hp : pc + 1 = pc') (k : Go p e below P T (mkF m pc' ls (.long (x % y) :: st))) : Go p e below P T (mkF m pc ls (.long y :: .long x :: st)) := by
  subst hp; rw [← lrem_mod] at k; exact Go.of (fun _ k' => XT.lrem A.1.here A.2.1 rfl (hb A.2.2 hd) rfl hy k') k
theorem g_i2s (A : Ax p l e R s m args below meth c T locs cells slots B) {x : Int32} (hd : decode B pc = .ok (.i2s, 1)) (hp : pc + 1 = pc') (k : Go p e below P T (mkF m pc' ls (.int (x.toInt16.toInt32) :: st))) : Go p e below P T (mkF m pc ls (.int x :: st)) := by
  subst hp; exact Go.of (fun _ k' => XT.i2s A.1.here A.2.1 rfl (hb A.2.2 hd) rfl k') k
theorem g_i2b (A : Ax p l e R s m args below meth c T locs cells slots B) {x : Int32} (hd : decode B pc = .ok (.i2b, 1)) (hp : pc + 1 = pc') (k : Go p e below P T (mkF m pc' ls (.int (x.toInt8.toInt32) :: st))) : Go p e below P T (mkF m pc ls (.int x :: st)) := by
  subst hp; exact Go.of (fun _ k' => XT.i2b A.1.here A.2.1 rfl (hb A.2.2 hd) rfl k') k
theorem g_i2c (A : Ax p l e R s m args below meth c T locs cells slots B) {x : Int32} (hd : decode B pc = .ok (.i2c, 1)) (hp : pc + 1 = pc') (k : Go p e below P T (mkF m pc' ls (.int (x.toUInt32.toUInt16.toUInt32.toInt32) :: st))) : Go p e below P T (mkF m pc ls (.int x :: st)) := by
  subst hp; exact Go.of (fun _ k' => XT.i2c A.1.here A.2.1 rfl (hb A.2.2 hd) rfl k') k
theorem g_ineg (A : Ax p l e R s m args below meth c T locs cells slots B) {x : Int32} (hd : decode B pc = .ok (.ineg, 1)) (hp : pc + 1 = pc') (k : Go p e below P T (mkF m pc' ls (.int (-x) :: st))) : Go p e below P T (mkF m pc ls (.int x :: st)) := by
  subst hp; exact Go.of (fun _ k' => XS.ineg A.1.here A.2.1 rfl (hb A.2.2 hd) rfl k') k
theorem g_lneg (A : Ax p l e R s m args below meth c T locs cells slots B) {x : Int64} (hd : decode B pc = .ok (.lneg, 1)) (hp : pc + 1 = pc') (k : Go p e below P T (mkF m pc' ls (.long (-x) :: st))) : Go p e below P T (mkF m pc ls (.long x :: st)) := by
  subst hp; exact Go.of (fun _ k' => XT.lneg A.1.here A.2.1 rfl (hb A.2.2 hd) rfl k') k
theorem g_i2l (A : Ax p l e R s m args below meth c T locs cells slots B) {x : Int32} (hd : decode B pc = .ok (.i2l, 1)) (hp : pc + 1 = pc') (k : Go p e below P T (mkF m pc' ls (.long (x.toInt64) :: st))) : Go p e below P T (mkF m pc ls (.int x :: st)) := by
  subst hp; exact Go.of (fun _ k' => XT.i2l A.1.here A.2.1 rfl (hb A.2.2 hd) rfl k') k
theorem g_l2i (A : Ax p l e R s m args below meth c T locs cells slots B) {x : Int64} (hd : decode B pc = .ok (.l2i, 1)) (hp : pc + 1 = pc') (k : Go p e below P T (mkF m pc' ls (.int (x.toInt32) :: st))) : Go p e below P T (mkF m pc ls (.long x :: st)) := by
  subst hp; exact Go.of (fun _ k' => XT.l2i A.1.here A.2.1 rfl (hb A.2.2 hd) rfl k') k
theorem g_irem (A : Ax p l e R s m args below meth c T locs cells slots B) {x y : Int32} (hd : decode B pc = .ok (.irem, 1)) (hy : y ≠ 0) (hp : pc + 1 = pc') (k : Go p e below P T (mkF m pc' ls (.int (x % y) :: st))) : Go p e below P T (mkF m pc ls (.int y :: .int x :: st)) := by
  subst hp; exact Go.of (fun _ k' => iremM A.1 A.2.1 rfl (hb A.2.2 hd) rfl hy k') k
theorem g_iloadN (A : Ax p l e R s m args below meth c T locs cells slots B) {k : Fin 4} {v : Int32} (hd : decode B pc = .ok (.iload_n k, 1)) (hl : ls[k.val]? = some (.val (.int v))) (hp : pc + 1 = pc') (k : Go p e below P T (mkF m pc' ls (.int v :: st))) : Go p e below P T (mkF m pc ls st) := by
  subst hp; exact Go.of (fun _ k' => XS.iloadN A.1.here A.2.1 rfl (hb A.2.2 hd) hl k') k
theorem g_iload (A : Ax p l e R s m args below meth c T locs cells slots B) {k : Nat} {v : Int32} (hd : decode B pc = .ok (.iload k, 2)) (hl : ls[k]? = some (.val (.int v))) (hp : pc + 2 = pc') (k : Go p e below P T (mkF m pc' ls (.int v :: st))) : Go p e below P T (mkF m pc ls st) := by
  subst hp; exact Go.of (fun _ k' => XS.iload A.1.here A.2.1 rfl (hb A.2.2 hd) hl k') k
theorem g_lloadN (A : Ax p l e R s m args below meth c T locs cells slots B) {k : Fin 4} {v : Int64} (hd : decode B pc = .ok (.lload_n k, 1)) (hl : ls[k.val]? = some (.val (.long v))) (hp : pc + 1 = pc') (k : Go p e below P T (mkF m pc' ls (.long v :: st))) : Go p e below P T (mkF m pc ls st) := by
  subst hp; exact Go.of (fun _ k' => XT.lloadN A.1.here A.2.1 rfl (hb A.2.2 hd) hl k') k
theorem g_lload (A : Ax p l e R s m args below meth c T locs cells slots B) {k : Nat} {v : Int64} (hd : decode B pc = .ok (.lload k, 2)) (hl : ls[k]? = some (.val (.long v))) (hp : pc + 2 = pc') (k : Go p e below P T (mkF m pc' ls (.long v :: st))) : Go p e below P T (mkF m pc ls st) := by
  subst hp; exact Go.of (fun _ k' => XT.lload A.1.here A.2.1 rfl (hb A.2.2 hd) hl k') k
theorem g_aloadN (A : Ax p l e R s m args below meth c T locs cells slots B) {k : Fin 4} {v : Value} (hd : decode B pc = .ok (.aload_n k, 1)) (hl : ls[k.val]? = some (.val v)) (hv : v.isRef = true) (hp : pc + 1 = pc') (k : Go p e below P T (mkF m pc' ls (v :: st))) : Go p e below P T (mkF m pc ls st) := by
  subst hp; exact Go.of (fun _ k' => XS.aloadN A.1.here A.2.1 rfl (hb A.2.2 hd) hl hv k') k
theorem g_aload (A : Ax p l e R s m args below meth c T locs cells slots B) {k : Nat} {v : Value} (hd : decode B pc = .ok (.aload k, 2)) (hl : ls[k]? = some (.val v)) (hv : v.isRef = true) (hp : pc + 2 = pc') (k : Go p e below P T (mkF m pc' ls (v :: st))) : Go p e below P T (mkF m pc ls st) := by
  subst hp; exact Go.of (fun _ k' => XS.aload A.1.here A.2.1 rfl (hb A.2.2 hd) hl hv k') k
theorem g_dloadN (A : Ax p l e R s m args below meth c T locs cells slots B) {k : Fin 4} {v : UInt64} (hd : decode B pc = .ok (.dload_n k, 1)) (hl : ls[k.val]? = some (.val (.double v))) (hp : pc + 1 = pc') (k : Go p e below P T (mkF m pc' ls (.double v :: st))) : Go p e below P T (mkF m pc ls st) := by
  subst hp
  refine Go.of (fun t k' => ?_) k
  have h := A.1.here
  have hx := A.2.1
  have hd' := hb A.2.2 hd
  show Steps p.tables e below (T.setTop { method := m, pc := pc, locals := ls, stack := st, locked := none }) _
  jvm_step h [h.top, hx, hd', hl]
  exact k'
theorem g_dload (A : Ax p l e R s m args below meth c T locs cells slots B) {k : Nat} {v : UInt64} (hd : decode B pc = .ok (.dload k, 2)) (hl : ls[k]? = some (.val (.double v))) (hp : pc + 2 = pc') (k : Go p e below P T (mkF m pc' ls (.double v :: st))) : Go p e below P T (mkF m pc ls st) := by
  subst hp
  refine Go.of (fun t k' => ?_) k
  have h := A.1.here
  have hx := A.2.1
  have hd' := hb A.2.2 hd
  show Steps p.tables e below (T.setTop { method := m, pc := pc, locals := ls, stack := st, locked := none }) _
  jvm_step h [h.top, hx, hd', hl]
  exact k'
theorem g_istoreN (A : Ax p l e R s m args below meth c T locs cells slots B) {k : Fin 4} {x : Int32} (hd : decode B pc = .ok (.istore_n k, 1)) (hl : storeLocals ls k.val (.int x) = some ls') (hp : pc + 1 = pc') (k : Go p e below P T (mkF m pc' ls' st)) : Go p e below P T (mkF m pc ls (.int x :: st)) := by
  subst hp; exact Go.of (fun _ k' => XS.istoreN A.1.here A.2.1 rfl (hb A.2.2 hd) rfl hl k') k
theorem g_istore (A : Ax p l e R s m args below meth c T locs cells slots B) {k : Nat} {x : Int32} (hd : decode B pc = .ok (.istore k, 2)) (hl : storeLocals ls k (.int x) = some ls') (hp : pc + 2 = pc') (k : Go p e below P T (mkF m pc' ls' st)) : Go p e below P T (mkF m pc ls (.int x :: st)) := by
  subst hp; exact Go.of (fun _ k' => XS.istore A.1.here A.2.1 rfl (hb A.2.2 hd) rfl hl k') k
theorem g_lstoreN (A : Ax p l e R s m args below meth c T locs cells slots B) {k : Fin 4} {x : Int64} (hd : decode B pc = .ok (.lstore_n k, 1)) (hl : storeLocals ls k.val (.long x) = some ls') (hp : pc + 1 = pc') (k : Go p e below P T (mkF m pc' ls' st)) : Go p e below P T (mkF m pc ls (.long x :: st)) := by
  subst hp; exact Go.of (fun _ k' => XT.lstoreN A.1.here A.2.1 rfl (hb A.2.2 hd) rfl hl k') k
theorem g_lstore (A : Ax p l e R s m args below meth c T locs cells slots B) {k : Nat} {x : Int64} (hd : decode B pc = .ok (.lstore k, 2)) (hl : storeLocals ls k (.long x) = some ls') (hp : pc + 2 = pc') (k : Go p e below P T (mkF m pc' ls' st)) : Go p e below P T (mkF m pc ls (.long x :: st)) := by
  subst hp; exact Go.of (fun _ k' => XT.lstore A.1.here A.2.1 rfl (hb A.2.2 hd) rfl hl k') k
theorem g_astoreN (A : Ax p l e R s m args below meth c T locs cells slots B) {k : Fin 4} {x : Value} (hd : decode B pc = .ok (.astore_n k, 1)) (hv : x.isRef = true) (hl : storeLocals ls k.val x = some ls') (hp : pc + 1 = pc') (k : Go p e below P T (mkF m pc' ls' st)) : Go p e below P T (mkF m pc ls (x :: st)) := by
  subst hp; exact Go.of (fun _ k' => XS.astoreN A.1.here A.2.1 rfl (hb A.2.2 hd) rfl hv hl k') k
theorem g_astore (A : Ax p l e R s m args below meth c T locs cells slots B) {k : Nat} {x : Value} (hd : decode B pc = .ok (.astore k, 2)) (hv : x.isRef = true) (hl : storeLocals ls k x = some ls') (hp : pc + 2 = pc') (k : Go p e below P T (mkF m pc' ls' st)) : Go p e below P T (mkF m pc ls (x :: st)) := by
  subst hp; exact Go.of (fun _ k' => XS.astore A.1.here A.2.1 rfl (hb A.2.2 hd) rfl hv hl k') k
theorem g_dstoreN (A : Ax p l e R s m args below meth c T locs cells slots B) {k : Fin 4} {x : UInt64} (hd : decode B pc = .ok (.dstore_n k, 1)) (hl : storeLocals ls k.val (.double x) = some ls') (hp : pc + 1 = pc') (k : Go p e below P T (mkF m pc' ls' st)) : Go p e below P T (mkF m pc ls (.double x :: st)) := by
  subst hp
  refine Go.of (fun t k' => ?_) k
  have h := A.1.here
  have hx := A.2.1
  have hd' := hb A.2.2 hd
  show Steps p.tables e below (T.setTop { method := m, pc := pc, locals := ls, stack := .double x :: st, locked := none }) _
  jvm_step h [h.top, hx, hd']
  exact ⟨ls', hl, k'⟩
theorem g_dstore (A : Ax p l e R s m args below meth c T locs cells slots B) {k : Nat} {x : UInt64} (hd : decode B pc = .ok (.dstore k, 2)) (hl : storeLocals ls k (.double x) = some ls') (hp : pc + 2 = pc') (k : Go p e below P T (mkF m pc' ls' st)) : Go p e below P T (mkF m pc ls (.double x :: st)) := by
  subst hp
  refine Go.of (fun t k' => ?_) k
  have h := A.1.here
  have hx := A.2.1
  have hd' := hb A.2.2 hd
  show Steps p.tables e below (T.setTop { method := m, pc := pc, locals := ls, stack := .double x :: st, locked := none }) _
  jvm_step h [h.top, hx, hd']
  exact ⟨ls', hl, k'⟩
theorem g_iconst (A : Ax p l e R s m args below meth c T locs cells slots B) {i : Int} {v : Int32} (hd : decode B pc = .ok (.iconst i, 1)) (hv : Int32.ofInt i = v) (hp : pc + 1 = pc') (k : Go p e below P T (mkF m pc' ls (.int v :: st))) : Go p e below P T (mkF m pc ls st) := by
  subst hp hv; exact Go.of (fun _ k' => XS.iconst A.1.here A.2.1 rfl (hb A.2.2 hd) k') k
theorem g_bipush (A : Ax p l e R s m args below meth c T locs cells slots B) {i : Int} {v : Int32} (hd : decode B pc = .ok (.bipush i, 2)) (hv : (Int8.ofInt i).toInt32 = v) (hp : pc + 2 = pc') (k : Go p e below P T (mkF m pc' ls (.int v :: st))) : Go p e below P T (mkF m pc ls st) := by
  subst hp hv; exact Go.of (fun _ k' => XS.bipush A.1.here A.2.1 rfl (hb A.2.2 hd) k') k
theorem g_sipush (A : Ax p l e R s m args below meth c T locs cells slots B) {i : Int} {v : Int32} (hd : decode B pc = .ok (.sipush i, 3)) (hv : (Int16.ofInt i).toInt32 = v) (hp : pc + 3 = pc') (k : Go p e below P T (mkF m pc' ls (.int v :: st))) : Go p e below P T (mkF m pc ls st) := by
  subst hp hv; exact Go.of (fun _ k' => XS.sipush A.1.here A.2.1 rfl (hb A.2.2 hd) k') k
theorem g_aconst (A : Ax p l e R s m args below meth c T locs cells slots B) (hd : decode B pc = .ok (.aconst_null, 1)) (hp : pc + 1 = pc') (k : Go p e below P T (mkF m pc' ls (.null :: st))) : Go p e below P T (mkF m pc ls st) := by
  subst hp; exact Go.of (fun _ k' => XS.aconstNull A.1.here A.2.1 rfl (hb A.2.2 hd) k') k
theorem g_lconst (A : Ax p l e R s m args below meth c T locs cells slots B) {i : Fin 2} {v : Int64} (hd : decode B pc = .ok (.lconst i, 1)) (hv : Int64.ofNat i = v) (hp : pc + 1 = pc') (k : Go p e below P T (mkF m pc' ls (.long v :: st))) : Go p e below P T (mkF m pc ls st) := by
  subst hp hv; exact Go.of (fun _ k' => XT.lconst A.1.here A.2.1 rfl (hb A.2.2 hd) k') k
theorem g_dconst0 (A : Ax p l e R s m args below meth c T locs cells slots B) (hd : decode B pc = .ok (.dconst 0, 1)) (hp : pc + 1 = pc') (k : Go p e below P T (mkF m pc' ls (.double (0 : UInt64) :: st))) : Go p e below P T (mkF m pc ls st) := by
  subst hp
  refine Go.of (fun t k' => ?_) k
  have h := A.1.here
  have hx := A.2.1
  have hd' := hb A.2.2 hd
  show Steps p.tables e below (T.setTop { method := m, pc := pc, locals := ls, stack := st, locked := none }) _
  jvm_step h [h.top, hx, hd']
  exact k'
theorem g_dconst1 (A : Ax p l e R s m args below meth c T locs cells slots B) (hd : decode B pc = .ok (.dconst 1, 1)) (hp : pc + 1 = pc') (k : Go p e below P T (mkF m pc' ls (.double (4607182418800017408 : UInt64) :: st))) : Go p e below P T (mkF m pc ls st) := by
  subst hp
  refine Go.of (fun t k' => ?_) k
  have h := A.1.here
  have hx := A.2.1
  have hd' := hb A.2.2 hd
  show Steps p.tables e below (T.setTop { method := m, pc := pc, locals := ls, stack := st, locked := none }) _
  jvm_step h [h.top, hx, hd']
  exact k'
theorem g_dadd (A : Ax p l e R s m args below meth c T locs cells slots B) {x y : UInt64} (hd : decode B pc = .ok (.dadd, 1)) (hn : NoNaN64 (FP.dadd x y)) (hp : pc + 1 = pc') (k : Go p e below P T (mkF m pc' ls (.double (FP.dadd x y) :: st))) : Go p e below P T (mkF m pc ls (.double y :: .double x :: st)) := by
  subst hp
  refine Go.of (fun t k' => ?_) k
  have h := A.1.here
  have hx := A.2.1
  have hd' := hb A.2.2 hd
  show Steps p.tables e below (T.setTop { method := m, pc := pc, locals := ls, stack := .double y :: .double x :: st, locked := none }) _
  jvm_step h [h.top, hx, hd', Op.dadd.at_number h.top hn]
  exact k'
theorem g_dsub (A : Ax p l e R s m args below meth c T locs cells slots B) {x y : UInt64} (hd : decode B pc = .ok (.dsub, 1)) (hn : NoNaN64 (FP.dsub x y)) (hp : pc + 1 = pc') (k : Go p e below P T (mkF m pc' ls (.double (FP.dsub x y) :: st))) : Go p e below P T (mkF m pc ls (.double y :: .double x :: st)) := by
  subst hp
  refine Go.of (fun t k' => ?_) k
  have h := A.1.here
  have hx := A.2.1
  have hd' := hb A.2.2 hd
  show Steps p.tables e below (T.setTop { method := m, pc := pc, locals := ls, stack := .double y :: .double x :: st, locked := none }) _
  jvm_step h [h.top, hx, hd', Op.dsub.at_number h.top hn]
  exact k'
theorem g_dmul (A : Ax p l e R s m args below meth c T locs cells slots B) {x y : UInt64} (hd : decode B pc = .ok (.dmul, 1)) (hn : NoNaN64 (FP.dmul x y)) (hp : pc + 1 = pc') (k : Go p e below P T (mkF m pc' ls (.double (FP.dmul x y) :: st))) : Go p e below P T (mkF m pc ls (.double y :: .double x :: st)) := by
  subst hp
  refine Go.of (fun t k' => ?_) k
  have h := A.1.here
  have hx := A.2.1
  have hd' := hb A.2.2 hd
  show Steps p.tables e below (T.setTop { method := m, pc := pc, locals := ls, stack := .double y :: .double x :: st, locked := none }) _
  jvm_step h [h.top, hx, hd', Op.dmul.at_number h.top hn]
  exact k'
theorem g_ddiv (A : Ax p l e R s m args below meth c T locs cells slots B) {x y : UInt64} (hd : decode B pc = .ok (.ddiv, 1)) (hn : NoNaN64 (FP.ddiv x y)) (hp : pc + 1 = pc') (k : Go p e below P T (mkF m pc' ls (.double (FP.ddiv x y) :: st))) : Go p e below P T (mkF m pc ls (.double y :: .double x :: st)) := by
  subst hp
  refine Go.of (fun t k' => ?_) k
  have h := A.1.here
  have hx := A.2.1
  have hd' := hb A.2.2 hd
  show Steps p.tables e below (T.setTop { method := m, pc := pc, locals := ls, stack := .double y :: .double x :: st, locked := none }) _
  jvm_step h [h.top, hx, hd', Op.ddiv.at_number h.top hn]
  exact k'
theorem g_daddL (A : Ax p l e R s m args below meth c T locs cells slots B) {x y z : UInt64} (hd : decode B pc = .ok (.dadd, 1)) (hz : FP.dadd x y = z) (hn : NoNaN64 z) (hp : pc + 1 = pc') (k : Go p e below P T (mkF m pc' ls (.double z :: st))) : Go p e below P T (mkF m pc ls (.double y :: .double x :: st)) := g_dadd A hd (hz.symm ▸ hn) hp (hz.symm ▸ k)
theorem g_dsubL (A : Ax p l e R s m args below meth c T locs cells slots B) {x y z : UInt64} (hd : decode B pc = .ok (.dsub, 1)) (hz : FP.dsub x y = z) (hn : NoNaN64 z) (hp : pc + 1 = pc') (k : Go p e below P T (mkF m pc' ls (.double z :: st))) : Go p e below P T (mkF m pc ls (.double y :: .double x :: st)) := g_dsub A hd (hz.symm ▸ hn) hp (hz.symm ▸ k)
theorem g_dmulL (A : Ax p l e R s m args below meth c T locs cells slots B) {x y z : UInt64} (hd : decode B pc = .ok (.dmul, 1)) (hz : FP.dmul x y = z) (hn : NoNaN64 z) (hp : pc + 1 = pc') (k : Go p e below P T (mkF m pc' ls (.double z :: st))) : Go p e below P T (mkF m pc ls (.double y :: .double x :: st)) := g_dmul A hd (hz.symm ▸ hn) hp (hz.symm ▸ k)
theorem g_ddivL (A : Ax p l e R s m args below meth c T locs cells slots B) {x y z : UInt64} (hd : decode B pc = .ok (.ddiv, 1)) (hz : FP.ddiv x y = z) (hn : NoNaN64 z) (hp : pc + 1 = pc') (k : Go p e below P T (mkF m pc' ls (.double z :: st))) : Go p e below P T (mkF m pc ls (.double y :: .double x :: st)) := g_ddiv A hd (hz.symm ▸ hn) hp (hz.symm ▸ k)
theorem g_dneg (A : Ax p l e R s m args below meth c T locs cells slots B) {x : UInt64} (hd : decode B pc = .ok (.dneg, 1)) (hp : pc + 1 = pc') (k : Go p e below P T (mkF m pc' ls (.double (FP.dneg x) :: st))) : Go p e below P T (mkF m pc ls (.double x :: st)) := by
  subst hp
  refine Go.of (fun t k' => ?_) k
  have h := A.1.here
  have hx := A.2.1
  have hd' := hb A.2.2 hd
  show Steps p.tables e below (T.setTop { method := m, pc := pc, locals := ls, stack := .double x :: st, locked := none }) _
  jvm_step h [h.top, hx, hd']
  exact k'
theorem g_i2d (A : Ax p l e R s m args below meth c T locs cells slots B) {x : Int32} (hd : decode B pc = .ok (.i2d, 1)) (hp : pc + 1 = pc') (k : Go p e below P T (mkF m pc' ls (.double (FP.i2d x) :: st))) : Go p e below P T (mkF m pc ls (.int x :: st)) := by
  subst hp
  refine Go.of (fun t k' => ?_) k
  have h := A.1.here
  have hx := A.2.1
  have hd' := hb A.2.2 hd
  show Steps p.tables e below (T.setTop { method := m, pc := pc, locals := ls, stack := .int x :: st, locked := none }) _
  jvm_step h [h.top, hx, hd']
  exact k'
theorem g_l2d (A : Ax p l e R s m args below meth c T locs cells slots B) {x : Int64} (hd : decode B pc = .ok (.l2d, 1)) (hp : pc + 1 = pc') (k : Go p e below P T (mkF m pc' ls (.double (FP.l2d x) :: st))) : Go p e below P T (mkF m pc ls (.long x :: st)) := by
  subst hp
  refine Go.of (fun t k' => ?_) k
  have h := A.1.here
  have hx := A.2.1
  have hd' := hb A.2.2 hd
  show Steps p.tables e below (T.setTop { method := m, pc := pc, locals := ls, stack := .long x :: st, locked := none }) _
  jvm_step h [h.top, hx, hd']
  exact k'
theorem g_dcmp (A : Ax p l e R s m args below meth c T locs cells slots B) {x y : UInt64} {op : CmpOp} (hd : decode B pc = .ok (.dcmp op, 1)) (hp : pc + 1 = pc') (k : Go p e below P T (mkF m pc' ls (.int (cmpValue (FP.dcmp x y) op) :: st))) : Go p e below P T (mkF m pc ls (.double y :: .double x :: st)) := by
  subst hp
  refine Go.of (fun t k' => ?_) k
  have h := A.1.here
  have hx := A.2.1
  have hd' := hb A.2.2 hd
  show Steps p.tables e below (T.setTop { method := m, pc := pc, locals := ls, stack := .double y :: .double x :: st, locked := none }) _
  jvm_step h [h.top, hx, hd']
  exact k'
theorem g_lcmp (A : Ax p l e R s m args below meth c T locs cells slots B) {x y : Int64} (hd : decode B pc = .ok (.lcmp, 1)) (hp : pc + 1 = pc') (k : Go p e below P T (mkF m pc' ls (.int (XT.cmpL x y) :: st))) : Go p e below P T (mkF m pc ls (.long y :: .long x :: st)) := by
  subst hp; exact Go.of (fun _ k' => XT.lcmp A.1.here A.2.1 rfl (hb A.2.2 hd) rfl k') k
theorem g_dup (A : Ax p l e R s m args below meth c T locs cells slots B) {x : Value} (hd : decode B pc = .ok (.dup, 1)) (hc : x.category = 1) (hp : pc + 1 = pc') (k : Go p e below P T (mkF m pc' ls (x :: x :: st))) : Go p e below P T (mkF m pc ls (x :: st)) := by
  subst hp; exact Go.of (fun _ k' => XS.dup A.1.here A.2.1 rfl (hb A.2.2 hd) rfl hc k') k
theorem g_pop (A : Ax p l e R s m args below meth c T locs cells slots B) {x : Value} (hd : decode B pc = .ok (.pop, 1)) (hc : x.category = 1) (hp : pc + 1 = pc') (k : Go p e below P T (mkF m pc' ls st)) : Go p e below P T (mkF m pc ls (x :: st)) := by
  subst hp; exact Go.of (fun _ k' => XT.pop A.1.here A.2.1 rfl (hb A.2.2 hd) rfl hc k') k
theorem g_iinc (A : Ax p l e R s m args below meth c T locs cells slots B) {k : Nat} {i : Int} {x y : Int32} (hd : decode B pc = .ok (.iinc k i, 3)) (hl : ls[k]? = some (.val (.int x))) (hy : x + Int32.ofInt i = y) (hl' : storeLocals ls k (.int y) = some ls') (hp : pc + 3 = pc') (k : Go p e below P T (mkF m pc' ls' st)) : Go p e below P T (mkF m pc ls st) := by
  subst hp hy; exact Go.of (fun _ k' => XS.iinc A.1.here A.2.1 rfl (hb A.2.2 hd) hl hl' k') k
theorem own_off {pc pc' : Nat} {o : Int} (h : (pc : Int) + o = (pc' : Int)) : 0 ≤ (pc : Int) + o ∧ ((pc : Int) + o).toNat = pc' := by omega
theorem g_goto (A : Ax p l e R s m args below meth c T locs cells slots B) {o : Int} (hd : decode B pc = .ok (.goto o, 3)) (hp : (pc : Int) + o = (pc' : Int)) (k : Go p e below P T (mkF m pc' ls st)) : Go p e below P T (mkF m pc ls st) := Go.of (fun _ k' => XS.goto A.1.here A.2.1 rfl rfl (hb A.2.2 hd) (own_off hp).1 (own_off hp).2 k') k
theorem g_ifY (A : Ax p l e R s m args below meth c T locs cells slots B) {o : Int} {cd : ClassFile.Cond} {x : Int32} (hd : decode B pc = .ok (.ifCond cd o, 3)) (hc : ifCond.holds cd x = true) (hp : (pc : Int) + o = (pc' : Int)) (k : Go p e below P T (mkF m pc' ls st)) : Go p e below P T (mkF m pc ls (.int x :: st)) := Go.of (fun _ k' => XS.ifYes A.1.here A.2.1 rfl rfl (hb A.2.2 hd) rfl hc (own_off hp).1 (own_off hp).2 k') k
theorem g_ifN (A : Ax p l e R s m args below meth c T locs cells slots B) {o : Int} {cd : ClassFile.Cond} {x : Int32} (hd : decode B pc = .ok (.ifCond cd o, 3)) (hc : ifCond.holds cd x = false) (hp : pc + 3 = pc') (k : Go p e below P T (mkF m pc' ls st)) : Go p e below P T (mkF m pc ls (.int x :: st)) := by
  subst hp; exact Go.of (fun _ k' => XS.ifNo A.1.here A.2.1 rfl (hb A.2.2 hd) rfl hc k') k
theorem g_icY (A : Ax p l e R s m args below meth c T locs cells slots B) {o : Int} {cd : ClassFile.Cond} {x y : Int32} (hd : decode B pc = .ok (.if_icmp cd o, 3)) (hc : if_icmp.holds cd x y = true) (hp : (pc : Int) + o = (pc' : Int)) (k : Go p e below P T (mkF m pc' ls st)) : Go p e below P T (mkF m pc ls (.int y :: .int x :: st)) := Go.of (fun _ k' => XS.icmpYes A.1.here A.2.1 rfl rfl (hb A.2.2 hd) rfl hc (own_off hp).1 (own_off hp).2 k') k
theorem g_icN (A : Ax p l e R s m args below meth c T locs cells slots B) {o : Int} {cd : ClassFile.Cond} {x y : Int32} (hd : decode B pc = .ok (.if_icmp cd o, 3)) (hc : if_icmp.holds cd x y = false) (hp : pc + 3 = pc') (k : Go p e below P T (mkF m pc' ls st)) : Go p e below P T (mkF m pc ls (.int y :: .int x :: st)) := by
  subst hp; exact Go.of (fun _ k' => XS.icmpNo A.1.here A.2.1 rfl (hb A.2.2 hd) rfl hc k') k
theorem c0_eq_t {x : Int32} (h : x = 0) : ifCond.holds .eq x = true := (if0 _ _).trans (teq h).1
theorem c0_eq_f {x : Int32} (h : ¬ x = 0) : ifCond.holds .eq x = false := (if0 _ _).trans (feq h).1
theorem c0_ne_t {x : Int32} (h : ¬ x = 0) : ifCond.holds .ne x = true := (if0 _ _).trans (feq h).2
theorem c0_ne_f {x : Int32} (h : x = 0) : ifCond.holds .ne x = false := (if0 _ _).trans (teq h).2
theorem c0_lt_t {x : Int32} (h : x < 0) : ifCond.holds .lt x = true := (if0 _ _).trans (tlt h).1
theorem c0_lt_f {x : Int32} (h : ¬ x < 0) : ifCond.holds .lt x = false := (if0 _ _).trans (flt h).1
theorem c0_ge_t {x : Int32} (h : ¬ x < 0) : ifCond.holds .ge x = true := (if0 _ _).trans (flt h).2.1
theorem c0_ge_f {x : Int32} (h : x < 0) : ifCond.holds .ge x = false := (if0 _ _).trans (tlt h).2.1
theorem c0_gt_t {x : Int32} (h : 0 < x) : ifCond.holds .gt x = true := (if0 _ _).trans (tlt h).2.2.1
theorem c0_gt_f {x : Int32} (h : ¬ 0 < x) : ifCond.holds .gt x = false := (if0 _ _).trans (flt h).2.2.1
theorem c0_le_t {x : Int32} (h : ¬ 0 < x) : ifCond.holds .le x = true := (if0 _ _).trans (flt h).2.2.2
theorem c0_le_f {x : Int32} (h : 0 < x) : ifCond.holds .le x = false := (if0 _ _).trans (tlt h).2.2.2
theorem c2_eq_t {x y : Int32} (h : x = y) : if_icmp.holds .eq x y = true := (teq h).1
theorem c2_eq_f {x y : Int32} (h : ¬ x = y) : if_icmp.holds .eq x y = false := (feq h).1
theorem c2_ne_t {x y : Int32} (h : ¬ x = y) : if_icmp.holds .ne x y = true := (feq h).2
theorem c2_ne_f {x y : Int32} (h : x = y) : if_icmp.holds .ne x y = false := (teq h).2
theorem c2_lt_t {x y : Int32} (h : x < y) : if_icmp.holds .lt x y = true := (tlt h).1
theorem c2_lt_f {x y : Int32} (h : ¬ x < y) : if_icmp.holds .lt x y = false := (flt h).1
theorem c2_ge_t {x y : Int32} (h : ¬ x < y) : if_icmp.holds .ge x y = true := (flt h).2.1
theorem c2_ge_f {x y : Int32} (h : x < y) : if_icmp.holds .ge x y = false := (tlt h).2.1
theorem c2_gt_t {x y : Int32} (h : y < x) : if_icmp.holds .gt x y = true := (tlt h).2.2.1
theorem c2_gt_f {x y : Int32} (h : ¬ y < x) : if_icmp.holds .gt x y = false := (flt h).2.2.1
theorem c2_le_t {x y : Int32} (h : ¬ y < x) : if_icmp.holds .le x y = true := (flt h).2.2.2
theorem c2_le_f {x y : Int32} (h : y < x) : if_icmp.holds .le x y = false := (tlt h).2.2.2
theorem b0_eq_t {C : Prop} [Decidable C] {v : Int32} (e : v = if C then 1 else 0) (h : ¬ C) : ifCond.holds .eq v = true := c0_eq_t (by rw [e, if_neg h])
theorem b0_eq_f {C : Prop} [Decidable C] {v : Int32} (e : v = if C then 1 else 0) (h : C) : ifCond.holds .eq v = false := c0_eq_f (by rw [e, if_pos h]; decide)
theorem b0_ne_t {C : Prop} [Decidable C] {v : Int32} (e : v = if C then 1 else 0) (h : C) : ifCond.holds .ne v = true := c0_ne_t (by rw [e, if_pos h]; decide)
theorem b0_ne_f {C : Prop} [Decidable C] {v : Int32} (e : v = if C then 1 else 0) (h : ¬ C) : ifCond.holds .ne v = false := c0_ne_f (by rw [e, if_neg h])
theorem own_b01 {C : Prop} [Decidable C] {v : Int32} (e : v = if C then 1 else 0) : narrow .boolean (.int v) = .int v := by
  subst e; by_cases h : C
  · rw [if_pos h]; rfl
  · rw [if_neg h]; rfl
theorem own_fb {C : Prop} [Decidable C] {v : Int32} (e : v = if C then 1 else 0) : fits .boolean (.int v) = true := by
  subst e; by_cases h : C
  · rw [if_pos h]; rfl
  · rw [if_neg h]; rfl
theorem own_ndadd {x y : UInt64} (h1 : Fin64 x) (h2 : Fin64 y) : NoNaN64 (FP.dadd x y) := dadd_out h1.noNaN h2
theorem own_ndsub {x y : UInt64} (h1 : Fin64 x) (h2 : Fin64 y) : NoNaN64 (FP.dsub x y) := dsub_out h1.noNaN h2
theorem own_ndmul {x y : UInt64} (h1 : Fin64 x) (h2 : Fin64 y) : NoNaN64 (FP.dmul x y) := dmul_out h1 h2
theorem own_fin {x : UInt64} : Fin64 x ↔ FP.Core.DFin x := fin64_core
theorem own_fneg {x : UInt64} (h : Fin64 x) : Fin64 (FP.dneg x) := by
  obtain ⟨s, c, q, e⟩ := fin64_core.mp h
  exact fin64_core.mpr ⟨!s, c, q, (FP.val64_dneg x).trans (by rw [e]; rfl)⟩
theorem own_self {x : UInt64} (h : Fin64 x) : FP.dcmp x x = some .eq := FP.Core.dcmp_self (fin64_core.mp h).ne_nan
theorem own_sgt {x : UInt64} (h : Fin64 x) : ¬ FP.dcmp x x = some .gt := by rw [own_self h]; decide
theorem own_slt {x : UInt64} (h : Fin64 x) : ¬ FP.dcmp x x = some .lt := by rw [own_self h]; decide
theorem own_and {c d : Jvm.Cond} {a : Array Value} {s : State} (h1 : c.before a s = true) (h2 : d.before a s = true) : (Jvm.Cond.and c d).before a s = true := by rw [Cond.before_and, h1, h2]; rfl
theorem own_isfin {x : UInt64} (h : Fin64 x) : some (Value.int (if Jvm.Free.Fl.relLe (FP.dcmp (x &&& 0x7fffffffffffffff) Jvm.Free.Fl.maxD) = true then (1 : Int32) else 0)) = some (.int (1 : Int32)) := by rw [if_pos ((le_max_iff h.noNaN).mpr h)]
theorem own_isinf {x : UInt64} (h : Fin64 x) : some (Value.int (if Jvm.Free.Fl.relGt (FP.dcmp (x &&& 0x7fffffffffffffff) Jvm.Free.Fl.maxD) = true then (1 : Int32) else 0)) = some (.int (0 : Int32)) := by rw [if_neg (fun h4 => (gt_max_iff h.noNaN).mp h4 h)]
theorem own_dfin {i : Int} {x : UInt64} (h : FP.Core.DInt i x) : Fin64 x := by
  refine fin64_core.mpr ?_
  have q : FP.Core.Whole i (FP.Core.val64 x) := h
  cases e : FP.Core.val64 x with
  | nan => rw [e] at q; exact q.elim
  | inf s => rw [e] at q; exact q.elim
  | fin s c q => exact ⟨s, c, q, e⟩
theorem own_fn {v : Int32} (h : narrow .boolean (.int v) = .int v) : fits .boolean (.int v) = true := by
  have q : v &&& 1 = v := Value.int.inj h
  rcases and_one v with z | z <;> rw [z] at q <;> subst q <;> rfl
/-- a double less than, equal to .. another, as the code asks it -/
abbrev oGe (o : Option Ordering) : Prop := o = some .gt ∨ o = some .eq
abbrev oLe (o : Option Ordering) : Prop := o = some .lt ∨ o = some .eq
theorem d_l_eq_t {o : Option Ordering} (h : o = some .eq) : ifCond.holds .eq (cmpValue o .l) = true := by
  rcases o with _ | _ | _ | _ <;> first | rfl | decide | (exfalso; revert h; decide)
theorem d_l_eq_f {o : Option Ordering} (h : ¬ o = some .eq) : ifCond.holds .eq (cmpValue o .l) = false := by
  rcases o with _ | _ | _ | _ <;> first | rfl | decide | (exfalso; revert h; decide)
theorem d_l_ne_t {o : Option Ordering} (h : ¬ o = some .eq) : ifCond.holds .ne (cmpValue o .l) = true := by
  rcases o with _ | _ | _ | _ <;> first | rfl | decide | (exfalso; revert h; decide)
theorem d_l_ne_f {o : Option Ordering} (h : o = some .eq) : ifCond.holds .ne (cmpValue o .l) = false := by
  rcases o with _ | _ | _ | _ <;> first | rfl | decide | (exfalso; revert h; decide)
theorem d_g_eq_t {o : Option Ordering} (h : o = some .eq) : ifCond.holds .eq (cmpValue o .g) = true := by
  rcases o with _ | _ | _ | _ <;> first | rfl | decide | (exfalso; revert h; decide)
theorem d_g_eq_f {o : Option Ordering} (h : ¬ o = some .eq) : ifCond.holds .eq (cmpValue o .g) = false := by
  rcases o with _ | _ | _ | _ <;> first | rfl | decide | (exfalso; revert h; decide)
theorem d_g_ne_t {o : Option Ordering} (h : ¬ o = some .eq) : ifCond.holds .ne (cmpValue o .g) = true := by
  rcases o with _ | _ | _ | _ <;> first | rfl | decide | (exfalso; revert h; decide)
theorem d_g_ne_f {o : Option Ordering} (h : o = some .eq) : ifCond.holds .ne (cmpValue o .g) = false := by
  rcases o with _ | _ | _ | _ <;> first | rfl | decide | (exfalso; revert h; decide)
theorem d_l_lt_t {o : Option Ordering} (h : ¬ oGe o) : ifCond.holds .lt (cmpValue o .l) = true := by
  rcases o with _ | _ | _ | _ <;> first | rfl | decide | (exfalso; revert h; decide)
theorem d_l_lt_f {o : Option Ordering} (h : oGe o) : ifCond.holds .lt (cmpValue o .l) = false := by
  rcases o with _ | _ | _ | _ <;> first | rfl | decide | (exfalso; revert h; decide)
theorem d_l_ge_t {o : Option Ordering} (h : oGe o) : ifCond.holds .ge (cmpValue o .l) = true := by
  rcases o with _ | _ | _ | _ <;> first | rfl | decide | (exfalso; revert h; decide)
theorem d_l_ge_f {o : Option Ordering} (h : ¬ oGe o) : ifCond.holds .ge (cmpValue o .l) = false := by
  rcases o with _ | _ | _ | _ <;> first | rfl | decide | (exfalso; revert h; decide)
theorem d_l_gt_t {o : Option Ordering} (h : o = some .gt) : ifCond.holds .gt (cmpValue o .l) = true := by
  rcases o with _ | _ | _ | _ <;> first | rfl | decide | (exfalso; revert h; decide)
theorem d_l_gt_f {o : Option Ordering} (h : ¬ o = some .gt) : ifCond.holds .gt (cmpValue o .l) = false := by
  rcases o with _ | _ | _ | _ <;> first | rfl | decide | (exfalso; revert h; decide)
theorem d_l_le_t {o : Option Ordering} (h : ¬ o = some .gt) : ifCond.holds .le (cmpValue o .l) = true := by
  rcases o with _ | _ | _ | _ <;> first | rfl | decide | (exfalso; revert h; decide)
theorem d_l_le_f {o : Option Ordering} (h : o = some .gt) : ifCond.holds .le (cmpValue o .l) = false := by
  rcases o with _ | _ | _ | _ <;> first | rfl | decide | (exfalso; revert h; decide)
theorem d_g_lt_t {o : Option Ordering} (h : o = some .lt) : ifCond.holds .lt (cmpValue o .g) = true := by
  rcases o with _ | _ | _ | _ <;> first | rfl | decide | (exfalso; revert h; decide)
theorem d_g_lt_f {o : Option Ordering} (h : ¬ o = some .lt) : ifCond.holds .lt (cmpValue o .g) = false := by
  rcases o with _ | _ | _ | _ <;> first | rfl | decide | (exfalso; revert h; decide)
theorem d_g_ge_t {o : Option Ordering} (h : ¬ o = some .lt) : ifCond.holds .ge (cmpValue o .g) = true := by
  rcases o with _ | _ | _ | _ <;> first | rfl | decide | (exfalso; revert h; decide)
theorem d_g_ge_f {o : Option Ordering} (h : o = some .lt) : ifCond.holds .ge (cmpValue o .g) = false := by
  rcases o with _ | _ | _ | _ <;> first | rfl | decide | (exfalso; revert h; decide)
theorem d_g_gt_t {o : Option Ordering} (h : ¬ oLe o) : ifCond.holds .gt (cmpValue o .g) = true := by
  rcases o with _ | _ | _ | _ <;> first | rfl | decide | (exfalso; revert h; decide)
theorem d_g_gt_f {o : Option Ordering} (h : oLe o) : ifCond.holds .gt (cmpValue o .g) = false := by
  rcases o with _ | _ | _ | _ <;> first | rfl | decide | (exfalso; revert h; decide)
theorem d_g_le_t {o : Option Ordering} (h : oLe o) : ifCond.holds .le (cmpValue o .g) = true := by
  rcases o with _ | _ | _ | _ <;> first | rfl | decide | (exfalso; revert h; decide)
theorem d_g_le_f {o : Option Ordering} (h : ¬ oLe o) : ifCond.holds .le (cmpValue o .g) = false := by
  rcases o with _ | _ | _ | _ <;> first | rfl | decide | (exfalso; revert h; decide)
theorem l_eq (x y : Int64) : XT.cmpL x y = 0 ↔ x = y := lw_eq x y
theorem l_lt (x y : Int64) : XT.cmpL x y < 0 ↔ x < y := lw_lt x y
theorem l_gt (x y : Int64) : 0 < XT.cmpL x y ↔ y < x := lw_gt x y
theorem g_ret (A : Ax p l e R s m args below meth c T locs cells slots B) {w : Value} {t : FieldType} {i : Instr} {Q : Option Value → Heap → List Loc → Prop} {K S : Nat} (hd : decode B pc = .ok (i, 1)) (hlk : meth.locks = false) (hret : meth.sig.returnType = some t) (hn : narrow t w = w)
    (hi : (i = .ireturn ∧ (t = .int ∨ t = .boolean ∨ t = .byte ∨ t = .char ∨ t = .short) ∧ ∃ z, w = .int z) ∨ (i = .lreturn ∧ t = .long ∧ ∃ z, w = .long z) ∨ (i = .dreturn ∧ t = .double ∧ ∃ z, w = .double z) ∨ (i = .freturn ∧ t = .float ∧ ∃ z, w = .float z) ∨ (i = .areturn ∧ t.isReference = true ∧ w.isRef = true))
    (hK : cells ≤ K) (hS : slots ≤ S) (hQ : Q (some w) T.heap locs) : Go p e below (fun U o => ∃ v L, o = .returned v ∧ Q v U.heap L ∧ FrameEnd s o U L K S) T (mkF m pc ls (w :: st)) := by
  obtain ⟨fs, hr, hrun, hended, hW, hsame⟩ := A.1.leave (v := some w) (fun h => by rw [hret] at h; cases h) hlk
  exact ⟨_, _, retOut A.1 A.2.1 hret hn hi (hb A.2.2 hd) hr, hrun, hended, _, _, rfl, hQ, ⟨_, rfl⟩, hW, hsame.mono hK hS⟩
theorem g_retW {vm1 : Vm} (A : Ax p l e R (s.setVm vm1) m args below meth c T locs cells slots B) {w : Value} {t : FieldType} {i : Instr} {Q : Option Value → Heap → List Loc → Prop} {K S n : Nat} (hSi : s.Since vm1 n) (hN : n ≤ T.heap.size) (hd : decode B pc = .ok (i, 1)) (hlk : meth.locks = false) (hret : meth.sig.returnType = some t) (hn : narrow t w = w)
    (hi : (i = .ireturn ∧ (t = .int ∨ t = .boolean ∨ t = .byte ∨ t = .char ∨ t = .short) ∧ ∃ z, w = .int z) ∨ (i = .lreturn ∧ t = .long ∧ ∃ z, w = .long z) ∨ (i = .dreturn ∧ t = .double ∧ ∃ z, w = .double z) ∨ (i = .freturn ∧ t = .float ∧ ∃ z, w = .float z) ∨ (i = .areturn ∧ t.isReference = true ∧ w.isRef = true))
    (hK : cells ≤ K) (hS : slots ≤ S) (hQ : Q (some w) T.heap locs) : Go p e below (fun U o => ∃ v L, o = .returned v ∧ Q v U.heap L ∧ ReturnedEndW s o U L K S) T (mkF m pc ls (w :: st)) := by
  obtain ⟨fs, hr, hrun, hended, hv, h1, h2, hsame⟩ := A.1.leaveW hSi hN (v := some w) (fun h => by rw [hret] at h; cases h) hlk
  exact ⟨_, _, retOut A.1 A.2.1 hret hn hi (hb A.2.2 hd) hr, hrun, hended, _, _, rfl, hQ, hv, h1, h2, hsame.mono hK hS⟩
theorem g_retV (A : Ax p l e R s m args below meth c T locs cells slots B) {Q : Option Value → Heap → List Loc → Prop} {K S : Nat} (hd : decode B pc = .ok (.return_, 1)) (hlk : meth.locks = false) (hret : meth.sig.returnType = none)
    (hK : cells ≤ K) (hS : slots ≤ S) (hQ : Q none T.heap locs) : Go p e below (fun U o => ∃ v L, o = .returned v ∧ Q v U.heap L ∧ FrameEnd s o U L K S) T (mkF m pc ls []) := by
  obtain ⟨fs, hr, hrun, hended, hW, hsame⟩ := A.1.leave (v := none) (fun _ => rfl) hlk
  exact ⟨_, _, A.1.returnOut A.2.1 hret (hb A.2.2 hd) hr, hrun, hended, _, _, rfl, hQ, ⟨_, rfl⟩, hW, hsame.mono hK hS⟩
theorem g_ldcI (A : Ax p l e R s m args below meth c T locs cells slots B) {Z : State} {a0 : Array Value} {own : String} {i : Nat} {v : Int32} (hZ : Z.Warmed39 s.vm) (hown : s.vm.findClass own = some m.cls) (w : (Jvm.Cond.constant own i v).before a0 Z = true) (hd : decode B pc = .ok (.ldc i, 2)) (hp : pc + 2 = pc') (k : Go p e below P T (mkF m pc' ls (.int v :: st))) : Go p e below P T (mkF m pc ls st) := by
  subst hp; exact Go.of (A.1.ldcInt A.2.1 hown (mvT hZ w) (g := mkF m pc ls st) rfl (hb A.2.2 hd)) k
theorem g_ldcD (A : Ax p l e R s m args below meth c T locs cells slots B) {Z : State} {a0 : Array Value} {own : String} {i : Nat} {v : UInt64} (hZ : Z.Warmed39 s.vm) (hown : s.vm.findClass own = some m.cls) (w : (Jvm.Cond.constantDouble own i v).before a0 Z = true) (hd : decode B pc = .ok (.ldc2_w i, 3)) (hp : pc + 3 = pc') (k : Go p e below P T (mkF m pc' ls (.double v :: st))) : Go p e below P T (mkF m pc ls st) := by
  subst hp; exact Go.of (A.1.ldc2DoubleC A.2.1 hown (mvT hZ w) (g := mkF m pc ls st) rfl (hb A.2.2 hd)) k
theorem g_ldcL (A : Ax p l e R s m args below meth c T locs cells slots B) {Z : State} {a0 : Array Value} {own : String} {i : Nat} {v : Int64} (hZ : Z.Warmed39 s.vm) (hown : s.vm.findClass own = some m.cls) (w : (Jvm.Cond.constantLong own i v).before a0 Z = true) (hd : decode B pc = .ok (.ldc2_w i, 3)) (hp : pc + 3 = pc') (k : Go p e below P T (mkF m pc' ls (.long v :: st))) : Go p e below P T (mkF m pc ls st) := by
  subst hp; exact Go.of (A.1.ldc2Long A.2.1 hown (mvT hZ w) (g := mkF m pc ls st) rfl (hb A.2.2 hd)) k
theorem g_nnY (A : Ax p l e R s m args below meth c T locs cells slots B) {o : Int} {b : Addr} (hd : decode B pc = .ok (.ifnonnull o, 3)) (hp : (pc : Int) + o = (pc' : Int)) (k : Go p e below P T (mkF m pc' ls st)) : Go p e below P T (mkF m pc ls (.ref b :: st)) := Go.of (fun _ k' => XT.ifnonnullYes A.1.here A.2.1 rfl rfl (hb A.2.2 hd) rfl (own_off hp).1 (own_off hp).2 k') k
theorem g_nnN (A : Ax p l e R s m args below meth c T locs cells slots B) {o : Int} (hd : decode B pc = .ok (.ifnonnull o, 3)) (hp : pc + 3 = pc') (k : Go p e below P T (mkF m pc' ls st)) : Go p e below P T (mkF m pc ls (.null :: st)) := by
  subst hp; exact Go.of (fun _ k' => XT.ifnonnullNo A.1.here A.2.1 rfl (hb A.2.2 hd) rfl k') k
theorem g_nuY (A : Ax p l e R s m args below meth c T locs cells slots B) {o : Int} (hd : decode B pc = .ok (.ifnull o, 3)) (hp : (pc : Int) + o = (pc' : Int)) (k : Go p e below P T (mkF m pc' ls st)) : Go p e below P T (mkF m pc ls (.null :: st)) := Go.of (fun _ k' => XS.ifnullYes A.1.here A.2.1 rfl rfl (hb A.2.2 hd) rfl (own_off hp).1 (own_off hp).2 k') k
theorem g_nuN (A : Ax p l e R s m args below meth c T locs cells slots B) {o : Int} {b : Addr} (hd : decode B pc = .ok (.ifnull o, 3)) (hp : pc + 3 = pc') (k : Go p e below P T (mkF m pc' ls st)) : Go p e below P T (mkF m pc ls (.ref b :: st)) := by
  subst hp; exact Go.of (fun _ k' => XS.ifnullNo A.1.here A.2.1 rfl (hb A.2.2 hd) rfl k') k
theorem g_acY (A : Ax p l e R s m args below meth c T locs cells slots B) {o : Int} {cd : ClassFile.ACond} {x y : Value} (hd : decode B pc = .ok (.if_acmp cd o, 3)) (h1 : x.isRef = true) (h2 : y.isRef = true) (hc : XT.acmp cd x y = true) (hp : (pc : Int) + o = (pc' : Int)) (k : Go p e below P T (mkF m pc' ls st)) : Go p e below P T (mkF m pc ls (y :: x :: st)) := Go.of (fun _ k' => XT.acmpYes A.1.here A.2.1 rfl rfl (hb A.2.2 hd) rfl h1 h2 hc (own_off hp).1 (own_off hp).2 k') k
theorem g_acN (A : Ax p l e R s m args below meth c T locs cells slots B) {o : Int} {cd : ClassFile.ACond} {x y : Value} (hd : decode B pc = .ok (.if_acmp cd o, 3)) (h1 : x.isRef = true) (h2 : y.isRef = true) (hc : XT.acmp cd x y = false) (hp : pc + 3 = pc') (k : Go p e below P T (mkF m pc' ls st)) : Go p e below P T (mkF m pc ls (y :: x :: st)) := by
  subst hp; exact Go.of (fun _ k' => XT.acmpNo A.1.here A.2.1 rfl (hb A.2.2 hd) rfl h1 h2 hc k') k
/-- an array of n places: its i-th holds f i -/
def Dar (Z : State) (h : Heap) (a : Addr) (ty : FieldType) (n : Nat) (f : Nat → Value) : Prop := ∃ cl : Cell, RoadKit.Arr Z h a cl ty ∧ cl.slots.size = n ∧ n < 2147483648 ∧ ∀ i, i < n → cl.slots[i]? = some (f i)
variable {Z : State} {h h' : Heap} {a b : Addr} {ty : FieldType} {n : Nat} {f g : Nat → Value} {sl : Nat} {v : Value} {ws : List Addr}
theorem Dar.lt (F : Dar Z h a ty n f) : a < h.size := by obtain ⟨cl, A, -⟩ := F; exact A.lt
theorem Dar.ext (E : Ext h h') (F : Dar Z h a ty n f) : Dar Z h' a ty n f := by obtain ⟨cl, A, r⟩ := F; exact ⟨cl, A.ext E, r⟩
theorem Dar.other (W : Wr h h' b sl v) (F : Dar Z h a ty n f) (q : a ≠ b) : Dar Z h' a ty n f := by obtain ⟨cl, A, r⟩ := F; exact ⟨cl, A.other W q, r⟩
theorem Dar.keep (F : Dar Z h a ty n f) (K : Keep h h' ws) (q : a ∉ ws) : Dar Z h' a ty n f := by obtain ⟨cl, A, r⟩ := F; exact ⟨cl, ⟨K.2.1 a cl A.1 q, A.2⟩, r⟩
theorem Dar.congr (F : Dar Z h a ty n f) (q : ∀ i, i < n → f i = g i) : Dar Z h a ty n g := by obtain ⟨cl, A, r1, r2, r3⟩ := F; exact ⟨cl, A, r1, r2, fun i hi => by rw [← q i hi]; exact r3 i hi⟩
theorem Dar.new {cA : ClassId} {z : Int32} (A : RoadKit.Arr Z h a (newA cA ty z) ty) (hz : z.toNatClampNeg = n) : Dar Z h a ty n (fun _ => defaultValue ty) := by
  refine ⟨_, A, (sz_new _ _ _).trans hz, ?_, fun i hi => by subst hz; simp [newA, hi]⟩
  have := z.toInt_lt
  rw [← hz, Int32.toNatClampNeg]; omega
theorem Dar.ne_exa {a0 : Array Value} {k : Nat} {C : String} (F : Dar Z h a ty n f) (E : Exa Z h b C) (wi : (Jvm.Cond.instantiable C k).before a0 Z = true) : a ≠ b := by obtain ⟨cl, A, -⟩ := F; exact fun q => ne_arr E wi A q.symm
theorem own_ne {a b : Nat} {h : Heap} (g : a = h.size) (q : b < h.size) : b ≠ a := by rw [g]; exact Nat.ne_of_lt q
theorem own_clamp {i : Nat} (hi : i < 2147483648) : (Int32.ofNat i).toNatClampNeg = i ∧ ¬ Int32.ofNat i < 0 := by
  have e : (Int32.ofNat i).toInt = i := Int32.toInt_ofNat_of_lt hi
  refine ⟨by rw [Int32.toNatClampNeg, e]; omega, fun q => ?_⟩
  rw [Int32.lt_iff_toInt_lt, e] at q
  have : (0 : Int32).toInt = 0 := rfl
  omega
theorem Dar.set {i : Nat} (F : Dar Z h a ty n f) (W : Wr h h' a i v) (q : ∀ j, j < n → g j = if j = i then v else f j) : Dar Z h' a ty n g := by
  obtain ⟨cl, A, r1, r2, r3⟩ := F
  refine ⟨_, A.same W, (sz_set _ _ _).trans r1, r2, fun j hj => ?_⟩
  rw [q j hj]
  by_cases e : j = i
  · subst e; rw [if_pos rfl]; simp [Cell.setSlot, r1, hj]
  · rw [if_neg e]; exact (Array.getElem?_setIfInBounds_ne (Ne.symm e)).trans (r3 j hj)
theorem own_in {cl : Cell} {i : Nat} (S : cl.slots.size = n) (hn : n < 2147483648) (hi : i < n) : ¬ (Int32.ofNat i < 0 ∨ cl.slots.size ≤ (Int32.ofNat i).toNatClampNeg) := by
  obtain ⟨q1, q2⟩ := own_clamp (i := i) (by omega)
  rw [q1, S]; exact fun z => z.elim q2 (by omega)
theorem g_daload (A : Ax p l e R s m args below meth c T locs cells slots B) (hZ : Z.Warmed39 s.vm) (eT : T.heap = h) {j : Int32} {i : Nat} {x : UInt64} (F : Dar Z h a .double n f) (hi : i < n) (hj : j = Int32.ofNat i) (hv : f i = .double x) (hd : decode B pc = .ok (.daload, 1)) (hp : pc + 1 = pc') (k : Go p e below P T (mkF m pc' ls (.double x :: st))) : Go p e below P T (mkF m pc ls (.int j :: .ref a :: st)) := by
  subst hp hj
  obtain ⟨cl, A2, r1, r2, r3⟩ := F
  have q := (own_clamp (i := i) (by omega)).1
  exact Go.of (fun t k' => A.1.daload A.2.1 (j := Int32.ofNat i) (v := .double x) (by rw [eT]; exact A2.1) (State.isArrayOf_alike hZ.alike A2.2.1) A2.2.2 (own_in r1 r2 hi) (by rw [q, ← hv]; exact r3 i hi) (g := mkF m pc ls (.int (Int32.ofNat i) :: .ref a :: st)) rfl rfl (hb A.2.2 hd) t k') k
theorem g_iaload (A : Ax p l e R s m args below meth c T locs cells slots B) (hZ : Z.Warmed39 s.vm) (eT : T.heap = h) {j : Int32} {i : Nat} {x : Int32} (F : Dar Z h a .int n f) (hi : i < n) (hj : j = Int32.ofNat i) (hv : f i = .int x) (hd : decode B pc = .ok (.iaload, 1)) (hp : pc + 1 = pc') (k : Go p e below P T (mkF m pc' ls (.int x :: st))) : Go p e below P T (mkF m pc ls (.int j :: .ref a :: st)) := by
  subst hp hj
  obtain ⟨cl, A2, r1, r2, r3⟩ := F
  have q := (own_clamp (i := i) (by omega)).1
  exact Go.of (fun t k' => A.1.iaload A.2.1 (j := Int32.ofNat i) (v := .int x) (by rw [eT]; exact A2.1) (State.isArrayOf_alike hZ.alike A2.2.1) A2.2.2 (own_in r1 r2 hi) (by rw [q, ← hv]; exact r3 i hi) (g := mkF m pc ls (.int (Int32.ofNat i) :: .ref a :: st)) rfl rfl (hb A.2.2 hd) t k') k
theorem g_baload (A : Ax p l e R s m args below meth c T locs cells slots B) (hZ : Z.Warmed39 s.vm) (eT : T.heap = h) {j : Int32} {i : Nat} {x : Int32} (F : Dar Z h a .boolean n f) (hi : i < n) (hj : j = Int32.ofNat i) (hv : f i = .int x) (hd : decode B pc = .ok (.baload, 1)) (hp : pc + 1 = pc') (k : Go p e below P T (mkF m pc' ls (.int x :: st))) : Go p e below P T (mkF m pc ls (.int j :: .ref a :: st)) := by
  subst hp hj
  obtain ⟨cl, A2, r1, r2, r3⟩ := F
  have q := (own_clamp (i := i) (by omega)).1
  exact Go.of (fun t k' => A.1.baloadBooleans A.2.1 (j := Int32.ofNat i) (v := .int x) (by rw [eT]; exact A2.1) (State.isArrayOf_alike hZ.alike A2.2.1) A2.2.2 (own_in r1 r2 hi) (by rw [q, ← hv]; exact r3 i hi) (g := mkF m pc ls (.int (Int32.ofNat i) :: .ref a :: st)) rfl rfl (hb A.2.2 hd) t k') k
theorem g_baloadB (A : Ax p l e R s m args below meth c T locs cells slots B) (hZ : Z.Warmed39 s.vm) (eT : T.heap = h) {j : Int32} {i : Nat} {x : Int32} (F : Dar Z h a .byte n f) (hi : i < n) (hj : j = Int32.ofNat i) (hv : f i = .int x) (hd : decode B pc = .ok (.baload, 1)) (hp : pc + 1 = pc') (k : Go p e below P T (mkF m pc' ls (.int x :: st))) : Go p e below P T (mkF m pc ls (.int j :: .ref a :: st)) := by
  subst hp hj
  obtain ⟨cl, A2, r1, r2, r3⟩ := F
  have q := (own_clamp (i := i) (by omega)).1
  exact Go.of (fun t k' => A.1.baloadBytes A.2.1 (j := Int32.ofNat i) (v := .int x) (by rw [eT]; exact A2.1) (State.isArrayOf_alike hZ.alike A2.2.1) A2.2.2 (own_in r1 r2 hi) (by rw [q, ← hv]; exact r3 i hi) (g := mkF m pc ls (.int (Int32.ofNat i) :: .ref a :: st)) rfl rfl (hb A.2.2 hd) t k') k
theorem g_alen (A : Ax p l e R s m args below meth c T locs cells slots B) (hZ : Z.Warmed39 s.vm) (eT : T.heap = h) (F : Dar Z h a ty n f) (hd : decode B pc = .ok (.arraylength, 1)) {z : Int32} (hz : Int32.ofNat n = z) (hp : pc + 1 = pc') (k : Go p e below P T (mkF m pc' ls (.int z :: st))) : Go p e below P T (mkF m pc ls (.ref a :: st)) := by
  subst hp hz
  obtain ⟨cl, A2, r1, r2, r3⟩ := F
  exact Go.of (fun t k' => A.1.arraylength A.2.1 (cell := cl) (by rw [eT]; exact A2.1) (State.isArrayOf_alike hZ.alike A2.2.1) (g := mkF m pc ls (.ref a :: st)) rfl (rest := st) rfl (hb A.2.2 hd) t (by rw [r1]; exact k')) k
theorem s_dastore (A : Ax p l e R s m args below meth c T locs cells slots B) (hZ : Z.Warmed39 s.vm) (eT : T.heap = h) {j : Int32} {i : Nat} {x : UInt64} (F : Dar Z h a .double n f) (hi : i < n) (hj : j = Int32.ofNat i) (hd : decode B pc = .ok (.dastore, 1)) (hp : pc + 1 = pc') :
    ∃ T' h', Ax p l e R s m args below meth c T' (locs ++ [⟨a, i⟩]) cells slots B ∧ T'.heap = h' ∧ Wr h h' a i (.double x) ∧ ∀ {P : State → Outcome → Prop}, Go p e below P T' (mkF m pc' ls st) → Go p e below P T (mkF m pc ls (.double x :: .int j :: .ref a :: st)) := by
  subst hp hj
  obtain ⟨cl, A2, r1, r2, r3⟩ := F
  have q := (own_clamp (i := i) (by omega)).1
  obtain ⟨X', st'⟩ := A.1.dastore A.2.1 (by rw [eT]; exact A2.1) (State.isArrayOf_alike hZ.alike A2.2.1) A2.2.2 (own_in r1 r2 hi) (x := x) (g := mkF m pc ls (.double x :: .int (Int32.ofNat i) :: .ref a :: st)) rfl rfl (hb A.2.2 hd)
  rw [q] at X' st'
  exact ⟨_, _, ⟨X', A.2⟩, rfl, ⟨cl, A2.1, A2.plain, by rw [r1]; exact hi, by rw [← eT]; rfl⟩, fun k => Go.of st' k⟩
theorem s_iastore (A : Ax p l e R s m args below meth c T locs cells slots B) (hZ : Z.Warmed39 s.vm) (eT : T.heap = h) {j : Int32} {i : Nat} {x : Int32} (F : Dar Z h a .int n f) (hi : i < n) (hj : j = Int32.ofNat i) (hd : decode B pc = .ok (.iastore, 1)) (hp : pc + 1 = pc') :
    ∃ T' h', Ax p l e R s m args below meth c T' (locs ++ [⟨a, i⟩]) cells slots B ∧ T'.heap = h' ∧ Wr h h' a i (.int x) ∧ ∀ {P : State → Outcome → Prop}, Go p e below P T' (mkF m pc' ls st) → Go p e below P T (mkF m pc ls (.int x :: .int j :: .ref a :: st)) := by
  subst hp hj
  obtain ⟨cl, A2, r1, r2, r3⟩ := F
  have q := (own_clamp (i := i) (by omega)).1
  obtain ⟨T', h', X', e', W, st'⟩ := stI A.1 A.2.1 hZ eT A2 (own_in r1 r2 hi) (x := x) (g := mkF m pc ls (.int x :: .int (Int32.ofNat i) :: .ref a :: st)) rfl rfl (hb A.2.2 hd)
  rw [q] at X' W
  exact ⟨_, _, ⟨X', A.2⟩, e', W, fun k => Go.of st' k⟩
theorem s_zastore (A : Ax p l e R s m args below meth c T locs cells slots B) (hZ : Z.Warmed39 s.vm) (eT : T.heap = h) {j : Int32} {i : Nat} {x : Int32} (F : Dar Z h a .boolean n f) (hi : i < n) (hj : j = Int32.ofNat i) (hx1 : narrow .boolean (.int x) = .int x) (hd : decode B pc = .ok (.bastore, 1)) (hp : pc + 1 = pc') :
    ∃ T' h', Ax p l e R s m args below meth c T' (locs ++ [⟨a, i⟩]) cells slots B ∧ T'.heap = h' ∧ Wr h h' a i (.int x) ∧ ∀ {P : State → Outcome → Prop}, Go p e below P T' (mkF m pc' ls st) → Go p e below P T (mkF m pc ls (.int x :: .int j :: .ref a :: st)) := by
  subst hp hj
  obtain ⟨cl, A2, r1, r2, r3⟩ := F
  have q := (own_clamp (i := i) (by omega)).1
  obtain ⟨T', h', X', e', W, st'⟩ := stZ A.1 A.2.1 hZ eT A2 (own_in r1 r2 hi) (x := x) (g := mkF m pc ls (.int x :: .int (Int32.ofNat i) :: .ref a :: st)) rfl rfl (hb A.2.2 hd)
  have q2 : nar .boolean x = x := Value.int.inj hx1
  rw [q] at X' W; rw [q2] at W
  exact ⟨_, _, ⟨X', A.2⟩, e', W, fun k => Go.of st' k⟩
theorem s_bastoreB (A : Ax p l e R s m args below meth c T locs cells slots B) (hZ : Z.Warmed39 s.vm) (eT : T.heap = h) {j : Int32} {i : Nat} {x : Int32} (F : Dar Z h a .byte n f) (hi : i < n) (hj : j = Int32.ofNat i) (hd : decode B pc = .ok (.bastore, 1)) (hp : pc + 1 = pc') :
    ∃ T' h', Ax p l e R s m args below meth c T' (locs ++ [⟨a, i⟩]) cells slots B ∧ T'.heap = h' ∧ Wr h h' a i (.int (nar .byte x)) ∧ ∀ {P : State → Outcome → Prop}, Go p e below P T' (mkF m pc' ls st) → Go p e below P T (mkF m pc ls (.int x :: .int j :: .ref a :: st)) := by
  subst hp hj
  obtain ⟨cl, A2, r1, r2, r3⟩ := F
  have q := (own_clamp (i := i) (by omega)).1
  obtain ⟨T', h', X', e', W, st'⟩ := stB A.1 A.2.1 hZ eT A2 (own_in r1 r2 hi) (x := x) (g := mkF m pc ls (.int x :: .int (Int32.ofNat i) :: .ref a :: st)) rfl rfl (hb A.2.2 hd)
  rw [q] at X' W
  exact ⟨_, _, ⟨X', A.2⟩, e', W, fun k => Go.of st' k⟩
end own_go
/-! exact doubles: own_X i q a: the finite double a is i * 2^q units of the least double -/
def own_z (x : UInt64) : Int := FP.Core.zval FP.Core.b64 (FP.Core.val64 x)
theorem own_cz {x y : UInt64} (hx : FP.Core.DFin x) (hy : FP.Core.DFin y) : FP.dcmp x y = some (compare (own_z x) (own_z y)) := FP.Core.dcmp_zval hx.ne_nan hy.ne_nan
def own_X (i : Int) (q : Nat) (a : UInt64) : Prop := FP.Core.DFin a ∧ own_z a = i * ((2 ^ q : Nat) : Int)
theorem own_q1 : FP.Core.b64.qmin = -1074 := by decide
theorem own_q2 : FP.Core.b64.qmax = 971 := by decide
theorem own_rd {s : Bool} {A : Nat} {e : Int} {c Q : Nat} (hc : c < 2 ^ 53) (hQ : Q ≤ 2045) (h : A * 2 ^ (e - ((Q : Int) - 1074)).toNat = c * 2 ^ (((Q : Int) - 1074) - e).toNat) :
    ∃ c' q', FP.Core.round FP.Core.b64 (.fin s A e) = .fin s c' q' ∧ FP.Core.inUnits c' q' FP.Core.b64.qmin = c * 2 ^ Q := by
  have e1 : FP.Core.round FP.Core.b64 (.fin s A e) = FP.Core.round FP.Core.b64 (.fin s c ((Q : Int) - 1074)) :=
    FP.Core.roundRatio_congr (B := 1) (B' := 1) (by decide) (by decide) (by rw [Nat.mul_one, Nat.mul_one]; exact h)
  obtain ⟨c', q', h1, h2⟩ := FP.Core.round_exact FP.Core.good_b64 s (c := c) (q := (Q : Int) - 1074) hc (by rw [own_q1]; omega) (by rw [own_q2]; omega)
  refine ⟨c', q', e1.trans h1, h2.trans ?_⟩
  unfold FP.Core.inUnits
  rw [own_q1, show ((Q : Int) - 1074 - -1074).toNat = Q by omega]
theorem own_sg {i : Int} {n : Nat} {s : Bool} (h : i = 0 ∨ s = decide (i < 0)) : FP.Core.signed s (i.natAbs * n) = i * (n : Int) := by
  unfold FP.Core.signed
  rcases h with rfl | rfl
  · simp
  · by_cases q : i < 0
    · simp only [q, decide_true, if_true]
      rw [Int.natCast_mul, show ((i.natAbs : Nat) : Int) = -i by omega, Int.neg_mul, Int.neg_neg]
    · simp only [q, decide_false, Bool.false_eq_true, if_false]
      rw [Int.natCast_mul, show ((i.natAbs : Nat) : Int) = i by omega]
theorem own_lX {a : Int64} {m : Int} {e : Nat} (h : a.toInt = m * ((2 ^ e : Nat) : Int)) (hm : m.natAbs < 2 ^ 53) (he : e ≤ 900) : own_X m (1074 + e) (FP.l2d a) := by
  have hp : (0 : Int) < ((2 ^ e : Nat) : Int) := by have := Nat.two_pow_pos e; omega
  have hA : a.toInt.natAbs = m.natAbs * 2 ^ e := by rw [h, Int.natAbs_mul, Int.natAbs_natCast]
  obtain ⟨c', q', h1, h2⟩ := own_rd (s := decide (a.toInt < 0)) (A := a.toInt.natAbs) (e := 0) (c := m.natAbs) (Q := 1074 + e) hm (by omega) (by
    rw [hA, show ((0 : Int) - (((1074 + e : Nat) : Int) - 1074)).toNat = 0 by omega, show ((((1074 + e : Nat) : Int) - 1074) - 0).toNat = e by omega, Nat.pow_zero, Nat.mul_one])
  have hv : FP.Core.val64 (FP.l2d a) = .fin (decide (a.toInt < 0)) c' q' := (FP.Core.val64_l2d a).trans h1
  refine ⟨⟨_, _, _, hv⟩, ?_⟩
  show FP.Core.zval FP.Core.b64 (FP.Core.val64 (FP.l2d a)) = _
  rw [hv]
  show FP.Core.signed (decide (a.toInt < 0)) (FP.Core.inUnits c' q' FP.Core.b64.qmin) = _
  rw [h2]
  refine own_sg (Or.inr ?_)
  have : (a.toInt < 0) = (m < 0) := by
    rw [h]
    refine propext ⟨fun q => ?_, fun q => Int.mul_neg_of_neg_of_pos q hp⟩
    exact Int.lt_of_not_ge fun z => absurd (Int.mul_nonneg z (Int.le_of_lt hp)) (by omega)
  simp only [this]
theorem own_zf {a : UInt64} {s : Bool} {c : Nat} {r : Int} (h : FP.Core.val64 a = .fin s c r) : own_z a = FP.Core.signed s (c * 2 ^ (r + 1074).toNat) := by
  show FP.Core.zval FP.Core.b64 (FP.Core.val64 a) = _
  rw [h]
  show FP.Core.signed s (FP.Core.inUnits c r FP.Core.b64.qmin) = _
  unfold FP.Core.inUnits
  rw [own_q1, show r - -1074 = r + 1074 by omega]
theorem own_sgn {s : Bool} {n : Nat} {i : Int} {k : Nat} (h : FP.Core.signed s n = i * (k : Int)) (hk : 0 < k) : n = i.natAbs * k ∧ (i = 0 ∨ s = decide (i < 0)) := by
  have h1 : n = i.natAbs * k := by
    have q := congrArg Int.natAbs h
    rw [Int.natAbs_mul, Int.natAbs_natCast] at q
    rw [← q]
    unfold FP.Core.signed
    cases s <;> simp
  refine ⟨h1, ?_⟩
  by_cases h0 : i = 0
  · exact Or.inl h0
  · right
    have hn : 0 < n := by rw [h1]; exact Nat.mul_pos (by omega) hk
    have hk' : (0 : Int) < (k : Int) := by omega
    unfold FP.Core.signed at h
    cases s
    · simp only [Bool.false_eq_true, if_false] at h
      have : ¬ i < 0 := fun q => by have := Int.mul_neg_of_neg_of_pos q hk'; omega
      simp [this]
    · simp only [if_true] at h
      have : i < 0 := Int.lt_of_not_ge fun q => by have := Int.mul_nonneg q (Int.le_of_lt hk'); omega
      simp [this]
theorem own_mX {i : Int} {q k : Nat} {a b : UInt64} (ha : own_X i q a) (hb : own_X 1 k b) (hi : i.natAbs < 2 ^ 53) (h1 : 1074 ≤ q + k) (h2 : q + k ≤ 3119) : own_X i (q + k - 1074) (FP.dmul a b) := by
  obtain ⟨⟨s, c, r, ea⟩, za⟩ := ha
  obtain ⟨⟨t, d, u, eb⟩, zb⟩ := hb
  have fa := FP.Core.val64_fits a
  have fb := FP.Core.val64_fits b
  rw [ea] at fa
  rw [eb] at fb
  have ra : -1074 ≤ r := by have := fa.2.1; rw [own_q1] at this; exact this
  have rb : -1074 ≤ u := by have := fb.2.1; rw [own_q1] at this; exact this
  rw [own_zf ea] at za
  rw [own_zf eb] at zb
  obtain ⟨na, sa⟩ := own_sgn za (Nat.two_pow_pos q)
  obtain ⟨nb, sb⟩ := own_sgn zb (Nat.two_pow_pos k)
  have ht : t = false := by
    rcases sb with sb | sb
    · exact absurd sb (by decide)
    · rw [sb]; decide
  have n1 : (1 : Int).natAbs = 1 := rfl
  rw [n1, Nat.one_mul] at nb
  have hp : FP.Core.val64 (FP.dmul a b) = FP.Core.round FP.Core.b64 (.fin s (c * d) (r + u)) := by
    refine (FP.Core.val64_dmul a b).trans ?_
    rw [ea, eb, ht]
    show FP.Core.round FP.Core.b64 (.fin (s != false) (c * d) (r + u)) = _
    rw [Bool.bne_false]
  have key : (c * d) * 2 ^ ((r + 1074).toNat + (u + 1074).toNat) = i.natAbs * 2 ^ (q + k) := by
    rw [Nat.pow_add, Nat.pow_add, show c * d * (2 ^ (r + 1074).toNat * 2 ^ (u + 1074).toNat) = (c * 2 ^ (r + 1074).toNat) * (d * 2 ^ (u + 1074).toNat) by ac_rfl, na, nb]; ac_rfl
  obtain ⟨c', q', g1, g2⟩ := own_rd (s := s) (A := c * d) (e := r + u) (c := i.natAbs) (Q := q + k - 1074) hi (by omega) (by
    have e1 : ((q + k - 1074 : Nat) : Int) - 1074 = (q : Int) + k - 2148 := by omega
    rw [e1]
    by_cases z : (q : Int) + k - 2148 ≤ r + u
    · rw [show ((q : Int) + k - 2148 - (r + u)).toNat = 0 by omega, Nat.pow_zero, Nat.mul_one]
      have e2 : (r + 1074).toNat + (u + 1074).toNat = (q + k) + (r + u - ((q : Int) + k - 2148)).toNat := by omega
      rw [e2, Nat.pow_add, show c * d * (2 ^ (q + k) * 2 ^ (r + u - ((q : Int) + k - 2148)).toNat) = (c * d * 2 ^ (r + u - ((q : Int) + k - 2148)).toNat) * 2 ^ (q + k) by ac_rfl] at key
      exact Nat.eq_of_mul_eq_mul_right (Nat.two_pow_pos _) key
    · rw [show (r + u - ((q : Int) + k - 2148)).toNat = 0 by omega, Nat.pow_zero, Nat.mul_one]
      have e2 : q + k = ((r + 1074).toNat + (u + 1074).toNat) + ((q : Int) + k - 2148 - (r + u)).toNat := by omega
      have key2 : (c * d) * 2 ^ ((r + 1074).toNat + (u + 1074).toNat) = (i.natAbs * 2 ^ ((q : Int) + k - 2148 - (r + u)).toNat) * 2 ^ ((r + 1074).toNat + (u + 1074).toNat) := by
        rw [key, Nat.mul_assoc, ← Nat.pow_add, show ((q : Int) + k - 2148 - (r + u)).toNat + ((r + 1074).toNat + (u + 1074).toNat) = q + k by omega]
      exact Nat.eq_of_mul_eq_mul_right (Nat.two_pow_pos _) key2)
  have hv : FP.Core.val64 (FP.dmul a b) = .fin s c' q' := hp.trans g1
  refine ⟨⟨_, _, _, hv⟩, ?_⟩
  show FP.Core.zval FP.Core.b64 (FP.Core.val64 (FP.dmul a b)) = _
  rw [hv]
  show FP.Core.signed s (FP.Core.inUnits c' q' FP.Core.b64.qmin) = _
  rw [g2]
  exact own_sg sa
/-- two doubles in one unit compare as their numbers -/
theorem own_cX {i j : Int} {q : Nat} {a b : UInt64} (ha : own_X i q a) (hb : own_X j q b) : FP.dcmp a b = some (compare i j) := by
  rw [own_cz ha.1 hb.1, ha.2, hb.2]
  exact congrArg some (FP.Core.compare_mul_pos i j _ (by have := Nat.two_pow_pos q; omega))
theorem own_shift {i : Int} {q e : Nat} {a : UInt64} (h : own_X i (q + e) a) : own_X (i * ((2 ^ e : Nat) : Int)) q a := by
  refine ⟨h.1, h.2.trans ?_⟩
  rw [Nat.pow_add, Int.natCast_mul]; ac_rfl
/-- the scales: powers of two and their inverses -/
theorem own_sc1 : ∀ k : Fin 32, own_z (FP.l2d ((1 : Int64) <<< ((Int32.ofNat k.1).toInt64 &&& 63))) = ((2 ^ (1074 + k.1) : Nat) : Int) := by decide +kernel
theorem own_sc2 : ∀ k : Fin 32, own_z (FP.ddiv (4607182418800017408 : UInt64) (FP.l2d ((1 : Int64) <<< ((Int32.ofNat k.1).toInt64 &&& 63)))) = ((2 ^ (1074 - k.1) : Nat) : Int) := by decide +kernel
/-- the pair's numbers: the mantissa's, the exponent, the low part -/
def own_P (m : Int) (e : Nat) (l : Int) : Prop := 2 ≤ e ∧ e ≤ 9 ∧ ((4503599627370496 ≤ m ∧ m < 9007199254740992) ∨ (-9007199254740992 < m ∧ m ≤ -4503599627370496)) ∧ -((2 ^ e : Nat) : Int) < 2 * l ∧ 2 * l < ((2 ^ e : Nat) : Int) ∧ (m = 4503599627370496 → -((2 ^ e : Nat) : Int) < 4 * l) ∧ (m = -4503599627370496 → 4 * l < ((2 ^ e : Nat) : Int))
theorem own_e9 {e : Nat} (h1 : 2 ≤ e) (h2 : e ≤ 9) : e = 2 ∨ e = 3 ∨ e = 4 ∨ e = 5 ∨ e = 6 ∨ e = 7 ∨ e = 8 ∨ e = 9 := by omega
set_option maxHeartbeats 4000000 in
theorem own_mono {m m' l l' : Int} {e e' : Nat} (P : own_P m e l) (P' : own_P m' e' l') (h : m * ((2 ^ e : Nat) : Int) < m' * ((2 ^ e' : Nat) : Int)) : m * ((2 ^ e : Nat) : Int) + l < m' * ((2 ^ e' : Nat) : Int) + l' := by
  obtain ⟨a1, a2, a3, a4, a5, a6, a7⟩ := P
  obtain ⟨b1, b2, b3, b4, b5, b6, b7⟩ := P'
  rcases own_e9 a1 a2 with rfl | rfl | rfl | rfl | rfl | rfl | rfl | rfl <;> rcases own_e9 b1 b2 with rfl | rfl | rfl | rfl | rfl | rfl | rfl | rfl <;> simp only [Nat.reducePow] at * <;> omega
theorem own_posP {m l : Int} {e : Nat} (P : own_P m e l) : (0 < m * ((2 ^ e : Nat) : Int) ∧ 0 < m * ((2 ^ e : Nat) : Int) + l) ∨ (m * ((2 ^ e : Nat) : Int) < 0 ∧ m * ((2 ^ e : Nat) : Int) + l < 0) := by
  obtain ⟨a1, a2, a3, a4, a5, a6, a7⟩ := P
  rcases own_e9 a1 a2 with rfl | rfl | rfl | rfl | rfl | rfl | rfl | rfl <;> simp only [Nat.reducePow] at * <;> omega
def own_r_rm1 (q0 : Int64) : Int64 := (if q0 < (0 : Int64) then (-((4503599627370496 : Int64) ||| (q0 &&& (4503599627370495 : Int64)))) else ((4503599627370496 : Int64) ||| (q0 &&& (4503599627370495 : Int64))))
theorem d1_0 : decode method_2_code 0 = .ok (.ldc2_w 7, 3) := by decide +kernel
theorem d1_3 : decode method_2_code 3 = .ok (.lload_n 0, 1) := by decide +kernel
theorem d1_4 : decode method_2_code 4 = .ok (.ldc2_w 9, 3) := by decide +kernel
theorem d1_7 : decode method_2_code 7 = .ok (.land, 1) := by decide +kernel
theorem d1_8 : decode method_2_code 8 = .ok (.lor, 1) := by decide +kernel
theorem d1_9 : decode method_2_code 9 = .ok (.lstore_n 2, 1) := by decide +kernel
theorem d1_10 : decode method_2_code 10 = .ok (.lload_n 0, 1) := by decide +kernel
theorem d1_11 : decode method_2_code 11 = .ok (.lconst 0, 1) := by decide +kernel
theorem d1_12 : decode method_2_code 12 = .ok (.lcmp, 1) := by decide +kernel
theorem d1_13 : decode method_2_code 13 = .ok (.ifCond .ge 8, 3) := by decide +kernel
theorem d1_16 : decode method_2_code 16 = .ok (.lload_n 2, 1) := by decide +kernel
theorem d1_17 : decode method_2_code 17 = .ok (.lneg, 1) := by decide +kernel
theorem d1_18 : decode method_2_code 18 = .ok (.goto 4, 3) := by decide +kernel
theorem d1_21 : decode method_2_code 21 = .ok (.lload_n 2, 1) := by decide +kernel
theorem d1_22 : decode method_2_code 22 = .ok (.lreturn, 1) := by decide +kernel
theorem pn_0 : plainName "com/example/hinterland/hinterland/DoubleDoubleComparePinLaw" = true := by first | (simp [plainName, overriddenIn]; done) | decide +kernel
theorem ef1 (m : MethodId) (q0 : Int64) : entryFrame m #[(.long q0)] 4 = mkF m 0 #[.val (.long q0), .second, .unset, .unset] [] := by first | (simp [entryFrame, mkF, argsToLocals, Value.category]; done) | rfl
def Q1 (Z : State) (q0 : Int64) (h0 : Heap) (n0 : Nat) (v : Option Value) (h : Heap) (L : List Loc) : Prop := v = some (.long (own_r_rm1 q0)) ∧ Fr n0 L ∧ h = h0
set_option maxRecDepth 65536 in
set_option maxHeartbeats 40000000 in
theorem rm1 (l : Launch) (Z : State) (a0 : Array Value) (hw : ∀ d ∈ tables_1, d.before a0 Z = true) (ws : List Jvm.Cond) (q0 : Int64) (h0 : Heap) (n0 : Nat) (Z0 : n0 ≤ h0.size)  :
    MetFree l (⟨"com/example/hinterland/hinterland/DoubleDoubleComparePinLaw", "mant", "(J)J"⟩ : MethodName) (head1 (Jvm.Cond.code (⟨"com/example/hinterland/hinterland/DoubleDoubleComparePinLaw", "mant", "(J)J"⟩ : MethodName) method_2_code 4 (some .long) :: ws) ({ frames := 0, cells := 0, slots := 0, locals := 0 } : Room)) (fun a U => a = #[(.long q0)] ∧ Z.Warmed39 U.vm ∧ U.heap = h0) (fun _ _ _ _ _ => True) (fun _ U o U' => ∃ v L, o = .returned v ∧ Q1 Z q0 h0 n0 v U'.heap L ∧ FrameEnd U o U' L 0 0) := by
  refine MetFree.of_bodySF (plainFor_of_name pn_0) hisR ?_
  intro p e s m args below meth c s₁ Bd hml0 hP hK
  obtain ⟨rfl, hZ, hh⟩ := hP
  have hx := Bd.exec
  have hby := Bd.bytes
  have hml : c.maxLocals = 4 := hml0
  have hown : s.vm.findClass "com/example/hinterland/hinterland/DoubleDoubleComparePinLaw" = some m.cls := findClass_of_methodNamed Bd.named
  have hnm := (name_of_methodNamed Bd.named Bd.method).1
  have X0 : Stand p l e ({ frames := 0, cells := 0, slots := 0, locals := 0 } : Room) s m #[(.long q0)] below meth c s₁ [] 0 0 := Stand.of_body Bd
  have e0 : s₁.heap = h0 := by rw [← hh, Bd.state]; rfl
  have N0 := Fr.nil n0
  have A0 := (⟨X0, hx, hby⟩ : Ax _ _ _ _ _ _ _ _ _ _ _ _ _ _ _)
  show Go p e below (fun U o => ∃ v L, o = .returned v ∧ Q1 Z q0 h0 n0 v U.heap L ∧ FrameEnd s o U L 0 0) s₁ (entryFrame m #[(.long q0)] 4)
  refine Go.cast (ef1 m q0) ?_
  refine g_ldcL A0 hZ hown (hw _ (List.mem_of_getElem? (i := 4) rfl)) d1_0 (pc' := 3) rfl ?_
  refine g_lloadN A0 d1_3 rfl (pc' := 4) rfl ?_
  refine g_ldcL A0 hZ hown (hw _ (List.mem_of_getElem? (i := 5) rfl)) d1_4 (pc' := 7) rfl ?_
  refine g_land A0 d1_7 (pc' := 8) rfl ?_
  refine g_lor A0 d1_8 (pc' := 9) rfl ?_
  refine g_lstoreN A0 d1_9 (ls' := #[.val (.long q0), .second, .val (.long ((4503599627370496 : Int64) ||| (q0 &&& (4503599627370495 : Int64)))), .second]) rfl (pc' := 10) rfl ?_
  refine g_lloadN A0 d1_10 rfl (pc' := 11) rfl ?_
  refine g_lconst A0 d1_11 (v := (0 : Int64)) rfl (pc' := 12) rfl ?_
  refine g_lcmp A0 d1_12 (pc' := 13) rfl ?_
  by_cases hc2 : q0 < (0 : Int64)
  · skip
    refine g_ifN A0 d1_13 (c0_ge_f ((l_lt q0 (0 : Int64)).mpr hc2)) (pc' := 16) rfl ?_
    refine g_lloadN A0 d1_16 rfl (pc' := 17) rfl ?_
    refine g_lneg A0 d1_17 (pc' := 18) rfl ?_
    refine g_goto A0 d1_18 (pc' := 22) rfl ?_
    exact g_ret (Q := Q1 Z q0 h0 n0) A0 d1_22 Bd.notSynchronized Bd.returns rfl (Or.inr (Or.inl ⟨rfl, rfl, _, rfl⟩)) (by decide) (by decide) (by rw [e0]; exact ⟨(congrArg (fun z => some (Value.long z)) (by rw [own_r_rm1, if_pos hc2])), N0, rfl⟩)
  · skip
    refine g_ifY A0 d1_13 (c0_ge_t (fun q => hc2 ((l_lt q0 (0 : Int64)).mp q))) (pc' := 21) rfl ?_
    refine g_lloadN A0 d1_21 rfl (pc' := 22) rfl ?_
    exact g_ret (Q := Q1 Z q0 h0 n0) A0 d1_22 Bd.notSynchronized Bd.returns rfl (Or.inr (Or.inl ⟨rfl, rfl, _, rfl⟩)) (by decide) (by decide) (by rw [e0]; exact ⟨(congrArg (fun z => some (Value.long z)) (by rw [own_r_rm1, if_neg hc2])), N0, rfl⟩)
def own_r_rm2 (q0 : Int64) (q1 : Int32) (q2 : Int64) : Int64 := (if q2 < (0 : Int64) then (if q0 = (4503599627370496 : Int64) then (if q0 < (0 : Int64) then (-((q2 &&& (9223372036854775807 : Int64)) % ((((1 : Int64) <<< ((q1 - (1 : Int32)).toInt64 &&& 63)) - (1 : Int64)) + (1 : Int64)))) else (-((q2 &&& (9223372036854775807 : Int64)) % ((((1 : Int64) <<< ((q1 - (2 : Int32)).toInt64 &&& 63)) - (1 : Int64)) + (1 : Int64))))) else (if q0 = (-4503599627370496 : Int64) then (if q0 < (0 : Int64) then (-((q2 &&& (9223372036854775807 : Int64)) % ((((1 : Int64) <<< ((q1 - (1 : Int32)).toInt64 &&& 63)) - (1 : Int64)) + (1 : Int64)))) else (-((q2 &&& (9223372036854775807 : Int64)) % ((((1 : Int64) <<< ((q1 - (2 : Int32)).toInt64 &&& 63)) - (1 : Int64)) + (1 : Int64))))) else (-((q2 &&& (9223372036854775807 : Int64)) % ((((1 : Int64) <<< ((q1 - (1 : Int32)).toInt64 &&& 63)) - (1 : Int64)) + (1 : Int64)))))) else (if q0 = (4503599627370496 : Int64) then (if q0 < (0 : Int64) then ((q2 &&& (9223372036854775807 : Int64)) % ((((1 : Int64) <<< ((q1 - (2 : Int32)).toInt64 &&& 63)) - (1 : Int64)) + (1 : Int64))) else ((q2 &&& (9223372036854775807 : Int64)) % ((((1 : Int64) <<< ((q1 - (1 : Int32)).toInt64 &&& 63)) - (1 : Int64)) + (1 : Int64)))) else (if q0 = (-4503599627370496 : Int64) then (if q0 < (0 : Int64) then ((q2 &&& (9223372036854775807 : Int64)) % ((((1 : Int64) <<< ((q1 - (2 : Int32)).toInt64 &&& 63)) - (1 : Int64)) + (1 : Int64))) else ((q2 &&& (9223372036854775807 : Int64)) % ((((1 : Int64) <<< ((q1 - (1 : Int32)).toInt64 &&& 63)) - (1 : Int64)) + (1 : Int64)))) else ((q2 &&& (9223372036854775807 : Int64)) % ((((1 : Int64) <<< ((q1 - (1 : Int32)).toInt64 &&& 63)) - (1 : Int64)) + (1 : Int64))))))
theorem d2_0 : decode method_3_code 0 = .ok (.lload_n 3, 1) := by decide +kernel
theorem d2_1 : decode method_3_code 1 = .ok (.lconst 0, 1) := by decide +kernel
theorem d2_2 : decode method_3_code 2 = .ok (.lcmp, 1) := by decide +kernel
theorem d2_3 : decode method_3_code 3 = .ok (.ifCond .ge 7, 3) := by decide +kernel
theorem d2_6 : decode method_3_code 6 = .ok (.iconst 1, 1) := by decide +kernel
theorem d2_7 : decode method_3_code 7 = .ok (.goto 4, 3) := by decide +kernel
theorem d2_10 : decode method_3_code 10 = .ok (.iconst 0, 1) := by decide +kernel
theorem d2_11 : decode method_3_code 11 = .ok (.istore 5, 2) := by decide +kernel
theorem d2_13 : decode method_3_code 13 = .ok (.lload_n 0, 1) := by decide +kernel
theorem d2_14 : decode method_3_code 14 = .ok (.ldc2_w 7, 3) := by decide +kernel
theorem d2_17 : decode method_3_code 17 = .ok (.lcmp, 1) := by decide +kernel
theorem d2_18 : decode method_3_code 18 = .ok (.ifCond .eq 11, 3) := by decide +kernel
theorem d2_21 : decode method_3_code 21 = .ok (.lload_n 0, 1) := by decide +kernel
theorem d2_22 : decode method_3_code 22 = .ok (.ldc2_w 11, 3) := by decide +kernel
theorem d2_25 : decode method_3_code 25 = .ok (.lcmp, 1) := by decide +kernel
theorem d2_26 : decode method_3_code 26 = .ok (.ifCond .ne 23, 3) := by decide +kernel
theorem d2_29 : decode method_3_code 29 = .ok (.iload 5, 2) := by decide +kernel
theorem d2_31 : decode method_3_code 31 = .ok (.lload_n 0, 1) := by decide +kernel
theorem d2_32 : decode method_3_code 32 = .ok (.lconst 0, 1) := by decide +kernel
theorem d2_33 : decode method_3_code 33 = .ok (.lcmp, 1) := by decide +kernel
theorem d2_34 : decode method_3_code 34 = .ok (.ifCond .ge 7, 3) := by decide +kernel
theorem d2_37 : decode method_3_code 37 = .ok (.iconst 1, 1) := by decide +kernel
theorem d2_38 : decode method_3_code 38 = .ok (.goto 4, 3) := by decide +kernel
theorem d2_41 : decode method_3_code 41 = .ok (.iconst 0, 1) := by decide +kernel
theorem d2_42 : decode method_3_code 42 = .ok (.if_icmp .eq 7, 3) := by decide +kernel
theorem d2_45 : decode method_3_code 45 = .ok (.iconst 1, 1) := by decide +kernel
theorem d2_46 : decode method_3_code 46 = .ok (.goto 4, 3) := by decide +kernel
theorem d2_49 : decode method_3_code 49 = .ok (.iconst 0, 1) := by decide +kernel
theorem d2_50 : decode method_3_code 50 = .ok (.istore 6, 2) := by decide +kernel
theorem d2_52 : decode method_3_code 52 = .ok (.iload 6, 2) := by decide +kernel
theorem d2_54 : decode method_3_code 54 = .ok (.ifCond .eq 13, 3) := by decide +kernel
theorem d2_57 : decode method_3_code 57 = .ok (.lconst 1, 1) := by decide +kernel
theorem d2_58 : decode method_3_code 58 = .ok (.iload_n 2, 1) := by decide +kernel
theorem d2_59 : decode method_3_code 59 = .ok (.iconst 2, 1) := by decide +kernel
theorem d2_60 : decode method_3_code 60 = .ok (.isub, 1) := by decide +kernel
theorem d2_61 : decode method_3_code 61 = .ok (.lshl, 1) := by decide +kernel
theorem d2_62 : decode method_3_code 62 = .ok (.lconst 1, 1) := by decide +kernel
theorem d2_63 : decode method_3_code 63 = .ok (.lsub, 1) := by decide +kernel
theorem d2_64 : decode method_3_code 64 = .ok (.goto 10, 3) := by decide +kernel
theorem d2_67 : decode method_3_code 67 = .ok (.lconst 1, 1) := by decide +kernel
theorem d2_68 : decode method_3_code 68 = .ok (.iload_n 2, 1) := by decide +kernel
theorem d2_69 : decode method_3_code 69 = .ok (.iconst 1, 1) := by decide +kernel
theorem d2_70 : decode method_3_code 70 = .ok (.isub, 1) := by decide +kernel
theorem d2_71 : decode method_3_code 71 = .ok (.lshl, 1) := by decide +kernel
theorem d2_72 : decode method_3_code 72 = .ok (.lconst 1, 1) := by decide +kernel
theorem d2_73 : decode method_3_code 73 = .ok (.lsub, 1) := by decide +kernel
theorem d2_74 : decode method_3_code 74 = .ok (.lstore 7, 2) := by decide +kernel
theorem d2_76 : decode method_3_code 76 = .ok (.lload_n 3, 1) := by decide +kernel
theorem d2_77 : decode method_3_code 77 = .ok (.ldc2_w 13, 3) := by decide +kernel
theorem d2_80 : decode method_3_code 80 = .ok (.land, 1) := by decide +kernel
theorem d2_81 : decode method_3_code 81 = .ok (.lload 7, 2) := by decide +kernel
theorem d2_83 : decode method_3_code 83 = .ok (.lconst 1, 1) := by decide +kernel
theorem d2_84 : decode method_3_code 84 = .ok (.ladd, 1) := by decide +kernel
theorem d2_85 : decode method_3_code 85 = .ok (.lrem, 1) := by decide +kernel
theorem d2_86 : decode method_3_code 86 = .ok (.lstore 9, 2) := by decide +kernel
theorem d2_88 : decode method_3_code 88 = .ok (.iload 5, 2) := by decide +kernel
theorem d2_90 : decode method_3_code 90 = .ok (.ifCond .eq 9, 3) := by decide +kernel
theorem d2_93 : decode method_3_code 93 = .ok (.lload 9, 2) := by decide +kernel
theorem d2_95 : decode method_3_code 95 = .ok (.lneg, 1) := by decide +kernel
theorem d2_96 : decode method_3_code 96 = .ok (.goto 5, 3) := by decide +kernel
theorem d2_99 : decode method_3_code 99 = .ok (.lload 9, 2) := by decide +kernel
theorem d2_101 : decode method_3_code 101 = .ok (.lreturn, 1) := by decide +kernel
theorem ef3 (m : MethodId) (q0 : Int64) (q1 : Int32) (q2 : Int64) : entryFrame m #[(.long q0), (.int q1), (.long q2)] 11 = mkF m 0 #[.val (.long q0), .second, .val (.int q1), .val (.long q2), .second, .unset, .unset, .unset, .unset, .unset, .unset] [] := by first | (simp [entryFrame, mkF, argsToLocals, Value.category]; done) | rfl
def Q2 (Z : State) (q0 : Int64) (q1 : Int32) (q2 : Int64) (h0 : Heap) (n0 : Nat) (v : Option Value) (h : Heap) (L : List Loc) : Prop := v = some (.long (own_r_rm2 q0 q1 q2)) ∧ Fr n0 L ∧ h = h0
set_option maxRecDepth 65536 in
set_option maxHeartbeats 40000000 in
theorem rm2 (l : Launch) (Z : State) (a0 : Array Value) (hw : ∀ d ∈ tables_1, d.before a0 Z = true) (ws : List Jvm.Cond) (q0 : Int64) (q1 : Int32) (q2 : Int64) (h0 : Heap) (n0 : Nat) (Z0 : n0 ≤ h0.size) (hz1 : (((1 : Int64) <<< ((q1 - (2 : Int32)).toInt64 &&& 63)) - (1 : Int64)) + (1 : Int64) ≠ 0) (hz2 : (((1 : Int64) <<< ((q1 - (1 : Int32)).toInt64 &&& 63)) - (1 : Int64)) + (1 : Int64) ≠ 0) :
    MetFree l (⟨"com/example/hinterland/hinterland/DoubleDoubleComparePinLaw", "lowOf", "(JIJ)J"⟩ : MethodName) (head1 (Jvm.Cond.code (⟨"com/example/hinterland/hinterland/DoubleDoubleComparePinLaw", "lowOf", "(JIJ)J"⟩ : MethodName) method_3_code 11 (some .long) :: ws) ({ frames := 0, cells := 0, slots := 0, locals := 0 } : Room)) (fun a U => a = #[(.long q0), (.int q1), (.long q2)] ∧ Z.Warmed39 U.vm ∧ U.heap = h0) (fun _ _ _ _ _ => True) (fun _ U o U' => ∃ v L, o = .returned v ∧ Q2 Z q0 q1 q2 h0 n0 v U'.heap L ∧ FrameEnd U o U' L 0 0) := by
  refine MetFree.of_bodySF (plainFor_of_name pn_0) hisR ?_
  intro p e s m args below meth c s₁ Bd hml0 hP hK
  obtain ⟨rfl, hZ, hh⟩ := hP
  have hx := Bd.exec
  have hby := Bd.bytes
  have hml : c.maxLocals = 11 := hml0
  have hown : s.vm.findClass "com/example/hinterland/hinterland/DoubleDoubleComparePinLaw" = some m.cls := findClass_of_methodNamed Bd.named
  have hnm := (name_of_methodNamed Bd.named Bd.method).1
  have X0 : Stand p l e ({ frames := 0, cells := 0, slots := 0, locals := 0 } : Room) s m #[(.long q0), (.int q1), (.long q2)] below meth c s₁ [] 0 0 := Stand.of_body Bd
  have e0 : s₁.heap = h0 := by rw [← hh, Bd.state]; rfl
  have N0 := Fr.nil n0
  have A0 := (⟨X0, hx, hby⟩ : Ax _ _ _ _ _ _ _ _ _ _ _ _ _ _ _)
  show Go p e below (fun U o => ∃ v L, o = .returned v ∧ Q2 Z q0 q1 q2 h0 n0 v U.heap L ∧ FrameEnd s o U L 0 0) s₁ (entryFrame m #[(.long q0), (.int q1), (.long q2)] 11)
  refine Go.cast (ef3 m q0 q1 q2) ?_
  refine g_lloadN A0 d2_0 rfl (pc' := 1) rfl ?_
  refine g_lconst A0 d2_1 (v := (0 : Int64)) rfl (pc' := 2) rfl ?_
  refine g_lcmp A0 d2_2 (pc' := 3) rfl ?_
  by_cases hc4 : q2 < (0 : Int64)
  · skip
    refine g_ifN A0 d2_3 (c0_ge_f ((l_lt q2 (0 : Int64)).mpr hc4)) (pc' := 6) rfl ?_
    refine g_iconst A0 d2_6 (v := (1 : Int32)) rfl (pc' := 7) rfl ?_
    refine g_goto A0 d2_7 (pc' := 11) rfl ?_
    refine g_istore A0 d2_11 (ls' := #[.val (.long q0), .second, .val (.int q1), .val (.long q2), .second, .val (.int (1 : Int32)), .unset, .unset, .unset, .unset, .unset]) rfl (pc' := 13) rfl ?_
    refine g_lloadN A0 d2_13 rfl (pc' := 14) rfl ?_
    refine g_ldcL A0 hZ hown (hw _ (List.mem_of_getElem? (i := 4) rfl)) d2_14 (pc' := 17) rfl ?_
    refine g_lcmp A0 d2_17 (pc' := 18) rfl ?_
    by_cases hc5 : q0 = (4503599627370496 : Int64)
    · skip
      refine g_ifY A0 d2_18 (c0_eq_t ((l_eq q0 (4503599627370496 : Int64)).mpr hc5)) (pc' := 29) rfl ?_
      refine g_iload A0 d2_29 rfl (pc' := 31) rfl ?_
      refine g_lloadN A0 d2_31 rfl (pc' := 32) rfl ?_
      refine g_lconst A0 d2_32 (v := (0 : Int64)) rfl (pc' := 33) rfl ?_
      refine g_lcmp A0 d2_33 (pc' := 34) rfl ?_
      by_cases hc6 : q0 < (0 : Int64)
      · skip
        refine g_ifN A0 d2_34 (c0_ge_f ((l_lt q0 (0 : Int64)).mpr hc6)) (pc' := 37) rfl ?_
        refine g_iconst A0 d2_37 (v := (1 : Int32)) rfl (pc' := 38) rfl ?_
        refine g_goto A0 d2_38 (pc' := 42) rfl ?_
        refine g_icY A0 d2_42 (c2_eq_t rfl) (pc' := 49) rfl ?_
        refine g_iconst A0 d2_49 (v := (0 : Int32)) rfl (pc' := 50) rfl ?_
        refine g_istore A0 d2_50 (ls' := #[.val (.long q0), .second, .val (.int q1), .val (.long q2), .second, .val (.int (1 : Int32)), .val (.int (0 : Int32)), .unset, .unset, .unset, .unset]) rfl (pc' := 52) rfl ?_
        refine g_iload A0 d2_52 rfl (pc' := 54) rfl ?_
        refine g_ifY A0 d2_54 (c0_eq_t (by decide)) (pc' := 67) rfl ?_
        refine g_lconst A0 d2_67 (v := (1 : Int64)) rfl (pc' := 68) rfl ?_
        refine g_iloadN A0 d2_68 rfl (pc' := 69) rfl ?_
        refine g_iconst A0 d2_69 (v := (1 : Int32)) rfl (pc' := 70) rfl ?_
        refine g_isub A0 d2_70 (pc' := 71) rfl ?_
        refine g_lshl A0 d2_71 (pc' := 72) rfl ?_
        refine g_lconst A0 d2_72 (v := (1 : Int64)) rfl (pc' := 73) rfl ?_
        refine g_lsub A0 d2_73 (pc' := 74) rfl ?_
        refine g_lstore A0 d2_74 (ls' := #[.val (.long q0), .second, .val (.int q1), .val (.long q2), .second, .val (.int (1 : Int32)), .val (.int (0 : Int32)), .val (.long (((1 : Int64) <<< ((q1 - (1 : Int32)).toInt64 &&& 63)) - (1 : Int64))), .second, .unset, .unset]) rfl (pc' := 76) rfl ?_
        refine g_lloadN A0 d2_76 rfl (pc' := 77) rfl ?_
        refine g_ldcL A0 hZ hown (hw _ (List.mem_of_getElem? (i := 10) rfl)) d2_77 (pc' := 80) rfl ?_
        refine g_land A0 d2_80 (pc' := 81) rfl ?_
        refine g_lload A0 d2_81 rfl (pc' := 83) rfl ?_
        refine g_lconst A0 d2_83 (v := (1 : Int64)) rfl (pc' := 84) rfl ?_
        refine g_ladd A0 d2_84 (pc' := 85) rfl ?_
        refine g_lrem A0 d2_85 (by first | exact hz1 | exact hz2) (pc' := 86) rfl ?_
        refine g_lstore A0 d2_86 (ls' := #[.val (.long q0), .second, .val (.int q1), .val (.long q2), .second, .val (.int (1 : Int32)), .val (.int (0 : Int32)), .val (.long (((1 : Int64) <<< ((q1 - (1 : Int32)).toInt64 &&& 63)) - (1 : Int64))), .second, .val (.long ((q2 &&& (9223372036854775807 : Int64)) % ((((1 : Int64) <<< ((q1 - (1 : Int32)).toInt64 &&& 63)) - (1 : Int64)) + (1 : Int64)))), .second]) rfl (pc' := 88) rfl ?_
        refine g_iload A0 d2_88 rfl (pc' := 90) rfl ?_
        refine g_ifN A0 d2_90 (c0_eq_f (by decide)) (pc' := 93) rfl ?_
        refine g_lload A0 d2_93 rfl (pc' := 95) rfl ?_
        refine g_lneg A0 d2_95 (pc' := 96) rfl ?_
        refine g_goto A0 d2_96 (pc' := 101) rfl ?_
        exact g_ret (Q := Q2 Z q0 q1 q2 h0 n0) A0 d2_101 Bd.notSynchronized Bd.returns rfl (Or.inr (Or.inl ⟨rfl, rfl, _, rfl⟩)) (by decide) (by decide) (by rw [e0]; exact ⟨(congrArg (fun z => some (Value.long z)) (by rw [own_r_rm2, if_pos hc4, if_pos hc5, if_pos hc6])), N0, rfl⟩)
      · skip
        refine g_ifY A0 d2_34 (c0_ge_t (fun q => hc6 ((l_lt q0 (0 : Int64)).mp q))) (pc' := 41) rfl ?_
        refine g_iconst A0 d2_41 (v := (0 : Int32)) rfl (pc' := 42) rfl ?_
        refine g_icN A0 d2_42 (c2_eq_f (by decide)) (pc' := 45) rfl ?_
        refine g_iconst A0 d2_45 (v := (1 : Int32)) rfl (pc' := 46) rfl ?_
        refine g_goto A0 d2_46 (pc' := 50) rfl ?_
        refine g_istore A0 d2_50 (ls' := #[.val (.long q0), .second, .val (.int q1), .val (.long q2), .second, .val (.int (1 : Int32)), .val (.int (1 : Int32)), .unset, .unset, .unset, .unset]) rfl (pc' := 52) rfl ?_
        refine g_iload A0 d2_52 rfl (pc' := 54) rfl ?_
        refine g_ifN A0 d2_54 (c0_eq_f (by decide)) (pc' := 57) rfl ?_
        refine g_lconst A0 d2_57 (v := (1 : Int64)) rfl (pc' := 58) rfl ?_
        refine g_iloadN A0 d2_58 rfl (pc' := 59) rfl ?_
        refine g_iconst A0 d2_59 (v := (2 : Int32)) rfl (pc' := 60) rfl ?_
        refine g_isub A0 d2_60 (pc' := 61) rfl ?_
        refine g_lshl A0 d2_61 (pc' := 62) rfl ?_
        refine g_lconst A0 d2_62 (v := (1 : Int64)) rfl (pc' := 63) rfl ?_
        refine g_lsub A0 d2_63 (pc' := 64) rfl ?_
        refine g_goto A0 d2_64 (pc' := 74) rfl ?_
        refine g_lstore A0 d2_74 (ls' := #[.val (.long q0), .second, .val (.int q1), .val (.long q2), .second, .val (.int (1 : Int32)), .val (.int (1 : Int32)), .val (.long (((1 : Int64) <<< ((q1 - (2 : Int32)).toInt64 &&& 63)) - (1 : Int64))), .second, .unset, .unset]) rfl (pc' := 76) rfl ?_
        refine g_lloadN A0 d2_76 rfl (pc' := 77) rfl ?_
        refine g_ldcL A0 hZ hown (hw _ (List.mem_of_getElem? (i := 10) rfl)) d2_77 (pc' := 80) rfl ?_
        refine g_land A0 d2_80 (pc' := 81) rfl ?_
        refine g_lload A0 d2_81 rfl (pc' := 83) rfl ?_
        refine g_lconst A0 d2_83 (v := (1 : Int64)) rfl (pc' := 84) rfl ?_
        refine g_ladd A0 d2_84 (pc' := 85) rfl ?_
        refine g_lrem A0 d2_85 (by first | exact hz1 | exact hz2) (pc' := 86) rfl ?_
        refine g_lstore A0 d2_86 (ls' := #[.val (.long q0), .second, .val (.int q1), .val (.long q2), .second, .val (.int (1 : Int32)), .val (.int (1 : Int32)), .val (.long (((1 : Int64) <<< ((q1 - (2 : Int32)).toInt64 &&& 63)) - (1 : Int64))), .second, .val (.long ((q2 &&& (9223372036854775807 : Int64)) % ((((1 : Int64) <<< ((q1 - (2 : Int32)).toInt64 &&& 63)) - (1 : Int64)) + (1 : Int64)))), .second]) rfl (pc' := 88) rfl ?_
        refine g_iload A0 d2_88 rfl (pc' := 90) rfl ?_
        refine g_ifN A0 d2_90 (c0_eq_f (by decide)) (pc' := 93) rfl ?_
        refine g_lload A0 d2_93 rfl (pc' := 95) rfl ?_
        refine g_lneg A0 d2_95 (pc' := 96) rfl ?_
        refine g_goto A0 d2_96 (pc' := 101) rfl ?_
        exact g_ret (Q := Q2 Z q0 q1 q2 h0 n0) A0 d2_101 Bd.notSynchronized Bd.returns rfl (Or.inr (Or.inl ⟨rfl, rfl, _, rfl⟩)) (by decide) (by decide) (by rw [e0]; exact ⟨(congrArg (fun z => some (Value.long z)) (by rw [own_r_rm2, if_pos hc4, if_pos hc5, if_neg hc6])), N0, rfl⟩)
    · skip
      refine g_ifN A0 d2_18 (c0_eq_f (fun q => hc5 ((l_eq q0 (4503599627370496 : Int64)).mp q))) (pc' := 21) rfl ?_
      refine g_lloadN A0 d2_21 rfl (pc' := 22) rfl ?_
      refine g_ldcL A0 hZ hown (hw _ (List.mem_of_getElem? (i := 9) rfl)) d2_22 (pc' := 25) rfl ?_
      refine g_lcmp A0 d2_25 (pc' := 26) rfl ?_
      by_cases hc7 : q0 = (-4503599627370496 : Int64)
      · skip
        refine g_ifN A0 d2_26 (c0_ne_f ((l_eq q0 (-4503599627370496 : Int64)).mpr hc7)) (pc' := 29) rfl ?_
        refine g_iload A0 d2_29 rfl (pc' := 31) rfl ?_
        refine g_lloadN A0 d2_31 rfl (pc' := 32) rfl ?_
        refine g_lconst A0 d2_32 (v := (0 : Int64)) rfl (pc' := 33) rfl ?_
        refine g_lcmp A0 d2_33 (pc' := 34) rfl ?_
        by_cases hc8 : q0 < (0 : Int64)
        · skip
          refine g_ifN A0 d2_34 (c0_ge_f ((l_lt q0 (0 : Int64)).mpr hc8)) (pc' := 37) rfl ?_
          refine g_iconst A0 d2_37 (v := (1 : Int32)) rfl (pc' := 38) rfl ?_
          refine g_goto A0 d2_38 (pc' := 42) rfl ?_
          refine g_icY A0 d2_42 (c2_eq_t rfl) (pc' := 49) rfl ?_
          refine g_iconst A0 d2_49 (v := (0 : Int32)) rfl (pc' := 50) rfl ?_
          refine g_istore A0 d2_50 (ls' := #[.val (.long q0), .second, .val (.int q1), .val (.long q2), .second, .val (.int (1 : Int32)), .val (.int (0 : Int32)), .unset, .unset, .unset, .unset]) rfl (pc' := 52) rfl ?_
          refine g_iload A0 d2_52 rfl (pc' := 54) rfl ?_
          refine g_ifY A0 d2_54 (c0_eq_t (by decide)) (pc' := 67) rfl ?_
          refine g_lconst A0 d2_67 (v := (1 : Int64)) rfl (pc' := 68) rfl ?_
          refine g_iloadN A0 d2_68 rfl (pc' := 69) rfl ?_
          refine g_iconst A0 d2_69 (v := (1 : Int32)) rfl (pc' := 70) rfl ?_
          refine g_isub A0 d2_70 (pc' := 71) rfl ?_
          refine g_lshl A0 d2_71 (pc' := 72) rfl ?_
          refine g_lconst A0 d2_72 (v := (1 : Int64)) rfl (pc' := 73) rfl ?_
          refine g_lsub A0 d2_73 (pc' := 74) rfl ?_
          refine g_lstore A0 d2_74 (ls' := #[.val (.long q0), .second, .val (.int q1), .val (.long q2), .second, .val (.int (1 : Int32)), .val (.int (0 : Int32)), .val (.long (((1 : Int64) <<< ((q1 - (1 : Int32)).toInt64 &&& 63)) - (1 : Int64))), .second, .unset, .unset]) rfl (pc' := 76) rfl ?_
          refine g_lloadN A0 d2_76 rfl (pc' := 77) rfl ?_
          refine g_ldcL A0 hZ hown (hw _ (List.mem_of_getElem? (i := 10) rfl)) d2_77 (pc' := 80) rfl ?_
          refine g_land A0 d2_80 (pc' := 81) rfl ?_
          refine g_lload A0 d2_81 rfl (pc' := 83) rfl ?_
          refine g_lconst A0 d2_83 (v := (1 : Int64)) rfl (pc' := 84) rfl ?_
          refine g_ladd A0 d2_84 (pc' := 85) rfl ?_
          refine g_lrem A0 d2_85 (by first | exact hz1 | exact hz2) (pc' := 86) rfl ?_
          refine g_lstore A0 d2_86 (ls' := #[.val (.long q0), .second, .val (.int q1), .val (.long q2), .second, .val (.int (1 : Int32)), .val (.int (0 : Int32)), .val (.long (((1 : Int64) <<< ((q1 - (1 : Int32)).toInt64 &&& 63)) - (1 : Int64))), .second, .val (.long ((q2 &&& (9223372036854775807 : Int64)) % ((((1 : Int64) <<< ((q1 - (1 : Int32)).toInt64 &&& 63)) - (1 : Int64)) + (1 : Int64)))), .second]) rfl (pc' := 88) rfl ?_
          refine g_iload A0 d2_88 rfl (pc' := 90) rfl ?_
          refine g_ifN A0 d2_90 (c0_eq_f (by decide)) (pc' := 93) rfl ?_
          refine g_lload A0 d2_93 rfl (pc' := 95) rfl ?_
          refine g_lneg A0 d2_95 (pc' := 96) rfl ?_
          refine g_goto A0 d2_96 (pc' := 101) rfl ?_
          exact g_ret (Q := Q2 Z q0 q1 q2 h0 n0) A0 d2_101 Bd.notSynchronized Bd.returns rfl (Or.inr (Or.inl ⟨rfl, rfl, _, rfl⟩)) (by decide) (by decide) (by rw [e0]; exact ⟨(congrArg (fun z => some (Value.long z)) (by rw [own_r_rm2, if_pos hc4, if_neg hc5, if_pos hc7, if_pos hc8])), N0, rfl⟩)
        · skip
          refine g_ifY A0 d2_34 (c0_ge_t (fun q => hc8 ((l_lt q0 (0 : Int64)).mp q))) (pc' := 41) rfl ?_
          refine g_iconst A0 d2_41 (v := (0 : Int32)) rfl (pc' := 42) rfl ?_
          refine g_icN A0 d2_42 (c2_eq_f (by decide)) (pc' := 45) rfl ?_
          refine g_iconst A0 d2_45 (v := (1 : Int32)) rfl (pc' := 46) rfl ?_
          refine g_goto A0 d2_46 (pc' := 50) rfl ?_
          refine g_istore A0 d2_50 (ls' := #[.val (.long q0), .second, .val (.int q1), .val (.long q2), .second, .val (.int (1 : Int32)), .val (.int (1 : Int32)), .unset, .unset, .unset, .unset]) rfl (pc' := 52) rfl ?_
          refine g_iload A0 d2_52 rfl (pc' := 54) rfl ?_
          refine g_ifN A0 d2_54 (c0_eq_f (by decide)) (pc' := 57) rfl ?_
          refine g_lconst A0 d2_57 (v := (1 : Int64)) rfl (pc' := 58) rfl ?_
          refine g_iloadN A0 d2_58 rfl (pc' := 59) rfl ?_
          refine g_iconst A0 d2_59 (v := (2 : Int32)) rfl (pc' := 60) rfl ?_
          refine g_isub A0 d2_60 (pc' := 61) rfl ?_
          refine g_lshl A0 d2_61 (pc' := 62) rfl ?_
          refine g_lconst A0 d2_62 (v := (1 : Int64)) rfl (pc' := 63) rfl ?_
          refine g_lsub A0 d2_63 (pc' := 64) rfl ?_
          refine g_goto A0 d2_64 (pc' := 74) rfl ?_
          refine g_lstore A0 d2_74 (ls' := #[.val (.long q0), .second, .val (.int q1), .val (.long q2), .second, .val (.int (1 : Int32)), .val (.int (1 : Int32)), .val (.long (((1 : Int64) <<< ((q1 - (2 : Int32)).toInt64 &&& 63)) - (1 : Int64))), .second, .unset, .unset]) rfl (pc' := 76) rfl ?_
          refine g_lloadN A0 d2_76 rfl (pc' := 77) rfl ?_
          refine g_ldcL A0 hZ hown (hw _ (List.mem_of_getElem? (i := 10) rfl)) d2_77 (pc' := 80) rfl ?_
          refine g_land A0 d2_80 (pc' := 81) rfl ?_
          refine g_lload A0 d2_81 rfl (pc' := 83) rfl ?_
          refine g_lconst A0 d2_83 (v := (1 : Int64)) rfl (pc' := 84) rfl ?_
          refine g_ladd A0 d2_84 (pc' := 85) rfl ?_
          refine g_lrem A0 d2_85 (by first | exact hz1 | exact hz2) (pc' := 86) rfl ?_
          refine g_lstore A0 d2_86 (ls' := #[.val (.long q0), .second, .val (.int q1), .val (.long q2), .second, .val (.int (1 : Int32)), .val (.int (1 : Int32)), .val (.long (((1 : Int64) <<< ((q1 - (2 : Int32)).toInt64 &&& 63)) - (1 : Int64))), .second, .val (.long ((q2 &&& (9223372036854775807 : Int64)) % ((((1 : Int64) <<< ((q1 - (2 : Int32)).toInt64 &&& 63)) - (1 : Int64)) + (1 : Int64)))), .second]) rfl (pc' := 88) rfl ?_
          refine g_iload A0 d2_88 rfl (pc' := 90) rfl ?_
          refine g_ifN A0 d2_90 (c0_eq_f (by decide)) (pc' := 93) rfl ?_
          refine g_lload A0 d2_93 rfl (pc' := 95) rfl ?_
          refine g_lneg A0 d2_95 (pc' := 96) rfl ?_
          refine g_goto A0 d2_96 (pc' := 101) rfl ?_
          exact g_ret (Q := Q2 Z q0 q1 q2 h0 n0) A0 d2_101 Bd.notSynchronized Bd.returns rfl (Or.inr (Or.inl ⟨rfl, rfl, _, rfl⟩)) (by decide) (by decide) (by rw [e0]; exact ⟨(congrArg (fun z => some (Value.long z)) (by rw [own_r_rm2, if_pos hc4, if_neg hc5, if_pos hc7, if_neg hc8])), N0, rfl⟩)
      · skip
        refine g_ifY A0 d2_26 (c0_ne_t (fun q => hc7 ((l_eq q0 (-4503599627370496 : Int64)).mp q))) (pc' := 49) rfl ?_
        refine g_iconst A0 d2_49 (v := (0 : Int32)) rfl (pc' := 50) rfl ?_
        refine g_istore A0 d2_50 (ls' := #[.val (.long q0), .second, .val (.int q1), .val (.long q2), .second, .val (.int (1 : Int32)), .val (.int (0 : Int32)), .unset, .unset, .unset, .unset]) rfl (pc' := 52) rfl ?_
        refine g_iload A0 d2_52 rfl (pc' := 54) rfl ?_
        refine g_ifY A0 d2_54 (c0_eq_t (by decide)) (pc' := 67) rfl ?_
        refine g_lconst A0 d2_67 (v := (1 : Int64)) rfl (pc' := 68) rfl ?_
        refine g_iloadN A0 d2_68 rfl (pc' := 69) rfl ?_
        refine g_iconst A0 d2_69 (v := (1 : Int32)) rfl (pc' := 70) rfl ?_
        refine g_isub A0 d2_70 (pc' := 71) rfl ?_
        refine g_lshl A0 d2_71 (pc' := 72) rfl ?_
        refine g_lconst A0 d2_72 (v := (1 : Int64)) rfl (pc' := 73) rfl ?_
        refine g_lsub A0 d2_73 (pc' := 74) rfl ?_
        refine g_lstore A0 d2_74 (ls' := #[.val (.long q0), .second, .val (.int q1), .val (.long q2), .second, .val (.int (1 : Int32)), .val (.int (0 : Int32)), .val (.long (((1 : Int64) <<< ((q1 - (1 : Int32)).toInt64 &&& 63)) - (1 : Int64))), .second, .unset, .unset]) rfl (pc' := 76) rfl ?_
        refine g_lloadN A0 d2_76 rfl (pc' := 77) rfl ?_
        refine g_ldcL A0 hZ hown (hw _ (List.mem_of_getElem? (i := 10) rfl)) d2_77 (pc' := 80) rfl ?_
        refine g_land A0 d2_80 (pc' := 81) rfl ?_
        refine g_lload A0 d2_81 rfl (pc' := 83) rfl ?_
        refine g_lconst A0 d2_83 (v := (1 : Int64)) rfl (pc' := 84) rfl ?_
        refine g_ladd A0 d2_84 (pc' := 85) rfl ?_
        refine g_lrem A0 d2_85 (by first | exact hz1 | exact hz2) (pc' := 86) rfl ?_
        refine g_lstore A0 d2_86 (ls' := #[.val (.long q0), .second, .val (.int q1), .val (.long q2), .second, .val (.int (1 : Int32)), .val (.int (0 : Int32)), .val (.long (((1 : Int64) <<< ((q1 - (1 : Int32)).toInt64 &&& 63)) - (1 : Int64))), .second, .val (.long ((q2 &&& (9223372036854775807 : Int64)) % ((((1 : Int64) <<< ((q1 - (1 : Int32)).toInt64 &&& 63)) - (1 : Int64)) + (1 : Int64)))), .second]) rfl (pc' := 88) rfl ?_
        refine g_iload A0 d2_88 rfl (pc' := 90) rfl ?_
        refine g_ifN A0 d2_90 (c0_eq_f (by decide)) (pc' := 93) rfl ?_
        refine g_lload A0 d2_93 rfl (pc' := 95) rfl ?_
        refine g_lneg A0 d2_95 (pc' := 96) rfl ?_
        refine g_goto A0 d2_96 (pc' := 101) rfl ?_
        exact g_ret (Q := Q2 Z q0 q1 q2 h0 n0) A0 d2_101 Bd.notSynchronized Bd.returns rfl (Or.inr (Or.inl ⟨rfl, rfl, _, rfl⟩)) (by decide) (by decide) (by rw [e0]; exact ⟨(congrArg (fun z => some (Value.long z)) (by rw [own_r_rm2, if_pos hc4, if_neg hc5, if_neg hc7])), N0, rfl⟩)
  · skip
    refine g_ifY A0 d2_3 (c0_ge_t (fun q => hc4 ((l_lt q2 (0 : Int64)).mp q))) (pc' := 10) rfl ?_
    refine g_iconst A0 d2_10 (v := (0 : Int32)) rfl (pc' := 11) rfl ?_
    refine g_istore A0 d2_11 (ls' := #[.val (.long q0), .second, .val (.int q1), .val (.long q2), .second, .val (.int (0 : Int32)), .unset, .unset, .unset, .unset, .unset]) rfl (pc' := 13) rfl ?_
    refine g_lloadN A0 d2_13 rfl (pc' := 14) rfl ?_
    refine g_ldcL A0 hZ hown (hw _ (List.mem_of_getElem? (i := 4) rfl)) d2_14 (pc' := 17) rfl ?_
    refine g_lcmp A0 d2_17 (pc' := 18) rfl ?_
    by_cases hc9 : q0 = (4503599627370496 : Int64)
    · skip
      refine g_ifY A0 d2_18 (c0_eq_t ((l_eq q0 (4503599627370496 : Int64)).mpr hc9)) (pc' := 29) rfl ?_
      refine g_iload A0 d2_29 rfl (pc' := 31) rfl ?_
      refine g_lloadN A0 d2_31 rfl (pc' := 32) rfl ?_
      refine g_lconst A0 d2_32 (v := (0 : Int64)) rfl (pc' := 33) rfl ?_
      refine g_lcmp A0 d2_33 (pc' := 34) rfl ?_
      by_cases hc10 : q0 < (0 : Int64)
      · skip
        refine g_ifN A0 d2_34 (c0_ge_f ((l_lt q0 (0 : Int64)).mpr hc10)) (pc' := 37) rfl ?_
        refine g_iconst A0 d2_37 (v := (1 : Int32)) rfl (pc' := 38) rfl ?_
        refine g_goto A0 d2_38 (pc' := 42) rfl ?_
        refine g_icN A0 d2_42 (c2_eq_f (by decide)) (pc' := 45) rfl ?_
        refine g_iconst A0 d2_45 (v := (1 : Int32)) rfl (pc' := 46) rfl ?_
        refine g_goto A0 d2_46 (pc' := 50) rfl ?_
        refine g_istore A0 d2_50 (ls' := #[.val (.long q0), .second, .val (.int q1), .val (.long q2), .second, .val (.int (0 : Int32)), .val (.int (1 : Int32)), .unset, .unset, .unset, .unset]) rfl (pc' := 52) rfl ?_
        refine g_iload A0 d2_52 rfl (pc' := 54) rfl ?_
        refine g_ifN A0 d2_54 (c0_eq_f (by decide)) (pc' := 57) rfl ?_
        refine g_lconst A0 d2_57 (v := (1 : Int64)) rfl (pc' := 58) rfl ?_
        refine g_iloadN A0 d2_58 rfl (pc' := 59) rfl ?_
        refine g_iconst A0 d2_59 (v := (2 : Int32)) rfl (pc' := 60) rfl ?_
        refine g_isub A0 d2_60 (pc' := 61) rfl ?_
        refine g_lshl A0 d2_61 (pc' := 62) rfl ?_
        refine g_lconst A0 d2_62 (v := (1 : Int64)) rfl (pc' := 63) rfl ?_
        refine g_lsub A0 d2_63 (pc' := 64) rfl ?_
        refine g_goto A0 d2_64 (pc' := 74) rfl ?_
        refine g_lstore A0 d2_74 (ls' := #[.val (.long q0), .second, .val (.int q1), .val (.long q2), .second, .val (.int (0 : Int32)), .val (.int (1 : Int32)), .val (.long (((1 : Int64) <<< ((q1 - (2 : Int32)).toInt64 &&& 63)) - (1 : Int64))), .second, .unset, .unset]) rfl (pc' := 76) rfl ?_
        refine g_lloadN A0 d2_76 rfl (pc' := 77) rfl ?_
        refine g_ldcL A0 hZ hown (hw _ (List.mem_of_getElem? (i := 10) rfl)) d2_77 (pc' := 80) rfl ?_
        refine g_land A0 d2_80 (pc' := 81) rfl ?_
        refine g_lload A0 d2_81 rfl (pc' := 83) rfl ?_
        refine g_lconst A0 d2_83 (v := (1 : Int64)) rfl (pc' := 84) rfl ?_
        refine g_ladd A0 d2_84 (pc' := 85) rfl ?_
        refine g_lrem A0 d2_85 (by first | exact hz1 | exact hz2) (pc' := 86) rfl ?_
        refine g_lstore A0 d2_86 (ls' := #[.val (.long q0), .second, .val (.int q1), .val (.long q2), .second, .val (.int (0 : Int32)), .val (.int (1 : Int32)), .val (.long (((1 : Int64) <<< ((q1 - (2 : Int32)).toInt64 &&& 63)) - (1 : Int64))), .second, .val (.long ((q2 &&& (9223372036854775807 : Int64)) % ((((1 : Int64) <<< ((q1 - (2 : Int32)).toInt64 &&& 63)) - (1 : Int64)) + (1 : Int64)))), .second]) rfl (pc' := 88) rfl ?_
        refine g_iload A0 d2_88 rfl (pc' := 90) rfl ?_
        refine g_ifY A0 d2_90 (c0_eq_t (by decide)) (pc' := 99) rfl ?_
        refine g_lload A0 d2_99 rfl (pc' := 101) rfl ?_
        exact g_ret (Q := Q2 Z q0 q1 q2 h0 n0) A0 d2_101 Bd.notSynchronized Bd.returns rfl (Or.inr (Or.inl ⟨rfl, rfl, _, rfl⟩)) (by decide) (by decide) (by rw [e0]; exact ⟨(congrArg (fun z => some (Value.long z)) (by rw [own_r_rm2, if_neg hc4, if_pos hc9, if_pos hc10])), N0, rfl⟩)
      · skip
        refine g_ifY A0 d2_34 (c0_ge_t (fun q => hc10 ((l_lt q0 (0 : Int64)).mp q))) (pc' := 41) rfl ?_
        refine g_iconst A0 d2_41 (v := (0 : Int32)) rfl (pc' := 42) rfl ?_
        refine g_icY A0 d2_42 (c2_eq_t rfl) (pc' := 49) rfl ?_
        refine g_iconst A0 d2_49 (v := (0 : Int32)) rfl (pc' := 50) rfl ?_
        refine g_istore A0 d2_50 (ls' := #[.val (.long q0), .second, .val (.int q1), .val (.long q2), .second, .val (.int (0 : Int32)), .val (.int (0 : Int32)), .unset, .unset, .unset, .unset]) rfl (pc' := 52) rfl ?_
        refine g_iload A0 d2_52 rfl (pc' := 54) rfl ?_
        refine g_ifY A0 d2_54 (c0_eq_t (by decide)) (pc' := 67) rfl ?_
        refine g_lconst A0 d2_67 (v := (1 : Int64)) rfl (pc' := 68) rfl ?_
        refine g_iloadN A0 d2_68 rfl (pc' := 69) rfl ?_
        refine g_iconst A0 d2_69 (v := (1 : Int32)) rfl (pc' := 70) rfl ?_
        refine g_isub A0 d2_70 (pc' := 71) rfl ?_
        refine g_lshl A0 d2_71 (pc' := 72) rfl ?_
        refine g_lconst A0 d2_72 (v := (1 : Int64)) rfl (pc' := 73) rfl ?_
        refine g_lsub A0 d2_73 (pc' := 74) rfl ?_
        refine g_lstore A0 d2_74 (ls' := #[.val (.long q0), .second, .val (.int q1), .val (.long q2), .second, .val (.int (0 : Int32)), .val (.int (0 : Int32)), .val (.long (((1 : Int64) <<< ((q1 - (1 : Int32)).toInt64 &&& 63)) - (1 : Int64))), .second, .unset, .unset]) rfl (pc' := 76) rfl ?_
        refine g_lloadN A0 d2_76 rfl (pc' := 77) rfl ?_
        refine g_ldcL A0 hZ hown (hw _ (List.mem_of_getElem? (i := 10) rfl)) d2_77 (pc' := 80) rfl ?_
        refine g_land A0 d2_80 (pc' := 81) rfl ?_
        refine g_lload A0 d2_81 rfl (pc' := 83) rfl ?_
        refine g_lconst A0 d2_83 (v := (1 : Int64)) rfl (pc' := 84) rfl ?_
        refine g_ladd A0 d2_84 (pc' := 85) rfl ?_
        refine g_lrem A0 d2_85 (by first | exact hz1 | exact hz2) (pc' := 86) rfl ?_
        refine g_lstore A0 d2_86 (ls' := #[.val (.long q0), .second, .val (.int q1), .val (.long q2), .second, .val (.int (0 : Int32)), .val (.int (0 : Int32)), .val (.long (((1 : Int64) <<< ((q1 - (1 : Int32)).toInt64 &&& 63)) - (1 : Int64))), .second, .val (.long ((q2 &&& (9223372036854775807 : Int64)) % ((((1 : Int64) <<< ((q1 - (1 : Int32)).toInt64 &&& 63)) - (1 : Int64)) + (1 : Int64)))), .second]) rfl (pc' := 88) rfl ?_
        refine g_iload A0 d2_88 rfl (pc' := 90) rfl ?_
        refine g_ifY A0 d2_90 (c0_eq_t (by decide)) (pc' := 99) rfl ?_
        refine g_lload A0 d2_99 rfl (pc' := 101) rfl ?_
        exact g_ret (Q := Q2 Z q0 q1 q2 h0 n0) A0 d2_101 Bd.notSynchronized Bd.returns rfl (Or.inr (Or.inl ⟨rfl, rfl, _, rfl⟩)) (by decide) (by decide) (by rw [e0]; exact ⟨(congrArg (fun z => some (Value.long z)) (by rw [own_r_rm2, if_neg hc4, if_pos hc9, if_neg hc10])), N0, rfl⟩)
    · skip
      refine g_ifN A0 d2_18 (c0_eq_f (fun q => hc9 ((l_eq q0 (4503599627370496 : Int64)).mp q))) (pc' := 21) rfl ?_
      refine g_lloadN A0 d2_21 rfl (pc' := 22) rfl ?_
      refine g_ldcL A0 hZ hown (hw _ (List.mem_of_getElem? (i := 9) rfl)) d2_22 (pc' := 25) rfl ?_
      refine g_lcmp A0 d2_25 (pc' := 26) rfl ?_
      by_cases hc11 : q0 = (-4503599627370496 : Int64)
      · skip
        refine g_ifN A0 d2_26 (c0_ne_f ((l_eq q0 (-4503599627370496 : Int64)).mpr hc11)) (pc' := 29) rfl ?_
        refine g_iload A0 d2_29 rfl (pc' := 31) rfl ?_
        refine g_lloadN A0 d2_31 rfl (pc' := 32) rfl ?_
        refine g_lconst A0 d2_32 (v := (0 : Int64)) rfl (pc' := 33) rfl ?_
        refine g_lcmp A0 d2_33 (pc' := 34) rfl ?_
        by_cases hc12 : q0 < (0 : Int64)
        · skip
          refine g_ifN A0 d2_34 (c0_ge_f ((l_lt q0 (0 : Int64)).mpr hc12)) (pc' := 37) rfl ?_
          refine g_iconst A0 d2_37 (v := (1 : Int32)) rfl (pc' := 38) rfl ?_
          refine g_goto A0 d2_38 (pc' := 42) rfl ?_
          refine g_icN A0 d2_42 (c2_eq_f (by decide)) (pc' := 45) rfl ?_
          refine g_iconst A0 d2_45 (v := (1 : Int32)) rfl (pc' := 46) rfl ?_
          refine g_goto A0 d2_46 (pc' := 50) rfl ?_
          refine g_istore A0 d2_50 (ls' := #[.val (.long q0), .second, .val (.int q1), .val (.long q2), .second, .val (.int (0 : Int32)), .val (.int (1 : Int32)), .unset, .unset, .unset, .unset]) rfl (pc' := 52) rfl ?_
          refine g_iload A0 d2_52 rfl (pc' := 54) rfl ?_
          refine g_ifN A0 d2_54 (c0_eq_f (by decide)) (pc' := 57) rfl ?_
          refine g_lconst A0 d2_57 (v := (1 : Int64)) rfl (pc' := 58) rfl ?_
          refine g_iloadN A0 d2_58 rfl (pc' := 59) rfl ?_
          refine g_iconst A0 d2_59 (v := (2 : Int32)) rfl (pc' := 60) rfl ?_
          refine g_isub A0 d2_60 (pc' := 61) rfl ?_
          refine g_lshl A0 d2_61 (pc' := 62) rfl ?_
          refine g_lconst A0 d2_62 (v := (1 : Int64)) rfl (pc' := 63) rfl ?_
          refine g_lsub A0 d2_63 (pc' := 64) rfl ?_
          refine g_goto A0 d2_64 (pc' := 74) rfl ?_
          refine g_lstore A0 d2_74 (ls' := #[.val (.long q0), .second, .val (.int q1), .val (.long q2), .second, .val (.int (0 : Int32)), .val (.int (1 : Int32)), .val (.long (((1 : Int64) <<< ((q1 - (2 : Int32)).toInt64 &&& 63)) - (1 : Int64))), .second, .unset, .unset]) rfl (pc' := 76) rfl ?_
          refine g_lloadN A0 d2_76 rfl (pc' := 77) rfl ?_
          refine g_ldcL A0 hZ hown (hw _ (List.mem_of_getElem? (i := 10) rfl)) d2_77 (pc' := 80) rfl ?_
          refine g_land A0 d2_80 (pc' := 81) rfl ?_
          refine g_lload A0 d2_81 rfl (pc' := 83) rfl ?_
          refine g_lconst A0 d2_83 (v := (1 : Int64)) rfl (pc' := 84) rfl ?_
          refine g_ladd A0 d2_84 (pc' := 85) rfl ?_
          refine g_lrem A0 d2_85 (by first | exact hz1 | exact hz2) (pc' := 86) rfl ?_
          refine g_lstore A0 d2_86 (ls' := #[.val (.long q0), .second, .val (.int q1), .val (.long q2), .second, .val (.int (0 : Int32)), .val (.int (1 : Int32)), .val (.long (((1 : Int64) <<< ((q1 - (2 : Int32)).toInt64 &&& 63)) - (1 : Int64))), .second, .val (.long ((q2 &&& (9223372036854775807 : Int64)) % ((((1 : Int64) <<< ((q1 - (2 : Int32)).toInt64 &&& 63)) - (1 : Int64)) + (1 : Int64)))), .second]) rfl (pc' := 88) rfl ?_
          refine g_iload A0 d2_88 rfl (pc' := 90) rfl ?_
          refine g_ifY A0 d2_90 (c0_eq_t (by decide)) (pc' := 99) rfl ?_
          refine g_lload A0 d2_99 rfl (pc' := 101) rfl ?_
          exact g_ret (Q := Q2 Z q0 q1 q2 h0 n0) A0 d2_101 Bd.notSynchronized Bd.returns rfl (Or.inr (Or.inl ⟨rfl, rfl, _, rfl⟩)) (by decide) (by decide) (by rw [e0]; exact ⟨(congrArg (fun z => some (Value.long z)) (by rw [own_r_rm2, if_neg hc4, if_neg hc9, if_pos hc11, if_pos hc12])), N0, rfl⟩)
        · skip
          refine g_ifY A0 d2_34 (c0_ge_t (fun q => hc12 ((l_lt q0 (0 : Int64)).mp q))) (pc' := 41) rfl ?_
          refine g_iconst A0 d2_41 (v := (0 : Int32)) rfl (pc' := 42) rfl ?_
          refine g_icY A0 d2_42 (c2_eq_t rfl) (pc' := 49) rfl ?_
          refine g_iconst A0 d2_49 (v := (0 : Int32)) rfl (pc' := 50) rfl ?_
          refine g_istore A0 d2_50 (ls' := #[.val (.long q0), .second, .val (.int q1), .val (.long q2), .second, .val (.int (0 : Int32)), .val (.int (0 : Int32)), .unset, .unset, .unset, .unset]) rfl (pc' := 52) rfl ?_
          refine g_iload A0 d2_52 rfl (pc' := 54) rfl ?_
          refine g_ifY A0 d2_54 (c0_eq_t (by decide)) (pc' := 67) rfl ?_
          refine g_lconst A0 d2_67 (v := (1 : Int64)) rfl (pc' := 68) rfl ?_
          refine g_iloadN A0 d2_68 rfl (pc' := 69) rfl ?_
          refine g_iconst A0 d2_69 (v := (1 : Int32)) rfl (pc' := 70) rfl ?_
          refine g_isub A0 d2_70 (pc' := 71) rfl ?_
          refine g_lshl A0 d2_71 (pc' := 72) rfl ?_
          refine g_lconst A0 d2_72 (v := (1 : Int64)) rfl (pc' := 73) rfl ?_
          refine g_lsub A0 d2_73 (pc' := 74) rfl ?_
          refine g_lstore A0 d2_74 (ls' := #[.val (.long q0), .second, .val (.int q1), .val (.long q2), .second, .val (.int (0 : Int32)), .val (.int (0 : Int32)), .val (.long (((1 : Int64) <<< ((q1 - (1 : Int32)).toInt64 &&& 63)) - (1 : Int64))), .second, .unset, .unset]) rfl (pc' := 76) rfl ?_
          refine g_lloadN A0 d2_76 rfl (pc' := 77) rfl ?_
          refine g_ldcL A0 hZ hown (hw _ (List.mem_of_getElem? (i := 10) rfl)) d2_77 (pc' := 80) rfl ?_
          refine g_land A0 d2_80 (pc' := 81) rfl ?_
          refine g_lload A0 d2_81 rfl (pc' := 83) rfl ?_
          refine g_lconst A0 d2_83 (v := (1 : Int64)) rfl (pc' := 84) rfl ?_
          refine g_ladd A0 d2_84 (pc' := 85) rfl ?_
          refine g_lrem A0 d2_85 (by first | exact hz1 | exact hz2) (pc' := 86) rfl ?_
          refine g_lstore A0 d2_86 (ls' := #[.val (.long q0), .second, .val (.int q1), .val (.long q2), .second, .val (.int (0 : Int32)), .val (.int (0 : Int32)), .val (.long (((1 : Int64) <<< ((q1 - (1 : Int32)).toInt64 &&& 63)) - (1 : Int64))), .second, .val (.long ((q2 &&& (9223372036854775807 : Int64)) % ((((1 : Int64) <<< ((q1 - (1 : Int32)).toInt64 &&& 63)) - (1 : Int64)) + (1 : Int64)))), .second]) rfl (pc' := 88) rfl ?_
          refine g_iload A0 d2_88 rfl (pc' := 90) rfl ?_
          refine g_ifY A0 d2_90 (c0_eq_t (by decide)) (pc' := 99) rfl ?_
          refine g_lload A0 d2_99 rfl (pc' := 101) rfl ?_
          exact g_ret (Q := Q2 Z q0 q1 q2 h0 n0) A0 d2_101 Bd.notSynchronized Bd.returns rfl (Or.inr (Or.inl ⟨rfl, rfl, _, rfl⟩)) (by decide) (by decide) (by rw [e0]; exact ⟨(congrArg (fun z => some (Value.long z)) (by rw [own_r_rm2, if_neg hc4, if_neg hc9, if_pos hc11, if_neg hc12])), N0, rfl⟩)
      · skip
        refine g_ifY A0 d2_26 (c0_ne_t (fun q => hc11 ((l_eq q0 (-4503599627370496 : Int64)).mp q))) (pc' := 49) rfl ?_
        refine g_iconst A0 d2_49 (v := (0 : Int32)) rfl (pc' := 50) rfl ?_
        refine g_istore A0 d2_50 (ls' := #[.val (.long q0), .second, .val (.int q1), .val (.long q2), .second, .val (.int (0 : Int32)), .val (.int (0 : Int32)), .unset, .unset, .unset, .unset]) rfl (pc' := 52) rfl ?_
        refine g_iload A0 d2_52 rfl (pc' := 54) rfl ?_
        refine g_ifY A0 d2_54 (c0_eq_t (by decide)) (pc' := 67) rfl ?_
        refine g_lconst A0 d2_67 (v := (1 : Int64)) rfl (pc' := 68) rfl ?_
        refine g_iloadN A0 d2_68 rfl (pc' := 69) rfl ?_
        refine g_iconst A0 d2_69 (v := (1 : Int32)) rfl (pc' := 70) rfl ?_
        refine g_isub A0 d2_70 (pc' := 71) rfl ?_
        refine g_lshl A0 d2_71 (pc' := 72) rfl ?_
        refine g_lconst A0 d2_72 (v := (1 : Int64)) rfl (pc' := 73) rfl ?_
        refine g_lsub A0 d2_73 (pc' := 74) rfl ?_
        refine g_lstore A0 d2_74 (ls' := #[.val (.long q0), .second, .val (.int q1), .val (.long q2), .second, .val (.int (0 : Int32)), .val (.int (0 : Int32)), .val (.long (((1 : Int64) <<< ((q1 - (1 : Int32)).toInt64 &&& 63)) - (1 : Int64))), .second, .unset, .unset]) rfl (pc' := 76) rfl ?_
        refine g_lloadN A0 d2_76 rfl (pc' := 77) rfl ?_
        refine g_ldcL A0 hZ hown (hw _ (List.mem_of_getElem? (i := 10) rfl)) d2_77 (pc' := 80) rfl ?_
        refine g_land A0 d2_80 (pc' := 81) rfl ?_
        refine g_lload A0 d2_81 rfl (pc' := 83) rfl ?_
        refine g_lconst A0 d2_83 (v := (1 : Int64)) rfl (pc' := 84) rfl ?_
        refine g_ladd A0 d2_84 (pc' := 85) rfl ?_
        refine g_lrem A0 d2_85 (by first | exact hz1 | exact hz2) (pc' := 86) rfl ?_
        refine g_lstore A0 d2_86 (ls' := #[.val (.long q0), .second, .val (.int q1), .val (.long q2), .second, .val (.int (0 : Int32)), .val (.int (0 : Int32)), .val (.long (((1 : Int64) <<< ((q1 - (1 : Int32)).toInt64 &&& 63)) - (1 : Int64))), .second, .val (.long ((q2 &&& (9223372036854775807 : Int64)) % ((((1 : Int64) <<< ((q1 - (1 : Int32)).toInt64 &&& 63)) - (1 : Int64)) + (1 : Int64)))), .second]) rfl (pc' := 88) rfl ?_
        refine g_iload A0 d2_88 rfl (pc' := 90) rfl ?_
        refine g_ifY A0 d2_90 (c0_eq_t (by decide)) (pc' := 99) rfl ?_
        refine g_lload A0 d2_99 rfl (pc' := 101) rfl ?_
        exact g_ret (Q := Q2 Z q0 q1 q2 h0 n0) A0 d2_101 Bd.notSynchronized Bd.returns rfl (Or.inr (Or.inl ⟨rfl, rfl, _, rfl⟩)) (by decide) (by decide) (by rw [e0]; exact ⟨(congrArg (fun z => some (Value.long z)) (by rw [own_r_rm2, if_neg hc4, if_neg hc9, if_neg hc11])), N0, rfl⟩)
def own_r_rm3 (q0 : Int32) (q1 : Int64) (q2 : Int64) (q3 : Int32) : UInt64 := (if q0 < (2 : Int32) then (FP.l2d (q2 <<< (q3.toInt64 &&& 63))) else (if q0 = (2 : Int32) then (if (q1 &&& (1 : Int64)) = (0 : Int64) then (0 : UInt64) else (9223372036854775808 : UInt64)) else (if q1 < (0 : Int64) then (18442240474082181120 : UInt64) else (9218868437227405312 : UInt64))))
theorem d3_0 : decode method_4_code 0 = .ok (.iload_n 0, 1) := by decide +kernel
theorem d3_1 : decode method_4_code 1 = .ok (.iconst 2, 1) := by decide +kernel
theorem d3_2 : decode method_4_code 2 = .ok (.if_icmp .ge 9, 3) := by decide +kernel
theorem d3_5 : decode method_4_code 5 = .ok (.lload_n 3, 1) := by decide +kernel
theorem d3_6 : decode method_4_code 6 = .ok (.iload 5, 2) := by decide +kernel
theorem d3_8 : decode method_4_code 8 = .ok (.lshl, 1) := by decide +kernel
theorem d3_9 : decode method_4_code 9 = .ok (.l2d, 1) := by decide +kernel
theorem d3_10 : decode method_4_code 10 = .ok (.dreturn, 1) := by decide +kernel
theorem d3_11 : decode method_4_code 11 = .ok (.iload_n 0, 1) := by decide +kernel
theorem d3_12 : decode method_4_code 12 = .ok (.iconst 2, 1) := by decide +kernel
theorem d3_13 : decode method_4_code 13 = .ok (.if_icmp .ne 19, 3) := by decide +kernel
theorem d3_16 : decode method_4_code 16 = .ok (.lload_n 1, 1) := by decide +kernel
theorem d3_17 : decode method_4_code 17 = .ok (.lconst 1, 1) := by decide +kernel
theorem d3_18 : decode method_4_code 18 = .ok (.land, 1) := by decide +kernel
theorem d3_19 : decode method_4_code 19 = .ok (.lconst 0, 1) := by decide +kernel
theorem d3_20 : decode method_4_code 20 = .ok (.lcmp, 1) := by decide +kernel
theorem d3_21 : decode method_4_code 21 = .ok (.ifCond .eq 9, 3) := by decide +kernel
theorem d3_24 : decode method_4_code 24 = .ok (.ldc2_w 15, 3) := by decide +kernel
theorem d3_27 : decode method_4_code 27 = .ok (.goto 4, 3) := by decide +kernel
theorem d3_30 : decode method_4_code 30 = .ok (.dconst 0, 1) := by decide +kernel
theorem d3_31 : decode method_4_code 31 = .ok (.dreturn, 1) := by decide +kernel
theorem d3_32 : decode method_4_code 32 = .ok (.lload_n 1, 1) := by decide +kernel
theorem d3_33 : decode method_4_code 33 = .ok (.lconst 0, 1) := by decide +kernel
theorem d3_34 : decode method_4_code 34 = .ok (.lcmp, 1) := by decide +kernel
theorem d3_35 : decode method_4_code 35 = .ok (.ifCond .ge 9, 3) := by decide +kernel
theorem d3_38 : decode method_4_code 38 = .ok (.ldc2_w 19, 3) := by decide +kernel
theorem d3_41 : decode method_4_code 41 = .ok (.goto 6, 3) := by decide +kernel
theorem d3_44 : decode method_4_code 44 = .ok (.ldc2_w 21, 3) := by decide +kernel
theorem d3_47 : decode method_4_code 47 = .ok (.dreturn, 1) := by decide +kernel
theorem ef13 (m : MethodId) (q0 : Int32) (q1 : Int64) (q2 : Int64) (q3 : Int32) : entryFrame m #[(.int q0), (.long q1), (.long q2), (.int q3)] 6 = mkF m 0 #[.val (.int q0), .val (.long q1), .second, .val (.long q2), .second, .val (.int q3)] [] := by first | (simp [entryFrame, mkF, argsToLocals, Value.category]; done) | rfl
def Q3 (Z : State) (q0 : Int32) (q1 : Int64) (q2 : Int64) (q3 : Int32) (h0 : Heap) (n0 : Nat) (v : Option Value) (h : Heap) (L : List Loc) : Prop := v = some (.double (own_r_rm3 q0 q1 q2 q3)) ∧ Fr n0 L ∧ h = h0
set_option maxRecDepth 65536 in
set_option maxHeartbeats 40000000 in
theorem rm3 (l : Launch) (Z : State) (a0 : Array Value) (hw : ∀ d ∈ tables_1, d.before a0 Z = true) (ws : List Jvm.Cond) (q0 : Int32) (q1 : Int64) (q2 : Int64) (q3 : Int32) (h0 : Heap) (n0 : Nat) (Z0 : n0 ≤ h0.size)  :
    MetFree l (⟨"com/example/hinterland/hinterland/DoubleDoubleComparePinLaw", "highPart", "(IJJI)D"⟩ : MethodName) (head1 (Jvm.Cond.code (⟨"com/example/hinterland/hinterland/DoubleDoubleComparePinLaw", "highPart", "(IJJI)D"⟩ : MethodName) method_4_code 6 (some .double) :: ws) ({ frames := 0, cells := 0, slots := 0, locals := 0 } : Room)) (fun a U => a = #[(.int q0), (.long q1), (.long q2), (.int q3)] ∧ Z.Warmed39 U.vm ∧ U.heap = h0) (fun _ _ _ _ _ => True) (fun _ U o U' => ∃ v L, o = .returned v ∧ Q3 Z q0 q1 q2 q3 h0 n0 v U'.heap L ∧ FrameEnd U o U' L 0 0) := by
  refine MetFree.of_bodySF (plainFor_of_name pn_0) hisR ?_
  intro p e s m args below meth c s₁ Bd hml0 hP hK
  obtain ⟨rfl, hZ, hh⟩ := hP
  have hx := Bd.exec
  have hby := Bd.bytes
  have hml : c.maxLocals = 6 := hml0
  have hown : s.vm.findClass "com/example/hinterland/hinterland/DoubleDoubleComparePinLaw" = some m.cls := findClass_of_methodNamed Bd.named
  have hnm := (name_of_methodNamed Bd.named Bd.method).1
  have X0 : Stand p l e ({ frames := 0, cells := 0, slots := 0, locals := 0 } : Room) s m #[(.int q0), (.long q1), (.long q2), (.int q3)] below meth c s₁ [] 0 0 := Stand.of_body Bd
  have e0 : s₁.heap = h0 := by rw [← hh, Bd.state]; rfl
  have N0 := Fr.nil n0
  have A0 := (⟨X0, hx, hby⟩ : Ax _ _ _ _ _ _ _ _ _ _ _ _ _ _ _)
  show Go p e below (fun U o => ∃ v L, o = .returned v ∧ Q3 Z q0 q1 q2 q3 h0 n0 v U.heap L ∧ FrameEnd s o U L 0 0) s₁ (entryFrame m #[(.int q0), (.long q1), (.long q2), (.int q3)] 6)
  refine Go.cast (ef13 m q0 q1 q2 q3) ?_
  refine g_iloadN A0 d3_0 rfl (pc' := 1) rfl ?_
  refine g_iconst A0 d3_1 (v := (2 : Int32)) rfl (pc' := 2) rfl ?_
  by_cases hc14 : q0 < (2 : Int32)
  · skip
    refine g_icN A0 d3_2 (c2_ge_f hc14) (pc' := 5) rfl ?_
    refine g_lloadN A0 d3_5 rfl (pc' := 6) rfl ?_
    refine g_iload A0 d3_6 rfl (pc' := 8) rfl ?_
    refine g_lshl A0 d3_8 (pc' := 9) rfl ?_
    refine g_l2d A0 d3_9 (pc' := 10) rfl ?_
    exact g_ret (Q := Q3 Z q0 q1 q2 q3 h0 n0) A0 d3_10 Bd.notSynchronized Bd.returns rfl (Or.inr (Or.inr (Or.inl ⟨rfl, rfl, _, rfl⟩))) (by decide) (by decide) (by rw [e0]; exact ⟨(congrArg (fun z => some (Value.double z)) (by rw [own_r_rm3, if_pos hc14])), N0, rfl⟩)
  · skip
    refine g_icY A0 d3_2 (c2_ge_t hc14) (pc' := 11) rfl ?_
    refine g_iloadN A0 d3_11 rfl (pc' := 12) rfl ?_
    refine g_iconst A0 d3_12 (v := (2 : Int32)) rfl (pc' := 13) rfl ?_
    by_cases hc15 : q0 = (2 : Int32)
    · skip
      refine g_icN A0 d3_13 (c2_ne_f hc15) (pc' := 16) rfl ?_
      refine g_lloadN A0 d3_16 rfl (pc' := 17) rfl ?_
      refine g_lconst A0 d3_17 (v := (1 : Int64)) rfl (pc' := 18) rfl ?_
      refine g_land A0 d3_18 (pc' := 19) rfl ?_
      refine g_lconst A0 d3_19 (v := (0 : Int64)) rfl (pc' := 20) rfl ?_
      refine g_lcmp A0 d3_20 (pc' := 21) rfl ?_
      by_cases hc16 : (q1 &&& (1 : Int64)) = (0 : Int64)
      · skip
        refine g_ifY A0 d3_21 (c0_eq_t ((l_eq (q1 &&& (1 : Int64)) (0 : Int64)).mpr hc16)) (pc' := 30) rfl ?_
        refine g_dconst0 A0 d3_30 (pc' := 31) rfl ?_
        exact g_ret (Q := Q3 Z q0 q1 q2 q3 h0 n0) A0 d3_31 Bd.notSynchronized Bd.returns rfl (Or.inr (Or.inr (Or.inl ⟨rfl, rfl, _, rfl⟩))) (by decide) (by decide) (by rw [e0]; exact ⟨(congrArg (fun z => some (Value.double z)) (by rw [own_r_rm3, if_neg hc14, if_pos hc15, if_pos hc16])), N0, rfl⟩)
      · skip
        refine g_ifN A0 d3_21 (c0_eq_f (fun q => hc16 ((l_eq (q1 &&& (1 : Int64)) (0 : Int64)).mp q))) (pc' := 24) rfl ?_
        refine g_ldcD A0 hZ hown (hw _ (List.mem_of_getElem? (i := 29) rfl)) d3_24 (pc' := 27) rfl ?_
        refine g_goto A0 d3_27 (pc' := 31) rfl ?_
        exact g_ret (Q := Q3 Z q0 q1 q2 q3 h0 n0) A0 d3_31 Bd.notSynchronized Bd.returns rfl (Or.inr (Or.inr (Or.inl ⟨rfl, rfl, _, rfl⟩))) (by decide) (by decide) (by rw [e0]; exact ⟨(congrArg (fun z => some (Value.double z)) (by rw [own_r_rm3, if_neg hc14, if_pos hc15, if_neg hc16])), N0, rfl⟩)
    · skip
      refine g_icY A0 d3_13 (c2_ne_t hc15) (pc' := 32) rfl ?_
      refine g_lloadN A0 d3_32 rfl (pc' := 33) rfl ?_
      refine g_lconst A0 d3_33 (v := (0 : Int64)) rfl (pc' := 34) rfl ?_
      refine g_lcmp A0 d3_34 (pc' := 35) rfl ?_
      by_cases hc17 : q1 < (0 : Int64)
      · skip
        refine g_ifN A0 d3_35 (c0_ge_f ((l_lt q1 (0 : Int64)).mpr hc17)) (pc' := 38) rfl ?_
        refine g_ldcD A0 hZ hown (hw _ (List.mem_of_getElem? (i := 28) rfl)) d3_38 (pc' := 41) rfl ?_
        refine g_goto A0 d3_41 (pc' := 47) rfl ?_
        exact g_ret (Q := Q3 Z q0 q1 q2 q3 h0 n0) A0 d3_47 Bd.notSynchronized Bd.returns rfl (Or.inr (Or.inr (Or.inl ⟨rfl, rfl, _, rfl⟩))) (by decide) (by decide) (by rw [e0]; exact ⟨(congrArg (fun z => some (Value.double z)) (by rw [own_r_rm3, if_neg hc14, if_neg hc15, if_pos hc17])), N0, rfl⟩)
      · skip
        refine g_ifY A0 d3_35 (c0_ge_t (fun q => hc17 ((l_lt q1 (0 : Int64)).mp q))) (pc' := 44) rfl ?_
        refine g_ldcD A0 hZ hown (hw _ (List.mem_of_getElem? (i := 14) rfl)) d3_44 (pc' := 47) rfl ?_
        exact g_ret (Q := Q3 Z q0 q1 q2 q3 h0 n0) A0 d3_47 Bd.notSynchronized Bd.returns rfl (Or.inr (Or.inr (Or.inl ⟨rfl, rfl, _, rfl⟩))) (by decide) (by decide) (by rw [e0]; exact ⟨(congrArg (fun z => some (Value.double z)) (by rw [own_r_rm3, if_neg hc14, if_neg hc15, if_neg hc17])), N0, rfl⟩)
def own_r_rm4 (q0 : Int32) (q1 : Int64) (q2 : Int64) : UInt64 := (if q0 < (2 : Int32) then (FP.l2d q2) else (if q0 = (2 : Int32) then (if (q1 &&& (2 : Int64)) = (0 : Int64) then (0 : UInt64) else (9223372036854775808 : UInt64)) else (0 : UInt64)))
theorem d4_0 : decode method_5_code 0 = .ok (.iload_n 0, 1) := by decide +kernel
theorem d4_1 : decode method_5_code 1 = .ok (.iconst 2, 1) := by decide +kernel
theorem d4_2 : decode method_5_code 2 = .ok (.if_icmp .ge 6, 3) := by decide +kernel
theorem d4_5 : decode method_5_code 5 = .ok (.lload_n 3, 1) := by decide +kernel
theorem d4_6 : decode method_5_code 6 = .ok (.l2d, 1) := by decide +kernel
theorem d4_7 : decode method_5_code 7 = .ok (.dreturn, 1) := by decide +kernel
theorem d4_8 : decode method_5_code 8 = .ok (.iload_n 0, 1) := by decide +kernel
theorem d4_9 : decode method_5_code 9 = .ok (.iconst 2, 1) := by decide +kernel
theorem d4_10 : decode method_5_code 10 = .ok (.if_icmp .ne 21, 3) := by decide +kernel
theorem d4_13 : decode method_5_code 13 = .ok (.lload_n 1, 1) := by decide +kernel
theorem d4_14 : decode method_5_code 14 = .ok (.ldc2_w 23, 3) := by decide +kernel
theorem d4_17 : decode method_5_code 17 = .ok (.land, 1) := by decide +kernel
theorem d4_18 : decode method_5_code 18 = .ok (.lconst 0, 1) := by decide +kernel
theorem d4_19 : decode method_5_code 19 = .ok (.lcmp, 1) := by decide +kernel
theorem d4_20 : decode method_5_code 20 = .ok (.ifCond .eq 9, 3) := by decide +kernel
theorem d4_23 : decode method_5_code 23 = .ok (.ldc2_w 15, 3) := by decide +kernel
theorem d4_26 : decode method_5_code 26 = .ok (.goto 4, 3) := by decide +kernel
theorem d4_29 : decode method_5_code 29 = .ok (.dconst 0, 1) := by decide +kernel
theorem d4_30 : decode method_5_code 30 = .ok (.dreturn, 1) := by decide +kernel
theorem d4_31 : decode method_5_code 31 = .ok (.dconst 0, 1) := by decide +kernel
theorem d4_32 : decode method_5_code 32 = .ok (.dreturn, 1) := by decide +kernel
theorem ef18 (m : MethodId) (q0 : Int32) (q1 : Int64) (q2 : Int64) : entryFrame m #[(.int q0), (.long q1), (.long q2)] 5 = mkF m 0 #[.val (.int q0), .val (.long q1), .second, .val (.long q2), .second] [] := by first | (simp [entryFrame, mkF, argsToLocals, Value.category]; done) | rfl
def Q4 (Z : State) (q0 : Int32) (q1 : Int64) (q2 : Int64) (h0 : Heap) (n0 : Nat) (v : Option Value) (h : Heap) (L : List Loc) : Prop := v = some (.double (own_r_rm4 q0 q1 q2)) ∧ Fr n0 L ∧ h = h0
set_option maxRecDepth 65536 in
set_option maxHeartbeats 40000000 in
theorem rm4 (l : Launch) (Z : State) (a0 : Array Value) (hw : ∀ d ∈ tables_1, d.before a0 Z = true) (ws : List Jvm.Cond) (q0 : Int32) (q1 : Int64) (q2 : Int64) (h0 : Heap) (n0 : Nat) (Z0 : n0 ≤ h0.size)  :
    MetFree l (⟨"com/example/hinterland/hinterland/DoubleDoubleComparePinLaw", "lowPart", "(IJJ)D"⟩ : MethodName) (head1 (Jvm.Cond.code (⟨"com/example/hinterland/hinterland/DoubleDoubleComparePinLaw", "lowPart", "(IJJ)D"⟩ : MethodName) method_5_code 5 (some .double) :: ws) ({ frames := 0, cells := 0, slots := 0, locals := 0 } : Room)) (fun a U => a = #[(.int q0), (.long q1), (.long q2)] ∧ Z.Warmed39 U.vm ∧ U.heap = h0) (fun _ _ _ _ _ => True) (fun _ U o U' => ∃ v L, o = .returned v ∧ Q4 Z q0 q1 q2 h0 n0 v U'.heap L ∧ FrameEnd U o U' L 0 0) := by
  refine MetFree.of_bodySF (plainFor_of_name pn_0) hisR ?_
  intro p e s m args below meth c s₁ Bd hml0 hP hK
  obtain ⟨rfl, hZ, hh⟩ := hP
  have hx := Bd.exec
  have hby := Bd.bytes
  have hml : c.maxLocals = 5 := hml0
  have hown : s.vm.findClass "com/example/hinterland/hinterland/DoubleDoubleComparePinLaw" = some m.cls := findClass_of_methodNamed Bd.named
  have hnm := (name_of_methodNamed Bd.named Bd.method).1
  have X0 : Stand p l e ({ frames := 0, cells := 0, slots := 0, locals := 0 } : Room) s m #[(.int q0), (.long q1), (.long q2)] below meth c s₁ [] 0 0 := Stand.of_body Bd
  have e0 : s₁.heap = h0 := by rw [← hh, Bd.state]; rfl
  have N0 := Fr.nil n0
  have A0 := (⟨X0, hx, hby⟩ : Ax _ _ _ _ _ _ _ _ _ _ _ _ _ _ _)
  show Go p e below (fun U o => ∃ v L, o = .returned v ∧ Q4 Z q0 q1 q2 h0 n0 v U.heap L ∧ FrameEnd s o U L 0 0) s₁ (entryFrame m #[(.int q0), (.long q1), (.long q2)] 5)
  refine Go.cast (ef18 m q0 q1 q2) ?_
  refine g_iloadN A0 d4_0 rfl (pc' := 1) rfl ?_
  refine g_iconst A0 d4_1 (v := (2 : Int32)) rfl (pc' := 2) rfl ?_
  by_cases hc19 : q0 < (2 : Int32)
  · skip
    refine g_icN A0 d4_2 (c2_ge_f hc19) (pc' := 5) rfl ?_
    refine g_lloadN A0 d4_5 rfl (pc' := 6) rfl ?_
    refine g_l2d A0 d4_6 (pc' := 7) rfl ?_
    exact g_ret (Q := Q4 Z q0 q1 q2 h0 n0) A0 d4_7 Bd.notSynchronized Bd.returns rfl (Or.inr (Or.inr (Or.inl ⟨rfl, rfl, _, rfl⟩))) (by decide) (by decide) (by rw [e0]; exact ⟨(congrArg (fun z => some (Value.double z)) (by rw [own_r_rm4, if_pos hc19])), N0, rfl⟩)
  · skip
    refine g_icY A0 d4_2 (c2_ge_t hc19) (pc' := 8) rfl ?_
    refine g_iloadN A0 d4_8 rfl (pc' := 9) rfl ?_
    refine g_iconst A0 d4_9 (v := (2 : Int32)) rfl (pc' := 10) rfl ?_
    by_cases hc20 : q0 = (2 : Int32)
    · skip
      refine g_icN A0 d4_10 (c2_ne_f hc20) (pc' := 13) rfl ?_
      refine g_lloadN A0 d4_13 rfl (pc' := 14) rfl ?_
      refine g_ldcL A0 hZ hown (hw _ (List.mem_of_getElem? (i := 30) rfl)) d4_14 (pc' := 17) rfl ?_
      refine g_land A0 d4_17 (pc' := 18) rfl ?_
      refine g_lconst A0 d4_18 (v := (0 : Int64)) rfl (pc' := 19) rfl ?_
      refine g_lcmp A0 d4_19 (pc' := 20) rfl ?_
      by_cases hc21 : (q1 &&& (2 : Int64)) = (0 : Int64)
      · skip
        refine g_ifY A0 d4_20 (c0_eq_t ((l_eq (q1 &&& (2 : Int64)) (0 : Int64)).mpr hc21)) (pc' := 29) rfl ?_
        refine g_dconst0 A0 d4_29 (pc' := 30) rfl ?_
        exact g_ret (Q := Q4 Z q0 q1 q2 h0 n0) A0 d4_30 Bd.notSynchronized Bd.returns rfl (Or.inr (Or.inr (Or.inl ⟨rfl, rfl, _, rfl⟩))) (by decide) (by decide) (by rw [e0]; exact ⟨(congrArg (fun z => some (Value.double z)) (by rw [own_r_rm4, if_neg hc19, if_pos hc20, if_pos hc21])), N0, rfl⟩)
      · skip
        refine g_ifN A0 d4_20 (c0_eq_f (fun q => hc21 ((l_eq (q1 &&& (2 : Int64)) (0 : Int64)).mp q))) (pc' := 23) rfl ?_
        refine g_ldcD A0 hZ hown (hw _ (List.mem_of_getElem? (i := 29) rfl)) d4_23 (pc' := 26) rfl ?_
        refine g_goto A0 d4_26 (pc' := 30) rfl ?_
        exact g_ret (Q := Q4 Z q0 q1 q2 h0 n0) A0 d4_30 Bd.notSynchronized Bd.returns rfl (Or.inr (Or.inr (Or.inl ⟨rfl, rfl, _, rfl⟩))) (by decide) (by decide) (by rw [e0]; exact ⟨(congrArg (fun z => some (Value.double z)) (by rw [own_r_rm4, if_neg hc19, if_pos hc20, if_neg hc21])), N0, rfl⟩)
    · skip
      refine g_icY A0 d4_10 (c2_ne_t hc20) (pc' := 31) rfl ?_
      refine g_dconst0 A0 d4_31 (pc' := 32) rfl ?_
      exact g_ret (Q := Q4 Z q0 q1 q2 h0 n0) A0 d4_32 Bd.notSynchronized Bd.returns rfl (Or.inr (Or.inr (Or.inl ⟨rfl, rfl, _, rfl⟩))) (by decide) (by decide) (by rw [e0]; exact ⟨(congrArg (fun z => some (Value.double z)) (by rw [own_r_rm4, if_neg hc19, if_neg hc20])), N0, rfl⟩)
def own_r_rm5 (q0 : Int32) (q1 : Int64) : Int32 := (if q0 = (3 : Int32) then (if q1 < (0 : Int64) then (-1 : Int32) else (1 : Int32)) else (0 : Int32))
theorem d5_0 : decode method_6_code 0 = .ok (.iload_n 0, 1) := by decide +kernel
theorem d5_1 : decode method_6_code 1 = .ok (.iconst 3, 1) := by decide +kernel
theorem d5_2 : decode method_6_code 2 = .ok (.if_icmp .ne 15, 3) := by decide +kernel
theorem d5_5 : decode method_6_code 5 = .ok (.lload_n 1, 1) := by decide +kernel
theorem d5_6 : decode method_6_code 6 = .ok (.lconst 0, 1) := by decide +kernel
theorem d5_7 : decode method_6_code 7 = .ok (.lcmp, 1) := by decide +kernel
theorem d5_8 : decode method_6_code 8 = .ok (.ifCond .ge 7, 3) := by decide +kernel
theorem d5_11 : decode method_6_code 11 = .ok (.iconst (-1), 1) := by decide +kernel
theorem d5_12 : decode method_6_code 12 = .ok (.goto 4, 3) := by decide +kernel
theorem d5_15 : decode method_6_code 15 = .ok (.iconst 1, 1) := by decide +kernel
theorem d5_16 : decode method_6_code 16 = .ok (.ireturn, 1) := by decide +kernel
theorem d5_17 : decode method_6_code 17 = .ok (.iconst 0, 1) := by decide +kernel
theorem d5_18 : decode method_6_code 18 = .ok (.ireturn, 1) := by decide +kernel
theorem ef22 (m : MethodId) (q0 : Int32) (q1 : Int64) : entryFrame m #[(.int q0), (.long q1)] 3 = mkF m 0 #[.val (.int q0), .val (.long q1), .second] [] := by first | (simp [entryFrame, mkF, argsToLocals, Value.category]; done) | rfl
def Q5 (Z : State) (q0 : Int32) (q1 : Int64) (h0 : Heap) (n0 : Nat) (v : Option Value) (h : Heap) (L : List Loc) : Prop := v = some (.int (own_r_rm5 q0 q1)) ∧ Fr n0 L ∧ h = h0
set_option maxRecDepth 65536 in
set_option maxHeartbeats 40000000 in
theorem rm5 (l : Launch) (Z : State) (a0 : Array Value) (hw : ∀ d ∈ tables_1, d.before a0 Z = true) (ws : List Jvm.Cond) (q0 : Int32) (q1 : Int64) (h0 : Heap) (n0 : Nat) (Z0 : n0 ≤ h0.size)  :
    MetFree l (⟨"com/example/hinterland/hinterland/DoubleDoubleComparePinLaw", "cls", "(IJ)I"⟩ : MethodName) (head1 (Jvm.Cond.code (⟨"com/example/hinterland/hinterland/DoubleDoubleComparePinLaw", "cls", "(IJ)I"⟩ : MethodName) method_6_code 3 (some .int) :: ws) ({ frames := 0, cells := 0, slots := 0, locals := 0 } : Room)) (fun a U => a = #[(.int q0), (.long q1)] ∧ Z.Warmed39 U.vm ∧ U.heap = h0) (fun _ _ _ _ _ => True) (fun _ U o U' => ∃ v L, o = .returned v ∧ Q5 Z q0 q1 h0 n0 v U'.heap L ∧ FrameEnd U o U' L 0 0) := by
  refine MetFree.of_bodySF (plainFor_of_name pn_0) hisR ?_
  intro p e s m args below meth c s₁ Bd hml0 hP hK
  obtain ⟨rfl, hZ, hh⟩ := hP
  have hx := Bd.exec
  have hby := Bd.bytes
  have hml : c.maxLocals = 3 := hml0
  have hown : s.vm.findClass "com/example/hinterland/hinterland/DoubleDoubleComparePinLaw" = some m.cls := findClass_of_methodNamed Bd.named
  have hnm := (name_of_methodNamed Bd.named Bd.method).1
  have X0 : Stand p l e ({ frames := 0, cells := 0, slots := 0, locals := 0 } : Room) s m #[(.int q0), (.long q1)] below meth c s₁ [] 0 0 := Stand.of_body Bd
  have e0 : s₁.heap = h0 := by rw [← hh, Bd.state]; rfl
  have N0 := Fr.nil n0
  have A0 := (⟨X0, hx, hby⟩ : Ax _ _ _ _ _ _ _ _ _ _ _ _ _ _ _)
  show Go p e below (fun U o => ∃ v L, o = .returned v ∧ Q5 Z q0 q1 h0 n0 v U.heap L ∧ FrameEnd s o U L 0 0) s₁ (entryFrame m #[(.int q0), (.long q1)] 3)
  refine Go.cast (ef22 m q0 q1) ?_
  refine g_iloadN A0 d5_0 rfl (pc' := 1) rfl ?_
  refine g_iconst A0 d5_1 (v := (3 : Int32)) rfl (pc' := 2) rfl ?_
  by_cases hc23 : q0 = (3 : Int32)
  · skip
    refine g_icN A0 d5_2 (c2_ne_f hc23) (pc' := 5) rfl ?_
    refine g_lloadN A0 d5_5 rfl (pc' := 6) rfl ?_
    refine g_lconst A0 d5_6 (v := (0 : Int64)) rfl (pc' := 7) rfl ?_
    refine g_lcmp A0 d5_7 (pc' := 8) rfl ?_
    by_cases hc24 : q1 < (0 : Int64)
    · skip
      refine g_ifN A0 d5_8 (c0_ge_f ((l_lt q1 (0 : Int64)).mpr hc24)) (pc' := 11) rfl ?_
      refine g_iconst A0 d5_11 (v := (-1 : Int32)) rfl (pc' := 12) rfl ?_
      refine g_goto A0 d5_12 (pc' := 16) rfl ?_
      exact g_ret (Q := Q5 Z q0 q1 h0 n0) A0 d5_16 Bd.notSynchronized Bd.returns rfl (Or.inl ⟨rfl, by simp, _, rfl⟩) (by decide) (by decide) (by rw [e0]; exact ⟨(congrArg (fun z => some (Value.int z)) (by rw [own_r_rm5, if_pos hc23, if_pos hc24])), N0, rfl⟩)
    · skip
      refine g_ifY A0 d5_8 (c0_ge_t (fun q => hc24 ((l_lt q1 (0 : Int64)).mp q))) (pc' := 15) rfl ?_
      refine g_iconst A0 d5_15 (v := (1 : Int32)) rfl (pc' := 16) rfl ?_
      exact g_ret (Q := Q5 Z q0 q1 h0 n0) A0 d5_16 Bd.notSynchronized Bd.returns rfl (Or.inl ⟨rfl, by simp, _, rfl⟩) (by decide) (by decide) (by rw [e0]; exact ⟨(congrArg (fun z => some (Value.int z)) (by rw [own_r_rm5, if_pos hc23, if_neg hc24])), N0, rfl⟩)
  · skip
    refine g_icY A0 d5_2 (c2_ne_t hc23) (pc' := 17) rfl ?_
    refine g_iconst A0 d5_17 (v := (0 : Int32)) rfl (pc' := 18) rfl ?_
    exact g_ret (Q := Q5 Z q0 q1 h0 n0) A0 d5_18 Bd.notSynchronized Bd.returns rfl (Or.inl ⟨rfl, by simp, _, rfl⟩) (by decide) (by decide) (by rw [e0]; exact ⟨(congrArg (fun z => some (Value.int z)) (by rw [own_r_rm5, if_neg hc23])), N0, rfl⟩)
def own_r_rm6 (q0 : Int32) (q1 : Int64) (q2 : Int32) (q3 : Int64) : Int64 := (if q0 < (2 : Int32) then ((q1 <<< (q2.toInt64 &&& 63)) + q3) else (0 : Int64))
theorem d6_0 : decode method_7_code 0 = .ok (.iload_n 0, 1) := by decide +kernel
theorem d6_1 : decode method_7_code 1 = .ok (.iconst 2, 1) := by decide +kernel
theorem d6_2 : decode method_7_code 2 = .ok (.if_icmp .ge 10, 3) := by decide +kernel
theorem d6_5 : decode method_7_code 5 = .ok (.lload_n 1, 1) := by decide +kernel
theorem d6_6 : decode method_7_code 6 = .ok (.iload_n 3, 1) := by decide +kernel
theorem d6_7 : decode method_7_code 7 = .ok (.lshl, 1) := by decide +kernel
theorem d6_8 : decode method_7_code 8 = .ok (.lload 4, 2) := by decide +kernel
theorem d6_10 : decode method_7_code 10 = .ok (.ladd, 1) := by decide +kernel
theorem d6_11 : decode method_7_code 11 = .ok (.lreturn, 1) := by decide +kernel
theorem d6_12 : decode method_7_code 12 = .ok (.lconst 0, 1) := by decide +kernel
theorem d6_13 : decode method_7_code 13 = .ok (.lreturn, 1) := by decide +kernel
theorem ef25 (m : MethodId) (q0 : Int32) (q1 : Int64) (q2 : Int32) (q3 : Int64) : entryFrame m #[(.int q0), (.long q1), (.int q2), (.long q3)] 6 = mkF m 0 #[.val (.int q0), .val (.long q1), .second, .val (.int q2), .val (.long q3), .second] [] := by first | (simp [entryFrame, mkF, argsToLocals, Value.category]; done) | rfl
def Q6 (Z : State) (q0 : Int32) (q1 : Int64) (q2 : Int32) (q3 : Int64) (h0 : Heap) (n0 : Nat) (v : Option Value) (h : Heap) (L : List Loc) : Prop := v = some (.long (own_r_rm6 q0 q1 q2 q3)) ∧ Fr n0 L ∧ h = h0
set_option maxRecDepth 65536 in
set_option maxHeartbeats 40000000 in
theorem rm6 (l : Launch) (Z : State) (a0 : Array Value) (hw : ∀ d ∈ tables_1, d.before a0 Z = true) (ws : List Jvm.Cond) (q0 : Int32) (q1 : Int64) (q2 : Int32) (q3 : Int64) (h0 : Heap) (n0 : Nat) (Z0 : n0 ≤ h0.size)  :
    MetFree l (⟨"com/example/hinterland/hinterland/DoubleDoubleComparePinLaw", "value", "(IJIJ)J"⟩ : MethodName) (head1 (Jvm.Cond.code (⟨"com/example/hinterland/hinterland/DoubleDoubleComparePinLaw", "value", "(IJIJ)J"⟩ : MethodName) method_7_code 6 (some .long) :: ws) ({ frames := 0, cells := 0, slots := 0, locals := 0 } : Room)) (fun a U => a = #[(.int q0), (.long q1), (.int q2), (.long q3)] ∧ Z.Warmed39 U.vm ∧ U.heap = h0) (fun _ _ _ _ _ => True) (fun _ U o U' => ∃ v L, o = .returned v ∧ Q6 Z q0 q1 q2 q3 h0 n0 v U'.heap L ∧ FrameEnd U o U' L 0 0) := by
  refine MetFree.of_bodySF (plainFor_of_name pn_0) hisR ?_
  intro p e s m args below meth c s₁ Bd hml0 hP hK
  obtain ⟨rfl, hZ, hh⟩ := hP
  have hx := Bd.exec
  have hby := Bd.bytes
  have hml : c.maxLocals = 6 := hml0
  have hown : s.vm.findClass "com/example/hinterland/hinterland/DoubleDoubleComparePinLaw" = some m.cls := findClass_of_methodNamed Bd.named
  have hnm := (name_of_methodNamed Bd.named Bd.method).1
  have X0 : Stand p l e ({ frames := 0, cells := 0, slots := 0, locals := 0 } : Room) s m #[(.int q0), (.long q1), (.int q2), (.long q3)] below meth c s₁ [] 0 0 := Stand.of_body Bd
  have e0 : s₁.heap = h0 := by rw [← hh, Bd.state]; rfl
  have N0 := Fr.nil n0
  have A0 := (⟨X0, hx, hby⟩ : Ax _ _ _ _ _ _ _ _ _ _ _ _ _ _ _)
  show Go p e below (fun U o => ∃ v L, o = .returned v ∧ Q6 Z q0 q1 q2 q3 h0 n0 v U.heap L ∧ FrameEnd s o U L 0 0) s₁ (entryFrame m #[(.int q0), (.long q1), (.int q2), (.long q3)] 6)
  refine Go.cast (ef25 m q0 q1 q2 q3) ?_
  refine g_iloadN A0 d6_0 rfl (pc' := 1) rfl ?_
  refine g_iconst A0 d6_1 (v := (2 : Int32)) rfl (pc' := 2) rfl ?_
  by_cases hc26 : q0 < (2 : Int32)
  · skip
    refine g_icN A0 d6_2 (c2_ge_f hc26) (pc' := 5) rfl ?_
    refine g_lloadN A0 d6_5 rfl (pc' := 6) rfl ?_
    refine g_iloadN A0 d6_6 rfl (pc' := 7) rfl ?_
    refine g_lshl A0 d6_7 (pc' := 8) rfl ?_
    refine g_lload A0 d6_8 rfl (pc' := 10) rfl ?_
    refine g_ladd A0 d6_10 (pc' := 11) rfl ?_
    exact g_ret (Q := Q6 Z q0 q1 q2 q3 h0 n0) A0 d6_11 Bd.notSynchronized Bd.returns rfl (Or.inr (Or.inl ⟨rfl, rfl, _, rfl⟩)) (by decide) (by decide) (by rw [e0]; exact ⟨(congrArg (fun z => some (Value.long z)) (by rw [own_r_rm6, if_pos hc26])), N0, rfl⟩)
  · skip
    refine g_icY A0 d6_2 (c2_ge_t hc26) (pc' := 12) rfl ?_
    refine g_lconst A0 d6_12 (v := (0 : Int64)) rfl (pc' := 13) rfl ?_
    exact g_ret (Q := Q6 Z q0 q1 q2 q3 h0 n0) A0 d6_13 Bd.notSynchronized Bd.returns rfl (Or.inr (Or.inl ⟨rfl, rfl, _, rfl⟩)) (by decide) (by decide) (by rw [e0]; exact ⟨(congrArg (fun z => some (Value.long z)) (by rw [own_r_rm6, if_neg hc26])), N0, rfl⟩)
def own_r_rm7 (x0 : UInt64) (x1 : UInt64) (x2 : UInt64) (x3 : UInt64) : Int32 := (if FP.dcmp x0 x2 = some .lt then (-1 : Int32) else (if FP.dcmp x0 x2 = some .gt then (1 : Int32) else (if FP.dcmp x1 x3 = some .lt then (-1 : Int32) else (if FP.dcmp x1 x3 = some .gt then (1 : Int32) else (0 : Int32)))))
theorem d7_0 : decode prog_9_method_19_code 0 = .ok (.dload_n 0, 1) := by decide +kernel
theorem d7_1 : decode prog_9_method_19_code 1 = .ok (.dload 4, 2) := by decide +kernel
theorem d7_3 : decode prog_9_method_19_code 3 = .ok (.dcmp .g, 1) := by decide +kernel
theorem d7_4 : decode prog_9_method_19_code 4 = .ok (.ifCond .ge 9, 3) := by decide +kernel
theorem d7_7 : decode prog_9_method_19_code 7 = .ok (.iconst (-1), 1) := by decide +kernel
theorem d7_8 : decode prog_9_method_19_code 8 = .ok (.istore 8, 2) := by decide +kernel
theorem d7_10 : decode prog_9_method_19_code 10 = .ok (.goto 45, 3) := by decide +kernel
theorem d7_13 : decode prog_9_method_19_code 13 = .ok (.dload_n 0, 1) := by decide +kernel
theorem d7_14 : decode prog_9_method_19_code 14 = .ok (.dload 4, 2) := by decide +kernel
theorem d7_16 : decode prog_9_method_19_code 16 = .ok (.dcmp .l, 1) := by decide +kernel
theorem d7_17 : decode prog_9_method_19_code 17 = .ok (.ifCond .le 9, 3) := by decide +kernel
theorem d7_20 : decode prog_9_method_19_code 20 = .ok (.iconst 1, 1) := by decide +kernel
theorem d7_21 : decode prog_9_method_19_code 21 = .ok (.istore 8, 2) := by decide +kernel
theorem d7_23 : decode prog_9_method_19_code 23 = .ok (.goto 32, 3) := by decide +kernel
theorem d7_26 : decode prog_9_method_19_code 26 = .ok (.dload_n 2, 1) := by decide +kernel
theorem d7_27 : decode prog_9_method_19_code 27 = .ok (.dload 6, 2) := by decide +kernel
theorem d7_29 : decode prog_9_method_19_code 29 = .ok (.dcmp .g, 1) := by decide +kernel
theorem d7_30 : decode prog_9_method_19_code 30 = .ok (.ifCond .ge 9, 3) := by decide +kernel
theorem d7_33 : decode prog_9_method_19_code 33 = .ok (.iconst (-1), 1) := by decide +kernel
theorem d7_34 : decode prog_9_method_19_code 34 = .ok (.istore 8, 2) := by decide +kernel
theorem d7_36 : decode prog_9_method_19_code 36 = .ok (.goto 19, 3) := by decide +kernel
theorem d7_39 : decode prog_9_method_19_code 39 = .ok (.dload_n 2, 1) := by decide +kernel
theorem d7_40 : decode prog_9_method_19_code 40 = .ok (.dload 6, 2) := by decide +kernel
theorem d7_42 : decode prog_9_method_19_code 42 = .ok (.dcmp .l, 1) := by decide +kernel
theorem d7_43 : decode prog_9_method_19_code 43 = .ok (.ifCond .le 9, 3) := by decide +kernel
theorem d7_46 : decode prog_9_method_19_code 46 = .ok (.iconst 1, 1) := by decide +kernel
theorem d7_47 : decode prog_9_method_19_code 47 = .ok (.istore 8, 2) := by decide +kernel
theorem d7_49 : decode prog_9_method_19_code 49 = .ok (.goto 6, 3) := by decide +kernel
theorem d7_52 : decode prog_9_method_19_code 52 = .ok (.iconst 0, 1) := by decide +kernel
theorem d7_53 : decode prog_9_method_19_code 53 = .ok (.istore 8, 2) := by decide +kernel
theorem d7_55 : decode prog_9_method_19_code 55 = .ok (.iload 8, 2) := by decide +kernel
theorem d7_57 : decode prog_9_method_19_code 57 = .ok (.ireturn, 1) := by decide +kernel
theorem pn_1 : plainName "com/example/hinterland/hinterland/DoubleDouble" = true := by first | (simp [plainName, overriddenIn]; done) | decide +kernel
theorem ef27 (m : MethodId) (x0 : UInt64) (x1 : UInt64) (x2 : UInt64) (x3 : UInt64) : entryFrame m #[(.double x0), (.double x1), (.double x2), (.double x3)] 9 = mkF m 0 #[.val (.double x0), .second, .val (.double x1), .second, .val (.double x2), .second, .val (.double x3), .second, .unset] [] := by first | (simp [entryFrame, mkF, argsToLocals, Value.category]; done) | rfl
def Q7 (Z : State) (x0 : UInt64) (x1 : UInt64) (x2 : UInt64) (x3 : UInt64) (h0 : Heap) (n0 : Nat) (v : Option Value) (h : Heap) (L : List Loc) : Prop := v = some (.int (own_r_rm7 x0 x1 x2 x3)) ∧ Fr n0 L ∧ h = h0
set_option maxRecDepth 65536 in
set_option maxHeartbeats 40000000 in
theorem rm7 (l : Launch) (Z : State) (a0 : Array Value) (hw : ∀ d ∈ tables_1, d.before a0 Z = true) (ws : List Jvm.Cond) (x0 : UInt64) (x1 : UInt64) (x2 : UInt64) (x3 : UInt64) (h0 : Heap) (n0 : Nat) (Z0 : n0 ≤ h0.size)  :
    MetFree l (⟨"com/example/hinterland/hinterland/DoubleDouble", "compare", "(DDDD)I"⟩ : MethodName) (head1 (Jvm.Cond.code (⟨"com/example/hinterland/hinterland/DoubleDouble", "compare", "(DDDD)I"⟩ : MethodName) prog_9_method_19_code 9 (some .int) :: ws) ({ frames := 0, cells := 0, slots := 0, locals := 0 } : Room)) (fun a U => a = #[(.double x0), (.double x1), (.double x2), (.double x3)] ∧ Z.Warmed39 U.vm ∧ U.heap = h0) (fun _ _ _ _ _ => True) (fun _ U o U' => ∃ v L, o = .returned v ∧ Q7 Z x0 x1 x2 x3 h0 n0 v U'.heap L ∧ FrameEnd U o U' L 0 0) := by
  refine MetFree.of_bodySF (plainFor_of_name pn_1) hisR ?_
  intro p e s m args below meth c s₁ Bd hml0 hP hK
  obtain ⟨rfl, hZ, hh⟩ := hP
  have hx := Bd.exec
  have hby := Bd.bytes
  have hml : c.maxLocals = 9 := hml0
  have hown : s.vm.findClass "com/example/hinterland/hinterland/DoubleDouble" = some m.cls := findClass_of_methodNamed Bd.named
  have hnm := (name_of_methodNamed Bd.named Bd.method).1
  have X0 : Stand p l e ({ frames := 0, cells := 0, slots := 0, locals := 0 } : Room) s m #[(.double x0), (.double x1), (.double x2), (.double x3)] below meth c s₁ [] 0 0 := Stand.of_body Bd
  have e0 : s₁.heap = h0 := by rw [← hh, Bd.state]; rfl
  have N0 := Fr.nil n0
  have A0 := (⟨X0, hx, hby⟩ : Ax _ _ _ _ _ _ _ _ _ _ _ _ _ _ _)
  show Go p e below (fun U o => ∃ v L, o = .returned v ∧ Q7 Z x0 x1 x2 x3 h0 n0 v U.heap L ∧ FrameEnd s o U L 0 0) s₁ (entryFrame m #[(.double x0), (.double x1), (.double x2), (.double x3)] 9)
  refine Go.cast (ef27 m x0 x1 x2 x3) ?_
  refine g_dloadN A0 d7_0 rfl (pc' := 1) rfl ?_
  refine g_dload A0 d7_1 rfl (pc' := 3) rfl ?_
  refine g_dcmp A0 d7_3 (pc' := 4) rfl ?_
  by_cases hc28 : FP.dcmp x0 x2 = some .lt
  · skip
    refine g_ifN A0 d7_4 (d_g_ge_f hc28) (pc' := 7) rfl ?_
    refine g_iconst A0 d7_7 (v := (-1 : Int32)) rfl (pc' := 8) rfl ?_
    refine g_istore A0 d7_8 (ls' := #[.val (.double x0), .second, .val (.double x1), .second, .val (.double x2), .second, .val (.double x3), .second, .val (.int (-1 : Int32))]) rfl (pc' := 10) rfl ?_
    refine g_goto A0 d7_10 (pc' := 55) rfl ?_
    refine g_iload A0 d7_55 rfl (pc' := 57) rfl ?_
    exact g_ret (Q := Q7 Z x0 x1 x2 x3 h0 n0) A0 d7_57 Bd.notSynchronized Bd.returns rfl (Or.inl ⟨rfl, by simp, _, rfl⟩) (by decide) (by decide) (by rw [e0]; exact ⟨(congrArg (fun z => some (Value.int z)) (by rw [own_r_rm7, if_pos hc28])), N0, rfl⟩)
  · skip
    refine g_ifY A0 d7_4 (d_g_ge_t hc28) (pc' := 13) rfl ?_
    refine g_dloadN A0 d7_13 rfl (pc' := 14) rfl ?_
    refine g_dload A0 d7_14 rfl (pc' := 16) rfl ?_
    refine g_dcmp A0 d7_16 (pc' := 17) rfl ?_
    by_cases hc29 : FP.dcmp x0 x2 = some .gt
    · skip
      refine g_ifN A0 d7_17 (d_l_le_f hc29) (pc' := 20) rfl ?_
      refine g_iconst A0 d7_20 (v := (1 : Int32)) rfl (pc' := 21) rfl ?_
      refine g_istore A0 d7_21 (ls' := #[.val (.double x0), .second, .val (.double x1), .second, .val (.double x2), .second, .val (.double x3), .second, .val (.int (1 : Int32))]) rfl (pc' := 23) rfl ?_
      refine g_goto A0 d7_23 (pc' := 55) rfl ?_
      refine g_iload A0 d7_55 rfl (pc' := 57) rfl ?_
      exact g_ret (Q := Q7 Z x0 x1 x2 x3 h0 n0) A0 d7_57 Bd.notSynchronized Bd.returns rfl (Or.inl ⟨rfl, by simp, _, rfl⟩) (by decide) (by decide) (by rw [e0]; exact ⟨(congrArg (fun z => some (Value.int z)) (by rw [own_r_rm7, if_neg hc28, if_pos hc29])), N0, rfl⟩)
    · skip
      refine g_ifY A0 d7_17 (d_l_le_t hc29) (pc' := 26) rfl ?_
      refine g_dloadN A0 d7_26 rfl (pc' := 27) rfl ?_
      refine g_dload A0 d7_27 rfl (pc' := 29) rfl ?_
      refine g_dcmp A0 d7_29 (pc' := 30) rfl ?_
      by_cases hc30 : FP.dcmp x1 x3 = some .lt
      · skip
        refine g_ifN A0 d7_30 (d_g_ge_f hc30) (pc' := 33) rfl ?_
        refine g_iconst A0 d7_33 (v := (-1 : Int32)) rfl (pc' := 34) rfl ?_
        refine g_istore A0 d7_34 (ls' := #[.val (.double x0), .second, .val (.double x1), .second, .val (.double x2), .second, .val (.double x3), .second, .val (.int (-1 : Int32))]) rfl (pc' := 36) rfl ?_
        refine g_goto A0 d7_36 (pc' := 55) rfl ?_
        refine g_iload A0 d7_55 rfl (pc' := 57) rfl ?_
        exact g_ret (Q := Q7 Z x0 x1 x2 x3 h0 n0) A0 d7_57 Bd.notSynchronized Bd.returns rfl (Or.inl ⟨rfl, by simp, _, rfl⟩) (by decide) (by decide) (by rw [e0]; exact ⟨(congrArg (fun z => some (Value.int z)) (by rw [own_r_rm7, if_neg hc28, if_neg hc29, if_pos hc30])), N0, rfl⟩)
      · skip
        refine g_ifY A0 d7_30 (d_g_ge_t hc30) (pc' := 39) rfl ?_
        refine g_dloadN A0 d7_39 rfl (pc' := 40) rfl ?_
        refine g_dload A0 d7_40 rfl (pc' := 42) rfl ?_
        refine g_dcmp A0 d7_42 (pc' := 43) rfl ?_
        by_cases hc31 : FP.dcmp x1 x3 = some .gt
        · skip
          refine g_ifN A0 d7_43 (d_l_le_f hc31) (pc' := 46) rfl ?_
          refine g_iconst A0 d7_46 (v := (1 : Int32)) rfl (pc' := 47) rfl ?_
          refine g_istore A0 d7_47 (ls' := #[.val (.double x0), .second, .val (.double x1), .second, .val (.double x2), .second, .val (.double x3), .second, .val (.int (1 : Int32))]) rfl (pc' := 49) rfl ?_
          refine g_goto A0 d7_49 (pc' := 55) rfl ?_
          refine g_iload A0 d7_55 rfl (pc' := 57) rfl ?_
          exact g_ret (Q := Q7 Z x0 x1 x2 x3 h0 n0) A0 d7_57 Bd.notSynchronized Bd.returns rfl (Or.inl ⟨rfl, by simp, _, rfl⟩) (by decide) (by decide) (by rw [e0]; exact ⟨(congrArg (fun z => some (Value.int z)) (by rw [own_r_rm7, if_neg hc28, if_neg hc29, if_neg hc30, if_pos hc31])), N0, rfl⟩)
        · skip
          refine g_ifY A0 d7_43 (d_l_le_t hc31) (pc' := 52) rfl ?_
          refine g_iconst A0 d7_52 (v := (0 : Int32)) rfl (pc' := 53) rfl ?_
          refine g_istore A0 d7_53 (ls' := #[.val (.double x0), .second, .val (.double x1), .second, .val (.double x2), .second, .val (.double x3), .second, .val (.int (0 : Int32))]) rfl (pc' := 55) rfl ?_
          refine g_iload A0 d7_55 rfl (pc' := 57) rfl ?_
          exact g_ret (Q := Q7 Z x0 x1 x2 x3 h0 n0) A0 d7_57 Bd.notSynchronized Bd.returns rfl (Or.inl ⟨rfl, by simp, _, rfl⟩) (by decide) (by decide) (by rw [e0]; exact ⟨(congrArg (fun z => some (Value.int z)) (by rw [own_r_rm7, if_neg hc28, if_neg hc29, if_neg hc30, if_neg hc31])), N0, rfl⟩)
theorem own_sh (x : Int64) {e : Nat} (h1 : 2 ≤ e) (h2 : e ≤ 9) : (x <<< ((Int32.ofNat e).toInt64 &&& 63)) = x * Int64.ofNat (2 ^ e) := by
  rcases own_e9 h1 h2 with rfl | rfl | rfl | rfl | rfl | rfl | rfl | rfl <;> exact shlmL (by decide)
theorem own_m (a : Int64) : (4503599627370496 ≤ (own_r_rm1 a).toInt ∧ (own_r_rm1 a).toInt < 9007199254740992) ∨ (-9007199254740992 < (own_r_rm1 a).toInt ∧ (own_r_rm1 a).toInt ≤ -4503599627370496) := by
  have h1 := c_maskL a 4503599627370495 52 (by decide) (by decide)
  have b1 := Int.emod_nonneg a.toInt (show ((2 ^ 52 : Nat) : Int) ≠ 0 by decide)
  have b2 := Int.emod_lt_of_pos a.toInt (show (0 : Int) < ((2 ^ 52 : Nat) : Int) by decide)
  have e1 : (4503599627370496 : Int64).toInt = 4503599627370496 := rfl
  have h2 := c_orL 4503599627370496 (a &&& 4503599627370495) 52 (by decide) 4503599627370496 (by decide) (by decide) (by omega) (by omega)
  have r1 := rng64 ((4503599627370496 : Int64) ||| (a &&& (4503599627370495 : Int64)))
  have h3 := c_lneg ((4503599627370496 : Int64) ||| (a &&& (4503599627370495 : Int64)))
  have r2 := rng64 (-((4503599627370496 : Int64) ||| (a &&& (4503599627370495 : Int64))))
  unfold own_r_rm1
  split
  · right; omega
  · left; omega
theorem own_rem (la D : Int64) (n : Nat) (hn : 0 < n) (hD : D.toInt = n) : 0 ≤ ((la &&& (9223372036854775807 : Int64)) % D).toInt ∧ ((la &&& (9223372036854775807 : Int64)) % D).toInt < n := by
  have h1 := c_maskL la 9223372036854775807 63 (by decide) (by decide)
  have b1 := Int.emod_nonneg la.toInt (show ((2 ^ 63 : Nat) : Int) ≠ 0 by decide)
  have h2 := (c_lrem (la &&& (9223372036854775807 : Int64)) D n hD).1 (by omega)
  rw [lrem_mod] at h2
  rw [h2]
  exact ⟨Int.emod_nonneg _ (by omega), Int.emod_lt_of_pos _ (by omega)⟩
theorem own_l0 (m la : Int64) {E : Int32} {n1 n2 : Nat} (h1 : ((((1 : Int64) <<< ((E - (1 : Int32)).toInt64 &&& 63)) - (1 : Int64)) + (1 : Int64)).toInt = n1) (h2 : ((((1 : Int64) <<< ((E - (2 : Int32)).toInt64 &&& 63)) - (1 : Int64)) + (1 : Int64)).toInt = n2) (p1 : 0 < n1) (p2 : 0 < n2) (q1 : n1 = 2 * n2) (q2 : n1 < 1000) :
    -(n1 : Int) < (own_r_rm2 m E la).toInt ∧ (own_r_rm2 m E la).toInt < n1 ∧ (m.toInt = 4503599627370496 → -(n2 : Int) < (own_r_rm2 m E la).toInt) ∧ (m.toInt = -4503599627370496 → (own_r_rm2 m E la).toInt < n2) := by
  have r1 := own_rem la _ n1 p1 h1
  have r2 := own_rem la _ n2 p2 h2
  have s1 := c_lneg ((la &&& (9223372036854775807 : Int64)) % ((((1 : Int64) <<< ((E - (1 : Int32)).toInt64 &&& 63)) - (1 : Int64)) + (1 : Int64)))
  have s2 := c_lneg ((la &&& (9223372036854775807 : Int64)) % ((((1 : Int64) <<< ((E - (2 : Int32)).toInt64 &&& 63)) - (1 : Int64)) + (1 : Int64)))
  have t1 := rng64 (-((la &&& (9223372036854775807 : Int64)) % ((((1 : Int64) <<< ((E - (1 : Int32)).toInt64 &&& 63)) - (1 : Int64)) + (1 : Int64))))
  have t2 := rng64 (-((la &&& (9223372036854775807 : Int64)) % ((((1 : Int64) <<< ((E - (2 : Int32)).toInt64 &&& 63)) - (1 : Int64)) + (1 : Int64))))
  have hA : (m = (4503599627370496 : Int64)) ↔ m.toInt = 4503599627370496 := by rw [← Int64.toInt_inj]; exact Iff.rfl
  have hB : (m = (-4503599627370496 : Int64)) ↔ m.toInt = -4503599627370496 := by rw [← Int64.toInt_inj]; exact Iff.rfl
  have hC : (m < (0 : Int64)) ↔ m.toInt < 0 := by rw [Int64.lt_iff_toInt_lt]; exact Iff.rfl
  unfold own_r_rm2
  generalize ((la &&& (9223372036854775807 : Int64)) % ((((1 : Int64) <<< ((E - (1 : Int32)).toInt64 &&& 63)) - (1 : Int64)) + (1 : Int64))) = u1 at *
  generalize ((la &&& (9223372036854775807 : Int64)) % ((((1 : Int64) <<< ((E - (2 : Int32)).toInt64 &&& 63)) - (1 : Int64)) + (1 : Int64))) = u2 at *
  simp only [hA, hB, hC]
  clear hA hB hC h1 h2
  repeat' split
  all_goals omega
theorem own_A (a la : Int64) {e : Nat} (h1 : 2 ≤ e) (h2 : e ≤ 9) : own_P (own_r_rm1 a).toInt e (own_r_rm2 (own_r_rm1 a) (Int32.ofNat e) la).toInt := by
  refine ⟨h1, h2, own_m a, ?_⟩
  rcases own_e9 h1 h2 with rfl | rfl | rfl | rfl | rfl | rfl | rfl | rfl
  · have := own_l0 (own_r_rm1 a) la (E := Int32.ofNat 2) (n1 := 2) (n2 := 1) (by decide) (by decide) (by decide) (by decide) (by decide) (by decide); simp only [Nat.reducePow]; omega
  · have := own_l0 (own_r_rm1 a) la (E := Int32.ofNat 3) (n1 := 4) (n2 := 2) (by decide) (by decide) (by decide) (by decide) (by decide) (by decide); simp only [Nat.reducePow]; omega
  · have := own_l0 (own_r_rm1 a) la (E := Int32.ofNat 4) (n1 := 8) (n2 := 4) (by decide) (by decide) (by decide) (by decide) (by decide) (by decide); simp only [Nat.reducePow]; omega
  · have := own_l0 (own_r_rm1 a) la (E := Int32.ofNat 5) (n1 := 16) (n2 := 8) (by decide) (by decide) (by decide) (by decide) (by decide) (by decide); simp only [Nat.reducePow]; omega
  · have := own_l0 (own_r_rm1 a) la (E := Int32.ofNat 6) (n1 := 32) (n2 := 16) (by decide) (by decide) (by decide) (by decide) (by decide) (by decide); simp only [Nat.reducePow]; omega
  · have := own_l0 (own_r_rm1 a) la (E := Int32.ofNat 7) (n1 := 64) (n2 := 32) (by decide) (by decide) (by decide) (by decide) (by decide) (by decide); simp only [Nat.reducePow]; omega
  · have := own_l0 (own_r_rm1 a) la (E := Int32.ofNat 8) (n1 := 128) (n2 := 64) (by decide) (by decide) (by decide) (by decide) (by decide) (by decide); simp only [Nat.reducePow]; omega
  · have := own_l0 (own_r_rm1 a) la (E := Int32.ofNat 9) (n1 := 256) (n2 := 128) (by decide) (by decide) (by decide) (by decide) (by decide) (by decide); simp only [Nat.reducePow]; omega
theorem own_hz {e : Nat} (h1 : 2 ≤ e) (h2 : e ≤ 9) : (((1 : Int64) <<< (((Int32.ofNat e) - (2 : Int32)).toInt64 &&& 63)) - (1 : Int64)) + (1 : Int64) ≠ 0 ∧ (((1 : Int64) <<< (((Int32.ofNat e) - (1 : Int32)).toInt64 &&& 63)) - (1 : Int64)) + (1 : Int64) ≠ 0 := by
  rcases own_e9 h1 h2 with rfl | rfl | rfl | rfl | rfl | rfl | rfl | rfl <;> decide
theorem own_hv {m l : Int64} {e : Nat} (P : own_P m.toInt e l.toInt) : (m <<< ((Int32.ofNat e).toInt64 &&& 63)).toInt = m.toInt * ((2 ^ e : Nat) : Int) ∧ ((m <<< ((Int32.ofNat e).toInt64 &&& 63)) + l).toInt = m.toInt * ((2 ^ e : Nat) : Int) + l.toInt := by
  obtain ⟨a1, a2, a3, a4, a5, -, -⟩ := P
  rw [own_sh m a1 a2]
  have h := c_lmul m (Int64.ofNat (2 ^ e))
  have r := rng64 (m * Int64.ofNat (2 ^ e))
  have h' := c_ladd (m * Int64.ofNat (2 ^ e)) l
  have r' := rng64 (m * Int64.ofNat (2 ^ e) + l)
  rcases own_e9 a1 a2 with rfl | rfl | rfl | rfl | rfl | rfl | rfl | rfl
  · rw [show (Int64.ofNat (2 ^ 2)).toInt = 4 from rfl] at h; simp only [Nat.reducePow] at *; omega
  · rw [show (Int64.ofNat (2 ^ 3)).toInt = 8 from rfl] at h; simp only [Nat.reducePow] at *; omega
  · rw [show (Int64.ofNat (2 ^ 4)).toInt = 16 from rfl] at h; simp only [Nat.reducePow] at *; omega
  · rw [show (Int64.ofNat (2 ^ 5)).toInt = 32 from rfl] at h; simp only [Nat.reducePow] at *; omega
  · rw [show (Int64.ofNat (2 ^ 6)).toInt = 64 from rfl] at h; simp only [Nat.reducePow] at *; omega
  · rw [show (Int64.ofNat (2 ^ 7)).toInt = 128 from rfl] at h; simp only [Nat.reducePow] at *; omega
  · rw [show (Int64.ofNat (2 ^ 8)).toInt = 256 from rfl] at h; simp only [Nat.reducePow] at *; omega
  · rw [show (Int64.ofNat (2 ^ 9)).toInt = 512 from rfl] at h; simp only [Nat.reducePow] at *; omega
/-- a scale: a power of two in reach -/
def own_Sc (s : UInt64) (k : Nat) : Prop := own_X 1 k s ∧ 1000 ≤ k ∧ k ≤ 1200 ∧ FP.dmul (9218868437227405312 : UInt64) s = 9218868437227405312 ∧ FP.dmul (18442240474082181120 : UInt64) s = 18442240474082181120
theorem own_sc3 : ∀ k : Fin 32, FP.dmul (9218868437227405312 : UInt64) (FP.l2d ((1 : Int64) <<< ((Int32.ofNat k.1).toInt64 &&& 63))) = 9218868437227405312 ∧ FP.dmul (18442240474082181120 : UInt64) (FP.l2d ((1 : Int64) <<< ((Int32.ofNat k.1).toInt64 &&& 63))) = 18442240474082181120 := by decide +kernel
theorem own_sc4 : ∀ k : Fin 32, FP.dmul (9218868437227405312 : UInt64) (FP.ddiv (4607182418800017408 : UInt64) (FP.l2d ((1 : Int64) <<< ((Int32.ofNat k.1).toInt64 &&& 63)))) = 9218868437227405312 ∧ FP.dmul (18442240474082181120 : UInt64) (FP.ddiv (4607182418800017408 : UInt64) (FP.l2d ((1 : Int64) <<< ((Int32.ofNat k.1).toInt64 &&& 63)))) = 18442240474082181120 := by decide +kernel
theorem own_sc5 : ∀ k : Fin 32, Fin64 (FP.ddiv (4607182418800017408 : UInt64) (FP.l2d ((1 : Int64) <<< ((Int32.ofNat k.1).toInt64 &&& 63)))) := by unfold Fin64; decide +kernel
theorem own_scA (k : Fin 32) : own_Sc (FP.l2d ((1 : Int64) <<< ((Int32.ofNat k.1).toInt64 &&& 63))) (1074 + k.1) := by
  refine ⟨⟨FP.Core.l2d_fin _, (own_sc1 k).trans (Int.one_mul _).symm⟩, by omega, by omega, own_sc3 k⟩
theorem own_scB (k : Fin 32) : own_Sc (FP.ddiv (4607182418800017408 : UInt64) (FP.l2d ((1 : Int64) <<< ((Int32.ofNat k.1).toInt64 &&& 63)))) (1074 - k.1) := by
  refine ⟨⟨fin64_core.mp (own_sc5 k), (own_sc2 k).trans (Int.one_mul _).symm⟩, by omega, by omega, own_sc4 k⟩
def own_H (H L : Int) : Prop := (H = 0 ∧ L = 0) ∨ ∃ (m : Int) (e : Nat), H = m * ((2 ^ e : Nat) : Int) ∧ own_P m e L
theorem own_monoH {H L H' L' : Int} (A : own_H H L) (B : own_H H' L') (h : H < H') : H + L < H' + L' := by
  rcases A with ⟨rfl, rfl⟩ | ⟨m, e, rfl, A⟩
  · rcases B with ⟨rfl, rfl⟩ | ⟨m', e', rfl, B⟩
    · exact absurd h (by omega)
    · rcases own_posP B with q | q <;> omega
  · rcases B with ⟨rfl, rfl⟩ | ⟨m', e', rfl, B⟩
    · rcases own_posP A with q | q <;> omega
    · exact own_mono A B h
def own_O (c : Int32) (v : Int64) (hi lo : UInt64) (k : Nat) : Prop :=
  (c = 0 ∧ ∃ H L : Int, own_X H k hi ∧ own_X L k lo ∧ v.toInt = H + L ∧ own_H H L) ∨ (c = 1 ∧ hi = 9218868437227405312 ∧ own_X 0 k lo) ∨ (c = -1 ∧ hi = 18442240474082181120 ∧ own_X 0 k lo)
theorem own_z0 : own_X 0 1074 (0 : UInt64) := ⟨fin64_core.mp (by unfold Fin64; decide), by decide +kernel⟩
theorem own_z0n : own_X 0 1074 (9223372036854775808 : UInt64) := ⟨fin64_core.mp (by unfold Fin64; decide), by decide +kernel⟩
theorem own_zs {a s : UInt64} {k : Nat} (h : own_X 0 1074 a) (S : own_Sc s k) : own_X 0 k (FP.dmul a s) := by
  obtain ⟨S1, S2, S3, -⟩ := S
  have q := own_mX h S1 (by decide) (by omega) (by omega)
  rw [show 1074 + k - 1074 = k by omega] at q
  exact q
theorem own_fs {m l : Int64} {e : Nat} {s : UInt64} {k : Nat} (P : own_P m.toInt e l.toInt) (S : own_Sc s k) : own_X (m.toInt * ((2 ^ e : Nat) : Int)) k (FP.dmul (FP.l2d (m <<< ((Int32.ofNat e).toInt64 &&& 63))) s) ∧ own_X l.toInt k (FP.dmul (FP.l2d l) s) := by
  obtain ⟨S1, S2, S3, -⟩ := S
  have hv := (own_hv P).1
  obtain ⟨a1, a2, a3, a4, a5, -, -⟩ := P
  have hl : l.toInt.natAbs < 2 ^ 53 := by
    rcases own_e9 a1 a2 with rfl | rfl | rfl | rfl | rfl | rfl | rfl | rfl <;> simp only [Nat.reducePow] at * <;> omega
  constructor
  · have q := own_mX (own_lX hv (by omega) (by omega)) S1 (by omega) (by omega) (by omega)
    rw [show 1074 + e + k - 1074 = k + e by omega] at q
    exact own_shift q
  · have q := own_mX (own_lX (a := l) (m := l.toInt) (e := 0) (by simp) hl (by omega)) S1 hl (by omega) (by omega)
    rw [show 1074 + 0 + k - 1074 = k by omega] at q
    exact q
theorem own_K (p : Int32) : (p &&& (3 : Int32)) = 0 ∨ (p &&& (3 : Int32)) = 1 ∨ (p &&& (3 : Int32)) = 2 ∨ (p &&& (3 : Int32)) = 3 := by
  have h := c_and p 3 (by decide)
  have e3 : (3 : Int32).toInt = 3 := rfl
  have k : (p &&& (3 : Int32)).toInt = 0 ∨ (p &&& (3 : Int32)).toInt = 1 ∨ (p &&& (3 : Int32)).toInt = 2 ∨ (p &&& (3 : Int32)).toInt = 3 := by omega
  rcases k with k | k | k | k
  · exact Or.inl (Int32.toInt_inj.mp k)
  · exact Or.inr (Or.inl (Int32.toInt_inj.mp k))
  · exact Or.inr (Or.inr (Or.inl (Int32.toInt_inj.mp k)))
  · exact Or.inr (Or.inr (Or.inr (Int32.toInt_inj.mp k)))
theorem own_op {K : Int32} (hK : K = 0 ∨ K = 1 ∨ K = 2 ∨ K = 3) (a la : Int64) {e : Nat} (h1 : 2 ≤ e) (h2 : e ≤ 9) {s : UInt64} {k : Nat} (S : own_Sc s k) :
    own_O (own_r_rm5 K a) (own_r_rm6 K (own_r_rm1 a) (Int32.ofNat e) (own_r_rm2 (own_r_rm1 a) (Int32.ofNat e) la)) (FP.dmul (own_r_rm3 K a (own_r_rm1 a) (Int32.ofNat e)) s) (FP.dmul (own_r_rm4 K a (own_r_rm2 (own_r_rm1 a) (Int32.ofNat e) la)) s) k := by
  have P := own_A a la h1 h2
  generalize own_r_rm1 a = m at *
  generalize own_r_rm2 m (Int32.ofNat e) la = l at *
  have fin : own_O 0 ((m <<< ((Int32.ofNat e).toInt64 &&& 63)) + l) (FP.dmul (FP.l2d (m <<< ((Int32.ofNat e).toInt64 &&& 63))) s) (FP.dmul (FP.l2d l) s) k :=
    Or.inl ⟨rfl, _, _, (own_fs P S).1, (own_fs P S).2, (own_hv P).2, Or.inr ⟨_, _, rfl, P⟩⟩
  rcases hK with rfl | rfl | rfl | rfl
  · exact fin
  · exact fin
  · refine Or.inl ⟨rfl, 0, 0, ?_, ?_, rfl, Or.inl ⟨rfl, rfl⟩⟩
    · refine own_zs ?_ S
      show own_X 0 1074 (if (a &&& (1 : Int64)) = (0 : Int64) then (0 : UInt64) else (9223372036854775808 : UInt64))
      split
      · exact own_z0
      · exact own_z0n
    · refine own_zs ?_ S
      show own_X 0 1074 (if (a &&& (2 : Int64)) = (0 : Int64) then (0 : UInt64) else (9223372036854775808 : UInt64))
      split
      · exact own_z0
      · exact own_z0n
  · have hl : own_X 0 k (FP.dmul (own_r_rm4 3 a l) s) := own_zs own_z0 S
    by_cases q : a < (0 : Int64)
    · refine Or.inr (Or.inr ⟨?_, ?_, hl⟩)
      · show (if a < (0 : Int64) then (-1 : Int32) else (1 : Int32)) = -1
        rw [if_pos q]
      · show FP.dmul (if a < (0 : Int64) then (18442240474082181120 : UInt64) else (9218868437227405312 : UInt64)) s = _
        rw [if_pos q]; exact S.2.2.2.2
    · refine Or.inr (Or.inl ⟨?_, ?_, hl⟩)
      · show (if a < (0 : Int64) then (-1 : Int32) else (1 : Int32)) = 1
        rw [if_neg q]
      · show FP.dmul (if a < (0 : Int64) then (18442240474082181120 : UInt64) else (9218868437227405312 : UInt64)) s = _
        rw [if_neg q]; exact S.2.2.2.1
theorem own_nn {c : Int32} {v : Int64} {hi lo : UInt64} {k : Nat} (A : own_O c v hi lo k) : NoNaN64 hi ∧ NoNaN64 lo := by
  rcases A with ⟨-, H, L, h1, h2, -⟩ | ⟨-, rfl, h2⟩ | ⟨-, rfl, h2⟩
  · exact ⟨(fin64_core.mpr h1.1).noNaN, (fin64_core.mpr h2.1).noNaN⟩
  · exact ⟨by unfold NoNaN64; decide, (fin64_core.mpr h2.1).noNaN⟩
  · exact ⟨by unfold NoNaN64; decide, (fin64_core.mpr h2.1).noNaN⟩
/-- the sign that the program makes of an int -/
def own_sg3 (r : Int32) : Int32 := if r < 0 then (-1 : Int32) else if 0 < r then (1 : Int32) else (0 : Int32)
def own_ex (ca cb : Int32) (va vb : Int64) : Int32 := if ca = cb then (if ca = 0 then (if va < vb then (-1 : Int32) else if vb < va then (1 : Int32) else (0 : Int32)) else (0 : Int32)) else (if ca < cb then (-1 : Int32) else (1 : Int32))
theorem own_end {ca cb : Int32} {va vb : Int64} {ah al bh bl : UInt64} {k : Nat} (A : own_O ca va ah al k) (B : own_O cb vb bh bl k) : own_sg3 (own_r_rm7 ah al bh bl) = own_ex ca cb va vb := by
  have nl : ¬ (some Ordering.gt = some Ordering.lt) := by decide
  have ii : FP.dcmp (9218868437227405312 : UInt64) (9218868437227405312 : UInt64) = some .eq := by decide +kernel
  have jj : FP.dcmp (18442240474082181120 : UInt64) (18442240474082181120 : UInt64) = some .eq := by decide +kernel
  have ij : FP.dcmp (9218868437227405312 : UInt64) (18442240474082181120 : UInt64) = some .gt := by decide +kernel
  have ji : FP.dcmp (18442240474082181120 : UInt64) (9218868437227405312 : UInt64) = some .lt := by decide +kernel
  have zz : compare (0 : Int) 0 = .eq := by decide
  rcases A with ⟨rfl, H, L, a1, a2, a3, a4⟩ | ⟨rfl, rfl, a2⟩ | ⟨rfl, rfl, a2⟩
  · rcases B with ⟨rfl, H', L', b1, b2, b3, b4⟩ | ⟨rfl, rfl, b2⟩ | ⟨rfl, rfl, b2⟩
    · have e1 := own_cX a1 b1
      have e2 := own_cX a2 b2
      unfold own_r_rm7 own_ex
      rw [e1, e2, if_pos rfl, if_pos rfl]
      simp only [Option.some.injEq, FP.Core.compare_lt_iff, FP.Core.compare_gt_iff, Int64.lt_iff_toInt_lt, a3, b3]
      rcases Int.lt_trichotomy H H' with q | q | q
      · have := own_monoH a4 b4 q
        rw [if_pos q, if_pos this]; decide
      · subst q
        rw [if_neg (Int.lt_irrefl _), if_neg (Int.lt_irrefl _)]
        rcases Int.lt_trichotomy L L' with r | r | r
        · rw [if_pos r, if_pos (by omega)]; decide
        · subst r
          rw [if_neg (Int.lt_irrefl _), if_neg (Int.lt_irrefl _), if_neg (Int.lt_irrefl _), if_neg (Int.lt_irrefl _)]; decide
        · rw [if_neg (by omega), if_pos r, if_neg (by omega), if_pos (by omega)]; decide
      · have := own_monoH b4 a4 q
        rw [if_neg (by omega), if_pos q, if_neg (by omega), if_pos this]; decide
    · have e := (FP.Core.fin_lt_inf a1.1).1
      unfold own_r_rm7
      rw [show FP.dcmp ah (9218868437227405312 : UInt64) = some .lt from e, if_pos rfl]; rfl
    · have e := (FP.Core.fin_lt_inf a1.1).2.1
      unfold own_r_rm7
      rw [show FP.dcmp ah (18442240474082181120 : UInt64) = some .gt from e, if_neg nl, if_pos rfl]; rfl
  · rcases B with ⟨rfl, H', L', b1, b2, b3, b4⟩ | ⟨rfl, rfl, b2⟩ | ⟨rfl, rfl, b2⟩
    · have e := (FP.Core.fin_lt_inf b1.1).2.2.1
      unfold own_r_rm7
      rw [show FP.dcmp (9218868437227405312 : UInt64) bh = some .gt from e, if_neg nl, if_pos rfl]; rfl
    · have e2 := own_cX a2 b2
      unfold own_r_rm7
      rw [ii, e2, zz]; rfl
    · unfold own_r_rm7
      rw [ij, if_neg nl, if_pos rfl]; rfl
  · rcases B with ⟨rfl, H', L', b1, b2, b3, b4⟩ | ⟨rfl, rfl, b2⟩ | ⟨rfl, rfl, b2⟩
    · have e := (FP.Core.fin_lt_inf b1.1).2.2.2
      unfold own_r_rm7
      rw [show FP.dcmp (18442240474082181120 : UInt64) bh = some .lt from e, if_pos rfl]; rfl
    · unfold own_r_rm7
      rw [ji, if_pos rfl]; rfl
    · have e2 := own_cX a2 b2
      unfold own_r_rm7
      rw [jj, e2, zz]; rfl
theorem own_E (x : Int32) : ∃ e : Nat, 2 ≤ e ∧ e ≤ 9 ∧ (2 : Int32) + (x &&& (7 : Int32)) = Int32.ofNat e := by
  have h := c_and x 7 (by decide)
  have e7 : (7 : Int32).toInt = 7 := rfl
  have e2 : (2 : Int32).toInt = 2 := rfl
  have a := c_iadd (2 : Int32) (x &&& (7 : Int32))
  have r := rng32 ((2 : Int32) + (x &&& (7 : Int32)))
  refine ⟨((2 : Int32) + (x &&& (7 : Int32))).toInt.toNat, by omega, by omega, ?_⟩
  apply Int32.toInt_inj.mp
  rw [Int32.toInt_ofNat_of_lt (by omega)]; omega
theorem own_F (x : Int32) : ∃ k : Fin 32, (x &&& (31 : Int32)) = Int32.ofNat k.1 := by
  have h := c_and x 31 (by decide)
  have e7 : (31 : Int32).toInt = 31 := rfl
  refine ⟨⟨(x &&& (31 : Int32)).toInt.toNat, by omega⟩, ?_⟩
  apply Int32.toInt_inj.mp
  rw [Int32.toInt_ofNat_of_lt (by show (x &&& (31 : Int32)).toInt.toNat < _; omega)]
  show _ = (((x &&& (31 : Int32)).toInt.toNat : Nat) : Int)
  omega
theorem ef32 (m : MethodId) (p0 : Int64) (p1 : Int64) (p2 : Int64) (p3 : Int64) (p4 : Int32) (p5 : Int32) : entryFrame m #[(.long p0), (.long p1), (.long p2), (.long p3), (.int p4), (.int p5)] maxLocals = mkF m 0 #[.val (.long p0), .second, .val (.long p1), .second, .val (.long p2), .second, .val (.long p3), .second, .val (.int p4), .val (.int p5), .unset, .unset, .unset, .unset, .unset, .unset, .unset, .unset, .unset, .unset, .unset, .unset, .unset, .unset, .unset, .unset, .unset, .unset, .unset, .unset, .unset, .unset, .unset, .unset, .unset, .unset, .unset, .unset, .unset, .unset, .unset, .unset, .unset, .unset, .unset, .unset, .unset] [] := by first | (simp [entryFrame, mkF, argsToLocals, Value.category, maxLocals]; done) | rfl
def Q0 (Z : State) (p0 : Int64) (p1 : Int64) (p2 : Int64) (p3 : Int64) (p4 : Int32) (p5 : Int32) (h0 : Heap) (n0 : Nat) (v : Option Value) (h : Heap) (L : List Loc) : Prop := v = some (.int 1) ∧ Fr n0 L
theorem pd_0 : parseMethodDescriptor "(J)J" = some ⟨[.long], some .long⟩ := by decide +kernel
theorem pd_1 : parseMethodDescriptor "(JIJ)J" = some ⟨[.long, .int, .long], some .long⟩ := by decide +kernel
theorem pd_2 : parseMethodDescriptor "(IJJI)D" = some ⟨[.int, .long, .long, .int], some .double⟩ := by decide +kernel
theorem pd_3 : parseMethodDescriptor "(IJJ)D" = some ⟨[.int, .long, .long], some .double⟩ := by decide +kernel
theorem pd_4 : parseMethodDescriptor "(IJ)I" = some ⟨[.int, .long], some .int⟩ := by decide +kernel
theorem pd_5 : parseMethodDescriptor "(IJIJ)J" = some ⟨[.int, .long, .int, .long], some .long⟩ := by decide +kernel
theorem pd_6 : parseMethodDescriptor "(DDDD)I" = some ⟨[.double, .double, .double, .double], some .int⟩ := by decide +kernel
set_option maxRecDepth 65536 in
set_option maxHeartbeats 40000000 in
theorem rm0 (l : Launch) (Z : State) (a0 : Array Value) (hw : ∀ d ∈ tables_1, d.before a0 Z = true) (ws : List Jvm.Cond) (p0 : Int64) (p1 : Int64) (p2 : Int64) (p3 : Int64) (p4 : Int32) (p5 : Int32) (h0 : Heap) (n0 : Nat) (Z0 : n0 ≤ h0.size)  :
    MetFree l x (head1 (Jvm.Cond.code x code maxLocals ret :: ws) room_1) (fun a U => a = #[(.long p0), (.long p1), (.long p2), (.long p3), (.int p4), (.int p5)] ∧ Z.Warmed39 U.vm ∧ U.heap = h0) (fun _ _ _ _ _ => True) (fun _ U o U' => ∃ v L, o = .returned v ∧ Q0 Z p0 p1 p2 p3 p4 p5 h0 n0 v U'.heap L ∧ FrameEnd U o U' L 0 0) := by
  refine MetFree.of_bodySF (plainFor_of_name pn_0) hisR ?_
  intro p e s m args below meth c s₁ Bd hml0 hP hK
  obtain ⟨rfl, hZ, hh⟩ := hP
  have hx := Bd.exec
  have hby := Bd.bytes
  have hml : c.maxLocals = 47 := hml0
  have hown : s.vm.findClass "com/example/hinterland/hinterland/DoubleDoubleComparePinLaw" = some m.cls := findClass_of_methodNamed Bd.named
  have hnm := (name_of_methodNamed Bd.named Bd.method).1
  have X0 : Stand p l e room_1 s m #[(.long p0), (.long p1), (.long p2), (.long p3), (.int p4), (.int p5)] below meth c s₁ [] 0 0 := Stand.of_body Bd
  have e0 : s₁.heap = h0 := by rw [← hh, Bd.state]; rfl
  have N0 := Fr.nil n0
  have A0 := (⟨X0, hx, hby⟩ : Ax _ _ _ _ _ _ _ _ _ _ _ _ _ _ _)
  show Go p e below (fun U o => ∃ v L, o = .returned v ∧ Q0 Z p0 p1 p2 p3 p4 p5 h0 n0 v U.heap L ∧ FrameEnd s o U L 0 0) s₁ (entryFrame m #[(.long p0), (.long p1), (.long p2), (.long p3), (.int p4), (.int p5)] maxLocals)
  refine Go.cast (ef32 m p0 p1 p2 p3 p4 p5) ?_
  refine g_iload A0 at_0 rfl (pc' := 2) rfl ?_
  refine g_iconst A0 at_2 (v := (3 : Int32)) rfl (pc' := 3) rfl ?_
  refine g_iand A0 at_3 (pc' := 4) rfl ?_
  refine g_istore A0 at_4 (ls' := #[.val (.long p0), .second, .val (.long p1), .second, .val (.long p2), .second, .val (.long p3), .second, .val (.int p4), .val (.int p5), .val (.int (p4 &&& (3 : Int32))), .unset, .unset, .unset, .unset, .unset, .unset, .unset, .unset, .unset, .unset, .unset, .unset, .unset, .unset, .unset, .unset, .unset, .unset, .unset, .unset, .unset, .unset, .unset, .unset, .unset, .unset, .unset, .unset, .unset, .unset, .unset, .unset, .unset, .unset, .unset, .unset]) rfl (pc' := 6) rfl ?_
  refine g_iload A0 at_6 rfl (pc' := 8) rfl ?_
  refine g_iconst A0 at_8 (v := (3 : Int32)) rfl (pc' := 9) rfl ?_
  refine g_iand A0 at_9 (pc' := 10) rfl ?_
  refine g_istore A0 at_10 (ls' := #[.val (.long p0), .second, .val (.long p1), .second, .val (.long p2), .second, .val (.long p3), .second, .val (.int p4), .val (.int p5), .val (.int (p4 &&& (3 : Int32))), .val (.int (p5 &&& (3 : Int32))), .unset, .unset, .unset, .unset, .unset, .unset, .unset, .unset, .unset, .unset, .unset, .unset, .unset, .unset, .unset, .unset, .unset, .unset, .unset, .unset, .unset, .unset, .unset, .unset, .unset, .unset, .unset, .unset, .unset, .unset, .unset, .unset, .unset, .unset, .unset]) rfl (pc' := 12) rfl ?_
  refine g_iconst A0 at_12 (v := (2 : Int32)) rfl (pc' := 13) rfl ?_
  refine g_iload A0 at_13 rfl (pc' := 15) rfl ?_
  refine g_iconst A0 at_15 (v := (2 : Int32)) rfl (pc' := 16) rfl ?_
  refine g_iushr A0 at_16 (pc' := 17) rfl ?_
  refine g_bipush A0 at_17 (v := (7 : Int32)) rfl (pc' := 19) rfl ?_
  refine g_iand A0 at_19 (pc' := 20) rfl ?_
  refine g_iadd A0 at_20 (pc' := 21) rfl ?_
  obtain ⟨ea, ea1, ea2, ea3⟩ := own_E (XT.ushr p4 (2 : Int32))
  rw [ea3]
  refine g_istore A0 at_21 (ls' := #[.val (.long p0), .second, .val (.long p1), .second, .val (.long p2), .second, .val (.long p3), .second, .val (.int p4), .val (.int p5), .val (.int (p4 &&& (3 : Int32))), .val (.int (p5 &&& (3 : Int32))), .val (.int (Int32.ofNat ea)), .unset, .unset, .unset, .unset, .unset, .unset, .unset, .unset, .unset, .unset, .unset, .unset, .unset, .unset, .unset, .unset, .unset, .unset, .unset, .unset, .unset, .unset, .unset, .unset, .unset, .unset, .unset, .unset, .unset, .unset, .unset, .unset, .unset, .unset]) rfl (pc' := 23) rfl ?_
  refine g_iload A0 at_23 rfl (pc' := 25) rfl ?_
  refine g_bipush A0 at_25 (v := (11 : Int32)) rfl (pc' := 27) rfl ?_
  refine g_iushr A0 at_27 (pc' := 28) rfl ?_
  refine g_iconst A0 at_28 (v := (1 : Int32)) rfl (pc' := 29) rfl ?_
  refine g_iand A0 at_29 (pc' := 30) rfl ?_
  by_cases hc33 : ((XT.ushr p5 (11 : Int32)) &&& (1 : Int32)) = 0
  · skip
    refine g_ifY A0 at_30 (c0_eq_t hc33) (pc' := 37) rfl ?_
    refine g_iconst A0 at_37 (v := (0 : Int32)) rfl (pc' := 38) rfl ?_
    refine g_istore A0 at_38 (ls' := #[.val (.long p0), .second, .val (.long p1), .second, .val (.long p2), .second, .val (.long p3), .second, .val (.int p4), .val (.int p5), .val (.int (p4 &&& (3 : Int32))), .val (.int (p5 &&& (3 : Int32))), .val (.int (Int32.ofNat ea)), .val (.int (0 : Int32)), .unset, .unset, .unset, .unset, .unset, .unset, .unset, .unset, .unset, .unset, .unset, .unset, .unset, .unset, .unset, .unset, .unset, .unset, .unset, .unset, .unset, .unset, .unset, .unset, .unset, .unset, .unset, .unset, .unset, .unset, .unset, .unset, .unset]) rfl (pc' := 40) rfl ?_
    refine g_iload A0 at_40 rfl (pc' := 42) rfl ?_
    refine g_ifY A0 at_42 (c0_eq_t (by decide)) (pc' := 49) rfl ?_
    refine g_lloadN A0 at_49 rfl (pc' := 50) rfl ?_
    refine g_lstore A0 at_50 (ls' := #[.val (.long p0), .second, .val (.long p1), .second, .val (.long p2), .second, .val (.long p3), .second, .val (.int p4), .val (.int p5), .val (.int (p4 &&& (3 : Int32))), .val (.int (p5 &&& (3 : Int32))), .val (.int (Int32.ofNat ea)), .val (.int (0 : Int32)), .val (.long p1), .second, .unset, .unset, .unset, .unset, .unset, .unset, .unset, .unset, .unset, .unset, .unset, .unset, .unset, .unset, .unset, .unset, .unset, .unset, .unset, .unset, .unset, .unset, .unset, .unset, .unset, .unset, .unset, .unset, .unset, .unset, .unset]) rfl (pc' := 52) rfl ?_
    refine g_iload A0 at_52 rfl (pc' := 54) rfl ?_
    refine g_ifY A0 at_54 (c0_eq_t (by decide)) (pc' := 62) rfl ?_
    refine g_iconst A0 at_62 (v := (2 : Int32)) rfl (pc' := 63) rfl ?_
    refine g_iload A0 at_63 rfl (pc' := 65) rfl ?_
    refine g_iconst A0 at_65 (v := (2 : Int32)) rfl (pc' := 66) rfl ?_
    refine g_iushr A0 at_66 (pc' := 67) rfl ?_
    refine g_bipush A0 at_67 (v := (7 : Int32)) rfl (pc' := 69) rfl ?_
    refine g_iand A0 at_69 (pc' := 70) rfl ?_
    refine g_iadd A0 at_70 (pc' := 71) rfl ?_
    obtain ⟨eb, eb1, eb2, eb3⟩ := own_E (XT.ushr p5 (2 : Int32))
    rw [eb3]
    refine g_istore A0 at_71 (ls' := #[.val (.long p0), .second, .val (.long p1), .second, .val (.long p2), .second, .val (.long p3), .second, .val (.int p4), .val (.int p5), .val (.int (p4 &&& (3 : Int32))), .val (.int (p5 &&& (3 : Int32))), .val (.int (Int32.ofNat ea)), .val (.int (0 : Int32)), .val (.long p1), .second, .val (.int (Int32.ofNat eb)), .unset, .unset, .unset, .unset, .unset, .unset, .unset, .unset, .unset, .unset, .unset, .unset, .unset, .unset, .unset, .unset, .unset, .unset, .unset, .unset, .unset, .unset, .unset, .unset, .unset, .unset, .unset, .unset, .unset, .unset]) rfl (pc' := 73) rfl ?_
    refine g_iload A0 at_73 rfl (pc' := 75) rfl ?_
    refine g_iconst A0 at_75 (v := (5 : Int32)) rfl (pc' := 76) rfl ?_
    refine g_iushr A0 at_76 (pc' := 77) rfl ?_
    refine g_bipush A0 at_77 (v := (31 : Int32)) rfl (pc' := 79) rfl ?_
    refine g_iand A0 at_79 (pc' := 80) rfl ?_
    obtain ⟨kf, hkf⟩ := own_F (XT.ushr p5 (5 : Int32))
    rw [hkf]
    refine g_istore A0 at_80 (ls' := #[.val (.long p0), .second, .val (.long p1), .second, .val (.long p2), .second, .val (.long p3), .second, .val (.int p4), .val (.int p5), .val (.int (p4 &&& (3 : Int32))), .val (.int (p5 &&& (3 : Int32))), .val (.int (Int32.ofNat ea)), .val (.int (0 : Int32)), .val (.long p1), .second, .val (.int (Int32.ofNat eb)), .val (.int (Int32.ofNat kf.1)), .unset, .unset, .unset, .unset, .unset, .unset, .unset, .unset, .unset, .unset, .unset, .unset, .unset, .unset, .unset, .unset, .unset, .unset, .unset, .unset, .unset, .unset, .unset, .unset, .unset, .unset, .unset, .unset, .unset]) rfl (pc' := 82) rfl ?_
    refine g_lconst A0 at_82 (v := (1 : Int64)) rfl (pc' := 83) rfl ?_
    refine g_iload A0 at_83 rfl (pc' := 85) rfl ?_
    refine g_lshl A0 at_85 (pc' := 86) rfl ?_
    refine g_l2d A0 at_86 (pc' := 87) rfl ?_
    refine g_dstore A0 at_87 (ls' := #[.val (.long p0), .second, .val (.long p1), .second, .val (.long p2), .second, .val (.long p3), .second, .val (.int p4), .val (.int p5), .val (.int (p4 &&& (3 : Int32))), .val (.int (p5 &&& (3 : Int32))), .val (.int (Int32.ofNat ea)), .val (.int (0 : Int32)), .val (.long p1), .second, .val (.int (Int32.ofNat eb)), .val (.int (Int32.ofNat kf.1)), .val (.double (FP.l2d ((1 : Int64) <<< ((Int32.ofNat kf.1).toInt64 &&& 63)))), .second, .unset, .unset, .unset, .unset, .unset, .unset, .unset, .unset, .unset, .unset, .unset, .unset, .unset, .unset, .unset, .unset, .unset, .unset, .unset, .unset, .unset, .unset, .unset, .unset, .unset, .unset, .unset]) rfl (pc' := 89) rfl ?_
    refine g_iload A0 at_89 rfl (pc' := 91) rfl ?_
    refine g_bipush A0 at_91 (v := (10 : Int32)) rfl (pc' := 93) rfl ?_
    refine g_iushr A0 at_93 (pc' := 94) rfl ?_
    refine g_iconst A0 at_94 (v := (1 : Int32)) rfl (pc' := 95) rfl ?_
    refine g_iand A0 at_95 (pc' := 96) rfl ?_
    obtain ⟨v34, hv34⟩ : ∃ z : UInt64, z = (if ((XT.ushr p5 (10 : Int32)) &&& (1 : Int32)) = 0 then (FP.ddiv (4607182418800017408 : UInt64) (FP.l2d ((1 : Int64) <<< ((Int32.ofNat kf.1).toInt64 &&& 63)))) else (FP.l2d ((1 : Int64) <<< ((Int32.ofNat kf.1).toInt64 &&& 63)))) := ⟨_, rfl⟩
    have sg35 : ∀ {P : State → Outcome → Prop}, Go p e below P s₁ (mkF m 108 #[.val (.long p0), .second, .val (.long p1), .second, .val (.long p2), .second, .val (.long p3), .second, .val (.int p4), .val (.int p5), .val (.int (p4 &&& (3 : Int32))), .val (.int (p5 &&& (3 : Int32))), .val (.int (Int32.ofNat ea)), .val (.int (0 : Int32)), .val (.long p1), .second, .val (.int (Int32.ofNat eb)), .val (.int (Int32.ofNat kf.1)), .val (.double (FP.l2d ((1 : Int64) <<< ((Int32.ofNat kf.1).toInt64 &&& 63)))), .second, .unset, .unset, .unset, .unset, .unset, .unset, .unset, .unset, .unset, .unset, .unset, .unset, .unset, .unset, .unset, .unset, .unset, .unset, .unset, .unset, .unset, .unset, .unset, .unset, .unset, .unset, .unset] [(.double v34)]) → Go p e below P s₁ (mkF m 96 #[.val (.long p0), .second, .val (.long p1), .second, .val (.long p2), .second, .val (.long p3), .second, .val (.int p4), .val (.int p5), .val (.int (p4 &&& (3 : Int32))), .val (.int (p5 &&& (3 : Int32))), .val (.int (Int32.ofNat ea)), .val (.int (0 : Int32)), .val (.long p1), .second, .val (.int (Int32.ofNat eb)), .val (.int (Int32.ofNat kf.1)), .val (.double (FP.l2d ((1 : Int64) <<< ((Int32.ofNat kf.1).toInt64 &&& 63)))), .second, .unset, .unset, .unset, .unset, .unset, .unset, .unset, .unset, .unset, .unset, .unset, .unset, .unset, .unset, .unset, .unset, .unset, .unset, .unset, .unset, .unset, .unset, .unset, .unset, .unset, .unset, .unset] [(.int ((XT.ushr p5 (10 : Int32)) &&& (1 : Int32)))]) := by
      intro P hr
      by_cases c36 : ((XT.ushr p5 (10 : Int32)) &&& (1 : Int32)) = 0
      · skip
        refine g_ifY A0 at_96 (c0_eq_t c36) (pc' := 104) rfl ?_
        refine g_dconst1 A0 at_104 (pc' := 105) rfl ?_
        refine g_dload A0 at_105 rfl (pc' := 107) rfl ?_
        refine g_ddiv A0 at_107 (own_sc5 kf).noNaN (pc' := 108) rfl ?_
        obtain rfl : v34 = (FP.ddiv (4607182418800017408 : UInt64) (FP.l2d ((1 : Int64) <<< ((Int32.ofNat kf.1).toInt64 &&& 63)))) := hv34.trans ((if_pos c36).trans rfl)
        exact hr
      · skip
        refine g_ifN A0 at_96 (c0_eq_f c36) (pc' := 99) rfl ?_
        refine g_dload A0 at_99 rfl (pc' := 101) rfl ?_
        refine g_goto A0 at_101 (pc' := 108) rfl ?_
        obtain rfl : v34 = (FP.l2d ((1 : Int64) <<< ((Int32.ofNat kf.1).toInt64 &&& 63))) := hv34.trans ((if_neg c36).trans rfl)
        exact hr
    refine sg35 ?_
    obtain ⟨kq, hS⟩ : ∃ k, own_Sc v34 k := by
      rw [hv34]
      split
      · first | exact ⟨_, own_scA kf⟩ | exact ⟨_, own_scB kf⟩
      · first | exact ⟨_, own_scB kf⟩ | exact ⟨_, own_scA kf⟩
    refine g_dstore A0 at_108 (ls' := #[.val (.long p0), .second, .val (.long p1), .second, .val (.long p2), .second, .val (.long p3), .second, .val (.int p4), .val (.int p5), .val (.int (p4 &&& (3 : Int32))), .val (.int (p5 &&& (3 : Int32))), .val (.int (Int32.ofNat ea)), .val (.int (0 : Int32)), .val (.long p1), .second, .val (.int (Int32.ofNat eb)), .val (.int (Int32.ofNat kf.1)), .val (.double (FP.l2d ((1 : Int64) <<< ((Int32.ofNat kf.1).toInt64 &&& 63)))), .second, .val (.double v34), .second, .unset, .unset, .unset, .unset, .unset, .unset, .unset, .unset, .unset, .unset, .unset, .unset, .unset, .unset, .unset, .unset, .unset, .unset, .unset, .unset, .unset, .unset, .unset, .unset, .unset]) rfl (pc' := 110) rfl ?_
    refine g_lloadN A0 at_110 rfl (pc' := 111) rfl ?_
    obtain ⟨vv37, _, ⟨T37, L37, k37, n37⟩, -, X37, ⟨L37c, hQ37, l37, y37, z37⟩, st37⟩ := Jvm.LawKit.callS X0 hx (y := (⟨"com/example/hinterland/hinterland/DoubleDoubleComparePinLaw", "mant", "(J)J"⟩ : MethodName)) hown (mvT hZ (hw _ (List.mem_of_getElem? (i := 0) rfl))) (mvT hZ (hw _ (List.mem_of_getElem? (i := 1) rfl))) (mvT hZ (hw _ (List.mem_of_getElem? (i := 2) rfl))) (mvT hZ (hw _ (List.mem_of_getElem? (i := 3) rfl))) (by decide) (backOf (W := 0) (rm1 l Z a0 hw [] p0 h0 n0 Z0 ) hZ (hw _ (List.mem_of_getElem? (i := 3) rfl)) (hw _ (List.mem_of_getElem? (i := 2) rfl)) (by decide) (by decide)) (g := (mkF m 111 #[.val (.long p0), .second, .val (.long p1), .second, .val (.long p2), .second, .val (.long p3), .second, .val (.int p4), .val (.int p5), .val (.int (p4 &&& (3 : Int32))), .val (.int (p5 &&& (3 : Int32))), .val (.int (Int32.ofNat ea)), .val (.int (0 : Int32)), .val (.long p1), .second, .val (.int (Int32.ofNat eb)), .val (.int (Int32.ofNat kf.1)), .val (.double (FP.l2d ((1 : Int64) <<< ((Int32.ofNat kf.1).toInt64 &&& 63)))), .second, .val (.double v34), .second, .unset, .unset, .unset, .unset, .unset, .unset, .unset, .unset, .unset, .unset, .unset, .unset, .unset, .unset, .unset, .unset, .unset, .unset, .unset, .unset, .unset, .unset, .unset, .unset, .unset] [(.long p0)])) rfl (by rw [hml]; rfl) (argsL := [(.long p0)]) (rest := []) (lenOf pd_0 rfl) rfl (by show 2 * 0 + _ ≤ _; exact Nat.le_of_eq rfl) (hb hby at_111) (fun _ _ => ⟨rfl, e0, (by decide : 0 + 0 ≤ _), (by decide : 0 + 0 ≤ _)⟩)
    have hQ37b : Q1 Z p0 h0 n0 vv37 T37.heap L37c := hQ37
    clear hQ37
    dsimp only [Pt.U, Pt.locs, Pt.cells, Pt.slots] at X37 l37 y37 z37 st37
    subst y37 z37
    obtain ⟨rfl, Nq38, Kq39⟩ := hQ37b
    have N40 : Fr n0 L37 := by rw [l37]; exact Fr.app N0 Nq38
    refine Go.of (g' := (mkF m 114 #[.val (.long p0), .second, .val (.long p1), .second, .val (.long p2), .second, .val (.long p3), .second, .val (.int p4), .val (.int p5), .val (.int (p4 &&& (3 : Int32))), .val (.int (p5 &&& (3 : Int32))), .val (.int (Int32.ofNat ea)), .val (.int (0 : Int32)), .val (.long p1), .second, .val (.int (Int32.ofNat eb)), .val (.int (Int32.ofNat kf.1)), .val (.double (FP.l2d ((1 : Int64) <<< ((Int32.ofNat kf.1).toInt64 &&& 63)))), .second, .val (.double v34), .second, .unset, .unset, .unset, .unset, .unset, .unset, .unset, .unset, .unset, .unset, .unset, .unset, .unset, .unset, .unset, .unset, .unset, .unset, .unset, .unset, .unset, .unset, .unset, .unset, .unset] [(.long (own_r_rm1 p0))])) st37 ?_
    have e41 : T37.heap = h0 := Kq39
    have A42 := (⟨X37, hx, hby⟩ : Ax _ _ _ _ _ _ _ _ _ _ _ _ _ _ _)
    refine g_lstore A42 at_114 (ls' := #[.val (.long p0), .second, .val (.long p1), .second, .val (.long p2), .second, .val (.long p3), .second, .val (.int p4), .val (.int p5), .val (.int (p4 &&& (3 : Int32))), .val (.int (p5 &&& (3 : Int32))), .val (.int (Int32.ofNat ea)), .val (.int (0 : Int32)), .val (.long p1), .second, .val (.int (Int32.ofNat eb)), .val (.int (Int32.ofNat kf.1)), .val (.double (FP.l2d ((1 : Int64) <<< ((Int32.ofNat kf.1).toInt64 &&& 63)))), .second, .val (.double v34), .second, .val (.long (own_r_rm1 p0)), .second, .unset, .unset, .unset, .unset, .unset, .unset, .unset, .unset, .unset, .unset, .unset, .unset, .unset, .unset, .unset, .unset, .unset, .unset, .unset, .unset, .unset, .unset, .unset]) rfl (pc' := 116) rfl ?_
    refine g_lload A42 at_116 rfl (pc' := 118) rfl ?_
    obtain ⟨vv43, _, ⟨T43, L43, k43, n43⟩, -, X43, ⟨L43c, hQ43, l43, y43, z43⟩, st43⟩ := Jvm.LawKit.callS X37 hx (y := (⟨"com/example/hinterland/hinterland/DoubleDoubleComparePinLaw", "mant", "(J)J"⟩ : MethodName)) hown (mvT hZ (hw _ (List.mem_of_getElem? (i := 0) rfl))) (mvT hZ (hw _ (List.mem_of_getElem? (i := 1) rfl))) (mvT hZ (hw _ (List.mem_of_getElem? (i := 2) rfl))) (mvT hZ (hw _ (List.mem_of_getElem? (i := 3) rfl))) (by decide) (backOf (W := 0) (rm1 l Z a0 hw [] p1 h0 n0 Z0 ) hZ (hw _ (List.mem_of_getElem? (i := 3) rfl)) (hw _ (List.mem_of_getElem? (i := 2) rfl)) (by decide) (by decide)) (g := (mkF m 118 #[.val (.long p0), .second, .val (.long p1), .second, .val (.long p2), .second, .val (.long p3), .second, .val (.int p4), .val (.int p5), .val (.int (p4 &&& (3 : Int32))), .val (.int (p5 &&& (3 : Int32))), .val (.int (Int32.ofNat ea)), .val (.int (0 : Int32)), .val (.long p1), .second, .val (.int (Int32.ofNat eb)), .val (.int (Int32.ofNat kf.1)), .val (.double (FP.l2d ((1 : Int64) <<< ((Int32.ofNat kf.1).toInt64 &&& 63)))), .second, .val (.double v34), .second, .val (.long (own_r_rm1 p0)), .second, .unset, .unset, .unset, .unset, .unset, .unset, .unset, .unset, .unset, .unset, .unset, .unset, .unset, .unset, .unset, .unset, .unset, .unset, .unset, .unset, .unset, .unset, .unset] [(.long p1)])) rfl (by rw [hml]; rfl) (argsL := [(.long p1)]) (rest := []) (lenOf pd_0 rfl) rfl (by show 2 * 0 + _ ≤ _; exact Nat.le_of_eq rfl) (hb hby at_118) (fun _ _ => ⟨rfl, e41, (by decide : 0 + 0 ≤ _), (by decide : 0 + 0 ≤ _)⟩)
    have hQ43b : Q1 Z p1 h0 n0 vv43 T43.heap L43c := hQ43
    clear hQ43
    dsimp only [Pt.U, Pt.locs, Pt.cells, Pt.slots] at X43 l43 y43 z43 st43
    subst y43 z43
    obtain ⟨rfl, Nq44, Kq45⟩ := hQ43b
    have N46 : Fr n0 L43 := by rw [l43]; exact Fr.app N40 Nq44
    refine Go.of (g' := (mkF m 121 #[.val (.long p0), .second, .val (.long p1), .second, .val (.long p2), .second, .val (.long p3), .second, .val (.int p4), .val (.int p5), .val (.int (p4 &&& (3 : Int32))), .val (.int (p5 &&& (3 : Int32))), .val (.int (Int32.ofNat ea)), .val (.int (0 : Int32)), .val (.long p1), .second, .val (.int (Int32.ofNat eb)), .val (.int (Int32.ofNat kf.1)), .val (.double (FP.l2d ((1 : Int64) <<< ((Int32.ofNat kf.1).toInt64 &&& 63)))), .second, .val (.double v34), .second, .val (.long (own_r_rm1 p0)), .second, .unset, .unset, .unset, .unset, .unset, .unset, .unset, .unset, .unset, .unset, .unset, .unset, .unset, .unset, .unset, .unset, .unset, .unset, .unset, .unset, .unset, .unset, .unset] [(.long (own_r_rm1 p1))])) st43 ?_
    have e47 : T43.heap = h0 := Kq45
    have A48 := (⟨X43, hx, hby⟩ : Ax _ _ _ _ _ _ _ _ _ _ _ _ _ _ _)
    refine g_lstore A48 at_121 (ls' := #[.val (.long p0), .second, .val (.long p1), .second, .val (.long p2), .second, .val (.long p3), .second, .val (.int p4), .val (.int p5), .val (.int (p4 &&& (3 : Int32))), .val (.int (p5 &&& (3 : Int32))), .val (.int (Int32.ofNat ea)), .val (.int (0 : Int32)), .val (.long p1), .second, .val (.int (Int32.ofNat eb)), .val (.int (Int32.ofNat kf.1)), .val (.double (FP.l2d ((1 : Int64) <<< ((Int32.ofNat kf.1).toInt64 &&& 63)))), .second, .val (.double v34), .second, .val (.long (own_r_rm1 p0)), .second, .val (.long (own_r_rm1 p1)), .second, .unset, .unset, .unset, .unset, .unset, .unset, .unset, .unset, .unset, .unset, .unset, .unset, .unset, .unset, .unset, .unset, .unset, .unset, .unset, .unset, .unset]) rfl (pc' := 123) rfl ?_
    refine g_lload A48 at_123 rfl (pc' := 125) rfl ?_
    refine g_iload A48 at_125 rfl (pc' := 127) rfl ?_
    refine g_lload A48 at_127 rfl (pc' := 129) rfl ?_
    have hp49 : (((1 : Int64) <<< (((Int32.ofNat ea) - (2 : Int32)).toInt64 &&& 63)) - (1 : Int64)) + (1 : Int64) ≠ 0 := (own_hz ea1 ea2).1
    have hp50 : (((1 : Int64) <<< (((Int32.ofNat ea) - (1 : Int32)).toInt64 &&& 63)) - (1 : Int64)) + (1 : Int64) ≠ 0 := (own_hz ea1 ea2).2
    obtain ⟨vv51, _, ⟨T51, L51, k51, n51⟩, -, X51, ⟨L51c, hQ51, l51, y51, z51⟩, st51⟩ := Jvm.LawKit.callS X43 hx (y := (⟨"com/example/hinterland/hinterland/DoubleDoubleComparePinLaw", "lowOf", "(JIJ)J"⟩ : MethodName)) hown (mvT hZ (hw _ (List.mem_of_getElem? (i := 6) rfl))) (mvT hZ (hw _ (List.mem_of_getElem? (i := 7) rfl))) (mvT hZ (hw _ (List.mem_of_getElem? (i := 2) rfl))) (mvT hZ (hw _ (List.mem_of_getElem? (i := 8) rfl))) (by decide) (backOf (W := 0) (rm2 l Z a0 hw [] (own_r_rm1 p0) (Int32.ofNat ea) p2 h0 n0 Z0 hp49 hp50) hZ (hw _ (List.mem_of_getElem? (i := 8) rfl)) (hw _ (List.mem_of_getElem? (i := 2) rfl)) (by decide) (by decide)) (g := (mkF m 129 #[.val (.long p0), .second, .val (.long p1), .second, .val (.long p2), .second, .val (.long p3), .second, .val (.int p4), .val (.int p5), .val (.int (p4 &&& (3 : Int32))), .val (.int (p5 &&& (3 : Int32))), .val (.int (Int32.ofNat ea)), .val (.int (0 : Int32)), .val (.long p1), .second, .val (.int (Int32.ofNat eb)), .val (.int (Int32.ofNat kf.1)), .val (.double (FP.l2d ((1 : Int64) <<< ((Int32.ofNat kf.1).toInt64 &&& 63)))), .second, .val (.double v34), .second, .val (.long (own_r_rm1 p0)), .second, .val (.long (own_r_rm1 p1)), .second, .unset, .unset, .unset, .unset, .unset, .unset, .unset, .unset, .unset, .unset, .unset, .unset, .unset, .unset, .unset, .unset, .unset, .unset, .unset, .unset, .unset] [(.long p2), (.int (Int32.ofNat ea)), (.long (own_r_rm1 p0))])) rfl (by rw [hml]; rfl) (argsL := [(.long (own_r_rm1 p0)), (.int (Int32.ofNat ea)), (.long p2)]) (rest := []) (lenOf pd_1 rfl) rfl (by show 2 * 0 + _ ≤ _; exact Nat.le_of_eq rfl) (hb hby at_129) (fun _ _ => ⟨rfl, e47, (by decide : 0 + 0 ≤ _), (by decide : 0 + 0 ≤ _)⟩)
    have hQ51b : Q2 Z (own_r_rm1 p0) (Int32.ofNat ea) p2 h0 n0 vv51 T51.heap L51c := hQ51
    clear hQ51
    dsimp only [Pt.U, Pt.locs, Pt.cells, Pt.slots] at X51 l51 y51 z51 st51
    subst y51 z51
    obtain ⟨rfl, Nq52, Kq53⟩ := hQ51b
    have N54 : Fr n0 L51 := by rw [l51]; exact Fr.app N46 Nq52
    refine Go.of (g' := (mkF m 132 #[.val (.long p0), .second, .val (.long p1), .second, .val (.long p2), .second, .val (.long p3), .second, .val (.int p4), .val (.int p5), .val (.int (p4 &&& (3 : Int32))), .val (.int (p5 &&& (3 : Int32))), .val (.int (Int32.ofNat ea)), .val (.int (0 : Int32)), .val (.long p1), .second, .val (.int (Int32.ofNat eb)), .val (.int (Int32.ofNat kf.1)), .val (.double (FP.l2d ((1 : Int64) <<< ((Int32.ofNat kf.1).toInt64 &&& 63)))), .second, .val (.double v34), .second, .val (.long (own_r_rm1 p0)), .second, .val (.long (own_r_rm1 p1)), .second, .unset, .unset, .unset, .unset, .unset, .unset, .unset, .unset, .unset, .unset, .unset, .unset, .unset, .unset, .unset, .unset, .unset, .unset, .unset, .unset, .unset] [(.long (own_r_rm2 (own_r_rm1 p0) (Int32.ofNat ea) p2))])) st51 ?_
    have e55 : T51.heap = h0 := Kq53
    have A56 := (⟨X51, hx, hby⟩ : Ax _ _ _ _ _ _ _ _ _ _ _ _ _ _ _)
    refine g_lstore A56 at_132 (ls' := #[.val (.long p0), .second, .val (.long p1), .second, .val (.long p2), .second, .val (.long p3), .second, .val (.int p4), .val (.int p5), .val (.int (p4 &&& (3 : Int32))), .val (.int (p5 &&& (3 : Int32))), .val (.int (Int32.ofNat ea)), .val (.int (0 : Int32)), .val (.long p1), .second, .val (.int (Int32.ofNat eb)), .val (.int (Int32.ofNat kf.1)), .val (.double (FP.l2d ((1 : Int64) <<< ((Int32.ofNat kf.1).toInt64 &&& 63)))), .second, .val (.double v34), .second, .val (.long (own_r_rm1 p0)), .second, .val (.long (own_r_rm1 p1)), .second, .val (.long (own_r_rm2 (own_r_rm1 p0) (Int32.ofNat ea) p2)), .second, .unset, .unset, .unset, .unset, .unset, .unset, .unset, .unset, .unset, .unset, .unset, .unset, .unset, .unset, .unset, .unset, .unset, .unset, .unset]) rfl (pc' := 134) rfl ?_
    refine g_lload A56 at_134 rfl (pc' := 136) rfl ?_
    refine g_iload A56 at_136 rfl (pc' := 138) rfl ?_
    refine g_lload A56 at_138 rfl (pc' := 140) rfl ?_
    have hp57 : (((1 : Int64) <<< (((Int32.ofNat eb) - (2 : Int32)).toInt64 &&& 63)) - (1 : Int64)) + (1 : Int64) ≠ 0 := (own_hz eb1 eb2).1
    have hp58 : (((1 : Int64) <<< (((Int32.ofNat eb) - (1 : Int32)).toInt64 &&& 63)) - (1 : Int64)) + (1 : Int64) ≠ 0 := (own_hz eb1 eb2).2
    obtain ⟨vv59, _, ⟨T59, L59, k59, n59⟩, -, X59, ⟨L59c, hQ59, l59, y59, z59⟩, st59⟩ := Jvm.LawKit.callS X51 hx (y := (⟨"com/example/hinterland/hinterland/DoubleDoubleComparePinLaw", "lowOf", "(JIJ)J"⟩ : MethodName)) hown (mvT hZ (hw _ (List.mem_of_getElem? (i := 6) rfl))) (mvT hZ (hw _ (List.mem_of_getElem? (i := 7) rfl))) (mvT hZ (hw _ (List.mem_of_getElem? (i := 2) rfl))) (mvT hZ (hw _ (List.mem_of_getElem? (i := 8) rfl))) (by decide) (backOf (W := 0) (rm2 l Z a0 hw [] (own_r_rm1 p1) (Int32.ofNat eb) p3 h0 n0 Z0 hp57 hp58) hZ (hw _ (List.mem_of_getElem? (i := 8) rfl)) (hw _ (List.mem_of_getElem? (i := 2) rfl)) (by decide) (by decide)) (g := (mkF m 140 #[.val (.long p0), .second, .val (.long p1), .second, .val (.long p2), .second, .val (.long p3), .second, .val (.int p4), .val (.int p5), .val (.int (p4 &&& (3 : Int32))), .val (.int (p5 &&& (3 : Int32))), .val (.int (Int32.ofNat ea)), .val (.int (0 : Int32)), .val (.long p1), .second, .val (.int (Int32.ofNat eb)), .val (.int (Int32.ofNat kf.1)), .val (.double (FP.l2d ((1 : Int64) <<< ((Int32.ofNat kf.1).toInt64 &&& 63)))), .second, .val (.double v34), .second, .val (.long (own_r_rm1 p0)), .second, .val (.long (own_r_rm1 p1)), .second, .val (.long (own_r_rm2 (own_r_rm1 p0) (Int32.ofNat ea) p2)), .second, .unset, .unset, .unset, .unset, .unset, .unset, .unset, .unset, .unset, .unset, .unset, .unset, .unset, .unset, .unset, .unset, .unset, .unset, .unset] [(.long p3), (.int (Int32.ofNat eb)), (.long (own_r_rm1 p1))])) rfl (by rw [hml]; rfl) (argsL := [(.long (own_r_rm1 p1)), (.int (Int32.ofNat eb)), (.long p3)]) (rest := []) (lenOf pd_1 rfl) rfl (by show 2 * 0 + _ ≤ _; exact Nat.le_of_eq rfl) (hb hby at_140) (fun _ _ => ⟨rfl, e55, (by decide : 0 + 0 ≤ _), (by decide : 0 + 0 ≤ _)⟩)
    have hQ59b : Q2 Z (own_r_rm1 p1) (Int32.ofNat eb) p3 h0 n0 vv59 T59.heap L59c := hQ59
    clear hQ59
    dsimp only [Pt.U, Pt.locs, Pt.cells, Pt.slots] at X59 l59 y59 z59 st59
    subst y59 z59
    obtain ⟨rfl, Nq60, Kq61⟩ := hQ59b
    have N62 : Fr n0 L59 := by rw [l59]; exact Fr.app N54 Nq60
    refine Go.of (g' := (mkF m 143 #[.val (.long p0), .second, .val (.long p1), .second, .val (.long p2), .second, .val (.long p3), .second, .val (.int p4), .val (.int p5), .val (.int (p4 &&& (3 : Int32))), .val (.int (p5 &&& (3 : Int32))), .val (.int (Int32.ofNat ea)), .val (.int (0 : Int32)), .val (.long p1), .second, .val (.int (Int32.ofNat eb)), .val (.int (Int32.ofNat kf.1)), .val (.double (FP.l2d ((1 : Int64) <<< ((Int32.ofNat kf.1).toInt64 &&& 63)))), .second, .val (.double v34), .second, .val (.long (own_r_rm1 p0)), .second, .val (.long (own_r_rm1 p1)), .second, .val (.long (own_r_rm2 (own_r_rm1 p0) (Int32.ofNat ea) p2)), .second, .unset, .unset, .unset, .unset, .unset, .unset, .unset, .unset, .unset, .unset, .unset, .unset, .unset, .unset, .unset, .unset, .unset, .unset, .unset] [(.long (own_r_rm2 (own_r_rm1 p1) (Int32.ofNat eb) p3))])) st59 ?_
    have e63 : T59.heap = h0 := Kq61
    have A64 := (⟨X59, hx, hby⟩ : Ax _ _ _ _ _ _ _ _ _ _ _ _ _ _ _)
    refine g_lstore A64 at_143 (ls' := #[.val (.long p0), .second, .val (.long p1), .second, .val (.long p2), .second, .val (.long p3), .second, .val (.int p4), .val (.int p5), .val (.int (p4 &&& (3 : Int32))), .val (.int (p5 &&& (3 : Int32))), .val (.int (Int32.ofNat ea)), .val (.int (0 : Int32)), .val (.long p1), .second, .val (.int (Int32.ofNat eb)), .val (.int (Int32.ofNat kf.1)), .val (.double (FP.l2d ((1 : Int64) <<< ((Int32.ofNat kf.1).toInt64 &&& 63)))), .second, .val (.double v34), .second, .val (.long (own_r_rm1 p0)), .second, .val (.long (own_r_rm1 p1)), .second, .val (.long (own_r_rm2 (own_r_rm1 p0) (Int32.ofNat ea) p2)), .second, .val (.long (own_r_rm2 (own_r_rm1 p1) (Int32.ofNat eb) p3)), .second, .unset, .unset, .unset, .unset, .unset, .unset, .unset, .unset, .unset, .unset, .unset, .unset, .unset, .unset, .unset, .unset, .unset]) rfl (pc' := 145) rfl ?_
    refine g_iload A64 at_145 rfl (pc' := 147) rfl ?_
    refine g_lloadN A64 at_147 rfl (pc' := 148) rfl ?_
    refine g_lload A64 at_148 rfl (pc' := 150) rfl ?_
    refine g_iload A64 at_150 rfl (pc' := 152) rfl ?_
    obtain ⟨vv65, _, ⟨T65, L65, k65, n65⟩, -, X65, ⟨L65c, hQ65, l65, y65, z65⟩, st65⟩ := Jvm.LawKit.callS X59 hx (y := (⟨"com/example/hinterland/hinterland/DoubleDoubleComparePinLaw", "highPart", "(IJJI)D"⟩ : MethodName)) hown (mvT hZ (hw _ (List.mem_of_getElem? (i := 11) rfl))) (mvT hZ (hw _ (List.mem_of_getElem? (i := 12) rfl))) (mvT hZ (hw _ (List.mem_of_getElem? (i := 2) rfl))) (mvT hZ (hw _ (List.mem_of_getElem? (i := 13) rfl))) (by decide) (backOf (W := 0) (rm3 l Z a0 hw [] (p4 &&& (3 : Int32)) p0 (own_r_rm1 p0) (Int32.ofNat ea) h0 n0 Z0 ) hZ (hw _ (List.mem_of_getElem? (i := 13) rfl)) (hw _ (List.mem_of_getElem? (i := 2) rfl)) (by decide) (by decide)) (g := (mkF m 152 #[.val (.long p0), .second, .val (.long p1), .second, .val (.long p2), .second, .val (.long p3), .second, .val (.int p4), .val (.int p5), .val (.int (p4 &&& (3 : Int32))), .val (.int (p5 &&& (3 : Int32))), .val (.int (Int32.ofNat ea)), .val (.int (0 : Int32)), .val (.long p1), .second, .val (.int (Int32.ofNat eb)), .val (.int (Int32.ofNat kf.1)), .val (.double (FP.l2d ((1 : Int64) <<< ((Int32.ofNat kf.1).toInt64 &&& 63)))), .second, .val (.double v34), .second, .val (.long (own_r_rm1 p0)), .second, .val (.long (own_r_rm1 p1)), .second, .val (.long (own_r_rm2 (own_r_rm1 p0) (Int32.ofNat ea) p2)), .second, .val (.long (own_r_rm2 (own_r_rm1 p1) (Int32.ofNat eb) p3)), .second, .unset, .unset, .unset, .unset, .unset, .unset, .unset, .unset, .unset, .unset, .unset, .unset, .unset, .unset, .unset, .unset, .unset] [(.int (Int32.ofNat ea)), (.long (own_r_rm1 p0)), (.long p0), (.int (p4 &&& (3 : Int32)))])) rfl (by rw [hml]; rfl) (argsL := [(.int (p4 &&& (3 : Int32))), (.long p0), (.long (own_r_rm1 p0)), (.int (Int32.ofNat ea))]) (rest := []) (lenOf pd_2 rfl) rfl (by show 2 * 0 + _ ≤ _; exact Nat.le_of_eq rfl) (hb hby at_152) (fun _ _ => ⟨rfl, e63, (by decide : 0 + 0 ≤ _), (by decide : 0 + 0 ≤ _)⟩)
    have hQ65b : Q3 Z (p4 &&& (3 : Int32)) p0 (own_r_rm1 p0) (Int32.ofNat ea) h0 n0 vv65 T65.heap L65c := hQ65
    clear hQ65
    dsimp only [Pt.U, Pt.locs, Pt.cells, Pt.slots] at X65 l65 y65 z65 st65
    subst y65 z65
    obtain ⟨rfl, Nq66, Kq67⟩ := hQ65b
    have N68 : Fr n0 L65 := by rw [l65]; exact Fr.app N62 Nq66
    refine Go.of (g' := (mkF m 155 #[.val (.long p0), .second, .val (.long p1), .second, .val (.long p2), .second, .val (.long p3), .second, .val (.int p4), .val (.int p5), .val (.int (p4 &&& (3 : Int32))), .val (.int (p5 &&& (3 : Int32))), .val (.int (Int32.ofNat ea)), .val (.int (0 : Int32)), .val (.long p1), .second, .val (.int (Int32.ofNat eb)), .val (.int (Int32.ofNat kf.1)), .val (.double (FP.l2d ((1 : Int64) <<< ((Int32.ofNat kf.1).toInt64 &&& 63)))), .second, .val (.double v34), .second, .val (.long (own_r_rm1 p0)), .second, .val (.long (own_r_rm1 p1)), .second, .val (.long (own_r_rm2 (own_r_rm1 p0) (Int32.ofNat ea) p2)), .second, .val (.long (own_r_rm2 (own_r_rm1 p1) (Int32.ofNat eb) p3)), .second, .unset, .unset, .unset, .unset, .unset, .unset, .unset, .unset, .unset, .unset, .unset, .unset, .unset, .unset, .unset, .unset, .unset] [(.double (own_r_rm3 (p4 &&& (3 : Int32)) p0 (own_r_rm1 p0) (Int32.ofNat ea)))])) st65 ?_
    have e69 : T65.heap = h0 := Kq67
    have A70 := (⟨X65, hx, hby⟩ : Ax _ _ _ _ _ _ _ _ _ _ _ _ _ _ _)
    refine g_dload A70 at_155 rfl (pc' := 157) rfl ?_
    refine g_dmul A70 at_157 (own_nn (own_op (own_K p4) p0 p2 ea1 ea2 hS)).1 (pc' := 158) rfl ?_
    refine g_dstore A70 at_158 (ls' := #[.val (.long p0), .second, .val (.long p1), .second, .val (.long p2), .second, .val (.long p3), .second, .val (.int p4), .val (.int p5), .val (.int (p4 &&& (3 : Int32))), .val (.int (p5 &&& (3 : Int32))), .val (.int (Int32.ofNat ea)), .val (.int (0 : Int32)), .val (.long p1), .second, .val (.int (Int32.ofNat eb)), .val (.int (Int32.ofNat kf.1)), .val (.double (FP.l2d ((1 : Int64) <<< ((Int32.ofNat kf.1).toInt64 &&& 63)))), .second, .val (.double v34), .second, .val (.long (own_r_rm1 p0)), .second, .val (.long (own_r_rm1 p1)), .second, .val (.long (own_r_rm2 (own_r_rm1 p0) (Int32.ofNat ea) p2)), .second, .val (.long (own_r_rm2 (own_r_rm1 p1) (Int32.ofNat eb) p3)), .second, .val (.double (FP.dmul (own_r_rm3 (p4 &&& (3 : Int32)) p0 (own_r_rm1 p0) (Int32.ofNat ea)) v34)), .second, .unset, .unset, .unset, .unset, .unset, .unset, .unset, .unset, .unset, .unset, .unset, .unset, .unset, .unset, .unset]) rfl (pc' := 160) rfl ?_
    refine g_iload A70 at_160 rfl (pc' := 162) rfl ?_
    refine g_lloadN A70 at_162 rfl (pc' := 163) rfl ?_
    refine g_lload A70 at_163 rfl (pc' := 165) rfl ?_
    obtain ⟨vv71, _, ⟨T71, L71, k71, n71⟩, -, X71, ⟨L71c, hQ71, l71, y71, z71⟩, st71⟩ := Jvm.LawKit.callS X65 hx (y := (⟨"com/example/hinterland/hinterland/DoubleDoubleComparePinLaw", "lowPart", "(IJJ)D"⟩ : MethodName)) hown (mvT hZ (hw _ (List.mem_of_getElem? (i := 15) rfl))) (mvT hZ (hw _ (List.mem_of_getElem? (i := 16) rfl))) (mvT hZ (hw _ (List.mem_of_getElem? (i := 2) rfl))) (mvT hZ (hw _ (List.mem_of_getElem? (i := 17) rfl))) (by decide) (backOf (W := 0) (rm4 l Z a0 hw [] (p4 &&& (3 : Int32)) p0 (own_r_rm2 (own_r_rm1 p0) (Int32.ofNat ea) p2) h0 n0 Z0 ) hZ (hw _ (List.mem_of_getElem? (i := 17) rfl)) (hw _ (List.mem_of_getElem? (i := 2) rfl)) (by decide) (by decide)) (g := (mkF m 165 #[.val (.long p0), .second, .val (.long p1), .second, .val (.long p2), .second, .val (.long p3), .second, .val (.int p4), .val (.int p5), .val (.int (p4 &&& (3 : Int32))), .val (.int (p5 &&& (3 : Int32))), .val (.int (Int32.ofNat ea)), .val (.int (0 : Int32)), .val (.long p1), .second, .val (.int (Int32.ofNat eb)), .val (.int (Int32.ofNat kf.1)), .val (.double (FP.l2d ((1 : Int64) <<< ((Int32.ofNat kf.1).toInt64 &&& 63)))), .second, .val (.double v34), .second, .val (.long (own_r_rm1 p0)), .second, .val (.long (own_r_rm1 p1)), .second, .val (.long (own_r_rm2 (own_r_rm1 p0) (Int32.ofNat ea) p2)), .second, .val (.long (own_r_rm2 (own_r_rm1 p1) (Int32.ofNat eb) p3)), .second, .val (.double (FP.dmul (own_r_rm3 (p4 &&& (3 : Int32)) p0 (own_r_rm1 p0) (Int32.ofNat ea)) v34)), .second, .unset, .unset, .unset, .unset, .unset, .unset, .unset, .unset, .unset, .unset, .unset, .unset, .unset, .unset, .unset] [(.long (own_r_rm2 (own_r_rm1 p0) (Int32.ofNat ea) p2)), (.long p0), (.int (p4 &&& (3 : Int32)))])) rfl (by rw [hml]; rfl) (argsL := [(.int (p4 &&& (3 : Int32))), (.long p0), (.long (own_r_rm2 (own_r_rm1 p0) (Int32.ofNat ea) p2))]) (rest := []) (lenOf pd_3 rfl) rfl (by show 2 * 0 + _ ≤ _; exact Nat.le_of_eq rfl) (hb hby at_165) (fun _ _ => ⟨rfl, e69, (by decide : 0 + 0 ≤ _), (by decide : 0 + 0 ≤ _)⟩)
    have hQ71b : Q4 Z (p4 &&& (3 : Int32)) p0 (own_r_rm2 (own_r_rm1 p0) (Int32.ofNat ea) p2) h0 n0 vv71 T71.heap L71c := hQ71
    clear hQ71
    dsimp only [Pt.U, Pt.locs, Pt.cells, Pt.slots] at X71 l71 y71 z71 st71
    subst y71 z71
    obtain ⟨rfl, Nq72, Kq73⟩ := hQ71b
    have N74 : Fr n0 L71 := by rw [l71]; exact Fr.app N68 Nq72
    refine Go.of (g' := (mkF m 168 #[.val (.long p0), .second, .val (.long p1), .second, .val (.long p2), .second, .val (.long p3), .second, .val (.int p4), .val (.int p5), .val (.int (p4 &&& (3 : Int32))), .val (.int (p5 &&& (3 : Int32))), .val (.int (Int32.ofNat ea)), .val (.int (0 : Int32)), .val (.long p1), .second, .val (.int (Int32.ofNat eb)), .val (.int (Int32.ofNat kf.1)), .val (.double (FP.l2d ((1 : Int64) <<< ((Int32.ofNat kf.1).toInt64 &&& 63)))), .second, .val (.double v34), .second, .val (.long (own_r_rm1 p0)), .second, .val (.long (own_r_rm1 p1)), .second, .val (.long (own_r_rm2 (own_r_rm1 p0) (Int32.ofNat ea) p2)), .second, .val (.long (own_r_rm2 (own_r_rm1 p1) (Int32.ofNat eb) p3)), .second, .val (.double (FP.dmul (own_r_rm3 (p4 &&& (3 : Int32)) p0 (own_r_rm1 p0) (Int32.ofNat ea)) v34)), .second, .unset, .unset, .unset, .unset, .unset, .unset, .unset, .unset, .unset, .unset, .unset, .unset, .unset, .unset, .unset] [(.double (own_r_rm4 (p4 &&& (3 : Int32)) p0 (own_r_rm2 (own_r_rm1 p0) (Int32.ofNat ea) p2)))])) st71 ?_
    have e75 : T71.heap = h0 := Kq73
    have A76 := (⟨X71, hx, hby⟩ : Ax _ _ _ _ _ _ _ _ _ _ _ _ _ _ _)
    refine g_dload A76 at_168 rfl (pc' := 170) rfl ?_
    refine g_dmul A76 at_170 (own_nn (own_op (own_K p4) p0 p2 ea1 ea2 hS)).2 (pc' := 171) rfl ?_
    refine g_dstore A76 at_171 (ls' := #[.val (.long p0), .second, .val (.long p1), .second, .val (.long p2), .second, .val (.long p3), .second, .val (.int p4), .val (.int p5), .val (.int (p4 &&& (3 : Int32))), .val (.int (p5 &&& (3 : Int32))), .val (.int (Int32.ofNat ea)), .val (.int (0 : Int32)), .val (.long p1), .second, .val (.int (Int32.ofNat eb)), .val (.int (Int32.ofNat kf.1)), .val (.double (FP.l2d ((1 : Int64) <<< ((Int32.ofNat kf.1).toInt64 &&& 63)))), .second, .val (.double v34), .second, .val (.long (own_r_rm1 p0)), .second, .val (.long (own_r_rm1 p1)), .second, .val (.long (own_r_rm2 (own_r_rm1 p0) (Int32.ofNat ea) p2)), .second, .val (.long (own_r_rm2 (own_r_rm1 p1) (Int32.ofNat eb) p3)), .second, .val (.double (FP.dmul (own_r_rm3 (p4 &&& (3 : Int32)) p0 (own_r_rm1 p0) (Int32.ofNat ea)) v34)), .second, .val (.double (FP.dmul (own_r_rm4 (p4 &&& (3 : Int32)) p0 (own_r_rm2 (own_r_rm1 p0) (Int32.ofNat ea) p2)) v34)), .second, .unset, .unset, .unset, .unset, .unset, .unset, .unset, .unset, .unset, .unset, .unset, .unset, .unset]) rfl (pc' := 173) rfl ?_
    refine g_iload A76 at_173 rfl (pc' := 175) rfl ?_
    refine g_lload A76 at_175 rfl (pc' := 177) rfl ?_
    refine g_lload A76 at_177 rfl (pc' := 179) rfl ?_
    refine g_iload A76 at_179 rfl (pc' := 181) rfl ?_
    obtain ⟨vv77, _, ⟨T77, L77, k77, n77⟩, -, X77, ⟨L77c, hQ77, l77, y77, z77⟩, st77⟩ := Jvm.LawKit.callS X71 hx (y := (⟨"com/example/hinterland/hinterland/DoubleDoubleComparePinLaw", "highPart", "(IJJI)D"⟩ : MethodName)) hown (mvT hZ (hw _ (List.mem_of_getElem? (i := 11) rfl))) (mvT hZ (hw _ (List.mem_of_getElem? (i := 12) rfl))) (mvT hZ (hw _ (List.mem_of_getElem? (i := 2) rfl))) (mvT hZ (hw _ (List.mem_of_getElem? (i := 13) rfl))) (by decide) (backOf (W := 0) (rm3 l Z a0 hw [] (p5 &&& (3 : Int32)) p1 (own_r_rm1 p1) (Int32.ofNat eb) h0 n0 Z0 ) hZ (hw _ (List.mem_of_getElem? (i := 13) rfl)) (hw _ (List.mem_of_getElem? (i := 2) rfl)) (by decide) (by decide)) (g := (mkF m 181 #[.val (.long p0), .second, .val (.long p1), .second, .val (.long p2), .second, .val (.long p3), .second, .val (.int p4), .val (.int p5), .val (.int (p4 &&& (3 : Int32))), .val (.int (p5 &&& (3 : Int32))), .val (.int (Int32.ofNat ea)), .val (.int (0 : Int32)), .val (.long p1), .second, .val (.int (Int32.ofNat eb)), .val (.int (Int32.ofNat kf.1)), .val (.double (FP.l2d ((1 : Int64) <<< ((Int32.ofNat kf.1).toInt64 &&& 63)))), .second, .val (.double v34), .second, .val (.long (own_r_rm1 p0)), .second, .val (.long (own_r_rm1 p1)), .second, .val (.long (own_r_rm2 (own_r_rm1 p0) (Int32.ofNat ea) p2)), .second, .val (.long (own_r_rm2 (own_r_rm1 p1) (Int32.ofNat eb) p3)), .second, .val (.double (FP.dmul (own_r_rm3 (p4 &&& (3 : Int32)) p0 (own_r_rm1 p0) (Int32.ofNat ea)) v34)), .second, .val (.double (FP.dmul (own_r_rm4 (p4 &&& (3 : Int32)) p0 (own_r_rm2 (own_r_rm1 p0) (Int32.ofNat ea) p2)) v34)), .second, .unset, .unset, .unset, .unset, .unset, .unset, .unset, .unset, .unset, .unset, .unset, .unset, .unset] [(.int (Int32.ofNat eb)), (.long (own_r_rm1 p1)), (.long p1), (.int (p5 &&& (3 : Int32)))])) rfl (by rw [hml]; rfl) (argsL := [(.int (p5 &&& (3 : Int32))), (.long p1), (.long (own_r_rm1 p1)), (.int (Int32.ofNat eb))]) (rest := []) (lenOf pd_2 rfl) rfl (by show 2 * 0 + _ ≤ _; exact Nat.le_of_eq rfl) (hb hby at_181) (fun _ _ => ⟨rfl, e75, (by decide : 0 + 0 ≤ _), (by decide : 0 + 0 ≤ _)⟩)
    have hQ77b : Q3 Z (p5 &&& (3 : Int32)) p1 (own_r_rm1 p1) (Int32.ofNat eb) h0 n0 vv77 T77.heap L77c := hQ77
    clear hQ77
    dsimp only [Pt.U, Pt.locs, Pt.cells, Pt.slots] at X77 l77 y77 z77 st77
    subst y77 z77
    obtain ⟨rfl, Nq78, Kq79⟩ := hQ77b
    have N80 : Fr n0 L77 := by rw [l77]; exact Fr.app N74 Nq78
    refine Go.of (g' := (mkF m 184 #[.val (.long p0), .second, .val (.long p1), .second, .val (.long p2), .second, .val (.long p3), .second, .val (.int p4), .val (.int p5), .val (.int (p4 &&& (3 : Int32))), .val (.int (p5 &&& (3 : Int32))), .val (.int (Int32.ofNat ea)), .val (.int (0 : Int32)), .val (.long p1), .second, .val (.int (Int32.ofNat eb)), .val (.int (Int32.ofNat kf.1)), .val (.double (FP.l2d ((1 : Int64) <<< ((Int32.ofNat kf.1).toInt64 &&& 63)))), .second, .val (.double v34), .second, .val (.long (own_r_rm1 p0)), .second, .val (.long (own_r_rm1 p1)), .second, .val (.long (own_r_rm2 (own_r_rm1 p0) (Int32.ofNat ea) p2)), .second, .val (.long (own_r_rm2 (own_r_rm1 p1) (Int32.ofNat eb) p3)), .second, .val (.double (FP.dmul (own_r_rm3 (p4 &&& (3 : Int32)) p0 (own_r_rm1 p0) (Int32.ofNat ea)) v34)), .second, .val (.double (FP.dmul (own_r_rm4 (p4 &&& (3 : Int32)) p0 (own_r_rm2 (own_r_rm1 p0) (Int32.ofNat ea) p2)) v34)), .second, .unset, .unset, .unset, .unset, .unset, .unset, .unset, .unset, .unset, .unset, .unset, .unset, .unset] [(.double (own_r_rm3 (p5 &&& (3 : Int32)) p1 (own_r_rm1 p1) (Int32.ofNat eb)))])) st77 ?_
    have e81 : T77.heap = h0 := Kq79
    have A82 := (⟨X77, hx, hby⟩ : Ax _ _ _ _ _ _ _ _ _ _ _ _ _ _ _)
    refine g_dload A82 at_184 rfl (pc' := 186) rfl ?_
    refine g_dmul A82 at_186 (own_nn (own_op (own_K p5) p1 p3 eb1 eb2 hS)).1 (pc' := 187) rfl ?_
    refine g_dstore A82 at_187 (ls' := #[.val (.long p0), .second, .val (.long p1), .second, .val (.long p2), .second, .val (.long p3), .second, .val (.int p4), .val (.int p5), .val (.int (p4 &&& (3 : Int32))), .val (.int (p5 &&& (3 : Int32))), .val (.int (Int32.ofNat ea)), .val (.int (0 : Int32)), .val (.long p1), .second, .val (.int (Int32.ofNat eb)), .val (.int (Int32.ofNat kf.1)), .val (.double (FP.l2d ((1 : Int64) <<< ((Int32.ofNat kf.1).toInt64 &&& 63)))), .second, .val (.double v34), .second, .val (.long (own_r_rm1 p0)), .second, .val (.long (own_r_rm1 p1)), .second, .val (.long (own_r_rm2 (own_r_rm1 p0) (Int32.ofNat ea) p2)), .second, .val (.long (own_r_rm2 (own_r_rm1 p1) (Int32.ofNat eb) p3)), .second, .val (.double (FP.dmul (own_r_rm3 (p4 &&& (3 : Int32)) p0 (own_r_rm1 p0) (Int32.ofNat ea)) v34)), .second, .val (.double (FP.dmul (own_r_rm4 (p4 &&& (3 : Int32)) p0 (own_r_rm2 (own_r_rm1 p0) (Int32.ofNat ea) p2)) v34)), .second, .val (.double (FP.dmul (own_r_rm3 (p5 &&& (3 : Int32)) p1 (own_r_rm1 p1) (Int32.ofNat eb)) v34)), .second, .unset, .unset, .unset, .unset, .unset, .unset, .unset, .unset, .unset, .unset, .unset]) rfl (pc' := 189) rfl ?_
    refine g_iload A82 at_189 rfl (pc' := 191) rfl ?_
    refine g_lload A82 at_191 rfl (pc' := 193) rfl ?_
    refine g_lload A82 at_193 rfl (pc' := 195) rfl ?_
    obtain ⟨vv83, _, ⟨T83, L83, k83, n83⟩, -, X83, ⟨L83c, hQ83, l83, y83, z83⟩, st83⟩ := Jvm.LawKit.callS X77 hx (y := (⟨"com/example/hinterland/hinterland/DoubleDoubleComparePinLaw", "lowPart", "(IJJ)D"⟩ : MethodName)) hown (mvT hZ (hw _ (List.mem_of_getElem? (i := 15) rfl))) (mvT hZ (hw _ (List.mem_of_getElem? (i := 16) rfl))) (mvT hZ (hw _ (List.mem_of_getElem? (i := 2) rfl))) (mvT hZ (hw _ (List.mem_of_getElem? (i := 17) rfl))) (by decide) (backOf (W := 0) (rm4 l Z a0 hw [] (p5 &&& (3 : Int32)) p1 (own_r_rm2 (own_r_rm1 p1) (Int32.ofNat eb) p3) h0 n0 Z0 ) hZ (hw _ (List.mem_of_getElem? (i := 17) rfl)) (hw _ (List.mem_of_getElem? (i := 2) rfl)) (by decide) (by decide)) (g := (mkF m 195 #[.val (.long p0), .second, .val (.long p1), .second, .val (.long p2), .second, .val (.long p3), .second, .val (.int p4), .val (.int p5), .val (.int (p4 &&& (3 : Int32))), .val (.int (p5 &&& (3 : Int32))), .val (.int (Int32.ofNat ea)), .val (.int (0 : Int32)), .val (.long p1), .second, .val (.int (Int32.ofNat eb)), .val (.int (Int32.ofNat kf.1)), .val (.double (FP.l2d ((1 : Int64) <<< ((Int32.ofNat kf.1).toInt64 &&& 63)))), .second, .val (.double v34), .second, .val (.long (own_r_rm1 p0)), .second, .val (.long (own_r_rm1 p1)), .second, .val (.long (own_r_rm2 (own_r_rm1 p0) (Int32.ofNat ea) p2)), .second, .val (.long (own_r_rm2 (own_r_rm1 p1) (Int32.ofNat eb) p3)), .second, .val (.double (FP.dmul (own_r_rm3 (p4 &&& (3 : Int32)) p0 (own_r_rm1 p0) (Int32.ofNat ea)) v34)), .second, .val (.double (FP.dmul (own_r_rm4 (p4 &&& (3 : Int32)) p0 (own_r_rm2 (own_r_rm1 p0) (Int32.ofNat ea) p2)) v34)), .second, .val (.double (FP.dmul (own_r_rm3 (p5 &&& (3 : Int32)) p1 (own_r_rm1 p1) (Int32.ofNat eb)) v34)), .second, .unset, .unset, .unset, .unset, .unset, .unset, .unset, .unset, .unset, .unset, .unset] [(.long (own_r_rm2 (own_r_rm1 p1) (Int32.ofNat eb) p3)), (.long p1), (.int (p5 &&& (3 : Int32)))])) rfl (by rw [hml]; rfl) (argsL := [(.int (p5 &&& (3 : Int32))), (.long p1), (.long (own_r_rm2 (own_r_rm1 p1) (Int32.ofNat eb) p3))]) (rest := []) (lenOf pd_3 rfl) rfl (by show 2 * 0 + _ ≤ _; exact Nat.le_of_eq rfl) (hb hby at_195) (fun _ _ => ⟨rfl, e81, (by decide : 0 + 0 ≤ _), (by decide : 0 + 0 ≤ _)⟩)
    have hQ83b : Q4 Z (p5 &&& (3 : Int32)) p1 (own_r_rm2 (own_r_rm1 p1) (Int32.ofNat eb) p3) h0 n0 vv83 T83.heap L83c := hQ83
    clear hQ83
    dsimp only [Pt.U, Pt.locs, Pt.cells, Pt.slots] at X83 l83 y83 z83 st83
    subst y83 z83
    obtain ⟨rfl, Nq84, Kq85⟩ := hQ83b
    have N86 : Fr n0 L83 := by rw [l83]; exact Fr.app N80 Nq84
    refine Go.of (g' := (mkF m 198 #[.val (.long p0), .second, .val (.long p1), .second, .val (.long p2), .second, .val (.long p3), .second, .val (.int p4), .val (.int p5), .val (.int (p4 &&& (3 : Int32))), .val (.int (p5 &&& (3 : Int32))), .val (.int (Int32.ofNat ea)), .val (.int (0 : Int32)), .val (.long p1), .second, .val (.int (Int32.ofNat eb)), .val (.int (Int32.ofNat kf.1)), .val (.double (FP.l2d ((1 : Int64) <<< ((Int32.ofNat kf.1).toInt64 &&& 63)))), .second, .val (.double v34), .second, .val (.long (own_r_rm1 p0)), .second, .val (.long (own_r_rm1 p1)), .second, .val (.long (own_r_rm2 (own_r_rm1 p0) (Int32.ofNat ea) p2)), .second, .val (.long (own_r_rm2 (own_r_rm1 p1) (Int32.ofNat eb) p3)), .second, .val (.double (FP.dmul (own_r_rm3 (p4 &&& (3 : Int32)) p0 (own_r_rm1 p0) (Int32.ofNat ea)) v34)), .second, .val (.double (FP.dmul (own_r_rm4 (p4 &&& (3 : Int32)) p0 (own_r_rm2 (own_r_rm1 p0) (Int32.ofNat ea) p2)) v34)), .second, .val (.double (FP.dmul (own_r_rm3 (p5 &&& (3 : Int32)) p1 (own_r_rm1 p1) (Int32.ofNat eb)) v34)), .second, .unset, .unset, .unset, .unset, .unset, .unset, .unset, .unset, .unset, .unset, .unset] [(.double (own_r_rm4 (p5 &&& (3 : Int32)) p1 (own_r_rm2 (own_r_rm1 p1) (Int32.ofNat eb) p3)))])) st83 ?_
    have e87 : T83.heap = h0 := Kq85
    have A88 := (⟨X83, hx, hby⟩ : Ax _ _ _ _ _ _ _ _ _ _ _ _ _ _ _)
    refine g_dload A88 at_198 rfl (pc' := 200) rfl ?_
    refine g_dmul A88 at_200 (own_nn (own_op (own_K p5) p1 p3 eb1 eb2 hS)).2 (pc' := 201) rfl ?_
    refine g_dstore A88 at_201 (ls' := #[.val (.long p0), .second, .val (.long p1), .second, .val (.long p2), .second, .val (.long p3), .second, .val (.int p4), .val (.int p5), .val (.int (p4 &&& (3 : Int32))), .val (.int (p5 &&& (3 : Int32))), .val (.int (Int32.ofNat ea)), .val (.int (0 : Int32)), .val (.long p1), .second, .val (.int (Int32.ofNat eb)), .val (.int (Int32.ofNat kf.1)), .val (.double (FP.l2d ((1 : Int64) <<< ((Int32.ofNat kf.1).toInt64 &&& 63)))), .second, .val (.double v34), .second, .val (.long (own_r_rm1 p0)), .second, .val (.long (own_r_rm1 p1)), .second, .val (.long (own_r_rm2 (own_r_rm1 p0) (Int32.ofNat ea) p2)), .second, .val (.long (own_r_rm2 (own_r_rm1 p1) (Int32.ofNat eb) p3)), .second, .val (.double (FP.dmul (own_r_rm3 (p4 &&& (3 : Int32)) p0 (own_r_rm1 p0) (Int32.ofNat ea)) v34)), .second, .val (.double (FP.dmul (own_r_rm4 (p4 &&& (3 : Int32)) p0 (own_r_rm2 (own_r_rm1 p0) (Int32.ofNat ea) p2)) v34)), .second, .val (.double (FP.dmul (own_r_rm3 (p5 &&& (3 : Int32)) p1 (own_r_rm1 p1) (Int32.ofNat eb)) v34)), .second, .val (.double (FP.dmul (own_r_rm4 (p5 &&& (3 : Int32)) p1 (own_r_rm2 (own_r_rm1 p1) (Int32.ofNat eb) p3)) v34)), .second, .unset, .unset, .unset, .unset, .unset, .unset, .unset, .unset, .unset]) rfl (pc' := 203) rfl ?_
    refine g_iload A88 at_203 rfl (pc' := 205) rfl ?_
    refine g_lloadN A88 at_205 rfl (pc' := 206) rfl ?_
    obtain ⟨vv89, _, ⟨T89, L89, k89, n89⟩, -, X89, ⟨L89c, hQ89, l89, y89, z89⟩, st89⟩ := Jvm.LawKit.callS X83 hx (y := (⟨"com/example/hinterland/hinterland/DoubleDoubleComparePinLaw", "cls", "(IJ)I"⟩ : MethodName)) hown (mvT hZ (hw _ (List.mem_of_getElem? (i := 18) rfl))) (mvT hZ (hw _ (List.mem_of_getElem? (i := 19) rfl))) (mvT hZ (hw _ (List.mem_of_getElem? (i := 2) rfl))) (mvT hZ (hw _ (List.mem_of_getElem? (i := 20) rfl))) (by decide) (backOf (W := 0) (rm5 l Z a0 hw [] (p4 &&& (3 : Int32)) p0 h0 n0 Z0 ) hZ (hw _ (List.mem_of_getElem? (i := 20) rfl)) (hw _ (List.mem_of_getElem? (i := 2) rfl)) (by decide) (by decide)) (g := (mkF m 206 #[.val (.long p0), .second, .val (.long p1), .second, .val (.long p2), .second, .val (.long p3), .second, .val (.int p4), .val (.int p5), .val (.int (p4 &&& (3 : Int32))), .val (.int (p5 &&& (3 : Int32))), .val (.int (Int32.ofNat ea)), .val (.int (0 : Int32)), .val (.long p1), .second, .val (.int (Int32.ofNat eb)), .val (.int (Int32.ofNat kf.1)), .val (.double (FP.l2d ((1 : Int64) <<< ((Int32.ofNat kf.1).toInt64 &&& 63)))), .second, .val (.double v34), .second, .val (.long (own_r_rm1 p0)), .second, .val (.long (own_r_rm1 p1)), .second, .val (.long (own_r_rm2 (own_r_rm1 p0) (Int32.ofNat ea) p2)), .second, .val (.long (own_r_rm2 (own_r_rm1 p1) (Int32.ofNat eb) p3)), .second, .val (.double (FP.dmul (own_r_rm3 (p4 &&& (3 : Int32)) p0 (own_r_rm1 p0) (Int32.ofNat ea)) v34)), .second, .val (.double (FP.dmul (own_r_rm4 (p4 &&& (3 : Int32)) p0 (own_r_rm2 (own_r_rm1 p0) (Int32.ofNat ea) p2)) v34)), .second, .val (.double (FP.dmul (own_r_rm3 (p5 &&& (3 : Int32)) p1 (own_r_rm1 p1) (Int32.ofNat eb)) v34)), .second, .val (.double (FP.dmul (own_r_rm4 (p5 &&& (3 : Int32)) p1 (own_r_rm2 (own_r_rm1 p1) (Int32.ofNat eb) p3)) v34)), .second, .unset, .unset, .unset, .unset, .unset, .unset, .unset, .unset, .unset] [(.long p0), (.int (p4 &&& (3 : Int32)))])) rfl (by rw [hml]; rfl) (argsL := [(.int (p4 &&& (3 : Int32))), (.long p0)]) (rest := []) (lenOf pd_4 rfl) rfl (by show 2 * 0 + _ ≤ _; exact Nat.le_of_eq rfl) (hb hby at_206) (fun _ _ => ⟨rfl, e87, (by decide : 0 + 0 ≤ _), (by decide : 0 + 0 ≤ _)⟩)
    have hQ89b : Q5 Z (p4 &&& (3 : Int32)) p0 h0 n0 vv89 T89.heap L89c := hQ89
    clear hQ89
    dsimp only [Pt.U, Pt.locs, Pt.cells, Pt.slots] at X89 l89 y89 z89 st89
    subst y89 z89
    obtain ⟨rfl, Nq90, Kq91⟩ := hQ89b
    have N92 : Fr n0 L89 := by rw [l89]; exact Fr.app N86 Nq90
    refine Go.of (g' := (mkF m 209 #[.val (.long p0), .second, .val (.long p1), .second, .val (.long p2), .second, .val (.long p3), .second, .val (.int p4), .val (.int p5), .val (.int (p4 &&& (3 : Int32))), .val (.int (p5 &&& (3 : Int32))), .val (.int (Int32.ofNat ea)), .val (.int (0 : Int32)), .val (.long p1), .second, .val (.int (Int32.ofNat eb)), .val (.int (Int32.ofNat kf.1)), .val (.double (FP.l2d ((1 : Int64) <<< ((Int32.ofNat kf.1).toInt64 &&& 63)))), .second, .val (.double v34), .second, .val (.long (own_r_rm1 p0)), .second, .val (.long (own_r_rm1 p1)), .second, .val (.long (own_r_rm2 (own_r_rm1 p0) (Int32.ofNat ea) p2)), .second, .val (.long (own_r_rm2 (own_r_rm1 p1) (Int32.ofNat eb) p3)), .second, .val (.double (FP.dmul (own_r_rm3 (p4 &&& (3 : Int32)) p0 (own_r_rm1 p0) (Int32.ofNat ea)) v34)), .second, .val (.double (FP.dmul (own_r_rm4 (p4 &&& (3 : Int32)) p0 (own_r_rm2 (own_r_rm1 p0) (Int32.ofNat ea) p2)) v34)), .second, .val (.double (FP.dmul (own_r_rm3 (p5 &&& (3 : Int32)) p1 (own_r_rm1 p1) (Int32.ofNat eb)) v34)), .second, .val (.double (FP.dmul (own_r_rm4 (p5 &&& (3 : Int32)) p1 (own_r_rm2 (own_r_rm1 p1) (Int32.ofNat eb) p3)) v34)), .second, .unset, .unset, .unset, .unset, .unset, .unset, .unset, .unset, .unset] [(.int (own_r_rm5 (p4 &&& (3 : Int32)) p0))])) st89 ?_
    have e93 : T89.heap = h0 := Kq91
    have A94 := (⟨X89, hx, hby⟩ : Ax _ _ _ _ _ _ _ _ _ _ _ _ _ _ _)
    refine g_istore A94 at_209 (ls' := #[.val (.long p0), .second, .val (.long p1), .second, .val (.long p2), .second, .val (.long p3), .second, .val (.int p4), .val (.int p5), .val (.int (p4 &&& (3 : Int32))), .val (.int (p5 &&& (3 : Int32))), .val (.int (Int32.ofNat ea)), .val (.int (0 : Int32)), .val (.long p1), .second, .val (.int (Int32.ofNat eb)), .val (.int (Int32.ofNat kf.1)), .val (.double (FP.l2d ((1 : Int64) <<< ((Int32.ofNat kf.1).toInt64 &&& 63)))), .second, .val (.double v34), .second, .val (.long (own_r_rm1 p0)), .second, .val (.long (own_r_rm1 p1)), .second, .val (.long (own_r_rm2 (own_r_rm1 p0) (Int32.ofNat ea) p2)), .second, .val (.long (own_r_rm2 (own_r_rm1 p1) (Int32.ofNat eb) p3)), .second, .val (.double (FP.dmul (own_r_rm3 (p4 &&& (3 : Int32)) p0 (own_r_rm1 p0) (Int32.ofNat ea)) v34)), .second, .val (.double (FP.dmul (own_r_rm4 (p4 &&& (3 : Int32)) p0 (own_r_rm2 (own_r_rm1 p0) (Int32.ofNat ea) p2)) v34)), .second, .val (.double (FP.dmul (own_r_rm3 (p5 &&& (3 : Int32)) p1 (own_r_rm1 p1) (Int32.ofNat eb)) v34)), .second, .val (.double (FP.dmul (own_r_rm4 (p5 &&& (3 : Int32)) p1 (own_r_rm2 (own_r_rm1 p1) (Int32.ofNat eb) p3)) v34)), .second, .val (.int (own_r_rm5 (p4 &&& (3 : Int32)) p0)), .unset, .unset, .unset, .unset, .unset, .unset, .unset, .unset]) rfl (pc' := 211) rfl ?_
    refine g_iload A94 at_211 rfl (pc' := 213) rfl ?_
    refine g_lload A94 at_213 rfl (pc' := 215) rfl ?_
    obtain ⟨vv95, _, ⟨T95, L95, k95, n95⟩, -, X95, ⟨L95c, hQ95, l95, y95, z95⟩, st95⟩ := Jvm.LawKit.callS X89 hx (y := (⟨"com/example/hinterland/hinterland/DoubleDoubleComparePinLaw", "cls", "(IJ)I"⟩ : MethodName)) hown (mvT hZ (hw _ (List.mem_of_getElem? (i := 18) rfl))) (mvT hZ (hw _ (List.mem_of_getElem? (i := 19) rfl))) (mvT hZ (hw _ (List.mem_of_getElem? (i := 2) rfl))) (mvT hZ (hw _ (List.mem_of_getElem? (i := 20) rfl))) (by decide) (backOf (W := 0) (rm5 l Z a0 hw [] (p5 &&& (3 : Int32)) p1 h0 n0 Z0 ) hZ (hw _ (List.mem_of_getElem? (i := 20) rfl)) (hw _ (List.mem_of_getElem? (i := 2) rfl)) (by decide) (by decide)) (g := (mkF m 215 #[.val (.long p0), .second, .val (.long p1), .second, .val (.long p2), .second, .val (.long p3), .second, .val (.int p4), .val (.int p5), .val (.int (p4 &&& (3 : Int32))), .val (.int (p5 &&& (3 : Int32))), .val (.int (Int32.ofNat ea)), .val (.int (0 : Int32)), .val (.long p1), .second, .val (.int (Int32.ofNat eb)), .val (.int (Int32.ofNat kf.1)), .val (.double (FP.l2d ((1 : Int64) <<< ((Int32.ofNat kf.1).toInt64 &&& 63)))), .second, .val (.double v34), .second, .val (.long (own_r_rm1 p0)), .second, .val (.long (own_r_rm1 p1)), .second, .val (.long (own_r_rm2 (own_r_rm1 p0) (Int32.ofNat ea) p2)), .second, .val (.long (own_r_rm2 (own_r_rm1 p1) (Int32.ofNat eb) p3)), .second, .val (.double (FP.dmul (own_r_rm3 (p4 &&& (3 : Int32)) p0 (own_r_rm1 p0) (Int32.ofNat ea)) v34)), .second, .val (.double (FP.dmul (own_r_rm4 (p4 &&& (3 : Int32)) p0 (own_r_rm2 (own_r_rm1 p0) (Int32.ofNat ea) p2)) v34)), .second, .val (.double (FP.dmul (own_r_rm3 (p5 &&& (3 : Int32)) p1 (own_r_rm1 p1) (Int32.ofNat eb)) v34)), .second, .val (.double (FP.dmul (own_r_rm4 (p5 &&& (3 : Int32)) p1 (own_r_rm2 (own_r_rm1 p1) (Int32.ofNat eb) p3)) v34)), .second, .val (.int (own_r_rm5 (p4 &&& (3 : Int32)) p0)), .unset, .unset, .unset, .unset, .unset, .unset, .unset, .unset] [(.long p1), (.int (p5 &&& (3 : Int32)))])) rfl (by rw [hml]; rfl) (argsL := [(.int (p5 &&& (3 : Int32))), (.long p1)]) (rest := []) (lenOf pd_4 rfl) rfl (by show 2 * 0 + _ ≤ _; exact Nat.le_of_eq rfl) (hb hby at_215) (fun _ _ => ⟨rfl, e93, (by decide : 0 + 0 ≤ _), (by decide : 0 + 0 ≤ _)⟩)
    have hQ95b : Q5 Z (p5 &&& (3 : Int32)) p1 h0 n0 vv95 T95.heap L95c := hQ95
    clear hQ95
    dsimp only [Pt.U, Pt.locs, Pt.cells, Pt.slots] at X95 l95 y95 z95 st95
    subst y95 z95
    obtain ⟨rfl, Nq96, Kq97⟩ := hQ95b
    have N98 : Fr n0 L95 := by rw [l95]; exact Fr.app N92 Nq96
    refine Go.of (g' := (mkF m 218 #[.val (.long p0), .second, .val (.long p1), .second, .val (.long p2), .second, .val (.long p3), .second, .val (.int p4), .val (.int p5), .val (.int (p4 &&& (3 : Int32))), .val (.int (p5 &&& (3 : Int32))), .val (.int (Int32.ofNat ea)), .val (.int (0 : Int32)), .val (.long p1), .second, .val (.int (Int32.ofNat eb)), .val (.int (Int32.ofNat kf.1)), .val (.double (FP.l2d ((1 : Int64) <<< ((Int32.ofNat kf.1).toInt64 &&& 63)))), .second, .val (.double v34), .second, .val (.long (own_r_rm1 p0)), .second, .val (.long (own_r_rm1 p1)), .second, .val (.long (own_r_rm2 (own_r_rm1 p0) (Int32.ofNat ea) p2)), .second, .val (.long (own_r_rm2 (own_r_rm1 p1) (Int32.ofNat eb) p3)), .second, .val (.double (FP.dmul (own_r_rm3 (p4 &&& (3 : Int32)) p0 (own_r_rm1 p0) (Int32.ofNat ea)) v34)), .second, .val (.double (FP.dmul (own_r_rm4 (p4 &&& (3 : Int32)) p0 (own_r_rm2 (own_r_rm1 p0) (Int32.ofNat ea) p2)) v34)), .second, .val (.double (FP.dmul (own_r_rm3 (p5 &&& (3 : Int32)) p1 (own_r_rm1 p1) (Int32.ofNat eb)) v34)), .second, .val (.double (FP.dmul (own_r_rm4 (p5 &&& (3 : Int32)) p1 (own_r_rm2 (own_r_rm1 p1) (Int32.ofNat eb) p3)) v34)), .second, .val (.int (own_r_rm5 (p4 &&& (3 : Int32)) p0)), .unset, .unset, .unset, .unset, .unset, .unset, .unset, .unset] [(.int (own_r_rm5 (p5 &&& (3 : Int32)) p1))])) st95 ?_
    have e99 : T95.heap = h0 := Kq97
    have A100 := (⟨X95, hx, hby⟩ : Ax _ _ _ _ _ _ _ _ _ _ _ _ _ _ _)
    refine g_istore A100 at_218 (ls' := #[.val (.long p0), .second, .val (.long p1), .second, .val (.long p2), .second, .val (.long p3), .second, .val (.int p4), .val (.int p5), .val (.int (p4 &&& (3 : Int32))), .val (.int (p5 &&& (3 : Int32))), .val (.int (Int32.ofNat ea)), .val (.int (0 : Int32)), .val (.long p1), .second, .val (.int (Int32.ofNat eb)), .val (.int (Int32.ofNat kf.1)), .val (.double (FP.l2d ((1 : Int64) <<< ((Int32.ofNat kf.1).toInt64 &&& 63)))), .second, .val (.double v34), .second, .val (.long (own_r_rm1 p0)), .second, .val (.long (own_r_rm1 p1)), .second, .val (.long (own_r_rm2 (own_r_rm1 p0) (Int32.ofNat ea) p2)), .second, .val (.long (own_r_rm2 (own_r_rm1 p1) (Int32.ofNat eb) p3)), .second, .val (.double (FP.dmul (own_r_rm3 (p4 &&& (3 : Int32)) p0 (own_r_rm1 p0) (Int32.ofNat ea)) v34)), .second, .val (.double (FP.dmul (own_r_rm4 (p4 &&& (3 : Int32)) p0 (own_r_rm2 (own_r_rm1 p0) (Int32.ofNat ea) p2)) v34)), .second, .val (.double (FP.dmul (own_r_rm3 (p5 &&& (3 : Int32)) p1 (own_r_rm1 p1) (Int32.ofNat eb)) v34)), .second, .val (.double (FP.dmul (own_r_rm4 (p5 &&& (3 : Int32)) p1 (own_r_rm2 (own_r_rm1 p1) (Int32.ofNat eb) p3)) v34)), .second, .val (.int (own_r_rm5 (p4 &&& (3 : Int32)) p0)), .val (.int (own_r_rm5 (p5 &&& (3 : Int32)) p1)), .unset, .unset, .unset, .unset, .unset, .unset, .unset]) rfl (pc' := 220) rfl ?_
    refine g_iload A100 at_220 rfl (pc' := 222) rfl ?_
    refine g_lload A100 at_222 rfl (pc' := 224) rfl ?_
    refine g_iload A100 at_224 rfl (pc' := 226) rfl ?_
    refine g_lload A100 at_226 rfl (pc' := 228) rfl ?_
    obtain ⟨vv101, _, ⟨T101, L101, k101, n101⟩, -, X101, ⟨L101c, hQ101, l101, y101, z101⟩, st101⟩ := Jvm.LawKit.callS X95 hx (y := (⟨"com/example/hinterland/hinterland/DoubleDoubleComparePinLaw", "value", "(IJIJ)J"⟩ : MethodName)) hown (mvT hZ (hw _ (List.mem_of_getElem? (i := 21) rfl))) (mvT hZ (hw _ (List.mem_of_getElem? (i := 22) rfl))) (mvT hZ (hw _ (List.mem_of_getElem? (i := 2) rfl))) (mvT hZ (hw _ (List.mem_of_getElem? (i := 23) rfl))) (by decide) (backOf (W := 0) (rm6 l Z a0 hw [] (p4 &&& (3 : Int32)) (own_r_rm1 p0) (Int32.ofNat ea) (own_r_rm2 (own_r_rm1 p0) (Int32.ofNat ea) p2) h0 n0 Z0 ) hZ (hw _ (List.mem_of_getElem? (i := 23) rfl)) (hw _ (List.mem_of_getElem? (i := 2) rfl)) (by decide) (by decide)) (g := (mkF m 228 #[.val (.long p0), .second, .val (.long p1), .second, .val (.long p2), .second, .val (.long p3), .second, .val (.int p4), .val (.int p5), .val (.int (p4 &&& (3 : Int32))), .val (.int (p5 &&& (3 : Int32))), .val (.int (Int32.ofNat ea)), .val (.int (0 : Int32)), .val (.long p1), .second, .val (.int (Int32.ofNat eb)), .val (.int (Int32.ofNat kf.1)), .val (.double (FP.l2d ((1 : Int64) <<< ((Int32.ofNat kf.1).toInt64 &&& 63)))), .second, .val (.double v34), .second, .val (.long (own_r_rm1 p0)), .second, .val (.long (own_r_rm1 p1)), .second, .val (.long (own_r_rm2 (own_r_rm1 p0) (Int32.ofNat ea) p2)), .second, .val (.long (own_r_rm2 (own_r_rm1 p1) (Int32.ofNat eb) p3)), .second, .val (.double (FP.dmul (own_r_rm3 (p4 &&& (3 : Int32)) p0 (own_r_rm1 p0) (Int32.ofNat ea)) v34)), .second, .val (.double (FP.dmul (own_r_rm4 (p4 &&& (3 : Int32)) p0 (own_r_rm2 (own_r_rm1 p0) (Int32.ofNat ea) p2)) v34)), .second, .val (.double (FP.dmul (own_r_rm3 (p5 &&& (3 : Int32)) p1 (own_r_rm1 p1) (Int32.ofNat eb)) v34)), .second, .val (.double (FP.dmul (own_r_rm4 (p5 &&& (3 : Int32)) p1 (own_r_rm2 (own_r_rm1 p1) (Int32.ofNat eb) p3)) v34)), .second, .val (.int (own_r_rm5 (p4 &&& (3 : Int32)) p0)), .val (.int (own_r_rm5 (p5 &&& (3 : Int32)) p1)), .unset, .unset, .unset, .unset, .unset, .unset, .unset] [(.long (own_r_rm2 (own_r_rm1 p0) (Int32.ofNat ea) p2)), (.int (Int32.ofNat ea)), (.long (own_r_rm1 p0)), (.int (p4 &&& (3 : Int32)))])) rfl (by rw [hml]; rfl) (argsL := [(.int (p4 &&& (3 : Int32))), (.long (own_r_rm1 p0)), (.int (Int32.ofNat ea)), (.long (own_r_rm2 (own_r_rm1 p0) (Int32.ofNat ea) p2))]) (rest := []) (lenOf pd_5 rfl) rfl (by show 2 * 0 + _ ≤ _; exact Nat.le_of_eq rfl) (hb hby at_228) (fun _ _ => ⟨rfl, e99, (by decide : 0 + 0 ≤ _), (by decide : 0 + 0 ≤ _)⟩)
    have hQ101b : Q6 Z (p4 &&& (3 : Int32)) (own_r_rm1 p0) (Int32.ofNat ea) (own_r_rm2 (own_r_rm1 p0) (Int32.ofNat ea) p2) h0 n0 vv101 T101.heap L101c := hQ101
    clear hQ101
    dsimp only [Pt.U, Pt.locs, Pt.cells, Pt.slots] at X101 l101 y101 z101 st101
    subst y101 z101
    obtain ⟨rfl, Nq102, Kq103⟩ := hQ101b
    have N104 : Fr n0 L101 := by rw [l101]; exact Fr.app N98 Nq102
    refine Go.of (g' := (mkF m 231 #[.val (.long p0), .second, .val (.long p1), .second, .val (.long p2), .second, .val (.long p3), .second, .val (.int p4), .val (.int p5), .val (.int (p4 &&& (3 : Int32))), .val (.int (p5 &&& (3 : Int32))), .val (.int (Int32.ofNat ea)), .val (.int (0 : Int32)), .val (.long p1), .second, .val (.int (Int32.ofNat eb)), .val (.int (Int32.ofNat kf.1)), .val (.double (FP.l2d ((1 : Int64) <<< ((Int32.ofNat kf.1).toInt64 &&& 63)))), .second, .val (.double v34), .second, .val (.long (own_r_rm1 p0)), .second, .val (.long (own_r_rm1 p1)), .second, .val (.long (own_r_rm2 (own_r_rm1 p0) (Int32.ofNat ea) p2)), .second, .val (.long (own_r_rm2 (own_r_rm1 p1) (Int32.ofNat eb) p3)), .second, .val (.double (FP.dmul (own_r_rm3 (p4 &&& (3 : Int32)) p0 (own_r_rm1 p0) (Int32.ofNat ea)) v34)), .second, .val (.double (FP.dmul (own_r_rm4 (p4 &&& (3 : Int32)) p0 (own_r_rm2 (own_r_rm1 p0) (Int32.ofNat ea) p2)) v34)), .second, .val (.double (FP.dmul (own_r_rm3 (p5 &&& (3 : Int32)) p1 (own_r_rm1 p1) (Int32.ofNat eb)) v34)), .second, .val (.double (FP.dmul (own_r_rm4 (p5 &&& (3 : Int32)) p1 (own_r_rm2 (own_r_rm1 p1) (Int32.ofNat eb) p3)) v34)), .second, .val (.int (own_r_rm5 (p4 &&& (3 : Int32)) p0)), .val (.int (own_r_rm5 (p5 &&& (3 : Int32)) p1)), .unset, .unset, .unset, .unset, .unset, .unset, .unset] [(.long (own_r_rm6 (p4 &&& (3 : Int32)) (own_r_rm1 p0) (Int32.ofNat ea) (own_r_rm2 (own_r_rm1 p0) (Int32.ofNat ea) p2)))])) st101 ?_
    have e105 : T101.heap = h0 := Kq103
    have A106 := (⟨X101, hx, hby⟩ : Ax _ _ _ _ _ _ _ _ _ _ _ _ _ _ _)
    refine g_lstore A106 at_231 (ls' := #[.val (.long p0), .second, .val (.long p1), .second, .val (.long p2), .second, .val (.long p3), .second, .val (.int p4), .val (.int p5), .val (.int (p4 &&& (3 : Int32))), .val (.int (p5 &&& (3 : Int32))), .val (.int (Int32.ofNat ea)), .val (.int (0 : Int32)), .val (.long p1), .second, .val (.int (Int32.ofNat eb)), .val (.int (Int32.ofNat kf.1)), .val (.double (FP.l2d ((1 : Int64) <<< ((Int32.ofNat kf.1).toInt64 &&& 63)))), .second, .val (.double v34), .second, .val (.long (own_r_rm1 p0)), .second, .val (.long (own_r_rm1 p1)), .second, .val (.long (own_r_rm2 (own_r_rm1 p0) (Int32.ofNat ea) p2)), .second, .val (.long (own_r_rm2 (own_r_rm1 p1) (Int32.ofNat eb) p3)), .second, .val (.double (FP.dmul (own_r_rm3 (p4 &&& (3 : Int32)) p0 (own_r_rm1 p0) (Int32.ofNat ea)) v34)), .second, .val (.double (FP.dmul (own_r_rm4 (p4 &&& (3 : Int32)) p0 (own_r_rm2 (own_r_rm1 p0) (Int32.ofNat ea) p2)) v34)), .second, .val (.double (FP.dmul (own_r_rm3 (p5 &&& (3 : Int32)) p1 (own_r_rm1 p1) (Int32.ofNat eb)) v34)), .second, .val (.double (FP.dmul (own_r_rm4 (p5 &&& (3 : Int32)) p1 (own_r_rm2 (own_r_rm1 p1) (Int32.ofNat eb) p3)) v34)), .second, .val (.int (own_r_rm5 (p4 &&& (3 : Int32)) p0)), .val (.int (own_r_rm5 (p5 &&& (3 : Int32)) p1)), .val (.long (own_r_rm6 (p4 &&& (3 : Int32)) (own_r_rm1 p0) (Int32.ofNat ea) (own_r_rm2 (own_r_rm1 p0) (Int32.ofNat ea) p2))), .second, .unset, .unset, .unset, .unset, .unset]) rfl (pc' := 233) rfl ?_
    refine g_iload A106 at_233 rfl (pc' := 235) rfl ?_
    refine g_lload A106 at_235 rfl (pc' := 237) rfl ?_
    refine g_iload A106 at_237 rfl (pc' := 239) rfl ?_
    refine g_lload A106 at_239 rfl (pc' := 241) rfl ?_
    obtain ⟨vv107, _, ⟨T107, L107, k107, n107⟩, -, X107, ⟨L107c, hQ107, l107, y107, z107⟩, st107⟩ := Jvm.LawKit.callS X101 hx (y := (⟨"com/example/hinterland/hinterland/DoubleDoubleComparePinLaw", "value", "(IJIJ)J"⟩ : MethodName)) hown (mvT hZ (hw _ (List.mem_of_getElem? (i := 21) rfl))) (mvT hZ (hw _ (List.mem_of_getElem? (i := 22) rfl))) (mvT hZ (hw _ (List.mem_of_getElem? (i := 2) rfl))) (mvT hZ (hw _ (List.mem_of_getElem? (i := 23) rfl))) (by decide) (backOf (W := 0) (rm6 l Z a0 hw [] (p5 &&& (3 : Int32)) (own_r_rm1 p1) (Int32.ofNat eb) (own_r_rm2 (own_r_rm1 p1) (Int32.ofNat eb) p3) h0 n0 Z0 ) hZ (hw _ (List.mem_of_getElem? (i := 23) rfl)) (hw _ (List.mem_of_getElem? (i := 2) rfl)) (by decide) (by decide)) (g := (mkF m 241 #[.val (.long p0), .second, .val (.long p1), .second, .val (.long p2), .second, .val (.long p3), .second, .val (.int p4), .val (.int p5), .val (.int (p4 &&& (3 : Int32))), .val (.int (p5 &&& (3 : Int32))), .val (.int (Int32.ofNat ea)), .val (.int (0 : Int32)), .val (.long p1), .second, .val (.int (Int32.ofNat eb)), .val (.int (Int32.ofNat kf.1)), .val (.double (FP.l2d ((1 : Int64) <<< ((Int32.ofNat kf.1).toInt64 &&& 63)))), .second, .val (.double v34), .second, .val (.long (own_r_rm1 p0)), .second, .val (.long (own_r_rm1 p1)), .second, .val (.long (own_r_rm2 (own_r_rm1 p0) (Int32.ofNat ea) p2)), .second, .val (.long (own_r_rm2 (own_r_rm1 p1) (Int32.ofNat eb) p3)), .second, .val (.double (FP.dmul (own_r_rm3 (p4 &&& (3 : Int32)) p0 (own_r_rm1 p0) (Int32.ofNat ea)) v34)), .second, .val (.double (FP.dmul (own_r_rm4 (p4 &&& (3 : Int32)) p0 (own_r_rm2 (own_r_rm1 p0) (Int32.ofNat ea) p2)) v34)), .second, .val (.double (FP.dmul (own_r_rm3 (p5 &&& (3 : Int32)) p1 (own_r_rm1 p1) (Int32.ofNat eb)) v34)), .second, .val (.double (FP.dmul (own_r_rm4 (p5 &&& (3 : Int32)) p1 (own_r_rm2 (own_r_rm1 p1) (Int32.ofNat eb) p3)) v34)), .second, .val (.int (own_r_rm5 (p4 &&& (3 : Int32)) p0)), .val (.int (own_r_rm5 (p5 &&& (3 : Int32)) p1)), .val (.long (own_r_rm6 (p4 &&& (3 : Int32)) (own_r_rm1 p0) (Int32.ofNat ea) (own_r_rm2 (own_r_rm1 p0) (Int32.ofNat ea) p2))), .second, .unset, .unset, .unset, .unset, .unset] [(.long (own_r_rm2 (own_r_rm1 p1) (Int32.ofNat eb) p3)), (.int (Int32.ofNat eb)), (.long (own_r_rm1 p1)), (.int (p5 &&& (3 : Int32)))])) rfl (by rw [hml]; rfl) (argsL := [(.int (p5 &&& (3 : Int32))), (.long (own_r_rm1 p1)), (.int (Int32.ofNat eb)), (.long (own_r_rm2 (own_r_rm1 p1) (Int32.ofNat eb) p3))]) (rest := []) (lenOf pd_5 rfl) rfl (by show 2 * 0 + _ ≤ _; exact Nat.le_of_eq rfl) (hb hby at_241) (fun _ _ => ⟨rfl, e105, (by decide : 0 + 0 ≤ _), (by decide : 0 + 0 ≤ _)⟩)
    have hQ107b : Q6 Z (p5 &&& (3 : Int32)) (own_r_rm1 p1) (Int32.ofNat eb) (own_r_rm2 (own_r_rm1 p1) (Int32.ofNat eb) p3) h0 n0 vv107 T107.heap L107c := hQ107
    clear hQ107
    dsimp only [Pt.U, Pt.locs, Pt.cells, Pt.slots] at X107 l107 y107 z107 st107
    subst y107 z107
    obtain ⟨rfl, Nq108, Kq109⟩ := hQ107b
    have N110 : Fr n0 L107 := by rw [l107]; exact Fr.app N104 Nq108
    refine Go.of (g' := (mkF m 244 #[.val (.long p0), .second, .val (.long p1), .second, .val (.long p2), .second, .val (.long p3), .second, .val (.int p4), .val (.int p5), .val (.int (p4 &&& (3 : Int32))), .val (.int (p5 &&& (3 : Int32))), .val (.int (Int32.ofNat ea)), .val (.int (0 : Int32)), .val (.long p1), .second, .val (.int (Int32.ofNat eb)), .val (.int (Int32.ofNat kf.1)), .val (.double (FP.l2d ((1 : Int64) <<< ((Int32.ofNat kf.1).toInt64 &&& 63)))), .second, .val (.double v34), .second, .val (.long (own_r_rm1 p0)), .second, .val (.long (own_r_rm1 p1)), .second, .val (.long (own_r_rm2 (own_r_rm1 p0) (Int32.ofNat ea) p2)), .second, .val (.long (own_r_rm2 (own_r_rm1 p1) (Int32.ofNat eb) p3)), .second, .val (.double (FP.dmul (own_r_rm3 (p4 &&& (3 : Int32)) p0 (own_r_rm1 p0) (Int32.ofNat ea)) v34)), .second, .val (.double (FP.dmul (own_r_rm4 (p4 &&& (3 : Int32)) p0 (own_r_rm2 (own_r_rm1 p0) (Int32.ofNat ea) p2)) v34)), .second, .val (.double (FP.dmul (own_r_rm3 (p5 &&& (3 : Int32)) p1 (own_r_rm1 p1) (Int32.ofNat eb)) v34)), .second, .val (.double (FP.dmul (own_r_rm4 (p5 &&& (3 : Int32)) p1 (own_r_rm2 (own_r_rm1 p1) (Int32.ofNat eb) p3)) v34)), .second, .val (.int (own_r_rm5 (p4 &&& (3 : Int32)) p0)), .val (.int (own_r_rm5 (p5 &&& (3 : Int32)) p1)), .val (.long (own_r_rm6 (p4 &&& (3 : Int32)) (own_r_rm1 p0) (Int32.ofNat ea) (own_r_rm2 (own_r_rm1 p0) (Int32.ofNat ea) p2))), .second, .unset, .unset, .unset, .unset, .unset] [(.long (own_r_rm6 (p5 &&& (3 : Int32)) (own_r_rm1 p1) (Int32.ofNat eb) (own_r_rm2 (own_r_rm1 p1) (Int32.ofNat eb) p3)))])) st107 ?_
    have e111 : T107.heap = h0 := Kq109
    have A112 := (⟨X107, hx, hby⟩ : Ax _ _ _ _ _ _ _ _ _ _ _ _ _ _ _)
    refine g_lstore A112 at_244 (ls' := #[.val (.long p0), .second, .val (.long p1), .second, .val (.long p2), .second, .val (.long p3), .second, .val (.int p4), .val (.int p5), .val (.int (p4 &&& (3 : Int32))), .val (.int (p5 &&& (3 : Int32))), .val (.int (Int32.ofNat ea)), .val (.int (0 : Int32)), .val (.long p1), .second, .val (.int (Int32.ofNat eb)), .val (.int (Int32.ofNat kf.1)), .val (.double (FP.l2d ((1 : Int64) <<< ((Int32.ofNat kf.1).toInt64 &&& 63)))), .second, .val (.double v34), .second, .val (.long (own_r_rm1 p0)), .second, .val (.long (own_r_rm1 p1)), .second, .val (.long (own_r_rm2 (own_r_rm1 p0) (Int32.ofNat ea) p2)), .second, .val (.long (own_r_rm2 (own_r_rm1 p1) (Int32.ofNat eb) p3)), .second, .val (.double (FP.dmul (own_r_rm3 (p4 &&& (3 : Int32)) p0 (own_r_rm1 p0) (Int32.ofNat ea)) v34)), .second, .val (.double (FP.dmul (own_r_rm4 (p4 &&& (3 : Int32)) p0 (own_r_rm2 (own_r_rm1 p0) (Int32.ofNat ea) p2)) v34)), .second, .val (.double (FP.dmul (own_r_rm3 (p5 &&& (3 : Int32)) p1 (own_r_rm1 p1) (Int32.ofNat eb)) v34)), .second, .val (.double (FP.dmul (own_r_rm4 (p5 &&& (3 : Int32)) p1 (own_r_rm2 (own_r_rm1 p1) (Int32.ofNat eb) p3)) v34)), .second, .val (.int (own_r_rm5 (p4 &&& (3 : Int32)) p0)), .val (.int (own_r_rm5 (p5 &&& (3 : Int32)) p1)), .val (.long (own_r_rm6 (p4 &&& (3 : Int32)) (own_r_rm1 p0) (Int32.ofNat ea) (own_r_rm2 (own_r_rm1 p0) (Int32.ofNat ea) p2))), .second, .val (.long (own_r_rm6 (p5 &&& (3 : Int32)) (own_r_rm1 p1) (Int32.ofNat eb) (own_r_rm2 (own_r_rm1 p1) (Int32.ofNat eb) p3))), .second, .unset, .unset, .unset]) rfl (pc' := 246) rfl ?_
    refine g_iload A112 at_246 rfl (pc' := 248) rfl ?_
    refine g_iload A112 at_248 rfl (pc' := 250) rfl ?_
    obtain ⟨v113, hv113⟩ : ∃ z : Int32, z = (if (own_r_rm5 (p4 &&& (3 : Int32)) p0) = (own_r_rm5 (p5 &&& (3 : Int32)) p1) then (if (own_r_rm5 (p4 &&& (3 : Int32)) p0) = 0 then (if (own_r_rm6 (p4 &&& (3 : Int32)) (own_r_rm1 p0) (Int32.ofNat ea) (own_r_rm2 (own_r_rm1 p0) (Int32.ofNat ea) p2)) < (own_r_rm6 (p5 &&& (3 : Int32)) (own_r_rm1 p1) (Int32.ofNat eb) (own_r_rm2 (own_r_rm1 p1) (Int32.ofNat eb) p3)) then (-1 : Int32) else (if (own_r_rm6 (p5 &&& (3 : Int32)) (own_r_rm1 p1) (Int32.ofNat eb) (own_r_rm2 (own_r_rm1 p1) (Int32.ofNat eb) p3)) < (own_r_rm6 (p4 &&& (3 : Int32)) (own_r_rm1 p0) (Int32.ofNat ea) (own_r_rm2 (own_r_rm1 p0) (Int32.ofNat ea) p2)) then (1 : Int32) else (0 : Int32))) else (0 : Int32)) else (if (own_r_rm5 (p4 &&& (3 : Int32)) p0) < (own_r_rm5 (p5 &&& (3 : Int32)) p1) then (-1 : Int32) else (1 : Int32))) := ⟨_, rfl⟩
    have sg114 : ∀ {P : State → Outcome → Prop}, Go p e below P T107 (mkF m 308 #[.val (.long p0), .second, .val (.long p1), .second, .val (.long p2), .second, .val (.long p3), .second, .val (.int p4), .val (.int p5), .val (.int (p4 &&& (3 : Int32))), .val (.int (p5 &&& (3 : Int32))), .val (.int (Int32.ofNat ea)), .val (.int (0 : Int32)), .val (.long p1), .second, .val (.int (Int32.ofNat eb)), .val (.int (Int32.ofNat kf.1)), .val (.double (FP.l2d ((1 : Int64) <<< ((Int32.ofNat kf.1).toInt64 &&& 63)))), .second, .val (.double v34), .second, .val (.long (own_r_rm1 p0)), .second, .val (.long (own_r_rm1 p1)), .second, .val (.long (own_r_rm2 (own_r_rm1 p0) (Int32.ofNat ea) p2)), .second, .val (.long (own_r_rm2 (own_r_rm1 p1) (Int32.ofNat eb) p3)), .second, .val (.double (FP.dmul (own_r_rm3 (p4 &&& (3 : Int32)) p0 (own_r_rm1 p0) (Int32.ofNat ea)) v34)), .second, .val (.double (FP.dmul (own_r_rm4 (p4 &&& (3 : Int32)) p0 (own_r_rm2 (own_r_rm1 p0) (Int32.ofNat ea) p2)) v34)), .second, .val (.double (FP.dmul (own_r_rm3 (p5 &&& (3 : Int32)) p1 (own_r_rm1 p1) (Int32.ofNat eb)) v34)), .second, .val (.double (FP.dmul (own_r_rm4 (p5 &&& (3 : Int32)) p1 (own_r_rm2 (own_r_rm1 p1) (Int32.ofNat eb) p3)) v34)), .second, .val (.int (own_r_rm5 (p4 &&& (3 : Int32)) p0)), .val (.int (own_r_rm5 (p5 &&& (3 : Int32)) p1)), .val (.long (own_r_rm6 (p4 &&& (3 : Int32)) (own_r_rm1 p0) (Int32.ofNat ea) (own_r_rm2 (own_r_rm1 p0) (Int32.ofNat ea) p2))), .second, .val (.long (own_r_rm6 (p5 &&& (3 : Int32)) (own_r_rm1 p1) (Int32.ofNat eb) (own_r_rm2 (own_r_rm1 p1) (Int32.ofNat eb) p3))), .second, .val (.int v113), .unset, .unset] []) → Go p e below P T107 (mkF m 250 #[.val (.long p0), .second, .val (.long p1), .second, .val (.long p2), .second, .val (.long p3), .second, .val (.int p4), .val (.int p5), .val (.int (p4 &&& (3 : Int32))), .val (.int (p5 &&& (3 : Int32))), .val (.int (Int32.ofNat ea)), .val (.int (0 : Int32)), .val (.long p1), .second, .val (.int (Int32.ofNat eb)), .val (.int (Int32.ofNat kf.1)), .val (.double (FP.l2d ((1 : Int64) <<< ((Int32.ofNat kf.1).toInt64 &&& 63)))), .second, .val (.double v34), .second, .val (.long (own_r_rm1 p0)), .second, .val (.long (own_r_rm1 p1)), .second, .val (.long (own_r_rm2 (own_r_rm1 p0) (Int32.ofNat ea) p2)), .second, .val (.long (own_r_rm2 (own_r_rm1 p1) (Int32.ofNat eb) p3)), .second, .val (.double (FP.dmul (own_r_rm3 (p4 &&& (3 : Int32)) p0 (own_r_rm1 p0) (Int32.ofNat ea)) v34)), .second, .val (.double (FP.dmul (own_r_rm4 (p4 &&& (3 : Int32)) p0 (own_r_rm2 (own_r_rm1 p0) (Int32.ofNat ea) p2)) v34)), .second, .val (.double (FP.dmul (own_r_rm3 (p5 &&& (3 : Int32)) p1 (own_r_rm1 p1) (Int32.ofNat eb)) v34)), .second, .val (.double (FP.dmul (own_r_rm4 (p5 &&& (3 : Int32)) p1 (own_r_rm2 (own_r_rm1 p1) (Int32.ofNat eb) p3)) v34)), .second, .val (.int (own_r_rm5 (p4 &&& (3 : Int32)) p0)), .val (.int (own_r_rm5 (p5 &&& (3 : Int32)) p1)), .val (.long (own_r_rm6 (p4 &&& (3 : Int32)) (own_r_rm1 p0) (Int32.ofNat ea) (own_r_rm2 (own_r_rm1 p0) (Int32.ofNat ea) p2))), .second, .val (.long (own_r_rm6 (p5 &&& (3 : Int32)) (own_r_rm1 p1) (Int32.ofNat eb) (own_r_rm2 (own_r_rm1 p1) (Int32.ofNat eb) p3))), .second, .unset, .unset, .unset] [(.int (own_r_rm5 (p5 &&& (3 : Int32)) p1)), (.int (own_r_rm5 (p4 &&& (3 : Int32)) p0))]) := by
      intro P hr
      by_cases c115 : (own_r_rm5 (p4 &&& (3 : Int32)) p0) = (own_r_rm5 (p5 &&& (3 : Int32)) p1)
      · skip
        refine g_icY A112 at_250 (c2_eq_t c115) (pc' := 270) rfl ?_
        refine g_iload A112 at_270 rfl (pc' := 272) rfl ?_
        by_cases c116 : (own_r_rm5 (p4 &&& (3 : Int32)) p0) = 0
        · skip
          refine g_ifY A112 at_272 (c0_eq_t c116) (pc' := 281) rfl ?_
          refine g_lload A112 at_281 rfl (pc' := 283) rfl ?_
          refine g_lload A112 at_283 rfl (pc' := 285) rfl ?_
          refine g_lcmp A112 at_285 (pc' := 286) rfl ?_
          by_cases c117 : (own_r_rm6 (p4 &&& (3 : Int32)) (own_r_rm1 p0) (Int32.ofNat ea) (own_r_rm2 (own_r_rm1 p0) (Int32.ofNat ea) p2)) < (own_r_rm6 (p5 &&& (3 : Int32)) (own_r_rm1 p1) (Int32.ofNat eb) (own_r_rm2 (own_r_rm1 p1) (Int32.ofNat eb) p3))
          · skip
            refine g_ifN A112 at_286 (c0_ge_f ((l_lt (own_r_rm6 (p4 &&& (3 : Int32)) (own_r_rm1 p0) (Int32.ofNat ea) (own_r_rm2 (own_r_rm1 p0) (Int32.ofNat ea) p2)) (own_r_rm6 (p5 &&& (3 : Int32)) (own_r_rm1 p1) (Int32.ofNat eb) (own_r_rm2 (own_r_rm1 p1) (Int32.ofNat eb) p3))).mpr c117)) (pc' := 289) rfl ?_
            refine g_iconst A112 at_289 (v := (-1 : Int32)) rfl (pc' := 290) rfl ?_
            refine g_goto A112 at_290 (pc' := 306) rfl ?_
            refine g_istore A112 at_306 (ls' := #[.val (.long p0), .second, .val (.long p1), .second, .val (.long p2), .second, .val (.long p3), .second, .val (.int p4), .val (.int p5), .val (.int (p4 &&& (3 : Int32))), .val (.int (p5 &&& (3 : Int32))), .val (.int (Int32.ofNat ea)), .val (.int (0 : Int32)), .val (.long p1), .second, .val (.int (Int32.ofNat eb)), .val (.int (Int32.ofNat kf.1)), .val (.double (FP.l2d ((1 : Int64) <<< ((Int32.ofNat kf.1).toInt64 &&& 63)))), .second, .val (.double v34), .second, .val (.long (own_r_rm1 p0)), .second, .val (.long (own_r_rm1 p1)), .second, .val (.long (own_r_rm2 (own_r_rm1 p0) (Int32.ofNat ea) p2)), .second, .val (.long (own_r_rm2 (own_r_rm1 p1) (Int32.ofNat eb) p3)), .second, .val (.double (FP.dmul (own_r_rm3 (p4 &&& (3 : Int32)) p0 (own_r_rm1 p0) (Int32.ofNat ea)) v34)), .second, .val (.double (FP.dmul (own_r_rm4 (p4 &&& (3 : Int32)) p0 (own_r_rm2 (own_r_rm1 p0) (Int32.ofNat ea) p2)) v34)), .second, .val (.double (FP.dmul (own_r_rm3 (p5 &&& (3 : Int32)) p1 (own_r_rm1 p1) (Int32.ofNat eb)) v34)), .second, .val (.double (FP.dmul (own_r_rm4 (p5 &&& (3 : Int32)) p1 (own_r_rm2 (own_r_rm1 p1) (Int32.ofNat eb) p3)) v34)), .second, .val (.int (own_r_rm5 (p4 &&& (3 : Int32)) p0)), .val (.int (own_r_rm5 (p5 &&& (3 : Int32)) p1)), .val (.long (own_r_rm6 (p4 &&& (3 : Int32)) (own_r_rm1 p0) (Int32.ofNat ea) (own_r_rm2 (own_r_rm1 p0) (Int32.ofNat ea) p2))), .second, .val (.long (own_r_rm6 (p5 &&& (3 : Int32)) (own_r_rm1 p1) (Int32.ofNat eb) (own_r_rm2 (own_r_rm1 p1) (Int32.ofNat eb) p3))), .second, .val (.int (-1 : Int32)), .unset, .unset]) rfl (pc' := 308) rfl ?_
            obtain rfl : v113 = (-1 : Int32) := hv113.trans ((if_pos c115).trans ((if_pos c116).trans ((if_pos c117).trans rfl)))
            exact hr
          · skip
            refine g_ifY A112 at_286 (c0_ge_t (fun q => c117 ((l_lt (own_r_rm6 (p4 &&& (3 : Int32)) (own_r_rm1 p0) (Int32.ofNat ea) (own_r_rm2 (own_r_rm1 p0) (Int32.ofNat ea) p2)) (own_r_rm6 (p5 &&& (3 : Int32)) (own_r_rm1 p1) (Int32.ofNat eb) (own_r_rm2 (own_r_rm1 p1) (Int32.ofNat eb) p3))).mp q))) (pc' := 293) rfl ?_
            refine g_lload A112 at_293 rfl (pc' := 295) rfl ?_
            refine g_lload A112 at_295 rfl (pc' := 297) rfl ?_
            refine g_lcmp A112 at_297 (pc' := 298) rfl ?_
            by_cases c118 : (own_r_rm6 (p5 &&& (3 : Int32)) (own_r_rm1 p1) (Int32.ofNat eb) (own_r_rm2 (own_r_rm1 p1) (Int32.ofNat eb) p3)) < (own_r_rm6 (p4 &&& (3 : Int32)) (own_r_rm1 p0) (Int32.ofNat ea) (own_r_rm2 (own_r_rm1 p0) (Int32.ofNat ea) p2))
            · skip
              refine g_ifN A112 at_298 (c0_le_f ((l_gt (own_r_rm6 (p4 &&& (3 : Int32)) (own_r_rm1 p0) (Int32.ofNat ea) (own_r_rm2 (own_r_rm1 p0) (Int32.ofNat ea) p2)) (own_r_rm6 (p5 &&& (3 : Int32)) (own_r_rm1 p1) (Int32.ofNat eb) (own_r_rm2 (own_r_rm1 p1) (Int32.ofNat eb) p3))).mpr c118)) (pc' := 301) rfl ?_
              refine g_iconst A112 at_301 (v := (1 : Int32)) rfl (pc' := 302) rfl ?_
              refine g_goto A112 at_302 (pc' := 306) rfl ?_
              refine g_istore A112 at_306 (ls' := #[.val (.long p0), .second, .val (.long p1), .second, .val (.long p2), .second, .val (.long p3), .second, .val (.int p4), .val (.int p5), .val (.int (p4 &&& (3 : Int32))), .val (.int (p5 &&& (3 : Int32))), .val (.int (Int32.ofNat ea)), .val (.int (0 : Int32)), .val (.long p1), .second, .val (.int (Int32.ofNat eb)), .val (.int (Int32.ofNat kf.1)), .val (.double (FP.l2d ((1 : Int64) <<< ((Int32.ofNat kf.1).toInt64 &&& 63)))), .second, .val (.double v34), .second, .val (.long (own_r_rm1 p0)), .second, .val (.long (own_r_rm1 p1)), .second, .val (.long (own_r_rm2 (own_r_rm1 p0) (Int32.ofNat ea) p2)), .second, .val (.long (own_r_rm2 (own_r_rm1 p1) (Int32.ofNat eb) p3)), .second, .val (.double (FP.dmul (own_r_rm3 (p4 &&& (3 : Int32)) p0 (own_r_rm1 p0) (Int32.ofNat ea)) v34)), .second, .val (.double (FP.dmul (own_r_rm4 (p4 &&& (3 : Int32)) p0 (own_r_rm2 (own_r_rm1 p0) (Int32.ofNat ea) p2)) v34)), .second, .val (.double (FP.dmul (own_r_rm3 (p5 &&& (3 : Int32)) p1 (own_r_rm1 p1) (Int32.ofNat eb)) v34)), .second, .val (.double (FP.dmul (own_r_rm4 (p5 &&& (3 : Int32)) p1 (own_r_rm2 (own_r_rm1 p1) (Int32.ofNat eb) p3)) v34)), .second, .val (.int (own_r_rm5 (p4 &&& (3 : Int32)) p0)), .val (.int (own_r_rm5 (p5 &&& (3 : Int32)) p1)), .val (.long (own_r_rm6 (p4 &&& (3 : Int32)) (own_r_rm1 p0) (Int32.ofNat ea) (own_r_rm2 (own_r_rm1 p0) (Int32.ofNat ea) p2))), .second, .val (.long (own_r_rm6 (p5 &&& (3 : Int32)) (own_r_rm1 p1) (Int32.ofNat eb) (own_r_rm2 (own_r_rm1 p1) (Int32.ofNat eb) p3))), .second, .val (.int (1 : Int32)), .unset, .unset]) rfl (pc' := 308) rfl ?_
              obtain rfl : v113 = (1 : Int32) := hv113.trans ((if_pos c115).trans ((if_pos c116).trans ((if_neg c117).trans ((if_pos c118).trans rfl))))
              exact hr
            · skip
              refine g_ifY A112 at_298 (c0_le_t (fun q => c118 ((l_gt (own_r_rm6 (p4 &&& (3 : Int32)) (own_r_rm1 p0) (Int32.ofNat ea) (own_r_rm2 (own_r_rm1 p0) (Int32.ofNat ea) p2)) (own_r_rm6 (p5 &&& (3 : Int32)) (own_r_rm1 p1) (Int32.ofNat eb) (own_r_rm2 (own_r_rm1 p1) (Int32.ofNat eb) p3))).mp q))) (pc' := 305) rfl ?_
              refine g_iconst A112 at_305 (v := (0 : Int32)) rfl (pc' := 306) rfl ?_
              refine g_istore A112 at_306 (ls' := #[.val (.long p0), .second, .val (.long p1), .second, .val (.long p2), .second, .val (.long p3), .second, .val (.int p4), .val (.int p5), .val (.int (p4 &&& (3 : Int32))), .val (.int (p5 &&& (3 : Int32))), .val (.int (Int32.ofNat ea)), .val (.int (0 : Int32)), .val (.long p1), .second, .val (.int (Int32.ofNat eb)), .val (.int (Int32.ofNat kf.1)), .val (.double (FP.l2d ((1 : Int64) <<< ((Int32.ofNat kf.1).toInt64 &&& 63)))), .second, .val (.double v34), .second, .val (.long (own_r_rm1 p0)), .second, .val (.long (own_r_rm1 p1)), .second, .val (.long (own_r_rm2 (own_r_rm1 p0) (Int32.ofNat ea) p2)), .second, .val (.long (own_r_rm2 (own_r_rm1 p1) (Int32.ofNat eb) p3)), .second, .val (.double (FP.dmul (own_r_rm3 (p4 &&& (3 : Int32)) p0 (own_r_rm1 p0) (Int32.ofNat ea)) v34)), .second, .val (.double (FP.dmul (own_r_rm4 (p4 &&& (3 : Int32)) p0 (own_r_rm2 (own_r_rm1 p0) (Int32.ofNat ea) p2)) v34)), .second, .val (.double (FP.dmul (own_r_rm3 (p5 &&& (3 : Int32)) p1 (own_r_rm1 p1) (Int32.ofNat eb)) v34)), .second, .val (.double (FP.dmul (own_r_rm4 (p5 &&& (3 : Int32)) p1 (own_r_rm2 (own_r_rm1 p1) (Int32.ofNat eb) p3)) v34)), .second, .val (.int (own_r_rm5 (p4 &&& (3 : Int32)) p0)), .val (.int (own_r_rm5 (p5 &&& (3 : Int32)) p1)), .val (.long (own_r_rm6 (p4 &&& (3 : Int32)) (own_r_rm1 p0) (Int32.ofNat ea) (own_r_rm2 (own_r_rm1 p0) (Int32.ofNat ea) p2))), .second, .val (.long (own_r_rm6 (p5 &&& (3 : Int32)) (own_r_rm1 p1) (Int32.ofNat eb) (own_r_rm2 (own_r_rm1 p1) (Int32.ofNat eb) p3))), .second, .val (.int (0 : Int32)), .unset, .unset]) rfl (pc' := 308) rfl ?_
              obtain rfl : v113 = (0 : Int32) := hv113.trans ((if_pos c115).trans ((if_pos c116).trans ((if_neg c117).trans ((if_neg c118).trans rfl))))
              exact hr
        · skip
          refine g_ifN A112 at_272 (c0_eq_f c116) (pc' := 275) rfl ?_
          refine g_iconst A112 at_275 (v := (0 : Int32)) rfl (pc' := 276) rfl ?_
          refine g_istore A112 at_276 (ls' := #[.val (.long p0), .second, .val (.long p1), .second, .val (.long p2), .second, .val (.long p3), .second, .val (.int p4), .val (.int p5), .val (.int (p4 &&& (3 : Int32))), .val (.int (p5 &&& (3 : Int32))), .val (.int (Int32.ofNat ea)), .val (.int (0 : Int32)), .val (.long p1), .second, .val (.int (Int32.ofNat eb)), .val (.int (Int32.ofNat kf.1)), .val (.double (FP.l2d ((1 : Int64) <<< ((Int32.ofNat kf.1).toInt64 &&& 63)))), .second, .val (.double v34), .second, .val (.long (own_r_rm1 p0)), .second, .val (.long (own_r_rm1 p1)), .second, .val (.long (own_r_rm2 (own_r_rm1 p0) (Int32.ofNat ea) p2)), .second, .val (.long (own_r_rm2 (own_r_rm1 p1) (Int32.ofNat eb) p3)), .second, .val (.double (FP.dmul (own_r_rm3 (p4 &&& (3 : Int32)) p0 (own_r_rm1 p0) (Int32.ofNat ea)) v34)), .second, .val (.double (FP.dmul (own_r_rm4 (p4 &&& (3 : Int32)) p0 (own_r_rm2 (own_r_rm1 p0) (Int32.ofNat ea) p2)) v34)), .second, .val (.double (FP.dmul (own_r_rm3 (p5 &&& (3 : Int32)) p1 (own_r_rm1 p1) (Int32.ofNat eb)) v34)), .second, .val (.double (FP.dmul (own_r_rm4 (p5 &&& (3 : Int32)) p1 (own_r_rm2 (own_r_rm1 p1) (Int32.ofNat eb) p3)) v34)), .second, .val (.int (own_r_rm5 (p4 &&& (3 : Int32)) p0)), .val (.int (own_r_rm5 (p5 &&& (3 : Int32)) p1)), .val (.long (own_r_rm6 (p4 &&& (3 : Int32)) (own_r_rm1 p0) (Int32.ofNat ea) (own_r_rm2 (own_r_rm1 p0) (Int32.ofNat ea) p2))), .second, .val (.long (own_r_rm6 (p5 &&& (3 : Int32)) (own_r_rm1 p1) (Int32.ofNat eb) (own_r_rm2 (own_r_rm1 p1) (Int32.ofNat eb) p3))), .second, .val (.int (0 : Int32)), .unset, .unset]) rfl (pc' := 278) rfl ?_
          refine g_goto A112 at_278 (pc' := 308) rfl ?_
          obtain rfl : v113 = (0 : Int32) := hv113.trans ((if_pos c115).trans ((if_neg c116).trans rfl))
          exact hr
      · skip
        refine g_icN A112 at_250 (c2_eq_f c115) (pc' := 253) rfl ?_
        refine g_iload A112 at_253 rfl (pc' := 255) rfl ?_
        refine g_iload A112 at_255 rfl (pc' := 257) rfl ?_
        by_cases c119 : (own_r_rm5 (p4 &&& (3 : Int32)) p0) < (own_r_rm5 (p5 &&& (3 : Int32)) p1)
        · skip
          refine g_icN A112 at_257 (c2_ge_f c119) (pc' := 260) rfl ?_
          refine g_iconst A112 at_260 (v := (-1 : Int32)) rfl (pc' := 261) rfl ?_
          refine g_goto A112 at_261 (pc' := 265) rfl ?_
          refine g_istore A112 at_265 (ls' := #[.val (.long p0), .second, .val (.long p1), .second, .val (.long p2), .second, .val (.long p3), .second, .val (.int p4), .val (.int p5), .val (.int (p4 &&& (3 : Int32))), .val (.int (p5 &&& (3 : Int32))), .val (.int (Int32.ofNat ea)), .val (.int (0 : Int32)), .val (.long p1), .second, .val (.int (Int32.ofNat eb)), .val (.int (Int32.ofNat kf.1)), .val (.double (FP.l2d ((1 : Int64) <<< ((Int32.ofNat kf.1).toInt64 &&& 63)))), .second, .val (.double v34), .second, .val (.long (own_r_rm1 p0)), .second, .val (.long (own_r_rm1 p1)), .second, .val (.long (own_r_rm2 (own_r_rm1 p0) (Int32.ofNat ea) p2)), .second, .val (.long (own_r_rm2 (own_r_rm1 p1) (Int32.ofNat eb) p3)), .second, .val (.double (FP.dmul (own_r_rm3 (p4 &&& (3 : Int32)) p0 (own_r_rm1 p0) (Int32.ofNat ea)) v34)), .second, .val (.double (FP.dmul (own_r_rm4 (p4 &&& (3 : Int32)) p0 (own_r_rm2 (own_r_rm1 p0) (Int32.ofNat ea) p2)) v34)), .second, .val (.double (FP.dmul (own_r_rm3 (p5 &&& (3 : Int32)) p1 (own_r_rm1 p1) (Int32.ofNat eb)) v34)), .second, .val (.double (FP.dmul (own_r_rm4 (p5 &&& (3 : Int32)) p1 (own_r_rm2 (own_r_rm1 p1) (Int32.ofNat eb) p3)) v34)), .second, .val (.int (own_r_rm5 (p4 &&& (3 : Int32)) p0)), .val (.int (own_r_rm5 (p5 &&& (3 : Int32)) p1)), .val (.long (own_r_rm6 (p4 &&& (3 : Int32)) (own_r_rm1 p0) (Int32.ofNat ea) (own_r_rm2 (own_r_rm1 p0) (Int32.ofNat ea) p2))), .second, .val (.long (own_r_rm6 (p5 &&& (3 : Int32)) (own_r_rm1 p1) (Int32.ofNat eb) (own_r_rm2 (own_r_rm1 p1) (Int32.ofNat eb) p3))), .second, .val (.int (-1 : Int32)), .unset, .unset]) rfl (pc' := 267) rfl ?_
          refine g_goto A112 at_267 (pc' := 308) rfl ?_
          obtain rfl : v113 = (-1 : Int32) := hv113.trans ((if_neg c115).trans ((if_pos c119).trans rfl))
          exact hr
        · skip
          refine g_icY A112 at_257 (c2_ge_t c119) (pc' := 264) rfl ?_
          refine g_iconst A112 at_264 (v := (1 : Int32)) rfl (pc' := 265) rfl ?_
          refine g_istore A112 at_265 (ls' := #[.val (.long p0), .second, .val (.long p1), .second, .val (.long p2), .second, .val (.long p3), .second, .val (.int p4), .val (.int p5), .val (.int (p4 &&& (3 : Int32))), .val (.int (p5 &&& (3 : Int32))), .val (.int (Int32.ofNat ea)), .val (.int (0 : Int32)), .val (.long p1), .second, .val (.int (Int32.ofNat eb)), .val (.int (Int32.ofNat kf.1)), .val (.double (FP.l2d ((1 : Int64) <<< ((Int32.ofNat kf.1).toInt64 &&& 63)))), .second, .val (.double v34), .second, .val (.long (own_r_rm1 p0)), .second, .val (.long (own_r_rm1 p1)), .second, .val (.long (own_r_rm2 (own_r_rm1 p0) (Int32.ofNat ea) p2)), .second, .val (.long (own_r_rm2 (own_r_rm1 p1) (Int32.ofNat eb) p3)), .second, .val (.double (FP.dmul (own_r_rm3 (p4 &&& (3 : Int32)) p0 (own_r_rm1 p0) (Int32.ofNat ea)) v34)), .second, .val (.double (FP.dmul (own_r_rm4 (p4 &&& (3 : Int32)) p0 (own_r_rm2 (own_r_rm1 p0) (Int32.ofNat ea) p2)) v34)), .second, .val (.double (FP.dmul (own_r_rm3 (p5 &&& (3 : Int32)) p1 (own_r_rm1 p1) (Int32.ofNat eb)) v34)), .second, .val (.double (FP.dmul (own_r_rm4 (p5 &&& (3 : Int32)) p1 (own_r_rm2 (own_r_rm1 p1) (Int32.ofNat eb) p3)) v34)), .second, .val (.int (own_r_rm5 (p4 &&& (3 : Int32)) p0)), .val (.int (own_r_rm5 (p5 &&& (3 : Int32)) p1)), .val (.long (own_r_rm6 (p4 &&& (3 : Int32)) (own_r_rm1 p0) (Int32.ofNat ea) (own_r_rm2 (own_r_rm1 p0) (Int32.ofNat ea) p2))), .second, .val (.long (own_r_rm6 (p5 &&& (3 : Int32)) (own_r_rm1 p1) (Int32.ofNat eb) (own_r_rm2 (own_r_rm1 p1) (Int32.ofNat eb) p3))), .second, .val (.int (1 : Int32)), .unset, .unset]) rfl (pc' := 267) rfl ?_
          refine g_goto A112 at_267 (pc' := 308) rfl ?_
          obtain rfl : v113 = (1 : Int32) := hv113.trans ((if_neg c115).trans ((if_neg c119).trans rfl))
          exact hr
    refine sg114 ?_
    refine g_dload A112 at_308 rfl (pc' := 310) rfl ?_
    refine g_dload A112 at_310 rfl (pc' := 312) rfl ?_
    refine g_dload A112 at_312 rfl (pc' := 314) rfl ?_
    refine g_dload A112 at_314 rfl (pc' := 316) rfl ?_
    obtain ⟨vv120, _, ⟨T120, L120, k120, n120⟩, -, X120, ⟨L120c, hQ120, l120, y120, z120⟩, st120⟩ := Jvm.LawKit.callS X107 hx (y := (⟨"com/example/hinterland/hinterland/DoubleDouble", "compare", "(DDDD)I"⟩ : MethodName)) hown (mvT hZ (hw _ (List.mem_of_getElem? (i := 24) rfl))) (mvT hZ (hw _ (List.mem_of_getElem? (i := 25) rfl))) (mvT hZ (hw _ (List.mem_of_getElem? (i := 26) rfl))) (mvT hZ (hw _ (List.mem_of_getElem? (i := 27) rfl))) (by decide) (backOf (W := 0) (rm7 l Z a0 hw [] (FP.dmul (own_r_rm3 (p4 &&& (3 : Int32)) p0 (own_r_rm1 p0) (Int32.ofNat ea)) v34) (FP.dmul (own_r_rm4 (p4 &&& (3 : Int32)) p0 (own_r_rm2 (own_r_rm1 p0) (Int32.ofNat ea) p2)) v34) (FP.dmul (own_r_rm3 (p5 &&& (3 : Int32)) p1 (own_r_rm1 p1) (Int32.ofNat eb)) v34) (FP.dmul (own_r_rm4 (p5 &&& (3 : Int32)) p1 (own_r_rm2 (own_r_rm1 p1) (Int32.ofNat eb) p3)) v34) h0 n0 Z0 ) hZ (hw _ (List.mem_of_getElem? (i := 27) rfl)) (hw _ (List.mem_of_getElem? (i := 26) rfl)) (by decide) (by decide)) (g := (mkF m 316 #[.val (.long p0), .second, .val (.long p1), .second, .val (.long p2), .second, .val (.long p3), .second, .val (.int p4), .val (.int p5), .val (.int (p4 &&& (3 : Int32))), .val (.int (p5 &&& (3 : Int32))), .val (.int (Int32.ofNat ea)), .val (.int (0 : Int32)), .val (.long p1), .second, .val (.int (Int32.ofNat eb)), .val (.int (Int32.ofNat kf.1)), .val (.double (FP.l2d ((1 : Int64) <<< ((Int32.ofNat kf.1).toInt64 &&& 63)))), .second, .val (.double v34), .second, .val (.long (own_r_rm1 p0)), .second, .val (.long (own_r_rm1 p1)), .second, .val (.long (own_r_rm2 (own_r_rm1 p0) (Int32.ofNat ea) p2)), .second, .val (.long (own_r_rm2 (own_r_rm1 p1) (Int32.ofNat eb) p3)), .second, .val (.double (FP.dmul (own_r_rm3 (p4 &&& (3 : Int32)) p0 (own_r_rm1 p0) (Int32.ofNat ea)) v34)), .second, .val (.double (FP.dmul (own_r_rm4 (p4 &&& (3 : Int32)) p0 (own_r_rm2 (own_r_rm1 p0) (Int32.ofNat ea) p2)) v34)), .second, .val (.double (FP.dmul (own_r_rm3 (p5 &&& (3 : Int32)) p1 (own_r_rm1 p1) (Int32.ofNat eb)) v34)), .second, .val (.double (FP.dmul (own_r_rm4 (p5 &&& (3 : Int32)) p1 (own_r_rm2 (own_r_rm1 p1) (Int32.ofNat eb) p3)) v34)), .second, .val (.int (own_r_rm5 (p4 &&& (3 : Int32)) p0)), .val (.int (own_r_rm5 (p5 &&& (3 : Int32)) p1)), .val (.long (own_r_rm6 (p4 &&& (3 : Int32)) (own_r_rm1 p0) (Int32.ofNat ea) (own_r_rm2 (own_r_rm1 p0) (Int32.ofNat ea) p2))), .second, .val (.long (own_r_rm6 (p5 &&& (3 : Int32)) (own_r_rm1 p1) (Int32.ofNat eb) (own_r_rm2 (own_r_rm1 p1) (Int32.ofNat eb) p3))), .second, .val (.int v113), .unset, .unset] [(.double (FP.dmul (own_r_rm4 (p5 &&& (3 : Int32)) p1 (own_r_rm2 (own_r_rm1 p1) (Int32.ofNat eb) p3)) v34)), (.double (FP.dmul (own_r_rm3 (p5 &&& (3 : Int32)) p1 (own_r_rm1 p1) (Int32.ofNat eb)) v34)), (.double (FP.dmul (own_r_rm4 (p4 &&& (3 : Int32)) p0 (own_r_rm2 (own_r_rm1 p0) (Int32.ofNat ea) p2)) v34)), (.double (FP.dmul (own_r_rm3 (p4 &&& (3 : Int32)) p0 (own_r_rm1 p0) (Int32.ofNat ea)) v34))])) rfl (by rw [hml]; rfl) (argsL := [(.double (FP.dmul (own_r_rm3 (p4 &&& (3 : Int32)) p0 (own_r_rm1 p0) (Int32.ofNat ea)) v34)), (.double (FP.dmul (own_r_rm4 (p4 &&& (3 : Int32)) p0 (own_r_rm2 (own_r_rm1 p0) (Int32.ofNat ea) p2)) v34)), (.double (FP.dmul (own_r_rm3 (p5 &&& (3 : Int32)) p1 (own_r_rm1 p1) (Int32.ofNat eb)) v34)), (.double (FP.dmul (own_r_rm4 (p5 &&& (3 : Int32)) p1 (own_r_rm2 (own_r_rm1 p1) (Int32.ofNat eb) p3)) v34))]) (rest := []) (lenOf pd_6 rfl) rfl (by show 2 * 0 + _ ≤ _; exact Nat.le_of_eq rfl) (hb hby at_316) (fun _ _ => ⟨rfl, e111, (by decide : 0 + 0 ≤ _), (by decide : 0 + 0 ≤ _)⟩)
    have hQ120b : Q7 Z (FP.dmul (own_r_rm3 (p4 &&& (3 : Int32)) p0 (own_r_rm1 p0) (Int32.ofNat ea)) v34) (FP.dmul (own_r_rm4 (p4 &&& (3 : Int32)) p0 (own_r_rm2 (own_r_rm1 p0) (Int32.ofNat ea) p2)) v34) (FP.dmul (own_r_rm3 (p5 &&& (3 : Int32)) p1 (own_r_rm1 p1) (Int32.ofNat eb)) v34) (FP.dmul (own_r_rm4 (p5 &&& (3 : Int32)) p1 (own_r_rm2 (own_r_rm1 p1) (Int32.ofNat eb) p3)) v34) h0 n0 vv120 T120.heap L120c := hQ120
    clear hQ120
    dsimp only [Pt.U, Pt.locs, Pt.cells, Pt.slots] at X120 l120 y120 z120 st120
    subst y120 z120
    obtain ⟨rfl, Nq121, Kq122⟩ := hQ120b
    have N123 : Fr n0 L120 := by rw [l120]; exact Fr.app N110 Nq121
    refine Go.of (g' := (mkF m 319 #[.val (.long p0), .second, .val (.long p1), .second, .val (.long p2), .second, .val (.long p3), .second, .val (.int p4), .val (.int p5), .val (.int (p4 &&& (3 : Int32))), .val (.int (p5 &&& (3 : Int32))), .val (.int (Int32.ofNat ea)), .val (.int (0 : Int32)), .val (.long p1), .second, .val (.int (Int32.ofNat eb)), .val (.int (Int32.ofNat kf.1)), .val (.double (FP.l2d ((1 : Int64) <<< ((Int32.ofNat kf.1).toInt64 &&& 63)))), .second, .val (.double v34), .second, .val (.long (own_r_rm1 p0)), .second, .val (.long (own_r_rm1 p1)), .second, .val (.long (own_r_rm2 (own_r_rm1 p0) (Int32.ofNat ea) p2)), .second, .val (.long (own_r_rm2 (own_r_rm1 p1) (Int32.ofNat eb) p3)), .second, .val (.double (FP.dmul (own_r_rm3 (p4 &&& (3 : Int32)) p0 (own_r_rm1 p0) (Int32.ofNat ea)) v34)), .second, .val (.double (FP.dmul (own_r_rm4 (p4 &&& (3 : Int32)) p0 (own_r_rm2 (own_r_rm1 p0) (Int32.ofNat ea) p2)) v34)), .second, .val (.double (FP.dmul (own_r_rm3 (p5 &&& (3 : Int32)) p1 (own_r_rm1 p1) (Int32.ofNat eb)) v34)), .second, .val (.double (FP.dmul (own_r_rm4 (p5 &&& (3 : Int32)) p1 (own_r_rm2 (own_r_rm1 p1) (Int32.ofNat eb) p3)) v34)), .second, .val (.int (own_r_rm5 (p4 &&& (3 : Int32)) p0)), .val (.int (own_r_rm5 (p5 &&& (3 : Int32)) p1)), .val (.long (own_r_rm6 (p4 &&& (3 : Int32)) (own_r_rm1 p0) (Int32.ofNat ea) (own_r_rm2 (own_r_rm1 p0) (Int32.ofNat ea) p2))), .second, .val (.long (own_r_rm6 (p5 &&& (3 : Int32)) (own_r_rm1 p1) (Int32.ofNat eb) (own_r_rm2 (own_r_rm1 p1) (Int32.ofNat eb) p3))), .second, .val (.int v113), .unset, .unset] [(.int (own_r_rm7 (FP.dmul (own_r_rm3 (p4 &&& (3 : Int32)) p0 (own_r_rm1 p0) (Int32.ofNat ea)) v34) (FP.dmul (own_r_rm4 (p4 &&& (3 : Int32)) p0 (own_r_rm2 (own_r_rm1 p0) (Int32.ofNat ea) p2)) v34) (FP.dmul (own_r_rm3 (p5 &&& (3 : Int32)) p1 (own_r_rm1 p1) (Int32.ofNat eb)) v34) (FP.dmul (own_r_rm4 (p5 &&& (3 : Int32)) p1 (own_r_rm2 (own_r_rm1 p1) (Int32.ofNat eb) p3)) v34)))])) st120 ?_
    have e124 : T120.heap = h0 := Kq122
    have A125 := (⟨X120, hx, hby⟩ : Ax _ _ _ _ _ _ _ _ _ _ _ _ _ _ _)
    refine g_istore A125 at_319 (ls' := #[.val (.long p0), .second, .val (.long p1), .second, .val (.long p2), .second, .val (.long p3), .second, .val (.int p4), .val (.int p5), .val (.int (p4 &&& (3 : Int32))), .val (.int (p5 &&& (3 : Int32))), .val (.int (Int32.ofNat ea)), .val (.int (0 : Int32)), .val (.long p1), .second, .val (.int (Int32.ofNat eb)), .val (.int (Int32.ofNat kf.1)), .val (.double (FP.l2d ((1 : Int64) <<< ((Int32.ofNat kf.1).toInt64 &&& 63)))), .second, .val (.double v34), .second, .val (.long (own_r_rm1 p0)), .second, .val (.long (own_r_rm1 p1)), .second, .val (.long (own_r_rm2 (own_r_rm1 p0) (Int32.ofNat ea) p2)), .second, .val (.long (own_r_rm2 (own_r_rm1 p1) (Int32.ofNat eb) p3)), .second, .val (.double (FP.dmul (own_r_rm3 (p4 &&& (3 : Int32)) p0 (own_r_rm1 p0) (Int32.ofNat ea)) v34)), .second, .val (.double (FP.dmul (own_r_rm4 (p4 &&& (3 : Int32)) p0 (own_r_rm2 (own_r_rm1 p0) (Int32.ofNat ea) p2)) v34)), .second, .val (.double (FP.dmul (own_r_rm3 (p5 &&& (3 : Int32)) p1 (own_r_rm1 p1) (Int32.ofNat eb)) v34)), .second, .val (.double (FP.dmul (own_r_rm4 (p5 &&& (3 : Int32)) p1 (own_r_rm2 (own_r_rm1 p1) (Int32.ofNat eb) p3)) v34)), .second, .val (.int (own_r_rm5 (p4 &&& (3 : Int32)) p0)), .val (.int (own_r_rm5 (p5 &&& (3 : Int32)) p1)), .val (.long (own_r_rm6 (p4 &&& (3 : Int32)) (own_r_rm1 p0) (Int32.ofNat ea) (own_r_rm2 (own_r_rm1 p0) (Int32.ofNat ea) p2))), .second, .val (.long (own_r_rm6 (p5 &&& (3 : Int32)) (own_r_rm1 p1) (Int32.ofNat eb) (own_r_rm2 (own_r_rm1 p1) (Int32.ofNat eb) p3))), .second, .val (.int v113), .val (.int (own_r_rm7 (FP.dmul (own_r_rm3 (p4 &&& (3 : Int32)) p0 (own_r_rm1 p0) (Int32.ofNat ea)) v34) (FP.dmul (own_r_rm4 (p4 &&& (3 : Int32)) p0 (own_r_rm2 (own_r_rm1 p0) (Int32.ofNat ea) p2)) v34) (FP.dmul (own_r_rm3 (p5 &&& (3 : Int32)) p1 (own_r_rm1 p1) (Int32.ofNat eb)) v34) (FP.dmul (own_r_rm4 (p5 &&& (3 : Int32)) p1 (own_r_rm2 (own_r_rm1 p1) (Int32.ofNat eb) p3)) v34))), .unset]) rfl (pc' := 321) rfl ?_
    refine g_iload A125 at_321 rfl (pc' := 323) rfl ?_
    obtain ⟨v126, hv126⟩ : ∃ z : Int32, z = (if (own_r_rm7 (FP.dmul (own_r_rm3 (p4 &&& (3 : Int32)) p0 (own_r_rm1 p0) (Int32.ofNat ea)) v34) (FP.dmul (own_r_rm4 (p4 &&& (3 : Int32)) p0 (own_r_rm2 (own_r_rm1 p0) (Int32.ofNat ea) p2)) v34) (FP.dmul (own_r_rm3 (p5 &&& (3 : Int32)) p1 (own_r_rm1 p1) (Int32.ofNat eb)) v34) (FP.dmul (own_r_rm4 (p5 &&& (3 : Int32)) p1 (own_r_rm2 (own_r_rm1 p1) (Int32.ofNat eb) p3)) v34)) < 0 then (-1 : Int32) else (if 0 < (own_r_rm7 (FP.dmul (own_r_rm3 (p4 &&& (3 : Int32)) p0 (own_r_rm1 p0) (Int32.ofNat ea)) v34) (FP.dmul (own_r_rm4 (p4 &&& (3 : Int32)) p0 (own_r_rm2 (own_r_rm1 p0) (Int32.ofNat ea) p2)) v34) (FP.dmul (own_r_rm3 (p5 &&& (3 : Int32)) p1 (own_r_rm1 p1) (Int32.ofNat eb)) v34) (FP.dmul (own_r_rm4 (p5 &&& (3 : Int32)) p1 (own_r_rm2 (own_r_rm1 p1) (Int32.ofNat eb) p3)) v34)) then (1 : Int32) else (0 : Int32))) := ⟨_, rfl⟩
    have sg127 : ∀ {P : State → Outcome → Prop}, Go p e below P T120 (mkF m 340 #[.val (.long p0), .second, .val (.long p1), .second, .val (.long p2), .second, .val (.long p3), .second, .val (.int p4), .val (.int p5), .val (.int (p4 &&& (3 : Int32))), .val (.int (p5 &&& (3 : Int32))), .val (.int (Int32.ofNat ea)), .val (.int (0 : Int32)), .val (.long p1), .second, .val (.int (Int32.ofNat eb)), .val (.int (Int32.ofNat kf.1)), .val (.double (FP.l2d ((1 : Int64) <<< ((Int32.ofNat kf.1).toInt64 &&& 63)))), .second, .val (.double v34), .second, .val (.long (own_r_rm1 p0)), .second, .val (.long (own_r_rm1 p1)), .second, .val (.long (own_r_rm2 (own_r_rm1 p0) (Int32.ofNat ea) p2)), .second, .val (.long (own_r_rm2 (own_r_rm1 p1) (Int32.ofNat eb) p3)), .second, .val (.double (FP.dmul (own_r_rm3 (p4 &&& (3 : Int32)) p0 (own_r_rm1 p0) (Int32.ofNat ea)) v34)), .second, .val (.double (FP.dmul (own_r_rm4 (p4 &&& (3 : Int32)) p0 (own_r_rm2 (own_r_rm1 p0) (Int32.ofNat ea) p2)) v34)), .second, .val (.double (FP.dmul (own_r_rm3 (p5 &&& (3 : Int32)) p1 (own_r_rm1 p1) (Int32.ofNat eb)) v34)), .second, .val (.double (FP.dmul (own_r_rm4 (p5 &&& (3 : Int32)) p1 (own_r_rm2 (own_r_rm1 p1) (Int32.ofNat eb) p3)) v34)), .second, .val (.int (own_r_rm5 (p4 &&& (3 : Int32)) p0)), .val (.int (own_r_rm5 (p5 &&& (3 : Int32)) p1)), .val (.long (own_r_rm6 (p4 &&& (3 : Int32)) (own_r_rm1 p0) (Int32.ofNat ea) (own_r_rm2 (own_r_rm1 p0) (Int32.ofNat ea) p2))), .second, .val (.long (own_r_rm6 (p5 &&& (3 : Int32)) (own_r_rm1 p1) (Int32.ofNat eb) (own_r_rm2 (own_r_rm1 p1) (Int32.ofNat eb) p3))), .second, .val (.int v113), .val (.int (own_r_rm7 (FP.dmul (own_r_rm3 (p4 &&& (3 : Int32)) p0 (own_r_rm1 p0) (Int32.ofNat ea)) v34) (FP.dmul (own_r_rm4 (p4 &&& (3 : Int32)) p0 (own_r_rm2 (own_r_rm1 p0) (Int32.ofNat ea) p2)) v34) (FP.dmul (own_r_rm3 (p5 &&& (3 : Int32)) p1 (own_r_rm1 p1) (Int32.ofNat eb)) v34) (FP.dmul (own_r_rm4 (p5 &&& (3 : Int32)) p1 (own_r_rm2 (own_r_rm1 p1) (Int32.ofNat eb) p3)) v34))), .unset] [(.int v126)]) → Go p e below P T120 (mkF m 323 #[.val (.long p0), .second, .val (.long p1), .second, .val (.long p2), .second, .val (.long p3), .second, .val (.int p4), .val (.int p5), .val (.int (p4 &&& (3 : Int32))), .val (.int (p5 &&& (3 : Int32))), .val (.int (Int32.ofNat ea)), .val (.int (0 : Int32)), .val (.long p1), .second, .val (.int (Int32.ofNat eb)), .val (.int (Int32.ofNat kf.1)), .val (.double (FP.l2d ((1 : Int64) <<< ((Int32.ofNat kf.1).toInt64 &&& 63)))), .second, .val (.double v34), .second, .val (.long (own_r_rm1 p0)), .second, .val (.long (own_r_rm1 p1)), .second, .val (.long (own_r_rm2 (own_r_rm1 p0) (Int32.ofNat ea) p2)), .second, .val (.long (own_r_rm2 (own_r_rm1 p1) (Int32.ofNat eb) p3)), .second, .val (.double (FP.dmul (own_r_rm3 (p4 &&& (3 : Int32)) p0 (own_r_rm1 p0) (Int32.ofNat ea)) v34)), .second, .val (.double (FP.dmul (own_r_rm4 (p4 &&& (3 : Int32)) p0 (own_r_rm2 (own_r_rm1 p0) (Int32.ofNat ea) p2)) v34)), .second, .val (.double (FP.dmul (own_r_rm3 (p5 &&& (3 : Int32)) p1 (own_r_rm1 p1) (Int32.ofNat eb)) v34)), .second, .val (.double (FP.dmul (own_r_rm4 (p5 &&& (3 : Int32)) p1 (own_r_rm2 (own_r_rm1 p1) (Int32.ofNat eb) p3)) v34)), .second, .val (.int (own_r_rm5 (p4 &&& (3 : Int32)) p0)), .val (.int (own_r_rm5 (p5 &&& (3 : Int32)) p1)), .val (.long (own_r_rm6 (p4 &&& (3 : Int32)) (own_r_rm1 p0) (Int32.ofNat ea) (own_r_rm2 (own_r_rm1 p0) (Int32.ofNat ea) p2))), .second, .val (.long (own_r_rm6 (p5 &&& (3 : Int32)) (own_r_rm1 p1) (Int32.ofNat eb) (own_r_rm2 (own_r_rm1 p1) (Int32.ofNat eb) p3))), .second, .val (.int v113), .val (.int (own_r_rm7 (FP.dmul (own_r_rm3 (p4 &&& (3 : Int32)) p0 (own_r_rm1 p0) (Int32.ofNat ea)) v34) (FP.dmul (own_r_rm4 (p4 &&& (3 : Int32)) p0 (own_r_rm2 (own_r_rm1 p0) (Int32.ofNat ea) p2)) v34) (FP.dmul (own_r_rm3 (p5 &&& (3 : Int32)) p1 (own_r_rm1 p1) (Int32.ofNat eb)) v34) (FP.dmul (own_r_rm4 (p5 &&& (3 : Int32)) p1 (own_r_rm2 (own_r_rm1 p1) (Int32.ofNat eb) p3)) v34))), .unset] [(.int (own_r_rm7 (FP.dmul (own_r_rm3 (p4 &&& (3 : Int32)) p0 (own_r_rm1 p0) (Int32.ofNat ea)) v34) (FP.dmul (own_r_rm4 (p4 &&& (3 : Int32)) p0 (own_r_rm2 (own_r_rm1 p0) (Int32.ofNat ea) p2)) v34) (FP.dmul (own_r_rm3 (p5 &&& (3 : Int32)) p1 (own_r_rm1 p1) (Int32.ofNat eb)) v34) (FP.dmul (own_r_rm4 (p5 &&& (3 : Int32)) p1 (own_r_rm2 (own_r_rm1 p1) (Int32.ofNat eb) p3)) v34)))]) := by
      intro P hr
      by_cases c128 : (own_r_rm7 (FP.dmul (own_r_rm3 (p4 &&& (3 : Int32)) p0 (own_r_rm1 p0) (Int32.ofNat ea)) v34) (FP.dmul (own_r_rm4 (p4 &&& (3 : Int32)) p0 (own_r_rm2 (own_r_rm1 p0) (Int32.ofNat ea) p2)) v34) (FP.dmul (own_r_rm3 (p5 &&& (3 : Int32)) p1 (own_r_rm1 p1) (Int32.ofNat eb)) v34) (FP.dmul (own_r_rm4 (p5 &&& (3 : Int32)) p1 (own_r_rm2 (own_r_rm1 p1) (Int32.ofNat eb) p3)) v34)) < 0
      · skip
        refine g_ifN A125 at_323 (c0_ge_f c128) (pc' := 326) rfl ?_
        refine g_iconst A125 at_326 (v := (-1 : Int32)) rfl (pc' := 327) rfl ?_
        refine g_goto A125 at_327 (pc' := 340) rfl ?_
        obtain rfl : v126 = (-1 : Int32) := hv126.trans ((if_pos c128).trans rfl)
        exact hr
      · skip
        refine g_ifY A125 at_323 (c0_ge_t c128) (pc' := 330) rfl ?_
        refine g_iload A125 at_330 rfl (pc' := 332) rfl ?_
        by_cases c129 : 0 < (own_r_rm7 (FP.dmul (own_r_rm3 (p4 &&& (3 : Int32)) p0 (own_r_rm1 p0) (Int32.ofNat ea)) v34) (FP.dmul (own_r_rm4 (p4 &&& (3 : Int32)) p0 (own_r_rm2 (own_r_rm1 p0) (Int32.ofNat ea) p2)) v34) (FP.dmul (own_r_rm3 (p5 &&& (3 : Int32)) p1 (own_r_rm1 p1) (Int32.ofNat eb)) v34) (FP.dmul (own_r_rm4 (p5 &&& (3 : Int32)) p1 (own_r_rm2 (own_r_rm1 p1) (Int32.ofNat eb) p3)) v34))
        · skip
          refine g_ifN A125 at_332 (c0_le_f c129) (pc' := 335) rfl ?_
          refine g_iconst A125 at_335 (v := (1 : Int32)) rfl (pc' := 336) rfl ?_
          refine g_goto A125 at_336 (pc' := 340) rfl ?_
          obtain rfl : v126 = (1 : Int32) := hv126.trans ((if_neg c128).trans ((if_pos c129).trans rfl))
          exact hr
        · skip
          refine g_ifY A125 at_332 (c0_le_t c129) (pc' := 339) rfl ?_
          refine g_iconst A125 at_339 (v := (0 : Int32)) rfl (pc' := 340) rfl ?_
          obtain rfl : v126 = (0 : Int32) := hv126.trans ((if_neg c128).trans ((if_neg c129).trans rfl))
          exact hr
    refine sg127 ?_
    refine g_istore A125 at_340 (ls' := #[.val (.long p0), .second, .val (.long p1), .second, .val (.long p2), .second, .val (.long p3), .second, .val (.int p4), .val (.int p5), .val (.int (p4 &&& (3 : Int32))), .val (.int (p5 &&& (3 : Int32))), .val (.int (Int32.ofNat ea)), .val (.int (0 : Int32)), .val (.long p1), .second, .val (.int (Int32.ofNat eb)), .val (.int (Int32.ofNat kf.1)), .val (.double (FP.l2d ((1 : Int64) <<< ((Int32.ofNat kf.1).toInt64 &&& 63)))), .second, .val (.double v34), .second, .val (.long (own_r_rm1 p0)), .second, .val (.long (own_r_rm1 p1)), .second, .val (.long (own_r_rm2 (own_r_rm1 p0) (Int32.ofNat ea) p2)), .second, .val (.long (own_r_rm2 (own_r_rm1 p1) (Int32.ofNat eb) p3)), .second, .val (.double (FP.dmul (own_r_rm3 (p4 &&& (3 : Int32)) p0 (own_r_rm1 p0) (Int32.ofNat ea)) v34)), .second, .val (.double (FP.dmul (own_r_rm4 (p4 &&& (3 : Int32)) p0 (own_r_rm2 (own_r_rm1 p0) (Int32.ofNat ea) p2)) v34)), .second, .val (.double (FP.dmul (own_r_rm3 (p5 &&& (3 : Int32)) p1 (own_r_rm1 p1) (Int32.ofNat eb)) v34)), .second, .val (.double (FP.dmul (own_r_rm4 (p5 &&& (3 : Int32)) p1 (own_r_rm2 (own_r_rm1 p1) (Int32.ofNat eb) p3)) v34)), .second, .val (.int (own_r_rm5 (p4 &&& (3 : Int32)) p0)), .val (.int (own_r_rm5 (p5 &&& (3 : Int32)) p1)), .val (.long (own_r_rm6 (p4 &&& (3 : Int32)) (own_r_rm1 p0) (Int32.ofNat ea) (own_r_rm2 (own_r_rm1 p0) (Int32.ofNat ea) p2))), .second, .val (.long (own_r_rm6 (p5 &&& (3 : Int32)) (own_r_rm1 p1) (Int32.ofNat eb) (own_r_rm2 (own_r_rm1 p1) (Int32.ofNat eb) p3))), .second, .val (.int v113), .val (.int (own_r_rm7 (FP.dmul (own_r_rm3 (p4 &&& (3 : Int32)) p0 (own_r_rm1 p0) (Int32.ofNat ea)) v34) (FP.dmul (own_r_rm4 (p4 &&& (3 : Int32)) p0 (own_r_rm2 (own_r_rm1 p0) (Int32.ofNat ea) p2)) v34) (FP.dmul (own_r_rm3 (p5 &&& (3 : Int32)) p1 (own_r_rm1 p1) (Int32.ofNat eb)) v34) (FP.dmul (own_r_rm4 (p5 &&& (3 : Int32)) p1 (own_r_rm2 (own_r_rm1 p1) (Int32.ofNat eb) p3)) v34))), .val (.int v126)]) rfl (pc' := 342) rfl ?_
    refine g_iload A125 at_342 rfl (pc' := 344) rfl ?_
    refine g_iload A125 at_344 rfl (pc' := 346) rfl ?_
    refine g_icN A125 at_346 (c2_ne_f (by
        rw [hv126, hv113]
        exact own_end (own_op (own_K p4) p0 p2 ea1 ea2 hS) (own_op (own_K p5) p1 p3 eb1 eb2 hS))) (pc' := 349) rfl ?_
    refine g_iconst A125 at_349 (v := (1 : Int32)) rfl (pc' := 350) rfl ?_
    refine g_goto A125 at_350 (pc' := 354) rfl ?_
    exact g_ret (Q := Q0 Z p0 p1 p2 p3 p4 p5 h0 n0) A125 at_354 Bd.notSynchronized Bd.returns rfl (Or.inl ⟨rfl, by simp, _, rfl⟩) (by decide) (by decide) (by rw [e124]; exact ⟨rfl, N123⟩)
  · skip
    refine g_ifN A0 at_30 (c0_eq_f hc33) (pc' := 33) rfl ?_
    refine g_iconst A0 at_33 (v := (1 : Int32)) rfl (pc' := 34) rfl ?_
    refine g_goto A0 at_34 (pc' := 38) rfl ?_
    refine g_istore A0 at_38 (ls' := #[.val (.long p0), .second, .val (.long p1), .second, .val (.long p2), .second, .val (.long p3), .second, .val (.int p4), .val (.int p5), .val (.int (p4 &&& (3 : Int32))), .val (.int (p5 &&& (3 : Int32))), .val (.int (Int32.ofNat ea)), .val (.int (1 : Int32)), .unset, .unset, .unset, .unset, .unset, .unset, .unset, .unset, .unset, .unset, .unset, .unset, .unset, .unset, .unset, .unset, .unset, .unset, .unset, .unset, .unset, .unset, .unset, .unset, .unset, .unset, .unset, .unset, .unset, .unset, .unset, .unset, .unset]) rfl (pc' := 40) rfl ?_
    refine g_iload A0 at_40 rfl (pc' := 42) rfl ?_
    refine g_ifN A0 at_42 (c0_eq_f (by decide)) (pc' := 45) rfl ?_
    refine g_lloadN A0 at_45 rfl (pc' := 46) rfl ?_
    refine g_goto A0 at_46 (pc' := 50) rfl ?_
    refine g_lstore A0 at_50 (ls' := #[.val (.long p0), .second, .val (.long p1), .second, .val (.long p2), .second, .val (.long p3), .second, .val (.int p4), .val (.int p5), .val (.int (p4 &&& (3 : Int32))), .val (.int (p5 &&& (3 : Int32))), .val (.int (Int32.ofNat ea)), .val (.int (1 : Int32)), .val (.long p0), .second, .unset, .unset, .unset, .unset, .unset, .unset, .unset, .unset, .unset, .unset, .unset, .unset, .unset, .unset, .unset, .unset, .unset, .unset, .unset, .unset, .unset, .unset, .unset, .unset, .unset, .unset, .unset, .unset, .unset, .unset, .unset]) rfl (pc' := 52) rfl ?_
    refine g_iload A0 at_52 rfl (pc' := 54) rfl ?_
    refine g_ifN A0 at_54 (c0_eq_f (by decide)) (pc' := 57) rfl ?_
    refine g_iload A0 at_57 rfl (pc' := 59) rfl ?_
    refine g_goto A0 at_59 (pc' := 71) rfl ?_
    refine g_istore A0 at_71 (ls' := #[.val (.long p0), .second, .val (.long p1), .second, .val (.long p2), .second, .val (.long p3), .second, .val (.int p4), .val (.int p5), .val (.int (p4 &&& (3 : Int32))), .val (.int (p5 &&& (3 : Int32))), .val (.int (Int32.ofNat ea)), .val (.int (1 : Int32)), .val (.long p0), .second, .val (.int (Int32.ofNat ea)), .unset, .unset, .unset, .unset, .unset, .unset, .unset, .unset, .unset, .unset, .unset, .unset, .unset, .unset, .unset, .unset, .unset, .unset, .unset, .unset, .unset, .unset, .unset, .unset, .unset, .unset, .unset, .unset, .unset, .unset]) rfl (pc' := 73) rfl ?_
    refine g_iload A0 at_73 rfl (pc' := 75) rfl ?_
    refine g_iconst A0 at_75 (v := (5 : Int32)) rfl (pc' := 76) rfl ?_
    refine g_iushr A0 at_76 (pc' := 77) rfl ?_
    refine g_bipush A0 at_77 (v := (31 : Int32)) rfl (pc' := 79) rfl ?_
    refine g_iand A0 at_79 (pc' := 80) rfl ?_
    obtain ⟨kf, hkf⟩ := own_F (XT.ushr p5 (5 : Int32))
    rw [hkf]
    refine g_istore A0 at_80 (ls' := #[.val (.long p0), .second, .val (.long p1), .second, .val (.long p2), .second, .val (.long p3), .second, .val (.int p4), .val (.int p5), .val (.int (p4 &&& (3 : Int32))), .val (.int (p5 &&& (3 : Int32))), .val (.int (Int32.ofNat ea)), .val (.int (1 : Int32)), .val (.long p0), .second, .val (.int (Int32.ofNat ea)), .val (.int (Int32.ofNat kf.1)), .unset, .unset, .unset, .unset, .unset, .unset, .unset, .unset, .unset, .unset, .unset, .unset, .unset, .unset, .unset, .unset, .unset, .unset, .unset, .unset, .unset, .unset, .unset, .unset, .unset, .unset, .unset, .unset, .unset]) rfl (pc' := 82) rfl ?_
    refine g_lconst A0 at_82 (v := (1 : Int64)) rfl (pc' := 83) rfl ?_
    refine g_iload A0 at_83 rfl (pc' := 85) rfl ?_
    refine g_lshl A0 at_85 (pc' := 86) rfl ?_
    refine g_l2d A0 at_86 (pc' := 87) rfl ?_
    refine g_dstore A0 at_87 (ls' := #[.val (.long p0), .second, .val (.long p1), .second, .val (.long p2), .second, .val (.long p3), .second, .val (.int p4), .val (.int p5), .val (.int (p4 &&& (3 : Int32))), .val (.int (p5 &&& (3 : Int32))), .val (.int (Int32.ofNat ea)), .val (.int (1 : Int32)), .val (.long p0), .second, .val (.int (Int32.ofNat ea)), .val (.int (Int32.ofNat kf.1)), .val (.double (FP.l2d ((1 : Int64) <<< ((Int32.ofNat kf.1).toInt64 &&& 63)))), .second, .unset, .unset, .unset, .unset, .unset, .unset, .unset, .unset, .unset, .unset, .unset, .unset, .unset, .unset, .unset, .unset, .unset, .unset, .unset, .unset, .unset, .unset, .unset, .unset, .unset, .unset, .unset]) rfl (pc' := 89) rfl ?_
    refine g_iload A0 at_89 rfl (pc' := 91) rfl ?_
    refine g_bipush A0 at_91 (v := (10 : Int32)) rfl (pc' := 93) rfl ?_
    refine g_iushr A0 at_93 (pc' := 94) rfl ?_
    refine g_iconst A0 at_94 (v := (1 : Int32)) rfl (pc' := 95) rfl ?_
    refine g_iand A0 at_95 (pc' := 96) rfl ?_
    obtain ⟨v130, hv130⟩ : ∃ z : UInt64, z = (if ((XT.ushr p5 (10 : Int32)) &&& (1 : Int32)) = 0 then (FP.ddiv (4607182418800017408 : UInt64) (FP.l2d ((1 : Int64) <<< ((Int32.ofNat kf.1).toInt64 &&& 63)))) else (FP.l2d ((1 : Int64) <<< ((Int32.ofNat kf.1).toInt64 &&& 63)))) := ⟨_, rfl⟩
    have sg131 : ∀ {P : State → Outcome → Prop}, Go p e below P s₁ (mkF m 108 #[.val (.long p0), .second, .val (.long p1), .second, .val (.long p2), .second, .val (.long p3), .second, .val (.int p4), .val (.int p5), .val (.int (p4 &&& (3 : Int32))), .val (.int (p5 &&& (3 : Int32))), .val (.int (Int32.ofNat ea)), .val (.int (1 : Int32)), .val (.long p0), .second, .val (.int (Int32.ofNat ea)), .val (.int (Int32.ofNat kf.1)), .val (.double (FP.l2d ((1 : Int64) <<< ((Int32.ofNat kf.1).toInt64 &&& 63)))), .second, .unset, .unset, .unset, .unset, .unset, .unset, .unset, .unset, .unset, .unset, .unset, .unset, .unset, .unset, .unset, .unset, .unset, .unset, .unset, .unset, .unset, .unset, .unset, .unset, .unset, .unset, .unset] [(.double v130)]) → Go p e below P s₁ (mkF m 96 #[.val (.long p0), .second, .val (.long p1), .second, .val (.long p2), .second, .val (.long p3), .second, .val (.int p4), .val (.int p5), .val (.int (p4 &&& (3 : Int32))), .val (.int (p5 &&& (3 : Int32))), .val (.int (Int32.ofNat ea)), .val (.int (1 : Int32)), .val (.long p0), .second, .val (.int (Int32.ofNat ea)), .val (.int (Int32.ofNat kf.1)), .val (.double (FP.l2d ((1 : Int64) <<< ((Int32.ofNat kf.1).toInt64 &&& 63)))), .second, .unset, .unset, .unset, .unset, .unset, .unset, .unset, .unset, .unset, .unset, .unset, .unset, .unset, .unset, .unset, .unset, .unset, .unset, .unset, .unset, .unset, .unset, .unset, .unset, .unset, .unset, .unset] [(.int ((XT.ushr p5 (10 : Int32)) &&& (1 : Int32)))]) := by
      intro P hr
      by_cases c132 : ((XT.ushr p5 (10 : Int32)) &&& (1 : Int32)) = 0
      · skip
        refine g_ifY A0 at_96 (c0_eq_t c132) (pc' := 104) rfl ?_
        refine g_dconst1 A0 at_104 (pc' := 105) rfl ?_
        refine g_dload A0 at_105 rfl (pc' := 107) rfl ?_
        refine g_ddiv A0 at_107 (own_sc5 kf).noNaN (pc' := 108) rfl ?_
        obtain rfl : v130 = (FP.ddiv (4607182418800017408 : UInt64) (FP.l2d ((1 : Int64) <<< ((Int32.ofNat kf.1).toInt64 &&& 63)))) := hv130.trans ((if_pos c132).trans rfl)
        exact hr
      · skip
        refine g_ifN A0 at_96 (c0_eq_f c132) (pc' := 99) rfl ?_
        refine g_dload A0 at_99 rfl (pc' := 101) rfl ?_
        refine g_goto A0 at_101 (pc' := 108) rfl ?_
        obtain rfl : v130 = (FP.l2d ((1 : Int64) <<< ((Int32.ofNat kf.1).toInt64 &&& 63))) := hv130.trans ((if_neg c132).trans rfl)
        exact hr
    refine sg131 ?_
    obtain ⟨kq, hS⟩ : ∃ k, own_Sc v130 k := by
      rw [hv130]
      split
      · first | exact ⟨_, own_scA kf⟩ | exact ⟨_, own_scB kf⟩
      · first | exact ⟨_, own_scB kf⟩ | exact ⟨_, own_scA kf⟩
    refine g_dstore A0 at_108 (ls' := #[.val (.long p0), .second, .val (.long p1), .second, .val (.long p2), .second, .val (.long p3), .second, .val (.int p4), .val (.int p5), .val (.int (p4 &&& (3 : Int32))), .val (.int (p5 &&& (3 : Int32))), .val (.int (Int32.ofNat ea)), .val (.int (1 : Int32)), .val (.long p0), .second, .val (.int (Int32.ofNat ea)), .val (.int (Int32.ofNat kf.1)), .val (.double (FP.l2d ((1 : Int64) <<< ((Int32.ofNat kf.1).toInt64 &&& 63)))), .second, .val (.double v130), .second, .unset, .unset, .unset, .unset, .unset, .unset, .unset, .unset, .unset, .unset, .unset, .unset, .unset, .unset, .unset, .unset, .unset, .unset, .unset, .unset, .unset, .unset, .unset, .unset, .unset]) rfl (pc' := 110) rfl ?_
    refine g_lloadN A0 at_110 rfl (pc' := 111) rfl ?_
    obtain ⟨vv133, _, ⟨T133, L133, k133, n133⟩, -, X133, ⟨L133c, hQ133, l133, y133, z133⟩, st133⟩ := Jvm.LawKit.callS X0 hx (y := (⟨"com/example/hinterland/hinterland/DoubleDoubleComparePinLaw", "mant", "(J)J"⟩ : MethodName)) hown (mvT hZ (hw _ (List.mem_of_getElem? (i := 0) rfl))) (mvT hZ (hw _ (List.mem_of_getElem? (i := 1) rfl))) (mvT hZ (hw _ (List.mem_of_getElem? (i := 2) rfl))) (mvT hZ (hw _ (List.mem_of_getElem? (i := 3) rfl))) (by decide) (backOf (W := 0) (rm1 l Z a0 hw [] p0 h0 n0 Z0 ) hZ (hw _ (List.mem_of_getElem? (i := 3) rfl)) (hw _ (List.mem_of_getElem? (i := 2) rfl)) (by decide) (by decide)) (g := (mkF m 111 #[.val (.long p0), .second, .val (.long p1), .second, .val (.long p2), .second, .val (.long p3), .second, .val (.int p4), .val (.int p5), .val (.int (p4 &&& (3 : Int32))), .val (.int (p5 &&& (3 : Int32))), .val (.int (Int32.ofNat ea)), .val (.int (1 : Int32)), .val (.long p0), .second, .val (.int (Int32.ofNat ea)), .val (.int (Int32.ofNat kf.1)), .val (.double (FP.l2d ((1 : Int64) <<< ((Int32.ofNat kf.1).toInt64 &&& 63)))), .second, .val (.double v130), .second, .unset, .unset, .unset, .unset, .unset, .unset, .unset, .unset, .unset, .unset, .unset, .unset, .unset, .unset, .unset, .unset, .unset, .unset, .unset, .unset, .unset, .unset, .unset, .unset, .unset] [(.long p0)])) rfl (by rw [hml]; rfl) (argsL := [(.long p0)]) (rest := []) (lenOf pd_0 rfl) rfl (by show 2 * 0 + _ ≤ _; exact Nat.le_of_eq rfl) (hb hby at_111) (fun _ _ => ⟨rfl, e0, (by decide : 0 + 0 ≤ _), (by decide : 0 + 0 ≤ _)⟩)
    have hQ133b : Q1 Z p0 h0 n0 vv133 T133.heap L133c := hQ133
    clear hQ133
    dsimp only [Pt.U, Pt.locs, Pt.cells, Pt.slots] at X133 l133 y133 z133 st133
    subst y133 z133
    obtain ⟨rfl, Nq134, Kq135⟩ := hQ133b
    have N136 : Fr n0 L133 := by rw [l133]; exact Fr.app N0 Nq134
    refine Go.of (g' := (mkF m 114 #[.val (.long p0), .second, .val (.long p1), .second, .val (.long p2), .second, .val (.long p3), .second, .val (.int p4), .val (.int p5), .val (.int (p4 &&& (3 : Int32))), .val (.int (p5 &&& (3 : Int32))), .val (.int (Int32.ofNat ea)), .val (.int (1 : Int32)), .val (.long p0), .second, .val (.int (Int32.ofNat ea)), .val (.int (Int32.ofNat kf.1)), .val (.double (FP.l2d ((1 : Int64) <<< ((Int32.ofNat kf.1).toInt64 &&& 63)))), .second, .val (.double v130), .second, .unset, .unset, .unset, .unset, .unset, .unset, .unset, .unset, .unset, .unset, .unset, .unset, .unset, .unset, .unset, .unset, .unset, .unset, .unset, .unset, .unset, .unset, .unset, .unset, .unset] [(.long (own_r_rm1 p0))])) st133 ?_
    have e137 : T133.heap = h0 := Kq135
    have A138 := (⟨X133, hx, hby⟩ : Ax _ _ _ _ _ _ _ _ _ _ _ _ _ _ _)
    refine g_lstore A138 at_114 (ls' := #[.val (.long p0), .second, .val (.long p1), .second, .val (.long p2), .second, .val (.long p3), .second, .val (.int p4), .val (.int p5), .val (.int (p4 &&& (3 : Int32))), .val (.int (p5 &&& (3 : Int32))), .val (.int (Int32.ofNat ea)), .val (.int (1 : Int32)), .val (.long p0), .second, .val (.int (Int32.ofNat ea)), .val (.int (Int32.ofNat kf.1)), .val (.double (FP.l2d ((1 : Int64) <<< ((Int32.ofNat kf.1).toInt64 &&& 63)))), .second, .val (.double v130), .second, .val (.long (own_r_rm1 p0)), .second, .unset, .unset, .unset, .unset, .unset, .unset, .unset, .unset, .unset, .unset, .unset, .unset, .unset, .unset, .unset, .unset, .unset, .unset, .unset, .unset, .unset, .unset, .unset]) rfl (pc' := 116) rfl ?_
    refine g_lload A138 at_116 rfl (pc' := 118) rfl ?_
    obtain ⟨vv139, _, ⟨T139, L139, k139, n139⟩, -, X139, ⟨L139c, hQ139, l139, y139, z139⟩, st139⟩ := Jvm.LawKit.callS X133 hx (y := (⟨"com/example/hinterland/hinterland/DoubleDoubleComparePinLaw", "mant", "(J)J"⟩ : MethodName)) hown (mvT hZ (hw _ (List.mem_of_getElem? (i := 0) rfl))) (mvT hZ (hw _ (List.mem_of_getElem? (i := 1) rfl))) (mvT hZ (hw _ (List.mem_of_getElem? (i := 2) rfl))) (mvT hZ (hw _ (List.mem_of_getElem? (i := 3) rfl))) (by decide) (backOf (W := 0) (rm1 l Z a0 hw [] p0 h0 n0 Z0 ) hZ (hw _ (List.mem_of_getElem? (i := 3) rfl)) (hw _ (List.mem_of_getElem? (i := 2) rfl)) (by decide) (by decide)) (g := (mkF m 118 #[.val (.long p0), .second, .val (.long p1), .second, .val (.long p2), .second, .val (.long p3), .second, .val (.int p4), .val (.int p5), .val (.int (p4 &&& (3 : Int32))), .val (.int (p5 &&& (3 : Int32))), .val (.int (Int32.ofNat ea)), .val (.int (1 : Int32)), .val (.long p0), .second, .val (.int (Int32.ofNat ea)), .val (.int (Int32.ofNat kf.1)), .val (.double (FP.l2d ((1 : Int64) <<< ((Int32.ofNat kf.1).toInt64 &&& 63)))), .second, .val (.double v130), .second, .val (.long (own_r_rm1 p0)), .second, .unset, .unset, .unset, .unset, .unset, .unset, .unset, .unset, .unset, .unset, .unset, .unset, .unset, .unset, .unset, .unset, .unset, .unset, .unset, .unset, .unset, .unset, .unset] [(.long p0)])) rfl (by rw [hml]; rfl) (argsL := [(.long p0)]) (rest := []) (lenOf pd_0 rfl) rfl (by show 2 * 0 + _ ≤ _; exact Nat.le_of_eq rfl) (hb hby at_118) (fun _ _ => ⟨rfl, e137, (by decide : 0 + 0 ≤ _), (by decide : 0 + 0 ≤ _)⟩)
    have hQ139b : Q1 Z p0 h0 n0 vv139 T139.heap L139c := hQ139
    clear hQ139
    dsimp only [Pt.U, Pt.locs, Pt.cells, Pt.slots] at X139 l139 y139 z139 st139
    subst y139 z139
    obtain ⟨rfl, Nq140, Kq141⟩ := hQ139b
    have N142 : Fr n0 L139 := by rw [l139]; exact Fr.app N136 Nq140
    refine Go.of (g' := (mkF m 121 #[.val (.long p0), .second, .val (.long p1), .second, .val (.long p2), .second, .val (.long p3), .second, .val (.int p4), .val (.int p5), .val (.int (p4 &&& (3 : Int32))), .val (.int (p5 &&& (3 : Int32))), .val (.int (Int32.ofNat ea)), .val (.int (1 : Int32)), .val (.long p0), .second, .val (.int (Int32.ofNat ea)), .val (.int (Int32.ofNat kf.1)), .val (.double (FP.l2d ((1 : Int64) <<< ((Int32.ofNat kf.1).toInt64 &&& 63)))), .second, .val (.double v130), .second, .val (.long (own_r_rm1 p0)), .second, .unset, .unset, .unset, .unset, .unset, .unset, .unset, .unset, .unset, .unset, .unset, .unset, .unset, .unset, .unset, .unset, .unset, .unset, .unset, .unset, .unset, .unset, .unset] [(.long (own_r_rm1 p0))])) st139 ?_
    have e143 : T139.heap = h0 := Kq141
    have A144 := (⟨X139, hx, hby⟩ : Ax _ _ _ _ _ _ _ _ _ _ _ _ _ _ _)
    refine g_lstore A144 at_121 (ls' := #[.val (.long p0), .second, .val (.long p1), .second, .val (.long p2), .second, .val (.long p3), .second, .val (.int p4), .val (.int p5), .val (.int (p4 &&& (3 : Int32))), .val (.int (p5 &&& (3 : Int32))), .val (.int (Int32.ofNat ea)), .val (.int (1 : Int32)), .val (.long p0), .second, .val (.int (Int32.ofNat ea)), .val (.int (Int32.ofNat kf.1)), .val (.double (FP.l2d ((1 : Int64) <<< ((Int32.ofNat kf.1).toInt64 &&& 63)))), .second, .val (.double v130), .second, .val (.long (own_r_rm1 p0)), .second, .val (.long (own_r_rm1 p0)), .second, .unset, .unset, .unset, .unset, .unset, .unset, .unset, .unset, .unset, .unset, .unset, .unset, .unset, .unset, .unset, .unset, .unset, .unset, .unset, .unset, .unset]) rfl (pc' := 123) rfl ?_
    refine g_lload A144 at_123 rfl (pc' := 125) rfl ?_
    refine g_iload A144 at_125 rfl (pc' := 127) rfl ?_
    refine g_lload A144 at_127 rfl (pc' := 129) rfl ?_
    have hp145 : (((1 : Int64) <<< (((Int32.ofNat ea) - (2 : Int32)).toInt64 &&& 63)) - (1 : Int64)) + (1 : Int64) ≠ 0 := (own_hz ea1 ea2).1
    have hp146 : (((1 : Int64) <<< (((Int32.ofNat ea) - (1 : Int32)).toInt64 &&& 63)) - (1 : Int64)) + (1 : Int64) ≠ 0 := (own_hz ea1 ea2).2
    obtain ⟨vv147, _, ⟨T147, L147, k147, n147⟩, -, X147, ⟨L147c, hQ147, l147, y147, z147⟩, st147⟩ := Jvm.LawKit.callS X139 hx (y := (⟨"com/example/hinterland/hinterland/DoubleDoubleComparePinLaw", "lowOf", "(JIJ)J"⟩ : MethodName)) hown (mvT hZ (hw _ (List.mem_of_getElem? (i := 6) rfl))) (mvT hZ (hw _ (List.mem_of_getElem? (i := 7) rfl))) (mvT hZ (hw _ (List.mem_of_getElem? (i := 2) rfl))) (mvT hZ (hw _ (List.mem_of_getElem? (i := 8) rfl))) (by decide) (backOf (W := 0) (rm2 l Z a0 hw [] (own_r_rm1 p0) (Int32.ofNat ea) p2 h0 n0 Z0 hp145 hp146) hZ (hw _ (List.mem_of_getElem? (i := 8) rfl)) (hw _ (List.mem_of_getElem? (i := 2) rfl)) (by decide) (by decide)) (g := (mkF m 129 #[.val (.long p0), .second, .val (.long p1), .second, .val (.long p2), .second, .val (.long p3), .second, .val (.int p4), .val (.int p5), .val (.int (p4 &&& (3 : Int32))), .val (.int (p5 &&& (3 : Int32))), .val (.int (Int32.ofNat ea)), .val (.int (1 : Int32)), .val (.long p0), .second, .val (.int (Int32.ofNat ea)), .val (.int (Int32.ofNat kf.1)), .val (.double (FP.l2d ((1 : Int64) <<< ((Int32.ofNat kf.1).toInt64 &&& 63)))), .second, .val (.double v130), .second, .val (.long (own_r_rm1 p0)), .second, .val (.long (own_r_rm1 p0)), .second, .unset, .unset, .unset, .unset, .unset, .unset, .unset, .unset, .unset, .unset, .unset, .unset, .unset, .unset, .unset, .unset, .unset, .unset, .unset, .unset, .unset] [(.long p2), (.int (Int32.ofNat ea)), (.long (own_r_rm1 p0))])) rfl (by rw [hml]; rfl) (argsL := [(.long (own_r_rm1 p0)), (.int (Int32.ofNat ea)), (.long p2)]) (rest := []) (lenOf pd_1 rfl) rfl (by show 2 * 0 + _ ≤ _; exact Nat.le_of_eq rfl) (hb hby at_129) (fun _ _ => ⟨rfl, e143, (by decide : 0 + 0 ≤ _), (by decide : 0 + 0 ≤ _)⟩)
    have hQ147b : Q2 Z (own_r_rm1 p0) (Int32.ofNat ea) p2 h0 n0 vv147 T147.heap L147c := hQ147
    clear hQ147
    dsimp only [Pt.U, Pt.locs, Pt.cells, Pt.slots] at X147 l147 y147 z147 st147
    subst y147 z147
    obtain ⟨rfl, Nq148, Kq149⟩ := hQ147b
    have N150 : Fr n0 L147 := by rw [l147]; exact Fr.app N142 Nq148
    refine Go.of (g' := (mkF m 132 #[.val (.long p0), .second, .val (.long p1), .second, .val (.long p2), .second, .val (.long p3), .second, .val (.int p4), .val (.int p5), .val (.int (p4 &&& (3 : Int32))), .val (.int (p5 &&& (3 : Int32))), .val (.int (Int32.ofNat ea)), .val (.int (1 : Int32)), .val (.long p0), .second, .val (.int (Int32.ofNat ea)), .val (.int (Int32.ofNat kf.1)), .val (.double (FP.l2d ((1 : Int64) <<< ((Int32.ofNat kf.1).toInt64 &&& 63)))), .second, .val (.double v130), .second, .val (.long (own_r_rm1 p0)), .second, .val (.long (own_r_rm1 p0)), .second, .unset, .unset, .unset, .unset, .unset, .unset, .unset, .unset, .unset, .unset, .unset, .unset, .unset, .unset, .unset, .unset, .unset, .unset, .unset, .unset, .unset] [(.long (own_r_rm2 (own_r_rm1 p0) (Int32.ofNat ea) p2))])) st147 ?_
    have e151 : T147.heap = h0 := Kq149
    have A152 := (⟨X147, hx, hby⟩ : Ax _ _ _ _ _ _ _ _ _ _ _ _ _ _ _)
    refine g_lstore A152 at_132 (ls' := #[.val (.long p0), .second, .val (.long p1), .second, .val (.long p2), .second, .val (.long p3), .second, .val (.int p4), .val (.int p5), .val (.int (p4 &&& (3 : Int32))), .val (.int (p5 &&& (3 : Int32))), .val (.int (Int32.ofNat ea)), .val (.int (1 : Int32)), .val (.long p0), .second, .val (.int (Int32.ofNat ea)), .val (.int (Int32.ofNat kf.1)), .val (.double (FP.l2d ((1 : Int64) <<< ((Int32.ofNat kf.1).toInt64 &&& 63)))), .second, .val (.double v130), .second, .val (.long (own_r_rm1 p0)), .second, .val (.long (own_r_rm1 p0)), .second, .val (.long (own_r_rm2 (own_r_rm1 p0) (Int32.ofNat ea) p2)), .second, .unset, .unset, .unset, .unset, .unset, .unset, .unset, .unset, .unset, .unset, .unset, .unset, .unset, .unset, .unset, .unset, .unset, .unset, .unset]) rfl (pc' := 134) rfl ?_
    refine g_lload A152 at_134 rfl (pc' := 136) rfl ?_
    refine g_iload A152 at_136 rfl (pc' := 138) rfl ?_
    refine g_lload A152 at_138 rfl (pc' := 140) rfl ?_
    have hp153 : (((1 : Int64) <<< (((Int32.ofNat ea) - (2 : Int32)).toInt64 &&& 63)) - (1 : Int64)) + (1 : Int64) ≠ 0 := (own_hz ea1 ea2).1
    have hp154 : (((1 : Int64) <<< (((Int32.ofNat ea) - (1 : Int32)).toInt64 &&& 63)) - (1 : Int64)) + (1 : Int64) ≠ 0 := (own_hz ea1 ea2).2
    obtain ⟨vv155, _, ⟨T155, L155, k155, n155⟩, -, X155, ⟨L155c, hQ155, l155, y155, z155⟩, st155⟩ := Jvm.LawKit.callS X147 hx (y := (⟨"com/example/hinterland/hinterland/DoubleDoubleComparePinLaw", "lowOf", "(JIJ)J"⟩ : MethodName)) hown (mvT hZ (hw _ (List.mem_of_getElem? (i := 6) rfl))) (mvT hZ (hw _ (List.mem_of_getElem? (i := 7) rfl))) (mvT hZ (hw _ (List.mem_of_getElem? (i := 2) rfl))) (mvT hZ (hw _ (List.mem_of_getElem? (i := 8) rfl))) (by decide) (backOf (W := 0) (rm2 l Z a0 hw [] (own_r_rm1 p0) (Int32.ofNat ea) p3 h0 n0 Z0 hp153 hp154) hZ (hw _ (List.mem_of_getElem? (i := 8) rfl)) (hw _ (List.mem_of_getElem? (i := 2) rfl)) (by decide) (by decide)) (g := (mkF m 140 #[.val (.long p0), .second, .val (.long p1), .second, .val (.long p2), .second, .val (.long p3), .second, .val (.int p4), .val (.int p5), .val (.int (p4 &&& (3 : Int32))), .val (.int (p5 &&& (3 : Int32))), .val (.int (Int32.ofNat ea)), .val (.int (1 : Int32)), .val (.long p0), .second, .val (.int (Int32.ofNat ea)), .val (.int (Int32.ofNat kf.1)), .val (.double (FP.l2d ((1 : Int64) <<< ((Int32.ofNat kf.1).toInt64 &&& 63)))), .second, .val (.double v130), .second, .val (.long (own_r_rm1 p0)), .second, .val (.long (own_r_rm1 p0)), .second, .val (.long (own_r_rm2 (own_r_rm1 p0) (Int32.ofNat ea) p2)), .second, .unset, .unset, .unset, .unset, .unset, .unset, .unset, .unset, .unset, .unset, .unset, .unset, .unset, .unset, .unset, .unset, .unset, .unset, .unset] [(.long p3), (.int (Int32.ofNat ea)), (.long (own_r_rm1 p0))])) rfl (by rw [hml]; rfl) (argsL := [(.long (own_r_rm1 p0)), (.int (Int32.ofNat ea)), (.long p3)]) (rest := []) (lenOf pd_1 rfl) rfl (by show 2 * 0 + _ ≤ _; exact Nat.le_of_eq rfl) (hb hby at_140) (fun _ _ => ⟨rfl, e151, (by decide : 0 + 0 ≤ _), (by decide : 0 + 0 ≤ _)⟩)
    have hQ155b : Q2 Z (own_r_rm1 p0) (Int32.ofNat ea) p3 h0 n0 vv155 T155.heap L155c := hQ155
    clear hQ155
    dsimp only [Pt.U, Pt.locs, Pt.cells, Pt.slots] at X155 l155 y155 z155 st155
    subst y155 z155
    obtain ⟨rfl, Nq156, Kq157⟩ := hQ155b
    have N158 : Fr n0 L155 := by rw [l155]; exact Fr.app N150 Nq156
    refine Go.of (g' := (mkF m 143 #[.val (.long p0), .second, .val (.long p1), .second, .val (.long p2), .second, .val (.long p3), .second, .val (.int p4), .val (.int p5), .val (.int (p4 &&& (3 : Int32))), .val (.int (p5 &&& (3 : Int32))), .val (.int (Int32.ofNat ea)), .val (.int (1 : Int32)), .val (.long p0), .second, .val (.int (Int32.ofNat ea)), .val (.int (Int32.ofNat kf.1)), .val (.double (FP.l2d ((1 : Int64) <<< ((Int32.ofNat kf.1).toInt64 &&& 63)))), .second, .val (.double v130), .second, .val (.long (own_r_rm1 p0)), .second, .val (.long (own_r_rm1 p0)), .second, .val (.long (own_r_rm2 (own_r_rm1 p0) (Int32.ofNat ea) p2)), .second, .unset, .unset, .unset, .unset, .unset, .unset, .unset, .unset, .unset, .unset, .unset, .unset, .unset, .unset, .unset, .unset, .unset, .unset, .unset] [(.long (own_r_rm2 (own_r_rm1 p0) (Int32.ofNat ea) p3))])) st155 ?_
    have e159 : T155.heap = h0 := Kq157
    have A160 := (⟨X155, hx, hby⟩ : Ax _ _ _ _ _ _ _ _ _ _ _ _ _ _ _)
    refine g_lstore A160 at_143 (ls' := #[.val (.long p0), .second, .val (.long p1), .second, .val (.long p2), .second, .val (.long p3), .second, .val (.int p4), .val (.int p5), .val (.int (p4 &&& (3 : Int32))), .val (.int (p5 &&& (3 : Int32))), .val (.int (Int32.ofNat ea)), .val (.int (1 : Int32)), .val (.long p0), .second, .val (.int (Int32.ofNat ea)), .val (.int (Int32.ofNat kf.1)), .val (.double (FP.l2d ((1 : Int64) <<< ((Int32.ofNat kf.1).toInt64 &&& 63)))), .second, .val (.double v130), .second, .val (.long (own_r_rm1 p0)), .second, .val (.long (own_r_rm1 p0)), .second, .val (.long (own_r_rm2 (own_r_rm1 p0) (Int32.ofNat ea) p2)), .second, .val (.long (own_r_rm2 (own_r_rm1 p0) (Int32.ofNat ea) p3)), .second, .unset, .unset, .unset, .unset, .unset, .unset, .unset, .unset, .unset, .unset, .unset, .unset, .unset, .unset, .unset, .unset, .unset]) rfl (pc' := 145) rfl ?_
    refine g_iload A160 at_145 rfl (pc' := 147) rfl ?_
    refine g_lloadN A160 at_147 rfl (pc' := 148) rfl ?_
    refine g_lload A160 at_148 rfl (pc' := 150) rfl ?_
    refine g_iload A160 at_150 rfl (pc' := 152) rfl ?_
    obtain ⟨vv161, _, ⟨T161, L161, k161, n161⟩, -, X161, ⟨L161c, hQ161, l161, y161, z161⟩, st161⟩ := Jvm.LawKit.callS X155 hx (y := (⟨"com/example/hinterland/hinterland/DoubleDoubleComparePinLaw", "highPart", "(IJJI)D"⟩ : MethodName)) hown (mvT hZ (hw _ (List.mem_of_getElem? (i := 11) rfl))) (mvT hZ (hw _ (List.mem_of_getElem? (i := 12) rfl))) (mvT hZ (hw _ (List.mem_of_getElem? (i := 2) rfl))) (mvT hZ (hw _ (List.mem_of_getElem? (i := 13) rfl))) (by decide) (backOf (W := 0) (rm3 l Z a0 hw [] (p4 &&& (3 : Int32)) p0 (own_r_rm1 p0) (Int32.ofNat ea) h0 n0 Z0 ) hZ (hw _ (List.mem_of_getElem? (i := 13) rfl)) (hw _ (List.mem_of_getElem? (i := 2) rfl)) (by decide) (by decide)) (g := (mkF m 152 #[.val (.long p0), .second, .val (.long p1), .second, .val (.long p2), .second, .val (.long p3), .second, .val (.int p4), .val (.int p5), .val (.int (p4 &&& (3 : Int32))), .val (.int (p5 &&& (3 : Int32))), .val (.int (Int32.ofNat ea)), .val (.int (1 : Int32)), .val (.long p0), .second, .val (.int (Int32.ofNat ea)), .val (.int (Int32.ofNat kf.1)), .val (.double (FP.l2d ((1 : Int64) <<< ((Int32.ofNat kf.1).toInt64 &&& 63)))), .second, .val (.double v130), .second, .val (.long (own_r_rm1 p0)), .second, .val (.long (own_r_rm1 p0)), .second, .val (.long (own_r_rm2 (own_r_rm1 p0) (Int32.ofNat ea) p2)), .second, .val (.long (own_r_rm2 (own_r_rm1 p0) (Int32.ofNat ea) p3)), .second, .unset, .unset, .unset, .unset, .unset, .unset, .unset, .unset, .unset, .unset, .unset, .unset, .unset, .unset, .unset, .unset, .unset] [(.int (Int32.ofNat ea)), (.long (own_r_rm1 p0)), (.long p0), (.int (p4 &&& (3 : Int32)))])) rfl (by rw [hml]; rfl) (argsL := [(.int (p4 &&& (3 : Int32))), (.long p0), (.long (own_r_rm1 p0)), (.int (Int32.ofNat ea))]) (rest := []) (lenOf pd_2 rfl) rfl (by show 2 * 0 + _ ≤ _; exact Nat.le_of_eq rfl) (hb hby at_152) (fun _ _ => ⟨rfl, e159, (by decide : 0 + 0 ≤ _), (by decide : 0 + 0 ≤ _)⟩)
    have hQ161b : Q3 Z (p4 &&& (3 : Int32)) p0 (own_r_rm1 p0) (Int32.ofNat ea) h0 n0 vv161 T161.heap L161c := hQ161
    clear hQ161
    dsimp only [Pt.U, Pt.locs, Pt.cells, Pt.slots] at X161 l161 y161 z161 st161
    subst y161 z161
    obtain ⟨rfl, Nq162, Kq163⟩ := hQ161b
    have N164 : Fr n0 L161 := by rw [l161]; exact Fr.app N158 Nq162
    refine Go.of (g' := (mkF m 155 #[.val (.long p0), .second, .val (.long p1), .second, .val (.long p2), .second, .val (.long p3), .second, .val (.int p4), .val (.int p5), .val (.int (p4 &&& (3 : Int32))), .val (.int (p5 &&& (3 : Int32))), .val (.int (Int32.ofNat ea)), .val (.int (1 : Int32)), .val (.long p0), .second, .val (.int (Int32.ofNat ea)), .val (.int (Int32.ofNat kf.1)), .val (.double (FP.l2d ((1 : Int64) <<< ((Int32.ofNat kf.1).toInt64 &&& 63)))), .second, .val (.double v130), .second, .val (.long (own_r_rm1 p0)), .second, .val (.long (own_r_rm1 p0)), .second, .val (.long (own_r_rm2 (own_r_rm1 p0) (Int32.ofNat ea) p2)), .second, .val (.long (own_r_rm2 (own_r_rm1 p0) (Int32.ofNat ea) p3)), .second, .unset, .unset, .unset, .unset, .unset, .unset, .unset, .unset, .unset, .unset, .unset, .unset, .unset, .unset, .unset, .unset, .unset] [(.double (own_r_rm3 (p4 &&& (3 : Int32)) p0 (own_r_rm1 p0) (Int32.ofNat ea)))])) st161 ?_
    have e165 : T161.heap = h0 := Kq163
    have A166 := (⟨X161, hx, hby⟩ : Ax _ _ _ _ _ _ _ _ _ _ _ _ _ _ _)
    refine g_dload A166 at_155 rfl (pc' := 157) rfl ?_
    refine g_dmul A166 at_157 (own_nn (own_op (own_K p4) p0 p2 ea1 ea2 hS)).1 (pc' := 158) rfl ?_
    refine g_dstore A166 at_158 (ls' := #[.val (.long p0), .second, .val (.long p1), .second, .val (.long p2), .second, .val (.long p3), .second, .val (.int p4), .val (.int p5), .val (.int (p4 &&& (3 : Int32))), .val (.int (p5 &&& (3 : Int32))), .val (.int (Int32.ofNat ea)), .val (.int (1 : Int32)), .val (.long p0), .second, .val (.int (Int32.ofNat ea)), .val (.int (Int32.ofNat kf.1)), .val (.double (FP.l2d ((1 : Int64) <<< ((Int32.ofNat kf.1).toInt64 &&& 63)))), .second, .val (.double v130), .second, .val (.long (own_r_rm1 p0)), .second, .val (.long (own_r_rm1 p0)), .second, .val (.long (own_r_rm2 (own_r_rm1 p0) (Int32.ofNat ea) p2)), .second, .val (.long (own_r_rm2 (own_r_rm1 p0) (Int32.ofNat ea) p3)), .second, .val (.double (FP.dmul (own_r_rm3 (p4 &&& (3 : Int32)) p0 (own_r_rm1 p0) (Int32.ofNat ea)) v130)), .second, .unset, .unset, .unset, .unset, .unset, .unset, .unset, .unset, .unset, .unset, .unset, .unset, .unset, .unset, .unset]) rfl (pc' := 160) rfl ?_
    refine g_iload A166 at_160 rfl (pc' := 162) rfl ?_
    refine g_lloadN A166 at_162 rfl (pc' := 163) rfl ?_
    refine g_lload A166 at_163 rfl (pc' := 165) rfl ?_
    obtain ⟨vv167, _, ⟨T167, L167, k167, n167⟩, -, X167, ⟨L167c, hQ167, l167, y167, z167⟩, st167⟩ := Jvm.LawKit.callS X161 hx (y := (⟨"com/example/hinterland/hinterland/DoubleDoubleComparePinLaw", "lowPart", "(IJJ)D"⟩ : MethodName)) hown (mvT hZ (hw _ (List.mem_of_getElem? (i := 15) rfl))) (mvT hZ (hw _ (List.mem_of_getElem? (i := 16) rfl))) (mvT hZ (hw _ (List.mem_of_getElem? (i := 2) rfl))) (mvT hZ (hw _ (List.mem_of_getElem? (i := 17) rfl))) (by decide) (backOf (W := 0) (rm4 l Z a0 hw [] (p4 &&& (3 : Int32)) p0 (own_r_rm2 (own_r_rm1 p0) (Int32.ofNat ea) p2) h0 n0 Z0 ) hZ (hw _ (List.mem_of_getElem? (i := 17) rfl)) (hw _ (List.mem_of_getElem? (i := 2) rfl)) (by decide) (by decide)) (g := (mkF m 165 #[.val (.long p0), .second, .val (.long p1), .second, .val (.long p2), .second, .val (.long p3), .second, .val (.int p4), .val (.int p5), .val (.int (p4 &&& (3 : Int32))), .val (.int (p5 &&& (3 : Int32))), .val (.int (Int32.ofNat ea)), .val (.int (1 : Int32)), .val (.long p0), .second, .val (.int (Int32.ofNat ea)), .val (.int (Int32.ofNat kf.1)), .val (.double (FP.l2d ((1 : Int64) <<< ((Int32.ofNat kf.1).toInt64 &&& 63)))), .second, .val (.double v130), .second, .val (.long (own_r_rm1 p0)), .second, .val (.long (own_r_rm1 p0)), .second, .val (.long (own_r_rm2 (own_r_rm1 p0) (Int32.ofNat ea) p2)), .second, .val (.long (own_r_rm2 (own_r_rm1 p0) (Int32.ofNat ea) p3)), .second, .val (.double (FP.dmul (own_r_rm3 (p4 &&& (3 : Int32)) p0 (own_r_rm1 p0) (Int32.ofNat ea)) v130)), .second, .unset, .unset, .unset, .unset, .unset, .unset, .unset, .unset, .unset, .unset, .unset, .unset, .unset, .unset, .unset] [(.long (own_r_rm2 (own_r_rm1 p0) (Int32.ofNat ea) p2)), (.long p0), (.int (p4 &&& (3 : Int32)))])) rfl (by rw [hml]; rfl) (argsL := [(.int (p4 &&& (3 : Int32))), (.long p0), (.long (own_r_rm2 (own_r_rm1 p0) (Int32.ofNat ea) p2))]) (rest := []) (lenOf pd_3 rfl) rfl (by show 2 * 0 + _ ≤ _; exact Nat.le_of_eq rfl) (hb hby at_165) (fun _ _ => ⟨rfl, e165, (by decide : 0 + 0 ≤ _), (by decide : 0 + 0 ≤ _)⟩)
    have hQ167b : Q4 Z (p4 &&& (3 : Int32)) p0 (own_r_rm2 (own_r_rm1 p0) (Int32.ofNat ea) p2) h0 n0 vv167 T167.heap L167c := hQ167
    clear hQ167
    dsimp only [Pt.U, Pt.locs, Pt.cells, Pt.slots] at X167 l167 y167 z167 st167
    subst y167 z167
    obtain ⟨rfl, Nq168, Kq169⟩ := hQ167b
    have N170 : Fr n0 L167 := by rw [l167]; exact Fr.app N164 Nq168
    refine Go.of (g' := (mkF m 168 #[.val (.long p0), .second, .val (.long p1), .second, .val (.long p2), .second, .val (.long p3), .second, .val (.int p4), .val (.int p5), .val (.int (p4 &&& (3 : Int32))), .val (.int (p5 &&& (3 : Int32))), .val (.int (Int32.ofNat ea)), .val (.int (1 : Int32)), .val (.long p0), .second, .val (.int (Int32.ofNat ea)), .val (.int (Int32.ofNat kf.1)), .val (.double (FP.l2d ((1 : Int64) <<< ((Int32.ofNat kf.1).toInt64 &&& 63)))), .second, .val (.double v130), .second, .val (.long (own_r_rm1 p0)), .second, .val (.long (own_r_rm1 p0)), .second, .val (.long (own_r_rm2 (own_r_rm1 p0) (Int32.ofNat ea) p2)), .second, .val (.long (own_r_rm2 (own_r_rm1 p0) (Int32.ofNat ea) p3)), .second, .val (.double (FP.dmul (own_r_rm3 (p4 &&& (3 : Int32)) p0 (own_r_rm1 p0) (Int32.ofNat ea)) v130)), .second, .unset, .unset, .unset, .unset, .unset, .unset, .unset, .unset, .unset, .unset, .unset, .unset, .unset, .unset, .unset] [(.double (own_r_rm4 (p4 &&& (3 : Int32)) p0 (own_r_rm2 (own_r_rm1 p0) (Int32.ofNat ea) p2)))])) st167 ?_
    have e171 : T167.heap = h0 := Kq169
    have A172 := (⟨X167, hx, hby⟩ : Ax _ _ _ _ _ _ _ _ _ _ _ _ _ _ _)
    refine g_dload A172 at_168 rfl (pc' := 170) rfl ?_
    refine g_dmul A172 at_170 (own_nn (own_op (own_K p4) p0 p2 ea1 ea2 hS)).2 (pc' := 171) rfl ?_
    refine g_dstore A172 at_171 (ls' := #[.val (.long p0), .second, .val (.long p1), .second, .val (.long p2), .second, .val (.long p3), .second, .val (.int p4), .val (.int p5), .val (.int (p4 &&& (3 : Int32))), .val (.int (p5 &&& (3 : Int32))), .val (.int (Int32.ofNat ea)), .val (.int (1 : Int32)), .val (.long p0), .second, .val (.int (Int32.ofNat ea)), .val (.int (Int32.ofNat kf.1)), .val (.double (FP.l2d ((1 : Int64) <<< ((Int32.ofNat kf.1).toInt64 &&& 63)))), .second, .val (.double v130), .second, .val (.long (own_r_rm1 p0)), .second, .val (.long (own_r_rm1 p0)), .second, .val (.long (own_r_rm2 (own_r_rm1 p0) (Int32.ofNat ea) p2)), .second, .val (.long (own_r_rm2 (own_r_rm1 p0) (Int32.ofNat ea) p3)), .second, .val (.double (FP.dmul (own_r_rm3 (p4 &&& (3 : Int32)) p0 (own_r_rm1 p0) (Int32.ofNat ea)) v130)), .second, .val (.double (FP.dmul (own_r_rm4 (p4 &&& (3 : Int32)) p0 (own_r_rm2 (own_r_rm1 p0) (Int32.ofNat ea) p2)) v130)), .second, .unset, .unset, .unset, .unset, .unset, .unset, .unset, .unset, .unset, .unset, .unset, .unset, .unset]) rfl (pc' := 173) rfl ?_
    refine g_iload A172 at_173 rfl (pc' := 175) rfl ?_
    refine g_lload A172 at_175 rfl (pc' := 177) rfl ?_
    refine g_lload A172 at_177 rfl (pc' := 179) rfl ?_
    refine g_iload A172 at_179 rfl (pc' := 181) rfl ?_
    obtain ⟨vv173, _, ⟨T173, L173, k173, n173⟩, -, X173, ⟨L173c, hQ173, l173, y173, z173⟩, st173⟩ := Jvm.LawKit.callS X167 hx (y := (⟨"com/example/hinterland/hinterland/DoubleDoubleComparePinLaw", "highPart", "(IJJI)D"⟩ : MethodName)) hown (mvT hZ (hw _ (List.mem_of_getElem? (i := 11) rfl))) (mvT hZ (hw _ (List.mem_of_getElem? (i := 12) rfl))) (mvT hZ (hw _ (List.mem_of_getElem? (i := 2) rfl))) (mvT hZ (hw _ (List.mem_of_getElem? (i := 13) rfl))) (by decide) (backOf (W := 0) (rm3 l Z a0 hw [] (p5 &&& (3 : Int32)) p0 (own_r_rm1 p0) (Int32.ofNat ea) h0 n0 Z0 ) hZ (hw _ (List.mem_of_getElem? (i := 13) rfl)) (hw _ (List.mem_of_getElem? (i := 2) rfl)) (by decide) (by decide)) (g := (mkF m 181 #[.val (.long p0), .second, .val (.long p1), .second, .val (.long p2), .second, .val (.long p3), .second, .val (.int p4), .val (.int p5), .val (.int (p4 &&& (3 : Int32))), .val (.int (p5 &&& (3 : Int32))), .val (.int (Int32.ofNat ea)), .val (.int (1 : Int32)), .val (.long p0), .second, .val (.int (Int32.ofNat ea)), .val (.int (Int32.ofNat kf.1)), .val (.double (FP.l2d ((1 : Int64) <<< ((Int32.ofNat kf.1).toInt64 &&& 63)))), .second, .val (.double v130), .second, .val (.long (own_r_rm1 p0)), .second, .val (.long (own_r_rm1 p0)), .second, .val (.long (own_r_rm2 (own_r_rm1 p0) (Int32.ofNat ea) p2)), .second, .val (.long (own_r_rm2 (own_r_rm1 p0) (Int32.ofNat ea) p3)), .second, .val (.double (FP.dmul (own_r_rm3 (p4 &&& (3 : Int32)) p0 (own_r_rm1 p0) (Int32.ofNat ea)) v130)), .second, .val (.double (FP.dmul (own_r_rm4 (p4 &&& (3 : Int32)) p0 (own_r_rm2 (own_r_rm1 p0) (Int32.ofNat ea) p2)) v130)), .second, .unset, .unset, .unset, .unset, .unset, .unset, .unset, .unset, .unset, .unset, .unset, .unset, .unset] [(.int (Int32.ofNat ea)), (.long (own_r_rm1 p0)), (.long p0), (.int (p5 &&& (3 : Int32)))])) rfl (by rw [hml]; rfl) (argsL := [(.int (p5 &&& (3 : Int32))), (.long p0), (.long (own_r_rm1 p0)), (.int (Int32.ofNat ea))]) (rest := []) (lenOf pd_2 rfl) rfl (by show 2 * 0 + _ ≤ _; exact Nat.le_of_eq rfl) (hb hby at_181) (fun _ _ => ⟨rfl, e171, (by decide : 0 + 0 ≤ _), (by decide : 0 + 0 ≤ _)⟩)
    have hQ173b : Q3 Z (p5 &&& (3 : Int32)) p0 (own_r_rm1 p0) (Int32.ofNat ea) h0 n0 vv173 T173.heap L173c := hQ173
    clear hQ173
    dsimp only [Pt.U, Pt.locs, Pt.cells, Pt.slots] at X173 l173 y173 z173 st173
    subst y173 z173
    obtain ⟨rfl, Nq174, Kq175⟩ := hQ173b
    have N176 : Fr n0 L173 := by rw [l173]; exact Fr.app N170 Nq174
    refine Go.of (g' := (mkF m 184 #[.val (.long p0), .second, .val (.long p1), .second, .val (.long p2), .second, .val (.long p3), .second, .val (.int p4), .val (.int p5), .val (.int (p4 &&& (3 : Int32))), .val (.int (p5 &&& (3 : Int32))), .val (.int (Int32.ofNat ea)), .val (.int (1 : Int32)), .val (.long p0), .second, .val (.int (Int32.ofNat ea)), .val (.int (Int32.ofNat kf.1)), .val (.double (FP.l2d ((1 : Int64) <<< ((Int32.ofNat kf.1).toInt64 &&& 63)))), .second, .val (.double v130), .second, .val (.long (own_r_rm1 p0)), .second, .val (.long (own_r_rm1 p0)), .second, .val (.long (own_r_rm2 (own_r_rm1 p0) (Int32.ofNat ea) p2)), .second, .val (.long (own_r_rm2 (own_r_rm1 p0) (Int32.ofNat ea) p3)), .second, .val (.double (FP.dmul (own_r_rm3 (p4 &&& (3 : Int32)) p0 (own_r_rm1 p0) (Int32.ofNat ea)) v130)), .second, .val (.double (FP.dmul (own_r_rm4 (p4 &&& (3 : Int32)) p0 (own_r_rm2 (own_r_rm1 p0) (Int32.ofNat ea) p2)) v130)), .second, .unset, .unset, .unset, .unset, .unset, .unset, .unset, .unset, .unset, .unset, .unset, .unset, .unset] [(.double (own_r_rm3 (p5 &&& (3 : Int32)) p0 (own_r_rm1 p0) (Int32.ofNat ea)))])) st173 ?_
    have e177 : T173.heap = h0 := Kq175
    have A178 := (⟨X173, hx, hby⟩ : Ax _ _ _ _ _ _ _ _ _ _ _ _ _ _ _)
    refine g_dload A178 at_184 rfl (pc' := 186) rfl ?_
    refine g_dmul A178 at_186 (own_nn (own_op (own_K p5) p0 p3 ea1 ea2 hS)).1 (pc' := 187) rfl ?_
    refine g_dstore A178 at_187 (ls' := #[.val (.long p0), .second, .val (.long p1), .second, .val (.long p2), .second, .val (.long p3), .second, .val (.int p4), .val (.int p5), .val (.int (p4 &&& (3 : Int32))), .val (.int (p5 &&& (3 : Int32))), .val (.int (Int32.ofNat ea)), .val (.int (1 : Int32)), .val (.long p0), .second, .val (.int (Int32.ofNat ea)), .val (.int (Int32.ofNat kf.1)), .val (.double (FP.l2d ((1 : Int64) <<< ((Int32.ofNat kf.1).toInt64 &&& 63)))), .second, .val (.double v130), .second, .val (.long (own_r_rm1 p0)), .second, .val (.long (own_r_rm1 p0)), .second, .val (.long (own_r_rm2 (own_r_rm1 p0) (Int32.ofNat ea) p2)), .second, .val (.long (own_r_rm2 (own_r_rm1 p0) (Int32.ofNat ea) p3)), .second, .val (.double (FP.dmul (own_r_rm3 (p4 &&& (3 : Int32)) p0 (own_r_rm1 p0) (Int32.ofNat ea)) v130)), .second, .val (.double (FP.dmul (own_r_rm4 (p4 &&& (3 : Int32)) p0 (own_r_rm2 (own_r_rm1 p0) (Int32.ofNat ea) p2)) v130)), .second, .val (.double (FP.dmul (own_r_rm3 (p5 &&& (3 : Int32)) p0 (own_r_rm1 p0) (Int32.ofNat ea)) v130)), .second, .unset, .unset, .unset, .unset, .unset, .unset, .unset, .unset, .unset, .unset, .unset]) rfl (pc' := 189) rfl ?_
    refine g_iload A178 at_189 rfl (pc' := 191) rfl ?_
    refine g_lload A178 at_191 rfl (pc' := 193) rfl ?_
    refine g_lload A178 at_193 rfl (pc' := 195) rfl ?_
    obtain ⟨vv179, _, ⟨T179, L179, k179, n179⟩, -, X179, ⟨L179c, hQ179, l179, y179, z179⟩, st179⟩ := Jvm.LawKit.callS X173 hx (y := (⟨"com/example/hinterland/hinterland/DoubleDoubleComparePinLaw", "lowPart", "(IJJ)D"⟩ : MethodName)) hown (mvT hZ (hw _ (List.mem_of_getElem? (i := 15) rfl))) (mvT hZ (hw _ (List.mem_of_getElem? (i := 16) rfl))) (mvT hZ (hw _ (List.mem_of_getElem? (i := 2) rfl))) (mvT hZ (hw _ (List.mem_of_getElem? (i := 17) rfl))) (by decide) (backOf (W := 0) (rm4 l Z a0 hw [] (p5 &&& (3 : Int32)) p0 (own_r_rm2 (own_r_rm1 p0) (Int32.ofNat ea) p3) h0 n0 Z0 ) hZ (hw _ (List.mem_of_getElem? (i := 17) rfl)) (hw _ (List.mem_of_getElem? (i := 2) rfl)) (by decide) (by decide)) (g := (mkF m 195 #[.val (.long p0), .second, .val (.long p1), .second, .val (.long p2), .second, .val (.long p3), .second, .val (.int p4), .val (.int p5), .val (.int (p4 &&& (3 : Int32))), .val (.int (p5 &&& (3 : Int32))), .val (.int (Int32.ofNat ea)), .val (.int (1 : Int32)), .val (.long p0), .second, .val (.int (Int32.ofNat ea)), .val (.int (Int32.ofNat kf.1)), .val (.double (FP.l2d ((1 : Int64) <<< ((Int32.ofNat kf.1).toInt64 &&& 63)))), .second, .val (.double v130), .second, .val (.long (own_r_rm1 p0)), .second, .val (.long (own_r_rm1 p0)), .second, .val (.long (own_r_rm2 (own_r_rm1 p0) (Int32.ofNat ea) p2)), .second, .val (.long (own_r_rm2 (own_r_rm1 p0) (Int32.ofNat ea) p3)), .second, .val (.double (FP.dmul (own_r_rm3 (p4 &&& (3 : Int32)) p0 (own_r_rm1 p0) (Int32.ofNat ea)) v130)), .second, .val (.double (FP.dmul (own_r_rm4 (p4 &&& (3 : Int32)) p0 (own_r_rm2 (own_r_rm1 p0) (Int32.ofNat ea) p2)) v130)), .second, .val (.double (FP.dmul (own_r_rm3 (p5 &&& (3 : Int32)) p0 (own_r_rm1 p0) (Int32.ofNat ea)) v130)), .second, .unset, .unset, .unset, .unset, .unset, .unset, .unset, .unset, .unset, .unset, .unset] [(.long (own_r_rm2 (own_r_rm1 p0) (Int32.ofNat ea) p3)), (.long p0), (.int (p5 &&& (3 : Int32)))])) rfl (by rw [hml]; rfl) (argsL := [(.int (p5 &&& (3 : Int32))), (.long p0), (.long (own_r_rm2 (own_r_rm1 p0) (Int32.ofNat ea) p3))]) (rest := []) (lenOf pd_3 rfl) rfl (by show 2 * 0 + _ ≤ _; exact Nat.le_of_eq rfl) (hb hby at_195) (fun _ _ => ⟨rfl, e177, (by decide : 0 + 0 ≤ _), (by decide : 0 + 0 ≤ _)⟩)
    have hQ179b : Q4 Z (p5 &&& (3 : Int32)) p0 (own_r_rm2 (own_r_rm1 p0) (Int32.ofNat ea) p3) h0 n0 vv179 T179.heap L179c := hQ179
    clear hQ179
    dsimp only [Pt.U, Pt.locs, Pt.cells, Pt.slots] at X179 l179 y179 z179 st179
    subst y179 z179
    obtain ⟨rfl, Nq180, Kq181⟩ := hQ179b
    have N182 : Fr n0 L179 := by rw [l179]; exact Fr.app N176 Nq180
    refine Go.of (g' := (mkF m 198 #[.val (.long p0), .second, .val (.long p1), .second, .val (.long p2), .second, .val (.long p3), .second, .val (.int p4), .val (.int p5), .val (.int (p4 &&& (3 : Int32))), .val (.int (p5 &&& (3 : Int32))), .val (.int (Int32.ofNat ea)), .val (.int (1 : Int32)), .val (.long p0), .second, .val (.int (Int32.ofNat ea)), .val (.int (Int32.ofNat kf.1)), .val (.double (FP.l2d ((1 : Int64) <<< ((Int32.ofNat kf.1).toInt64 &&& 63)))), .second, .val (.double v130), .second, .val (.long (own_r_rm1 p0)), .second, .val (.long (own_r_rm1 p0)), .second, .val (.long (own_r_rm2 (own_r_rm1 p0) (Int32.ofNat ea) p2)), .second, .val (.long (own_r_rm2 (own_r_rm1 p0) (Int32.ofNat ea) p3)), .second, .val (.double (FP.dmul (own_r_rm3 (p4 &&& (3 : Int32)) p0 (own_r_rm1 p0) (Int32.ofNat ea)) v130)), .second, .val (.double (FP.dmul (own_r_rm4 (p4 &&& (3 : Int32)) p0 (own_r_rm2 (own_r_rm1 p0) (Int32.ofNat ea) p2)) v130)), .second, .val (.double (FP.dmul (own_r_rm3 (p5 &&& (3 : Int32)) p0 (own_r_rm1 p0) (Int32.ofNat ea)) v130)), .second, .unset, .unset, .unset, .unset, .unset, .unset, .unset, .unset, .unset, .unset, .unset] [(.double (own_r_rm4 (p5 &&& (3 : Int32)) p0 (own_r_rm2 (own_r_rm1 p0) (Int32.ofNat ea) p3)))])) st179 ?_
    have e183 : T179.heap = h0 := Kq181
    have A184 := (⟨X179, hx, hby⟩ : Ax _ _ _ _ _ _ _ _ _ _ _ _ _ _ _)
    refine g_dload A184 at_198 rfl (pc' := 200) rfl ?_
    refine g_dmul A184 at_200 (own_nn (own_op (own_K p5) p0 p3 ea1 ea2 hS)).2 (pc' := 201) rfl ?_
    refine g_dstore A184 at_201 (ls' := #[.val (.long p0), .second, .val (.long p1), .second, .val (.long p2), .second, .val (.long p3), .second, .val (.int p4), .val (.int p5), .val (.int (p4 &&& (3 : Int32))), .val (.int (p5 &&& (3 : Int32))), .val (.int (Int32.ofNat ea)), .val (.int (1 : Int32)), .val (.long p0), .second, .val (.int (Int32.ofNat ea)), .val (.int (Int32.ofNat kf.1)), .val (.double (FP.l2d ((1 : Int64) <<< ((Int32.ofNat kf.1).toInt64 &&& 63)))), .second, .val (.double v130), .second, .val (.long (own_r_rm1 p0)), .second, .val (.long (own_r_rm1 p0)), .second, .val (.long (own_r_rm2 (own_r_rm1 p0) (Int32.ofNat ea) p2)), .second, .val (.long (own_r_rm2 (own_r_rm1 p0) (Int32.ofNat ea) p3)), .second, .val (.double (FP.dmul (own_r_rm3 (p4 &&& (3 : Int32)) p0 (own_r_rm1 p0) (Int32.ofNat ea)) v130)), .second, .val (.double (FP.dmul (own_r_rm4 (p4 &&& (3 : Int32)) p0 (own_r_rm2 (own_r_rm1 p0) (Int32.ofNat ea) p2)) v130)), .second, .val (.double (FP.dmul (own_r_rm3 (p5 &&& (3 : Int32)) p0 (own_r_rm1 p0) (Int32.ofNat ea)) v130)), .second, .val (.double (FP.dmul (own_r_rm4 (p5 &&& (3 : Int32)) p0 (own_r_rm2 (own_r_rm1 p0) (Int32.ofNat ea) p3)) v130)), .second, .unset, .unset, .unset, .unset, .unset, .unset, .unset, .unset, .unset]) rfl (pc' := 203) rfl ?_
    refine g_iload A184 at_203 rfl (pc' := 205) rfl ?_
    refine g_lloadN A184 at_205 rfl (pc' := 206) rfl ?_
    obtain ⟨vv185, _, ⟨T185, L185, k185, n185⟩, -, X185, ⟨L185c, hQ185, l185, y185, z185⟩, st185⟩ := Jvm.LawKit.callS X179 hx (y := (⟨"com/example/hinterland/hinterland/DoubleDoubleComparePinLaw", "cls", "(IJ)I"⟩ : MethodName)) hown (mvT hZ (hw _ (List.mem_of_getElem? (i := 18) rfl))) (mvT hZ (hw _ (List.mem_of_getElem? (i := 19) rfl))) (mvT hZ (hw _ (List.mem_of_getElem? (i := 2) rfl))) (mvT hZ (hw _ (List.mem_of_getElem? (i := 20) rfl))) (by decide) (backOf (W := 0) (rm5 l Z a0 hw [] (p4 &&& (3 : Int32)) p0 h0 n0 Z0 ) hZ (hw _ (List.mem_of_getElem? (i := 20) rfl)) (hw _ (List.mem_of_getElem? (i := 2) rfl)) (by decide) (by decide)) (g := (mkF m 206 #[.val (.long p0), .second, .val (.long p1), .second, .val (.long p2), .second, .val (.long p3), .second, .val (.int p4), .val (.int p5), .val (.int (p4 &&& (3 : Int32))), .val (.int (p5 &&& (3 : Int32))), .val (.int (Int32.ofNat ea)), .val (.int (1 : Int32)), .val (.long p0), .second, .val (.int (Int32.ofNat ea)), .val (.int (Int32.ofNat kf.1)), .val (.double (FP.l2d ((1 : Int64) <<< ((Int32.ofNat kf.1).toInt64 &&& 63)))), .second, .val (.double v130), .second, .val (.long (own_r_rm1 p0)), .second, .val (.long (own_r_rm1 p0)), .second, .val (.long (own_r_rm2 (own_r_rm1 p0) (Int32.ofNat ea) p2)), .second, .val (.long (own_r_rm2 (own_r_rm1 p0) (Int32.ofNat ea) p3)), .second, .val (.double (FP.dmul (own_r_rm3 (p4 &&& (3 : Int32)) p0 (own_r_rm1 p0) (Int32.ofNat ea)) v130)), .second, .val (.double (FP.dmul (own_r_rm4 (p4 &&& (3 : Int32)) p0 (own_r_rm2 (own_r_rm1 p0) (Int32.ofNat ea) p2)) v130)), .second, .val (.double (FP.dmul (own_r_rm3 (p5 &&& (3 : Int32)) p0 (own_r_rm1 p0) (Int32.ofNat ea)) v130)), .second, .val (.double (FP.dmul (own_r_rm4 (p5 &&& (3 : Int32)) p0 (own_r_rm2 (own_r_rm1 p0) (Int32.ofNat ea) p3)) v130)), .second, .unset, .unset, .unset, .unset, .unset, .unset, .unset, .unset, .unset] [(.long p0), (.int (p4 &&& (3 : Int32)))])) rfl (by rw [hml]; rfl) (argsL := [(.int (p4 &&& (3 : Int32))), (.long p0)]) (rest := []) (lenOf pd_4 rfl) rfl (by show 2 * 0 + _ ≤ _; exact Nat.le_of_eq rfl) (hb hby at_206) (fun _ _ => ⟨rfl, e183, (by decide : 0 + 0 ≤ _), (by decide : 0 + 0 ≤ _)⟩)
    have hQ185b : Q5 Z (p4 &&& (3 : Int32)) p0 h0 n0 vv185 T185.heap L185c := hQ185
    clear hQ185
    dsimp only [Pt.U, Pt.locs, Pt.cells, Pt.slots] at X185 l185 y185 z185 st185
    subst y185 z185
    obtain ⟨rfl, Nq186, Kq187⟩ := hQ185b
    have N188 : Fr n0 L185 := by rw [l185]; exact Fr.app N182 Nq186
    refine Go.of (g' := (mkF m 209 #[.val (.long p0), .second, .val (.long p1), .second, .val (.long p2), .second, .val (.long p3), .second, .val (.int p4), .val (.int p5), .val (.int (p4 &&& (3 : Int32))), .val (.int (p5 &&& (3 : Int32))), .val (.int (Int32.ofNat ea)), .val (.int (1 : Int32)), .val (.long p0), .second, .val (.int (Int32.ofNat ea)), .val (.int (Int32.ofNat kf.1)), .val (.double (FP.l2d ((1 : Int64) <<< ((Int32.ofNat kf.1).toInt64 &&& 63)))), .second, .val (.double v130), .second, .val (.long (own_r_rm1 p0)), .second, .val (.long (own_r_rm1 p0)), .second, .val (.long (own_r_rm2 (own_r_rm1 p0) (Int32.ofNat ea) p2)), .second, .val (.long (own_r_rm2 (own_r_rm1 p0) (Int32.ofNat ea) p3)), .second, .val (.double (FP.dmul (own_r_rm3 (p4 &&& (3 : Int32)) p0 (own_r_rm1 p0) (Int32.ofNat ea)) v130)), .second, .val (.double (FP.dmul (own_r_rm4 (p4 &&& (3 : Int32)) p0 (own_r_rm2 (own_r_rm1 p0) (Int32.ofNat ea) p2)) v130)), .second, .val (.double (FP.dmul (own_r_rm3 (p5 &&& (3 : Int32)) p0 (own_r_rm1 p0) (Int32.ofNat ea)) v130)), .second, .val (.double (FP.dmul (own_r_rm4 (p5 &&& (3 : Int32)) p0 (own_r_rm2 (own_r_rm1 p0) (Int32.ofNat ea) p3)) v130)), .second, .unset, .unset, .unset, .unset, .unset, .unset, .unset, .unset, .unset] [(.int (own_r_rm5 (p4 &&& (3 : Int32)) p0))])) st185 ?_
    have e189 : T185.heap = h0 := Kq187
    have A190 := (⟨X185, hx, hby⟩ : Ax _ _ _ _ _ _ _ _ _ _ _ _ _ _ _)
    refine g_istore A190 at_209 (ls' := #[.val (.long p0), .second, .val (.long p1), .second, .val (.long p2), .second, .val (.long p3), .second, .val (.int p4), .val (.int p5), .val (.int (p4 &&& (3 : Int32))), .val (.int (p5 &&& (3 : Int32))), .val (.int (Int32.ofNat ea)), .val (.int (1 : Int32)), .val (.long p0), .second, .val (.int (Int32.ofNat ea)), .val (.int (Int32.ofNat kf.1)), .val (.double (FP.l2d ((1 : Int64) <<< ((Int32.ofNat kf.1).toInt64 &&& 63)))), .second, .val (.double v130), .second, .val (.long (own_r_rm1 p0)), .second, .val (.long (own_r_rm1 p0)), .second, .val (.long (own_r_rm2 (own_r_rm1 p0) (Int32.ofNat ea) p2)), .second, .val (.long (own_r_rm2 (own_r_rm1 p0) (Int32.ofNat ea) p3)), .second, .val (.double (FP.dmul (own_r_rm3 (p4 &&& (3 : Int32)) p0 (own_r_rm1 p0) (Int32.ofNat ea)) v130)), .second, .val (.double (FP.dmul (own_r_rm4 (p4 &&& (3 : Int32)) p0 (own_r_rm2 (own_r_rm1 p0) (Int32.ofNat ea) p2)) v130)), .second, .val (.double (FP.dmul (own_r_rm3 (p5 &&& (3 : Int32)) p0 (own_r_rm1 p0) (Int32.ofNat ea)) v130)), .second, .val (.double (FP.dmul (own_r_rm4 (p5 &&& (3 : Int32)) p0 (own_r_rm2 (own_r_rm1 p0) (Int32.ofNat ea) p3)) v130)), .second, .val (.int (own_r_rm5 (p4 &&& (3 : Int32)) p0)), .unset, .unset, .unset, .unset, .unset, .unset, .unset, .unset]) rfl (pc' := 211) rfl ?_
    refine g_iload A190 at_211 rfl (pc' := 213) rfl ?_
    refine g_lload A190 at_213 rfl (pc' := 215) rfl ?_
    obtain ⟨vv191, _, ⟨T191, L191, k191, n191⟩, -, X191, ⟨L191c, hQ191, l191, y191, z191⟩, st191⟩ := Jvm.LawKit.callS X185 hx (y := (⟨"com/example/hinterland/hinterland/DoubleDoubleComparePinLaw", "cls", "(IJ)I"⟩ : MethodName)) hown (mvT hZ (hw _ (List.mem_of_getElem? (i := 18) rfl))) (mvT hZ (hw _ (List.mem_of_getElem? (i := 19) rfl))) (mvT hZ (hw _ (List.mem_of_getElem? (i := 2) rfl))) (mvT hZ (hw _ (List.mem_of_getElem? (i := 20) rfl))) (by decide) (backOf (W := 0) (rm5 l Z a0 hw [] (p5 &&& (3 : Int32)) p0 h0 n0 Z0 ) hZ (hw _ (List.mem_of_getElem? (i := 20) rfl)) (hw _ (List.mem_of_getElem? (i := 2) rfl)) (by decide) (by decide)) (g := (mkF m 215 #[.val (.long p0), .second, .val (.long p1), .second, .val (.long p2), .second, .val (.long p3), .second, .val (.int p4), .val (.int p5), .val (.int (p4 &&& (3 : Int32))), .val (.int (p5 &&& (3 : Int32))), .val (.int (Int32.ofNat ea)), .val (.int (1 : Int32)), .val (.long p0), .second, .val (.int (Int32.ofNat ea)), .val (.int (Int32.ofNat kf.1)), .val (.double (FP.l2d ((1 : Int64) <<< ((Int32.ofNat kf.1).toInt64 &&& 63)))), .second, .val (.double v130), .second, .val (.long (own_r_rm1 p0)), .second, .val (.long (own_r_rm1 p0)), .second, .val (.long (own_r_rm2 (own_r_rm1 p0) (Int32.ofNat ea) p2)), .second, .val (.long (own_r_rm2 (own_r_rm1 p0) (Int32.ofNat ea) p3)), .second, .val (.double (FP.dmul (own_r_rm3 (p4 &&& (3 : Int32)) p0 (own_r_rm1 p0) (Int32.ofNat ea)) v130)), .second, .val (.double (FP.dmul (own_r_rm4 (p4 &&& (3 : Int32)) p0 (own_r_rm2 (own_r_rm1 p0) (Int32.ofNat ea) p2)) v130)), .second, .val (.double (FP.dmul (own_r_rm3 (p5 &&& (3 : Int32)) p0 (own_r_rm1 p0) (Int32.ofNat ea)) v130)), .second, .val (.double (FP.dmul (own_r_rm4 (p5 &&& (3 : Int32)) p0 (own_r_rm2 (own_r_rm1 p0) (Int32.ofNat ea) p3)) v130)), .second, .val (.int (own_r_rm5 (p4 &&& (3 : Int32)) p0)), .unset, .unset, .unset, .unset, .unset, .unset, .unset, .unset] [(.long p0), (.int (p5 &&& (3 : Int32)))])) rfl (by rw [hml]; rfl) (argsL := [(.int (p5 &&& (3 : Int32))), (.long p0)]) (rest := []) (lenOf pd_4 rfl) rfl (by show 2 * 0 + _ ≤ _; exact Nat.le_of_eq rfl) (hb hby at_215) (fun _ _ => ⟨rfl, e189, (by decide : 0 + 0 ≤ _), (by decide : 0 + 0 ≤ _)⟩)
    have hQ191b : Q5 Z (p5 &&& (3 : Int32)) p0 h0 n0 vv191 T191.heap L191c := hQ191
    clear hQ191
    dsimp only [Pt.U, Pt.locs, Pt.cells, Pt.slots] at X191 l191 y191 z191 st191
    subst y191 z191
    obtain ⟨rfl, Nq192, Kq193⟩ := hQ191b
    have N194 : Fr n0 L191 := by rw [l191]; exact Fr.app N188 Nq192
    refine Go.of (g' := (mkF m 218 #[.val (.long p0), .second, .val (.long p1), .second, .val (.long p2), .second, .val (.long p3), .second, .val (.int p4), .val (.int p5), .val (.int (p4 &&& (3 : Int32))), .val (.int (p5 &&& (3 : Int32))), .val (.int (Int32.ofNat ea)), .val (.int (1 : Int32)), .val (.long p0), .second, .val (.int (Int32.ofNat ea)), .val (.int (Int32.ofNat kf.1)), .val (.double (FP.l2d ((1 : Int64) <<< ((Int32.ofNat kf.1).toInt64 &&& 63)))), .second, .val (.double v130), .second, .val (.long (own_r_rm1 p0)), .second, .val (.long (own_r_rm1 p0)), .second, .val (.long (own_r_rm2 (own_r_rm1 p0) (Int32.ofNat ea) p2)), .second, .val (.long (own_r_rm2 (own_r_rm1 p0) (Int32.ofNat ea) p3)), .second, .val (.double (FP.dmul (own_r_rm3 (p4 &&& (3 : Int32)) p0 (own_r_rm1 p0) (Int32.ofNat ea)) v130)), .second, .val (.double (FP.dmul (own_r_rm4 (p4 &&& (3 : Int32)) p0 (own_r_rm2 (own_r_rm1 p0) (Int32.ofNat ea) p2)) v130)), .second, .val (.double (FP.dmul (own_r_rm3 (p5 &&& (3 : Int32)) p0 (own_r_rm1 p0) (Int32.ofNat ea)) v130)), .second, .val (.double (FP.dmul (own_r_rm4 (p5 &&& (3 : Int32)) p0 (own_r_rm2 (own_r_rm1 p0) (Int32.ofNat ea) p3)) v130)), .second, .val (.int (own_r_rm5 (p4 &&& (3 : Int32)) p0)), .unset, .unset, .unset, .unset, .unset, .unset, .unset, .unset] [(.int (own_r_rm5 (p5 &&& (3 : Int32)) p0))])) st191 ?_
    have e195 : T191.heap = h0 := Kq193
    have A196 := (⟨X191, hx, hby⟩ : Ax _ _ _ _ _ _ _ _ _ _ _ _ _ _ _)
    refine g_istore A196 at_218 (ls' := #[.val (.long p0), .second, .val (.long p1), .second, .val (.long p2), .second, .val (.long p3), .second, .val (.int p4), .val (.int p5), .val (.int (p4 &&& (3 : Int32))), .val (.int (p5 &&& (3 : Int32))), .val (.int (Int32.ofNat ea)), .val (.int (1 : Int32)), .val (.long p0), .second, .val (.int (Int32.ofNat ea)), .val (.int (Int32.ofNat kf.1)), .val (.double (FP.l2d ((1 : Int64) <<< ((Int32.ofNat kf.1).toInt64 &&& 63)))), .second, .val (.double v130), .second, .val (.long (own_r_rm1 p0)), .second, .val (.long (own_r_rm1 p0)), .second, .val (.long (own_r_rm2 (own_r_rm1 p0) (Int32.ofNat ea) p2)), .second, .val (.long (own_r_rm2 (own_r_rm1 p0) (Int32.ofNat ea) p3)), .second, .val (.double (FP.dmul (own_r_rm3 (p4 &&& (3 : Int32)) p0 (own_r_rm1 p0) (Int32.ofNat ea)) v130)), .second, .val (.double (FP.dmul (own_r_rm4 (p4 &&& (3 : Int32)) p0 (own_r_rm2 (own_r_rm1 p0) (Int32.ofNat ea) p2)) v130)), .second, .val (.double (FP.dmul (own_r_rm3 (p5 &&& (3 : Int32)) p0 (own_r_rm1 p0) (Int32.ofNat ea)) v130)), .second, .val (.double (FP.dmul (own_r_rm4 (p5 &&& (3 : Int32)) p0 (own_r_rm2 (own_r_rm1 p0) (Int32.ofNat ea) p3)) v130)), .second, .val (.int (own_r_rm5 (p4 &&& (3 : Int32)) p0)), .val (.int (own_r_rm5 (p5 &&& (3 : Int32)) p0)), .unset, .unset, .unset, .unset, .unset, .unset, .unset]) rfl (pc' := 220) rfl ?_
    refine g_iload A196 at_220 rfl (pc' := 222) rfl ?_
    refine g_lload A196 at_222 rfl (pc' := 224) rfl ?_
    refine g_iload A196 at_224 rfl (pc' := 226) rfl ?_
    refine g_lload A196 at_226 rfl (pc' := 228) rfl ?_
    obtain ⟨vv197, _, ⟨T197, L197, k197, n197⟩, -, X197, ⟨L197c, hQ197, l197, y197, z197⟩, st197⟩ := Jvm.LawKit.callS X191 hx (y := (⟨"com/example/hinterland/hinterland/DoubleDoubleComparePinLaw", "value", "(IJIJ)J"⟩ : MethodName)) hown (mvT hZ (hw _ (List.mem_of_getElem? (i := 21) rfl))) (mvT hZ (hw _ (List.mem_of_getElem? (i := 22) rfl))) (mvT hZ (hw _ (List.mem_of_getElem? (i := 2) rfl))) (mvT hZ (hw _ (List.mem_of_getElem? (i := 23) rfl))) (by decide) (backOf (W := 0) (rm6 l Z a0 hw [] (p4 &&& (3 : Int32)) (own_r_rm1 p0) (Int32.ofNat ea) (own_r_rm2 (own_r_rm1 p0) (Int32.ofNat ea) p2) h0 n0 Z0 ) hZ (hw _ (List.mem_of_getElem? (i := 23) rfl)) (hw _ (List.mem_of_getElem? (i := 2) rfl)) (by decide) (by decide)) (g := (mkF m 228 #[.val (.long p0), .second, .val (.long p1), .second, .val (.long p2), .second, .val (.long p3), .second, .val (.int p4), .val (.int p5), .val (.int (p4 &&& (3 : Int32))), .val (.int (p5 &&& (3 : Int32))), .val (.int (Int32.ofNat ea)), .val (.int (1 : Int32)), .val (.long p0), .second, .val (.int (Int32.ofNat ea)), .val (.int (Int32.ofNat kf.1)), .val (.double (FP.l2d ((1 : Int64) <<< ((Int32.ofNat kf.1).toInt64 &&& 63)))), .second, .val (.double v130), .second, .val (.long (own_r_rm1 p0)), .second, .val (.long (own_r_rm1 p0)), .second, .val (.long (own_r_rm2 (own_r_rm1 p0) (Int32.ofNat ea) p2)), .second, .val (.long (own_r_rm2 (own_r_rm1 p0) (Int32.ofNat ea) p3)), .second, .val (.double (FP.dmul (own_r_rm3 (p4 &&& (3 : Int32)) p0 (own_r_rm1 p0) (Int32.ofNat ea)) v130)), .second, .val (.double (FP.dmul (own_r_rm4 (p4 &&& (3 : Int32)) p0 (own_r_rm2 (own_r_rm1 p0) (Int32.ofNat ea) p2)) v130)), .second, .val (.double (FP.dmul (own_r_rm3 (p5 &&& (3 : Int32)) p0 (own_r_rm1 p0) (Int32.ofNat ea)) v130)), .second, .val (.double (FP.dmul (own_r_rm4 (p5 &&& (3 : Int32)) p0 (own_r_rm2 (own_r_rm1 p0) (Int32.ofNat ea) p3)) v130)), .second, .val (.int (own_r_rm5 (p4 &&& (3 : Int32)) p0)), .val (.int (own_r_rm5 (p5 &&& (3 : Int32)) p0)), .unset, .unset, .unset, .unset, .unset, .unset, .unset] [(.long (own_r_rm2 (own_r_rm1 p0) (Int32.ofNat ea) p2)), (.int (Int32.ofNat ea)), (.long (own_r_rm1 p0)), (.int (p4 &&& (3 : Int32)))])) rfl (by rw [hml]; rfl) (argsL := [(.int (p4 &&& (3 : Int32))), (.long (own_r_rm1 p0)), (.int (Int32.ofNat ea)), (.long (own_r_rm2 (own_r_rm1 p0) (Int32.ofNat ea) p2))]) (rest := []) (lenOf pd_5 rfl) rfl (by show 2 * 0 + _ ≤ _; exact Nat.le_of_eq rfl) (hb hby at_228) (fun _ _ => ⟨rfl, e195, (by decide : 0 + 0 ≤ _), (by decide : 0 + 0 ≤ _)⟩)
    have hQ197b : Q6 Z (p4 &&& (3 : Int32)) (own_r_rm1 p0) (Int32.ofNat ea) (own_r_rm2 (own_r_rm1 p0) (Int32.ofNat ea) p2) h0 n0 vv197 T197.heap L197c := hQ197
    clear hQ197
    dsimp only [Pt.U, Pt.locs, Pt.cells, Pt.slots] at X197 l197 y197 z197 st197
    subst y197 z197
    obtain ⟨rfl, Nq198, Kq199⟩ := hQ197b
    have N200 : Fr n0 L197 := by rw [l197]; exact Fr.app N194 Nq198
    refine Go.of (g' := (mkF m 231 #[.val (.long p0), .second, .val (.long p1), .second, .val (.long p2), .second, .val (.long p3), .second, .val (.int p4), .val (.int p5), .val (.int (p4 &&& (3 : Int32))), .val (.int (p5 &&& (3 : Int32))), .val (.int (Int32.ofNat ea)), .val (.int (1 : Int32)), .val (.long p0), .second, .val (.int (Int32.ofNat ea)), .val (.int (Int32.ofNat kf.1)), .val (.double (FP.l2d ((1 : Int64) <<< ((Int32.ofNat kf.1).toInt64 &&& 63)))), .second, .val (.double v130), .second, .val (.long (own_r_rm1 p0)), .second, .val (.long (own_r_rm1 p0)), .second, .val (.long (own_r_rm2 (own_r_rm1 p0) (Int32.ofNat ea) p2)), .second, .val (.long (own_r_rm2 (own_r_rm1 p0) (Int32.ofNat ea) p3)), .second, .val (.double (FP.dmul (own_r_rm3 (p4 &&& (3 : Int32)) p0 (own_r_rm1 p0) (Int32.ofNat ea)) v130)), .second, .val (.double (FP.dmul (own_r_rm4 (p4 &&& (3 : Int32)) p0 (own_r_rm2 (own_r_rm1 p0) (Int32.ofNat ea) p2)) v130)), .second, .val (.double (FP.dmul (own_r_rm3 (p5 &&& (3 : Int32)) p0 (own_r_rm1 p0) (Int32.ofNat ea)) v130)), .second, .val (.double (FP.dmul (own_r_rm4 (p5 &&& (3 : Int32)) p0 (own_r_rm2 (own_r_rm1 p0) (Int32.ofNat ea) p3)) v130)), .second, .val (.int (own_r_rm5 (p4 &&& (3 : Int32)) p0)), .val (.int (own_r_rm5 (p5 &&& (3 : Int32)) p0)), .unset, .unset, .unset, .unset, .unset, .unset, .unset] [(.long (own_r_rm6 (p4 &&& (3 : Int32)) (own_r_rm1 p0) (Int32.ofNat ea) (own_r_rm2 (own_r_rm1 p0) (Int32.ofNat ea) p2)))])) st197 ?_
    have e201 : T197.heap = h0 := Kq199
    have A202 := (⟨X197, hx, hby⟩ : Ax _ _ _ _ _ _ _ _ _ _ _ _ _ _ _)
    refine g_lstore A202 at_231 (ls' := #[.val (.long p0), .second, .val (.long p1), .second, .val (.long p2), .second, .val (.long p3), .second, .val (.int p4), .val (.int p5), .val (.int (p4 &&& (3 : Int32))), .val (.int (p5 &&& (3 : Int32))), .val (.int (Int32.ofNat ea)), .val (.int (1 : Int32)), .val (.long p0), .second, .val (.int (Int32.ofNat ea)), .val (.int (Int32.ofNat kf.1)), .val (.double (FP.l2d ((1 : Int64) <<< ((Int32.ofNat kf.1).toInt64 &&& 63)))), .second, .val (.double v130), .second, .val (.long (own_r_rm1 p0)), .second, .val (.long (own_r_rm1 p0)), .second, .val (.long (own_r_rm2 (own_r_rm1 p0) (Int32.ofNat ea) p2)), .second, .val (.long (own_r_rm2 (own_r_rm1 p0) (Int32.ofNat ea) p3)), .second, .val (.double (FP.dmul (own_r_rm3 (p4 &&& (3 : Int32)) p0 (own_r_rm1 p0) (Int32.ofNat ea)) v130)), .second, .val (.double (FP.dmul (own_r_rm4 (p4 &&& (3 : Int32)) p0 (own_r_rm2 (own_r_rm1 p0) (Int32.ofNat ea) p2)) v130)), .second, .val (.double (FP.dmul (own_r_rm3 (p5 &&& (3 : Int32)) p0 (own_r_rm1 p0) (Int32.ofNat ea)) v130)), .second, .val (.double (FP.dmul (own_r_rm4 (p5 &&& (3 : Int32)) p0 (own_r_rm2 (own_r_rm1 p0) (Int32.ofNat ea) p3)) v130)), .second, .val (.int (own_r_rm5 (p4 &&& (3 : Int32)) p0)), .val (.int (own_r_rm5 (p5 &&& (3 : Int32)) p0)), .val (.long (own_r_rm6 (p4 &&& (3 : Int32)) (own_r_rm1 p0) (Int32.ofNat ea) (own_r_rm2 (own_r_rm1 p0) (Int32.ofNat ea) p2))), .second, .unset, .unset, .unset, .unset, .unset]) rfl (pc' := 233) rfl ?_
    refine g_iload A202 at_233 rfl (pc' := 235) rfl ?_
    refine g_lload A202 at_235 rfl (pc' := 237) rfl ?_
    refine g_iload A202 at_237 rfl (pc' := 239) rfl ?_
    refine g_lload A202 at_239 rfl (pc' := 241) rfl ?_
    obtain ⟨vv203, _, ⟨T203, L203, k203, n203⟩, -, X203, ⟨L203c, hQ203, l203, y203, z203⟩, st203⟩ := Jvm.LawKit.callS X197 hx (y := (⟨"com/example/hinterland/hinterland/DoubleDoubleComparePinLaw", "value", "(IJIJ)J"⟩ : MethodName)) hown (mvT hZ (hw _ (List.mem_of_getElem? (i := 21) rfl))) (mvT hZ (hw _ (List.mem_of_getElem? (i := 22) rfl))) (mvT hZ (hw _ (List.mem_of_getElem? (i := 2) rfl))) (mvT hZ (hw _ (List.mem_of_getElem? (i := 23) rfl))) (by decide) (backOf (W := 0) (rm6 l Z a0 hw [] (p5 &&& (3 : Int32)) (own_r_rm1 p0) (Int32.ofNat ea) (own_r_rm2 (own_r_rm1 p0) (Int32.ofNat ea) p3) h0 n0 Z0 ) hZ (hw _ (List.mem_of_getElem? (i := 23) rfl)) (hw _ (List.mem_of_getElem? (i := 2) rfl)) (by decide) (by decide)) (g := (mkF m 241 #[.val (.long p0), .second, .val (.long p1), .second, .val (.long p2), .second, .val (.long p3), .second, .val (.int p4), .val (.int p5), .val (.int (p4 &&& (3 : Int32))), .val (.int (p5 &&& (3 : Int32))), .val (.int (Int32.ofNat ea)), .val (.int (1 : Int32)), .val (.long p0), .second, .val (.int (Int32.ofNat ea)), .val (.int (Int32.ofNat kf.1)), .val (.double (FP.l2d ((1 : Int64) <<< ((Int32.ofNat kf.1).toInt64 &&& 63)))), .second, .val (.double v130), .second, .val (.long (own_r_rm1 p0)), .second, .val (.long (own_r_rm1 p0)), .second, .val (.long (own_r_rm2 (own_r_rm1 p0) (Int32.ofNat ea) p2)), .second, .val (.long (own_r_rm2 (own_r_rm1 p0) (Int32.ofNat ea) p3)), .second, .val (.double (FP.dmul (own_r_rm3 (p4 &&& (3 : Int32)) p0 (own_r_rm1 p0) (Int32.ofNat ea)) v130)), .second, .val (.double (FP.dmul (own_r_rm4 (p4 &&& (3 : Int32)) p0 (own_r_rm2 (own_r_rm1 p0) (Int32.ofNat ea) p2)) v130)), .second, .val (.double (FP.dmul (own_r_rm3 (p5 &&& (3 : Int32)) p0 (own_r_rm1 p0) (Int32.ofNat ea)) v130)), .second, .val (.double (FP.dmul (own_r_rm4 (p5 &&& (3 : Int32)) p0 (own_r_rm2 (own_r_rm1 p0) (Int32.ofNat ea) p3)) v130)), .second, .val (.int (own_r_rm5 (p4 &&& (3 : Int32)) p0)), .val (.int (own_r_rm5 (p5 &&& (3 : Int32)) p0)), .val (.long (own_r_rm6 (p4 &&& (3 : Int32)) (own_r_rm1 p0) (Int32.ofNat ea) (own_r_rm2 (own_r_rm1 p0) (Int32.ofNat ea) p2))), .second, .unset, .unset, .unset, .unset, .unset] [(.long (own_r_rm2 (own_r_rm1 p0) (Int32.ofNat ea) p3)), (.int (Int32.ofNat ea)), (.long (own_r_rm1 p0)), (.int (p5 &&& (3 : Int32)))])) rfl (by rw [hml]; rfl) (argsL := [(.int (p5 &&& (3 : Int32))), (.long (own_r_rm1 p0)), (.int (Int32.ofNat ea)), (.long (own_r_rm2 (own_r_rm1 p0) (Int32.ofNat ea) p3))]) (rest := []) (lenOf pd_5 rfl) rfl (by show 2 * 0 + _ ≤ _; exact Nat.le_of_eq rfl) (hb hby at_241) (fun _ _ => ⟨rfl, e201, (by decide : 0 + 0 ≤ _), (by decide : 0 + 0 ≤ _)⟩)
    have hQ203b : Q6 Z (p5 &&& (3 : Int32)) (own_r_rm1 p0) (Int32.ofNat ea) (own_r_rm2 (own_r_rm1 p0) (Int32.ofNat ea) p3) h0 n0 vv203 T203.heap L203c := hQ203
    clear hQ203
    dsimp only [Pt.U, Pt.locs, Pt.cells, Pt.slots] at X203 l203 y203 z203 st203
    subst y203 z203
    obtain ⟨rfl, Nq204, Kq205⟩ := hQ203b
    have N206 : Fr n0 L203 := by rw [l203]; exact Fr.app N200 Nq204
    refine Go.of (g' := (mkF m 244 #[.val (.long p0), .second, .val (.long p1), .second, .val (.long p2), .second, .val (.long p3), .second, .val (.int p4), .val (.int p5), .val (.int (p4 &&& (3 : Int32))), .val (.int (p5 &&& (3 : Int32))), .val (.int (Int32.ofNat ea)), .val (.int (1 : Int32)), .val (.long p0), .second, .val (.int (Int32.ofNat ea)), .val (.int (Int32.ofNat kf.1)), .val (.double (FP.l2d ((1 : Int64) <<< ((Int32.ofNat kf.1).toInt64 &&& 63)))), .second, .val (.double v130), .second, .val (.long (own_r_rm1 p0)), .second, .val (.long (own_r_rm1 p0)), .second, .val (.long (own_r_rm2 (own_r_rm1 p0) (Int32.ofNat ea) p2)), .second, .val (.long (own_r_rm2 (own_r_rm1 p0) (Int32.ofNat ea) p3)), .second, .val (.double (FP.dmul (own_r_rm3 (p4 &&& (3 : Int32)) p0 (own_r_rm1 p0) (Int32.ofNat ea)) v130)), .second, .val (.double (FP.dmul (own_r_rm4 (p4 &&& (3 : Int32)) p0 (own_r_rm2 (own_r_rm1 p0) (Int32.ofNat ea) p2)) v130)), .second, .val (.double (FP.dmul (own_r_rm3 (p5 &&& (3 : Int32)) p0 (own_r_rm1 p0) (Int32.ofNat ea)) v130)), .second, .val (.double (FP.dmul (own_r_rm4 (p5 &&& (3 : Int32)) p0 (own_r_rm2 (own_r_rm1 p0) (Int32.ofNat ea) p3)) v130)), .second, .val (.int (own_r_rm5 (p4 &&& (3 : Int32)) p0)), .val (.int (own_r_rm5 (p5 &&& (3 : Int32)) p0)), .val (.long (own_r_rm6 (p4 &&& (3 : Int32)) (own_r_rm1 p0) (Int32.ofNat ea) (own_r_rm2 (own_r_rm1 p0) (Int32.ofNat ea) p2))), .second, .unset, .unset, .unset, .unset, .unset] [(.long (own_r_rm6 (p5 &&& (3 : Int32)) (own_r_rm1 p0) (Int32.ofNat ea) (own_r_rm2 (own_r_rm1 p0) (Int32.ofNat ea) p3)))])) st203 ?_
    have e207 : T203.heap = h0 := Kq205
    have A208 := (⟨X203, hx, hby⟩ : Ax _ _ _ _ _ _ _ _ _ _ _ _ _ _ _)
    refine g_lstore A208 at_244 (ls' := #[.val (.long p0), .second, .val (.long p1), .second, .val (.long p2), .second, .val (.long p3), .second, .val (.int p4), .val (.int p5), .val (.int (p4 &&& (3 : Int32))), .val (.int (p5 &&& (3 : Int32))), .val (.int (Int32.ofNat ea)), .val (.int (1 : Int32)), .val (.long p0), .second, .val (.int (Int32.ofNat ea)), .val (.int (Int32.ofNat kf.1)), .val (.double (FP.l2d ((1 : Int64) <<< ((Int32.ofNat kf.1).toInt64 &&& 63)))), .second, .val (.double v130), .second, .val (.long (own_r_rm1 p0)), .second, .val (.long (own_r_rm1 p0)), .second, .val (.long (own_r_rm2 (own_r_rm1 p0) (Int32.ofNat ea) p2)), .second, .val (.long (own_r_rm2 (own_r_rm1 p0) (Int32.ofNat ea) p3)), .second, .val (.double (FP.dmul (own_r_rm3 (p4 &&& (3 : Int32)) p0 (own_r_rm1 p0) (Int32.ofNat ea)) v130)), .second, .val (.double (FP.dmul (own_r_rm4 (p4 &&& (3 : Int32)) p0 (own_r_rm2 (own_r_rm1 p0) (Int32.ofNat ea) p2)) v130)), .second, .val (.double (FP.dmul (own_r_rm3 (p5 &&& (3 : Int32)) p0 (own_r_rm1 p0) (Int32.ofNat ea)) v130)), .second, .val (.double (FP.dmul (own_r_rm4 (p5 &&& (3 : Int32)) p0 (own_r_rm2 (own_r_rm1 p0) (Int32.ofNat ea) p3)) v130)), .second, .val (.int (own_r_rm5 (p4 &&& (3 : Int32)) p0)), .val (.int (own_r_rm5 (p5 &&& (3 : Int32)) p0)), .val (.long (own_r_rm6 (p4 &&& (3 : Int32)) (own_r_rm1 p0) (Int32.ofNat ea) (own_r_rm2 (own_r_rm1 p0) (Int32.ofNat ea) p2))), .second, .val (.long (own_r_rm6 (p5 &&& (3 : Int32)) (own_r_rm1 p0) (Int32.ofNat ea) (own_r_rm2 (own_r_rm1 p0) (Int32.ofNat ea) p3))), .second, .unset, .unset, .unset]) rfl (pc' := 246) rfl ?_
    refine g_iload A208 at_246 rfl (pc' := 248) rfl ?_
    refine g_iload A208 at_248 rfl (pc' := 250) rfl ?_
    obtain ⟨v209, hv209⟩ : ∃ z : Int32, z = (if (own_r_rm5 (p4 &&& (3 : Int32)) p0) = (own_r_rm5 (p5 &&& (3 : Int32)) p0) then (if (own_r_rm5 (p4 &&& (3 : Int32)) p0) = 0 then (if (own_r_rm6 (p4 &&& (3 : Int32)) (own_r_rm1 p0) (Int32.ofNat ea) (own_r_rm2 (own_r_rm1 p0) (Int32.ofNat ea) p2)) < (own_r_rm6 (p5 &&& (3 : Int32)) (own_r_rm1 p0) (Int32.ofNat ea) (own_r_rm2 (own_r_rm1 p0) (Int32.ofNat ea) p3)) then (-1 : Int32) else (if (own_r_rm6 (p5 &&& (3 : Int32)) (own_r_rm1 p0) (Int32.ofNat ea) (own_r_rm2 (own_r_rm1 p0) (Int32.ofNat ea) p3)) < (own_r_rm6 (p4 &&& (3 : Int32)) (own_r_rm1 p0) (Int32.ofNat ea) (own_r_rm2 (own_r_rm1 p0) (Int32.ofNat ea) p2)) then (1 : Int32) else (0 : Int32))) else (0 : Int32)) else (if (own_r_rm5 (p4 &&& (3 : Int32)) p0) < (own_r_rm5 (p5 &&& (3 : Int32)) p0) then (-1 : Int32) else (1 : Int32))) := ⟨_, rfl⟩
    have sg210 : ∀ {P : State → Outcome → Prop}, Go p e below P T203 (mkF m 308 #[.val (.long p0), .second, .val (.long p1), .second, .val (.long p2), .second, .val (.long p3), .second, .val (.int p4), .val (.int p5), .val (.int (p4 &&& (3 : Int32))), .val (.int (p5 &&& (3 : Int32))), .val (.int (Int32.ofNat ea)), .val (.int (1 : Int32)), .val (.long p0), .second, .val (.int (Int32.ofNat ea)), .val (.int (Int32.ofNat kf.1)), .val (.double (FP.l2d ((1 : Int64) <<< ((Int32.ofNat kf.1).toInt64 &&& 63)))), .second, .val (.double v130), .second, .val (.long (own_r_rm1 p0)), .second, .val (.long (own_r_rm1 p0)), .second, .val (.long (own_r_rm2 (own_r_rm1 p0) (Int32.ofNat ea) p2)), .second, .val (.long (own_r_rm2 (own_r_rm1 p0) (Int32.ofNat ea) p3)), .second, .val (.double (FP.dmul (own_r_rm3 (p4 &&& (3 : Int32)) p0 (own_r_rm1 p0) (Int32.ofNat ea)) v130)), .second, .val (.double (FP.dmul (own_r_rm4 (p4 &&& (3 : Int32)) p0 (own_r_rm2 (own_r_rm1 p0) (Int32.ofNat ea) p2)) v130)), .second, .val (.double (FP.dmul (own_r_rm3 (p5 &&& (3 : Int32)) p0 (own_r_rm1 p0) (Int32.ofNat ea)) v130)), .second, .val (.double (FP.dmul (own_r_rm4 (p5 &&& (3 : Int32)) p0 (own_r_rm2 (own_r_rm1 p0) (Int32.ofNat ea) p3)) v130)), .second, .val (.int (own_r_rm5 (p4 &&& (3 : Int32)) p0)), .val (.int (own_r_rm5 (p5 &&& (3 : Int32)) p0)), .val (.long (own_r_rm6 (p4 &&& (3 : Int32)) (own_r_rm1 p0) (Int32.ofNat ea) (own_r_rm2 (own_r_rm1 p0) (Int32.ofNat ea) p2))), .second, .val (.long (own_r_rm6 (p5 &&& (3 : Int32)) (own_r_rm1 p0) (Int32.ofNat ea) (own_r_rm2 (own_r_rm1 p0) (Int32.ofNat ea) p3))), .second, .val (.int v209), .unset, .unset] []) → Go p e below P T203 (mkF m 250 #[.val (.long p0), .second, .val (.long p1), .second, .val (.long p2), .second, .val (.long p3), .second, .val (.int p4), .val (.int p5), .val (.int (p4 &&& (3 : Int32))), .val (.int (p5 &&& (3 : Int32))), .val (.int (Int32.ofNat ea)), .val (.int (1 : Int32)), .val (.long p0), .second, .val (.int (Int32.ofNat ea)), .val (.int (Int32.ofNat kf.1)), .val (.double (FP.l2d ((1 : Int64) <<< ((Int32.ofNat kf.1).toInt64 &&& 63)))), .second, .val (.double v130), .second, .val (.long (own_r_rm1 p0)), .second, .val (.long (own_r_rm1 p0)), .second, .val (.long (own_r_rm2 (own_r_rm1 p0) (Int32.ofNat ea) p2)), .second, .val (.long (own_r_rm2 (own_r_rm1 p0) (Int32.ofNat ea) p3)), .second, .val (.double (FP.dmul (own_r_rm3 (p4 &&& (3 : Int32)) p0 (own_r_rm1 p0) (Int32.ofNat ea)) v130)), .second, .val (.double (FP.dmul (own_r_rm4 (p4 &&& (3 : Int32)) p0 (own_r_rm2 (own_r_rm1 p0) (Int32.ofNat ea) p2)) v130)), .second, .val (.double (FP.dmul (own_r_rm3 (p5 &&& (3 : Int32)) p0 (own_r_rm1 p0) (Int32.ofNat ea)) v130)), .second, .val (.double (FP.dmul (own_r_rm4 (p5 &&& (3 : Int32)) p0 (own_r_rm2 (own_r_rm1 p0) (Int32.ofNat ea) p3)) v130)), .second, .val (.int (own_r_rm5 (p4 &&& (3 : Int32)) p0)), .val (.int (own_r_rm5 (p5 &&& (3 : Int32)) p0)), .val (.long (own_r_rm6 (p4 &&& (3 : Int32)) (own_r_rm1 p0) (Int32.ofNat ea) (own_r_rm2 (own_r_rm1 p0) (Int32.ofNat ea) p2))), .second, .val (.long (own_r_rm6 (p5 &&& (3 : Int32)) (own_r_rm1 p0) (Int32.ofNat ea) (own_r_rm2 (own_r_rm1 p0) (Int32.ofNat ea) p3))), .second, .unset, .unset, .unset] [(.int (own_r_rm5 (p5 &&& (3 : Int32)) p0)), (.int (own_r_rm5 (p4 &&& (3 : Int32)) p0))]) := by
      intro P hr
      by_cases c211 : (own_r_rm5 (p4 &&& (3 : Int32)) p0) = (own_r_rm5 (p5 &&& (3 : Int32)) p0)
      · skip
        refine g_icY A208 at_250 (c2_eq_t c211) (pc' := 270) rfl ?_
        refine g_iload A208 at_270 rfl (pc' := 272) rfl ?_
        by_cases c212 : (own_r_rm5 (p4 &&& (3 : Int32)) p0) = 0
        · skip
          refine g_ifY A208 at_272 (c0_eq_t c212) (pc' := 281) rfl ?_
          refine g_lload A208 at_281 rfl (pc' := 283) rfl ?_
          refine g_lload A208 at_283 rfl (pc' := 285) rfl ?_
          refine g_lcmp A208 at_285 (pc' := 286) rfl ?_
          by_cases c213 : (own_r_rm6 (p4 &&& (3 : Int32)) (own_r_rm1 p0) (Int32.ofNat ea) (own_r_rm2 (own_r_rm1 p0) (Int32.ofNat ea) p2)) < (own_r_rm6 (p5 &&& (3 : Int32)) (own_r_rm1 p0) (Int32.ofNat ea) (own_r_rm2 (own_r_rm1 p0) (Int32.ofNat ea) p3))
          · skip
            refine g_ifN A208 at_286 (c0_ge_f ((l_lt (own_r_rm6 (p4 &&& (3 : Int32)) (own_r_rm1 p0) (Int32.ofNat ea) (own_r_rm2 (own_r_rm1 p0) (Int32.ofNat ea) p2)) (own_r_rm6 (p5 &&& (3 : Int32)) (own_r_rm1 p0) (Int32.ofNat ea) (own_r_rm2 (own_r_rm1 p0) (Int32.ofNat ea) p3))).mpr c213)) (pc' := 289) rfl ?_
            refine g_iconst A208 at_289 (v := (-1 : Int32)) rfl (pc' := 290) rfl ?_
            refine g_goto A208 at_290 (pc' := 306) rfl ?_
            refine g_istore A208 at_306 (ls' := #[.val (.long p0), .second, .val (.long p1), .second, .val (.long p2), .second, .val (.long p3), .second, .val (.int p4), .val (.int p5), .val (.int (p4 &&& (3 : Int32))), .val (.int (p5 &&& (3 : Int32))), .val (.int (Int32.ofNat ea)), .val (.int (1 : Int32)), .val (.long p0), .second, .val (.int (Int32.ofNat ea)), .val (.int (Int32.ofNat kf.1)), .val (.double (FP.l2d ((1 : Int64) <<< ((Int32.ofNat kf.1).toInt64 &&& 63)))), .second, .val (.double v130), .second, .val (.long (own_r_rm1 p0)), .second, .val (.long (own_r_rm1 p0)), .second, .val (.long (own_r_rm2 (own_r_rm1 p0) (Int32.ofNat ea) p2)), .second, .val (.long (own_r_rm2 (own_r_rm1 p0) (Int32.ofNat ea) p3)), .second, .val (.double (FP.dmul (own_r_rm3 (p4 &&& (3 : Int32)) p0 (own_r_rm1 p0) (Int32.ofNat ea)) v130)), .second, .val (.double (FP.dmul (own_r_rm4 (p4 &&& (3 : Int32)) p0 (own_r_rm2 (own_r_rm1 p0) (Int32.ofNat ea) p2)) v130)), .second, .val (.double (FP.dmul (own_r_rm3 (p5 &&& (3 : Int32)) p0 (own_r_rm1 p0) (Int32.ofNat ea)) v130)), .second, .val (.double (FP.dmul (own_r_rm4 (p5 &&& (3 : Int32)) p0 (own_r_rm2 (own_r_rm1 p0) (Int32.ofNat ea) p3)) v130)), .second, .val (.int (own_r_rm5 (p4 &&& (3 : Int32)) p0)), .val (.int (own_r_rm5 (p5 &&& (3 : Int32)) p0)), .val (.long (own_r_rm6 (p4 &&& (3 : Int32)) (own_r_rm1 p0) (Int32.ofNat ea) (own_r_rm2 (own_r_rm1 p0) (Int32.ofNat ea) p2))), .second, .val (.long (own_r_rm6 (p5 &&& (3 : Int32)) (own_r_rm1 p0) (Int32.ofNat ea) (own_r_rm2 (own_r_rm1 p0) (Int32.ofNat ea) p3))), .second, .val (.int (-1 : Int32)), .unset, .unset]) rfl (pc' := 308) rfl ?_
            obtain rfl : v209 = (-1 : Int32) := hv209.trans ((if_pos c211).trans ((if_pos c212).trans ((if_pos c213).trans rfl)))
            exact hr
          · skip
            refine g_ifY A208 at_286 (c0_ge_t (fun q => c213 ((l_lt (own_r_rm6 (p4 &&& (3 : Int32)) (own_r_rm1 p0) (Int32.ofNat ea) (own_r_rm2 (own_r_rm1 p0) (Int32.ofNat ea) p2)) (own_r_rm6 (p5 &&& (3 : Int32)) (own_r_rm1 p0) (Int32.ofNat ea) (own_r_rm2 (own_r_rm1 p0) (Int32.ofNat ea) p3))).mp q))) (pc' := 293) rfl ?_
            refine g_lload A208 at_293 rfl (pc' := 295) rfl ?_
            refine g_lload A208 at_295 rfl (pc' := 297) rfl ?_
            refine g_lcmp A208 at_297 (pc' := 298) rfl ?_
            by_cases c214 : (own_r_rm6 (p5 &&& (3 : Int32)) (own_r_rm1 p0) (Int32.ofNat ea) (own_r_rm2 (own_r_rm1 p0) (Int32.ofNat ea) p3)) < (own_r_rm6 (p4 &&& (3 : Int32)) (own_r_rm1 p0) (Int32.ofNat ea) (own_r_rm2 (own_r_rm1 p0) (Int32.ofNat ea) p2))
            · skip
              refine g_ifN A208 at_298 (c0_le_f ((l_gt (own_r_rm6 (p4 &&& (3 : Int32)) (own_r_rm1 p0) (Int32.ofNat ea) (own_r_rm2 (own_r_rm1 p0) (Int32.ofNat ea) p2)) (own_r_rm6 (p5 &&& (3 : Int32)) (own_r_rm1 p0) (Int32.ofNat ea) (own_r_rm2 (own_r_rm1 p0) (Int32.ofNat ea) p3))).mpr c214)) (pc' := 301) rfl ?_
              refine g_iconst A208 at_301 (v := (1 : Int32)) rfl (pc' := 302) rfl ?_
              refine g_goto A208 at_302 (pc' := 306) rfl ?_
              refine g_istore A208 at_306 (ls' := #[.val (.long p0), .second, .val (.long p1), .second, .val (.long p2), .second, .val (.long p3), .second, .val (.int p4), .val (.int p5), .val (.int (p4 &&& (3 : Int32))), .val (.int (p5 &&& (3 : Int32))), .val (.int (Int32.ofNat ea)), .val (.int (1 : Int32)), .val (.long p0), .second, .val (.int (Int32.ofNat ea)), .val (.int (Int32.ofNat kf.1)), .val (.double (FP.l2d ((1 : Int64) <<< ((Int32.ofNat kf.1).toInt64 &&& 63)))), .second, .val (.double v130), .second, .val (.long (own_r_rm1 p0)), .second, .val (.long (own_r_rm1 p0)), .second, .val (.long (own_r_rm2 (own_r_rm1 p0) (Int32.ofNat ea) p2)), .second, .val (.long (own_r_rm2 (own_r_rm1 p0) (Int32.ofNat ea) p3)), .second, .val (.double (FP.dmul (own_r_rm3 (p4 &&& (3 : Int32)) p0 (own_r_rm1 p0) (Int32.ofNat ea)) v130)), .second, .val (.double (FP.dmul (own_r_rm4 (p4 &&& (3 : Int32)) p0 (own_r_rm2 (own_r_rm1 p0) (Int32.ofNat ea) p2)) v130)), .second, .val (.double (FP.dmul (own_r_rm3 (p5 &&& (3 : Int32)) p0 (own_r_rm1 p0) (Int32.ofNat ea)) v130)), .second, .val (.double (FP.dmul (own_r_rm4 (p5 &&& (3 : Int32)) p0 (own_r_rm2 (own_r_rm1 p0) (Int32.ofNat ea) p3)) v130)), .second, .val (.int (own_r_rm5 (p4 &&& (3 : Int32)) p0)), .val (.int (own_r_rm5 (p5 &&& (3 : Int32)) p0)), .val (.long (own_r_rm6 (p4 &&& (3 : Int32)) (own_r_rm1 p0) (Int32.ofNat ea) (own_r_rm2 (own_r_rm1 p0) (Int32.ofNat ea) p2))), .second, .val (.long (own_r_rm6 (p5 &&& (3 : Int32)) (own_r_rm1 p0) (Int32.ofNat ea) (own_r_rm2 (own_r_rm1 p0) (Int32.ofNat ea) p3))), .second, .val (.int (1 : Int32)), .unset, .unset]) rfl (pc' := 308) rfl ?_
              obtain rfl : v209 = (1 : Int32) := hv209.trans ((if_pos c211).trans ((if_pos c212).trans ((if_neg c213).trans ((if_pos c214).trans rfl))))
              exact hr
            · skip
              refine g_ifY A208 at_298 (c0_le_t (fun q => c214 ((l_gt (own_r_rm6 (p4 &&& (3 : Int32)) (own_r_rm1 p0) (Int32.ofNat ea) (own_r_rm2 (own_r_rm1 p0) (Int32.ofNat ea) p2)) (own_r_rm6 (p5 &&& (3 : Int32)) (own_r_rm1 p0) (Int32.ofNat ea) (own_r_rm2 (own_r_rm1 p0) (Int32.ofNat ea) p3))).mp q))) (pc' := 305) rfl ?_
              refine g_iconst A208 at_305 (v := (0 : Int32)) rfl (pc' := 306) rfl ?_
              refine g_istore A208 at_306 (ls' := #[.val (.long p0), .second, .val (.long p1), .second, .val (.long p2), .second, .val (.long p3), .second, .val (.int p4), .val (.int p5), .val (.int (p4 &&& (3 : Int32))), .val (.int (p5 &&& (3 : Int32))), .val (.int (Int32.ofNat ea)), .val (.int (1 : Int32)), .val (.long p0), .second, .val (.int (Int32.ofNat ea)), .val (.int (Int32.ofNat kf.1)), .val (.double (FP.l2d ((1 : Int64) <<< ((Int32.ofNat kf.1).toInt64 &&& 63)))), .second, .val (.double v130), .second, .val (.long (own_r_rm1 p0)), .second, .val (.long (own_r_rm1 p0)), .second, .val (.long (own_r_rm2 (own_r_rm1 p0) (Int32.ofNat ea) p2)), .second, .val (.long (own_r_rm2 (own_r_rm1 p0) (Int32.ofNat ea) p3)), .second, .val (.double (FP.dmul (own_r_rm3 (p4 &&& (3 : Int32)) p0 (own_r_rm1 p0) (Int32.ofNat ea)) v130)), .second, .val (.double (FP.dmul (own_r_rm4 (p4 &&& (3 : Int32)) p0 (own_r_rm2 (own_r_rm1 p0) (Int32.ofNat ea) p2)) v130)), .second, .val (.double (FP.dmul (own_r_rm3 (p5 &&& (3 : Int32)) p0 (own_r_rm1 p0) (Int32.ofNat ea)) v130)), .second, .val (.double (FP.dmul (own_r_rm4 (p5 &&& (3 : Int32)) p0 (own_r_rm2 (own_r_rm1 p0) (Int32.ofNat ea) p3)) v130)), .second, .val (.int (own_r_rm5 (p4 &&& (3 : Int32)) p0)), .val (.int (own_r_rm5 (p5 &&& (3 : Int32)) p0)), .val (.long (own_r_rm6 (p4 &&& (3 : Int32)) (own_r_rm1 p0) (Int32.ofNat ea) (own_r_rm2 (own_r_rm1 p0) (Int32.ofNat ea) p2))), .second, .val (.long (own_r_rm6 (p5 &&& (3 : Int32)) (own_r_rm1 p0) (Int32.ofNat ea) (own_r_rm2 (own_r_rm1 p0) (Int32.ofNat ea) p3))), .second, .val (.int (0 : Int32)), .unset, .unset]) rfl (pc' := 308) rfl ?_
              obtain rfl : v209 = (0 : Int32) := hv209.trans ((if_pos c211).trans ((if_pos c212).trans ((if_neg c213).trans ((if_neg c214).trans rfl))))
              exact hr
        · skip
          refine g_ifN A208 at_272 (c0_eq_f c212) (pc' := 275) rfl ?_
          refine g_iconst A208 at_275 (v := (0 : Int32)) rfl (pc' := 276) rfl ?_
          refine g_istore A208 at_276 (ls' := #[.val (.long p0), .second, .val (.long p1), .second, .val (.long p2), .second, .val (.long p3), .second, .val (.int p4), .val (.int p5), .val (.int (p4 &&& (3 : Int32))), .val (.int (p5 &&& (3 : Int32))), .val (.int (Int32.ofNat ea)), .val (.int (1 : Int32)), .val (.long p0), .second, .val (.int (Int32.ofNat ea)), .val (.int (Int32.ofNat kf.1)), .val (.double (FP.l2d ((1 : Int64) <<< ((Int32.ofNat kf.1).toInt64 &&& 63)))), .second, .val (.double v130), .second, .val (.long (own_r_rm1 p0)), .second, .val (.long (own_r_rm1 p0)), .second, .val (.long (own_r_rm2 (own_r_rm1 p0) (Int32.ofNat ea) p2)), .second, .val (.long (own_r_rm2 (own_r_rm1 p0) (Int32.ofNat ea) p3)), .second, .val (.double (FP.dmul (own_r_rm3 (p4 &&& (3 : Int32)) p0 (own_r_rm1 p0) (Int32.ofNat ea)) v130)), .second, .val (.double (FP.dmul (own_r_rm4 (p4 &&& (3 : Int32)) p0 (own_r_rm2 (own_r_rm1 p0) (Int32.ofNat ea) p2)) v130)), .second, .val (.double (FP.dmul (own_r_rm3 (p5 &&& (3 : Int32)) p0 (own_r_rm1 p0) (Int32.ofNat ea)) v130)), .second, .val (.double (FP.dmul (own_r_rm4 (p5 &&& (3 : Int32)) p0 (own_r_rm2 (own_r_rm1 p0) (Int32.ofNat ea) p3)) v130)), .second, .val (.int (own_r_rm5 (p4 &&& (3 : Int32)) p0)), .val (.int (own_r_rm5 (p5 &&& (3 : Int32)) p0)), .val (.long (own_r_rm6 (p4 &&& (3 : Int32)) (own_r_rm1 p0) (Int32.ofNat ea) (own_r_rm2 (own_r_rm1 p0) (Int32.ofNat ea) p2))), .second, .val (.long (own_r_rm6 (p5 &&& (3 : Int32)) (own_r_rm1 p0) (Int32.ofNat ea) (own_r_rm2 (own_r_rm1 p0) (Int32.ofNat ea) p3))), .second, .val (.int (0 : Int32)), .unset, .unset]) rfl (pc' := 278) rfl ?_
          refine g_goto A208 at_278 (pc' := 308) rfl ?_
          obtain rfl : v209 = (0 : Int32) := hv209.trans ((if_pos c211).trans ((if_neg c212).trans rfl))
          exact hr
      · skip
        refine g_icN A208 at_250 (c2_eq_f c211) (pc' := 253) rfl ?_
        refine g_iload A208 at_253 rfl (pc' := 255) rfl ?_
        refine g_iload A208 at_255 rfl (pc' := 257) rfl ?_
        by_cases c215 : (own_r_rm5 (p4 &&& (3 : Int32)) p0) < (own_r_rm5 (p5 &&& (3 : Int32)) p0)
        · skip
          refine g_icN A208 at_257 (c2_ge_f c215) (pc' := 260) rfl ?_
          refine g_iconst A208 at_260 (v := (-1 : Int32)) rfl (pc' := 261) rfl ?_
          refine g_goto A208 at_261 (pc' := 265) rfl ?_
          refine g_istore A208 at_265 (ls' := #[.val (.long p0), .second, .val (.long p1), .second, .val (.long p2), .second, .val (.long p3), .second, .val (.int p4), .val (.int p5), .val (.int (p4 &&& (3 : Int32))), .val (.int (p5 &&& (3 : Int32))), .val (.int (Int32.ofNat ea)), .val (.int (1 : Int32)), .val (.long p0), .second, .val (.int (Int32.ofNat ea)), .val (.int (Int32.ofNat kf.1)), .val (.double (FP.l2d ((1 : Int64) <<< ((Int32.ofNat kf.1).toInt64 &&& 63)))), .second, .val (.double v130), .second, .val (.long (own_r_rm1 p0)), .second, .val (.long (own_r_rm1 p0)), .second, .val (.long (own_r_rm2 (own_r_rm1 p0) (Int32.ofNat ea) p2)), .second, .val (.long (own_r_rm2 (own_r_rm1 p0) (Int32.ofNat ea) p3)), .second, .val (.double (FP.dmul (own_r_rm3 (p4 &&& (3 : Int32)) p0 (own_r_rm1 p0) (Int32.ofNat ea)) v130)), .second, .val (.double (FP.dmul (own_r_rm4 (p4 &&& (3 : Int32)) p0 (own_r_rm2 (own_r_rm1 p0) (Int32.ofNat ea) p2)) v130)), .second, .val (.double (FP.dmul (own_r_rm3 (p5 &&& (3 : Int32)) p0 (own_r_rm1 p0) (Int32.ofNat ea)) v130)), .second, .val (.double (FP.dmul (own_r_rm4 (p5 &&& (3 : Int32)) p0 (own_r_rm2 (own_r_rm1 p0) (Int32.ofNat ea) p3)) v130)), .second, .val (.int (own_r_rm5 (p4 &&& (3 : Int32)) p0)), .val (.int (own_r_rm5 (p5 &&& (3 : Int32)) p0)), .val (.long (own_r_rm6 (p4 &&& (3 : Int32)) (own_r_rm1 p0) (Int32.ofNat ea) (own_r_rm2 (own_r_rm1 p0) (Int32.ofNat ea) p2))), .second, .val (.long (own_r_rm6 (p5 &&& (3 : Int32)) (own_r_rm1 p0) (Int32.ofNat ea) (own_r_rm2 (own_r_rm1 p0) (Int32.ofNat ea) p3))), .second, .val (.int (-1 : Int32)), .unset, .unset]) rfl (pc' := 267) rfl ?_
          refine g_goto A208 at_267 (pc' := 308) rfl ?_
          obtain rfl : v209 = (-1 : Int32) := hv209.trans ((if_neg c211).trans ((if_pos c215).trans rfl))
          exact hr
        · skip
          refine g_icY A208 at_257 (c2_ge_t c215) (pc' := 264) rfl ?_
          refine g_iconst A208 at_264 (v := (1 : Int32)) rfl (pc' := 265) rfl ?_
          refine g_istore A208 at_265 (ls' := #[.val (.long p0), .second, .val (.long p1), .second, .val (.long p2), .second, .val (.long p3), .second, .val (.int p4), .val (.int p5), .val (.int (p4 &&& (3 : Int32))), .val (.int (p5 &&& (3 : Int32))), .val (.int (Int32.ofNat ea)), .val (.int (1 : Int32)), .val (.long p0), .second, .val (.int (Int32.ofNat ea)), .val (.int (Int32.ofNat kf.1)), .val (.double (FP.l2d ((1 : Int64) <<< ((Int32.ofNat kf.1).toInt64 &&& 63)))), .second, .val (.double v130), .second, .val (.long (own_r_rm1 p0)), .second, .val (.long (own_r_rm1 p0)), .second, .val (.long (own_r_rm2 (own_r_rm1 p0) (Int32.ofNat ea) p2)), .second, .val (.long (own_r_rm2 (own_r_rm1 p0) (Int32.ofNat ea) p3)), .second, .val (.double (FP.dmul (own_r_rm3 (p4 &&& (3 : Int32)) p0 (own_r_rm1 p0) (Int32.ofNat ea)) v130)), .second, .val (.double (FP.dmul (own_r_rm4 (p4 &&& (3 : Int32)) p0 (own_r_rm2 (own_r_rm1 p0) (Int32.ofNat ea) p2)) v130)), .second, .val (.double (FP.dmul (own_r_rm3 (p5 &&& (3 : Int32)) p0 (own_r_rm1 p0) (Int32.ofNat ea)) v130)), .second, .val (.double (FP.dmul (own_r_rm4 (p5 &&& (3 : Int32)) p0 (own_r_rm2 (own_r_rm1 p0) (Int32.ofNat ea) p3)) v130)), .second, .val (.int (own_r_rm5 (p4 &&& (3 : Int32)) p0)), .val (.int (own_r_rm5 (p5 &&& (3 : Int32)) p0)), .val (.long (own_r_rm6 (p4 &&& (3 : Int32)) (own_r_rm1 p0) (Int32.ofNat ea) (own_r_rm2 (own_r_rm1 p0) (Int32.ofNat ea) p2))), .second, .val (.long (own_r_rm6 (p5 &&& (3 : Int32)) (own_r_rm1 p0) (Int32.ofNat ea) (own_r_rm2 (own_r_rm1 p0) (Int32.ofNat ea) p3))), .second, .val (.int (1 : Int32)), .unset, .unset]) rfl (pc' := 267) rfl ?_
          refine g_goto A208 at_267 (pc' := 308) rfl ?_
          obtain rfl : v209 = (1 : Int32) := hv209.trans ((if_neg c211).trans ((if_neg c215).trans rfl))
          exact hr
    refine sg210 ?_
    refine g_dload A208 at_308 rfl (pc' := 310) rfl ?_
    refine g_dload A208 at_310 rfl (pc' := 312) rfl ?_
    refine g_dload A208 at_312 rfl (pc' := 314) rfl ?_
    refine g_dload A208 at_314 rfl (pc' := 316) rfl ?_
    obtain ⟨vv216, _, ⟨T216, L216, k216, n216⟩, -, X216, ⟨L216c, hQ216, l216, y216, z216⟩, st216⟩ := Jvm.LawKit.callS X203 hx (y := (⟨"com/example/hinterland/hinterland/DoubleDouble", "compare", "(DDDD)I"⟩ : MethodName)) hown (mvT hZ (hw _ (List.mem_of_getElem? (i := 24) rfl))) (mvT hZ (hw _ (List.mem_of_getElem? (i := 25) rfl))) (mvT hZ (hw _ (List.mem_of_getElem? (i := 26) rfl))) (mvT hZ (hw _ (List.mem_of_getElem? (i := 27) rfl))) (by decide) (backOf (W := 0) (rm7 l Z a0 hw [] (FP.dmul (own_r_rm3 (p4 &&& (3 : Int32)) p0 (own_r_rm1 p0) (Int32.ofNat ea)) v130) (FP.dmul (own_r_rm4 (p4 &&& (3 : Int32)) p0 (own_r_rm2 (own_r_rm1 p0) (Int32.ofNat ea) p2)) v130) (FP.dmul (own_r_rm3 (p5 &&& (3 : Int32)) p0 (own_r_rm1 p0) (Int32.ofNat ea)) v130) (FP.dmul (own_r_rm4 (p5 &&& (3 : Int32)) p0 (own_r_rm2 (own_r_rm1 p0) (Int32.ofNat ea) p3)) v130) h0 n0 Z0 ) hZ (hw _ (List.mem_of_getElem? (i := 27) rfl)) (hw _ (List.mem_of_getElem? (i := 26) rfl)) (by decide) (by decide)) (g := (mkF m 316 #[.val (.long p0), .second, .val (.long p1), .second, .val (.long p2), .second, .val (.long p3), .second, .val (.int p4), .val (.int p5), .val (.int (p4 &&& (3 : Int32))), .val (.int (p5 &&& (3 : Int32))), .val (.int (Int32.ofNat ea)), .val (.int (1 : Int32)), .val (.long p0), .second, .val (.int (Int32.ofNat ea)), .val (.int (Int32.ofNat kf.1)), .val (.double (FP.l2d ((1 : Int64) <<< ((Int32.ofNat kf.1).toInt64 &&& 63)))), .second, .val (.double v130), .second, .val (.long (own_r_rm1 p0)), .second, .val (.long (own_r_rm1 p0)), .second, .val (.long (own_r_rm2 (own_r_rm1 p0) (Int32.ofNat ea) p2)), .second, .val (.long (own_r_rm2 (own_r_rm1 p0) (Int32.ofNat ea) p3)), .second, .val (.double (FP.dmul (own_r_rm3 (p4 &&& (3 : Int32)) p0 (own_r_rm1 p0) (Int32.ofNat ea)) v130)), .second, .val (.double (FP.dmul (own_r_rm4 (p4 &&& (3 : Int32)) p0 (own_r_rm2 (own_r_rm1 p0) (Int32.ofNat ea) p2)) v130)), .second, .val (.double (FP.dmul (own_r_rm3 (p5 &&& (3 : Int32)) p0 (own_r_rm1 p0) (Int32.ofNat ea)) v130)), .second, .val (.double (FP.dmul (own_r_rm4 (p5 &&& (3 : Int32)) p0 (own_r_rm2 (own_r_rm1 p0) (Int32.ofNat ea) p3)) v130)), .second, .val (.int (own_r_rm5 (p4 &&& (3 : Int32)) p0)), .val (.int (own_r_rm5 (p5 &&& (3 : Int32)) p0)), .val (.long (own_r_rm6 (p4 &&& (3 : Int32)) (own_r_rm1 p0) (Int32.ofNat ea) (own_r_rm2 (own_r_rm1 p0) (Int32.ofNat ea) p2))), .second, .val (.long (own_r_rm6 (p5 &&& (3 : Int32)) (own_r_rm1 p0) (Int32.ofNat ea) (own_r_rm2 (own_r_rm1 p0) (Int32.ofNat ea) p3))), .second, .val (.int v209), .unset, .unset] [(.double (FP.dmul (own_r_rm4 (p5 &&& (3 : Int32)) p0 (own_r_rm2 (own_r_rm1 p0) (Int32.ofNat ea) p3)) v130)), (.double (FP.dmul (own_r_rm3 (p5 &&& (3 : Int32)) p0 (own_r_rm1 p0) (Int32.ofNat ea)) v130)), (.double (FP.dmul (own_r_rm4 (p4 &&& (3 : Int32)) p0 (own_r_rm2 (own_r_rm1 p0) (Int32.ofNat ea) p2)) v130)), (.double (FP.dmul (own_r_rm3 (p4 &&& (3 : Int32)) p0 (own_r_rm1 p0) (Int32.ofNat ea)) v130))])) rfl (by rw [hml]; rfl) (argsL := [(.double (FP.dmul (own_r_rm3 (p4 &&& (3 : Int32)) p0 (own_r_rm1 p0) (Int32.ofNat ea)) v130)), (.double (FP.dmul (own_r_rm4 (p4 &&& (3 : Int32)) p0 (own_r_rm2 (own_r_rm1 p0) (Int32.ofNat ea) p2)) v130)), (.double (FP.dmul (own_r_rm3 (p5 &&& (3 : Int32)) p0 (own_r_rm1 p0) (Int32.ofNat ea)) v130)), (.double (FP.dmul (own_r_rm4 (p5 &&& (3 : Int32)) p0 (own_r_rm2 (own_r_rm1 p0) (Int32.ofNat ea) p3)) v130))]) (rest := []) (lenOf pd_6 rfl) rfl (by show 2 * 0 + _ ≤ _; exact Nat.le_of_eq rfl) (hb hby at_316) (fun _ _ => ⟨rfl, e207, (by decide : 0 + 0 ≤ _), (by decide : 0 + 0 ≤ _)⟩)
    have hQ216b : Q7 Z (FP.dmul (own_r_rm3 (p4 &&& (3 : Int32)) p0 (own_r_rm1 p0) (Int32.ofNat ea)) v130) (FP.dmul (own_r_rm4 (p4 &&& (3 : Int32)) p0 (own_r_rm2 (own_r_rm1 p0) (Int32.ofNat ea) p2)) v130) (FP.dmul (own_r_rm3 (p5 &&& (3 : Int32)) p0 (own_r_rm1 p0) (Int32.ofNat ea)) v130) (FP.dmul (own_r_rm4 (p5 &&& (3 : Int32)) p0 (own_r_rm2 (own_r_rm1 p0) (Int32.ofNat ea) p3)) v130) h0 n0 vv216 T216.heap L216c := hQ216
    clear hQ216
    dsimp only [Pt.U, Pt.locs, Pt.cells, Pt.slots] at X216 l216 y216 z216 st216
    subst y216 z216
    obtain ⟨rfl, Nq217, Kq218⟩ := hQ216b
    have N219 : Fr n0 L216 := by rw [l216]; exact Fr.app N206 Nq217
    refine Go.of (g' := (mkF m 319 #[.val (.long p0), .second, .val (.long p1), .second, .val (.long p2), .second, .val (.long p3), .second, .val (.int p4), .val (.int p5), .val (.int (p4 &&& (3 : Int32))), .val (.int (p5 &&& (3 : Int32))), .val (.int (Int32.ofNat ea)), .val (.int (1 : Int32)), .val (.long p0), .second, .val (.int (Int32.ofNat ea)), .val (.int (Int32.ofNat kf.1)), .val (.double (FP.l2d ((1 : Int64) <<< ((Int32.ofNat kf.1).toInt64 &&& 63)))), .second, .val (.double v130), .second, .val (.long (own_r_rm1 p0)), .second, .val (.long (own_r_rm1 p0)), .second, .val (.long (own_r_rm2 (own_r_rm1 p0) (Int32.ofNat ea) p2)), .second, .val (.long (own_r_rm2 (own_r_rm1 p0) (Int32.ofNat ea) p3)), .second, .val (.double (FP.dmul (own_r_rm3 (p4 &&& (3 : Int32)) p0 (own_r_rm1 p0) (Int32.ofNat ea)) v130)), .second, .val (.double (FP.dmul (own_r_rm4 (p4 &&& (3 : Int32)) p0 (own_r_rm2 (own_r_rm1 p0) (Int32.ofNat ea) p2)) v130)), .second, .val (.double (FP.dmul (own_r_rm3 (p5 &&& (3 : Int32)) p0 (own_r_rm1 p0) (Int32.ofNat ea)) v130)), .second, .val (.double (FP.dmul (own_r_rm4 (p5 &&& (3 : Int32)) p0 (own_r_rm2 (own_r_rm1 p0) (Int32.ofNat ea) p3)) v130)), .second, .val (.int (own_r_rm5 (p4 &&& (3 : Int32)) p0)), .val (.int (own_r_rm5 (p5 &&& (3 : Int32)) p0)), .val (.long (own_r_rm6 (p4 &&& (3 : Int32)) (own_r_rm1 p0) (Int32.ofNat ea) (own_r_rm2 (own_r_rm1 p0) (Int32.ofNat ea) p2))), .second, .val (.long (own_r_rm6 (p5 &&& (3 : Int32)) (own_r_rm1 p0) (Int32.ofNat ea) (own_r_rm2 (own_r_rm1 p0) (Int32.ofNat ea) p3))), .second, .val (.int v209), .unset, .unset] [(.int (own_r_rm7 (FP.dmul (own_r_rm3 (p4 &&& (3 : Int32)) p0 (own_r_rm1 p0) (Int32.ofNat ea)) v130) (FP.dmul (own_r_rm4 (p4 &&& (3 : Int32)) p0 (own_r_rm2 (own_r_rm1 p0) (Int32.ofNat ea) p2)) v130) (FP.dmul (own_r_rm3 (p5 &&& (3 : Int32)) p0 (own_r_rm1 p0) (Int32.ofNat ea)) v130) (FP.dmul (own_r_rm4 (p5 &&& (3 : Int32)) p0 (own_r_rm2 (own_r_rm1 p0) (Int32.ofNat ea) p3)) v130)))])) st216 ?_
    have e220 : T216.heap = h0 := Kq218
    have A221 := (⟨X216, hx, hby⟩ : Ax _ _ _ _ _ _ _ _ _ _ _ _ _ _ _)
    refine g_istore A221 at_319 (ls' := #[.val (.long p0), .second, .val (.long p1), .second, .val (.long p2), .second, .val (.long p3), .second, .val (.int p4), .val (.int p5), .val (.int (p4 &&& (3 : Int32))), .val (.int (p5 &&& (3 : Int32))), .val (.int (Int32.ofNat ea)), .val (.int (1 : Int32)), .val (.long p0), .second, .val (.int (Int32.ofNat ea)), .val (.int (Int32.ofNat kf.1)), .val (.double (FP.l2d ((1 : Int64) <<< ((Int32.ofNat kf.1).toInt64 &&& 63)))), .second, .val (.double v130), .second, .val (.long (own_r_rm1 p0)), .second, .val (.long (own_r_rm1 p0)), .second, .val (.long (own_r_rm2 (own_r_rm1 p0) (Int32.ofNat ea) p2)), .second, .val (.long (own_r_rm2 (own_r_rm1 p0) (Int32.ofNat ea) p3)), .second, .val (.double (FP.dmul (own_r_rm3 (p4 &&& (3 : Int32)) p0 (own_r_rm1 p0) (Int32.ofNat ea)) v130)), .second, .val (.double (FP.dmul (own_r_rm4 (p4 &&& (3 : Int32)) p0 (own_r_rm2 (own_r_rm1 p0) (Int32.ofNat ea) p2)) v130)), .second, .val (.double (FP.dmul (own_r_rm3 (p5 &&& (3 : Int32)) p0 (own_r_rm1 p0) (Int32.ofNat ea)) v130)), .second, .val (.double (FP.dmul (own_r_rm4 (p5 &&& (3 : Int32)) p0 (own_r_rm2 (own_r_rm1 p0) (Int32.ofNat ea) p3)) v130)), .second, .val (.int (own_r_rm5 (p4 &&& (3 : Int32)) p0)), .val (.int (own_r_rm5 (p5 &&& (3 : Int32)) p0)), .val (.long (own_r_rm6 (p4 &&& (3 : Int32)) (own_r_rm1 p0) (Int32.ofNat ea) (own_r_rm2 (own_r_rm1 p0) (Int32.ofNat ea) p2))), .second, .val (.long (own_r_rm6 (p5 &&& (3 : Int32)) (own_r_rm1 p0) (Int32.ofNat ea) (own_r_rm2 (own_r_rm1 p0) (Int32.ofNat ea) p3))), .second, .val (.int v209), .val (.int (own_r_rm7 (FP.dmul (own_r_rm3 (p4 &&& (3 : Int32)) p0 (own_r_rm1 p0) (Int32.ofNat ea)) v130) (FP.dmul (own_r_rm4 (p4 &&& (3 : Int32)) p0 (own_r_rm2 (own_r_rm1 p0) (Int32.ofNat ea) p2)) v130) (FP.dmul (own_r_rm3 (p5 &&& (3 : Int32)) p0 (own_r_rm1 p0) (Int32.ofNat ea)) v130) (FP.dmul (own_r_rm4 (p5 &&& (3 : Int32)) p0 (own_r_rm2 (own_r_rm1 p0) (Int32.ofNat ea) p3)) v130))), .unset]) rfl (pc' := 321) rfl ?_
    refine g_iload A221 at_321 rfl (pc' := 323) rfl ?_
    obtain ⟨v222, hv222⟩ : ∃ z : Int32, z = (if (own_r_rm7 (FP.dmul (own_r_rm3 (p4 &&& (3 : Int32)) p0 (own_r_rm1 p0) (Int32.ofNat ea)) v130) (FP.dmul (own_r_rm4 (p4 &&& (3 : Int32)) p0 (own_r_rm2 (own_r_rm1 p0) (Int32.ofNat ea) p2)) v130) (FP.dmul (own_r_rm3 (p5 &&& (3 : Int32)) p0 (own_r_rm1 p0) (Int32.ofNat ea)) v130) (FP.dmul (own_r_rm4 (p5 &&& (3 : Int32)) p0 (own_r_rm2 (own_r_rm1 p0) (Int32.ofNat ea) p3)) v130)) < 0 then (-1 : Int32) else (if 0 < (own_r_rm7 (FP.dmul (own_r_rm3 (p4 &&& (3 : Int32)) p0 (own_r_rm1 p0) (Int32.ofNat ea)) v130) (FP.dmul (own_r_rm4 (p4 &&& (3 : Int32)) p0 (own_r_rm2 (own_r_rm1 p0) (Int32.ofNat ea) p2)) v130) (FP.dmul (own_r_rm3 (p5 &&& (3 : Int32)) p0 (own_r_rm1 p0) (Int32.ofNat ea)) v130) (FP.dmul (own_r_rm4 (p5 &&& (3 : Int32)) p0 (own_r_rm2 (own_r_rm1 p0) (Int32.ofNat ea) p3)) v130)) then (1 : Int32) else (0 : Int32))) := ⟨_, rfl⟩
    have sg223 : ∀ {P : State → Outcome → Prop}, Go p e below P T216 (mkF m 340 #[.val (.long p0), .second, .val (.long p1), .second, .val (.long p2), .second, .val (.long p3), .second, .val (.int p4), .val (.int p5), .val (.int (p4 &&& (3 : Int32))), .val (.int (p5 &&& (3 : Int32))), .val (.int (Int32.ofNat ea)), .val (.int (1 : Int32)), .val (.long p0), .second, .val (.int (Int32.ofNat ea)), .val (.int (Int32.ofNat kf.1)), .val (.double (FP.l2d ((1 : Int64) <<< ((Int32.ofNat kf.1).toInt64 &&& 63)))), .second, .val (.double v130), .second, .val (.long (own_r_rm1 p0)), .second, .val (.long (own_r_rm1 p0)), .second, .val (.long (own_r_rm2 (own_r_rm1 p0) (Int32.ofNat ea) p2)), .second, .val (.long (own_r_rm2 (own_r_rm1 p0) (Int32.ofNat ea) p3)), .second, .val (.double (FP.dmul (own_r_rm3 (p4 &&& (3 : Int32)) p0 (own_r_rm1 p0) (Int32.ofNat ea)) v130)), .second, .val (.double (FP.dmul (own_r_rm4 (p4 &&& (3 : Int32)) p0 (own_r_rm2 (own_r_rm1 p0) (Int32.ofNat ea) p2)) v130)), .second, .val (.double (FP.dmul (own_r_rm3 (p5 &&& (3 : Int32)) p0 (own_r_rm1 p0) (Int32.ofNat ea)) v130)), .second, .val (.double (FP.dmul (own_r_rm4 (p5 &&& (3 : Int32)) p0 (own_r_rm2 (own_r_rm1 p0) (Int32.ofNat ea) p3)) v130)), .second, .val (.int (own_r_rm5 (p4 &&& (3 : Int32)) p0)), .val (.int (own_r_rm5 (p5 &&& (3 : Int32)) p0)), .val (.long (own_r_rm6 (p4 &&& (3 : Int32)) (own_r_rm1 p0) (Int32.ofNat ea) (own_r_rm2 (own_r_rm1 p0) (Int32.ofNat ea) p2))), .second, .val (.long (own_r_rm6 (p5 &&& (3 : Int32)) (own_r_rm1 p0) (Int32.ofNat ea) (own_r_rm2 (own_r_rm1 p0) (Int32.ofNat ea) p3))), .second, .val (.int v209), .val (.int (own_r_rm7 (FP.dmul (own_r_rm3 (p4 &&& (3 : Int32)) p0 (own_r_rm1 p0) (Int32.ofNat ea)) v130) (FP.dmul (own_r_rm4 (p4 &&& (3 : Int32)) p0 (own_r_rm2 (own_r_rm1 p0) (Int32.ofNat ea) p2)) v130) (FP.dmul (own_r_rm3 (p5 &&& (3 : Int32)) p0 (own_r_rm1 p0) (Int32.ofNat ea)) v130) (FP.dmul (own_r_rm4 (p5 &&& (3 : Int32)) p0 (own_r_rm2 (own_r_rm1 p0) (Int32.ofNat ea) p3)) v130))), .unset] [(.int v222)]) → Go p e below P T216 (mkF m 323 #[.val (.long p0), .second, .val (.long p1), .second, .val (.long p2), .second, .val (.long p3), .second, .val (.int p4), .val (.int p5), .val (.int (p4 &&& (3 : Int32))), .val (.int (p5 &&& (3 : Int32))), .val (.int (Int32.ofNat ea)), .val (.int (1 : Int32)), .val (.long p0), .second, .val (.int (Int32.ofNat ea)), .val (.int (Int32.ofNat kf.1)), .val (.double (FP.l2d ((1 : Int64) <<< ((Int32.ofNat kf.1).toInt64 &&& 63)))), .second, .val (.double v130), .second, .val (.long (own_r_rm1 p0)), .second, .val (.long (own_r_rm1 p0)), .second, .val (.long (own_r_rm2 (own_r_rm1 p0) (Int32.ofNat ea) p2)), .second, .val (.long (own_r_rm2 (own_r_rm1 p0) (Int32.ofNat ea) p3)), .second, .val (.double (FP.dmul (own_r_rm3 (p4 &&& (3 : Int32)) p0 (own_r_rm1 p0) (Int32.ofNat ea)) v130)), .second, .val (.double (FP.dmul (own_r_rm4 (p4 &&& (3 : Int32)) p0 (own_r_rm2 (own_r_rm1 p0) (Int32.ofNat ea) p2)) v130)), .second, .val (.double (FP.dmul (own_r_rm3 (p5 &&& (3 : Int32)) p0 (own_r_rm1 p0) (Int32.ofNat ea)) v130)), .second, .val (.double (FP.dmul (own_r_rm4 (p5 &&& (3 : Int32)) p0 (own_r_rm2 (own_r_rm1 p0) (Int32.ofNat ea) p3)) v130)), .second, .val (.int (own_r_rm5 (p4 &&& (3 : Int32)) p0)), .val (.int (own_r_rm5 (p5 &&& (3 : Int32)) p0)), .val (.long (own_r_rm6 (p4 &&& (3 : Int32)) (own_r_rm1 p0) (Int32.ofNat ea) (own_r_rm2 (own_r_rm1 p0) (Int32.ofNat ea) p2))), .second, .val (.long (own_r_rm6 (p5 &&& (3 : Int32)) (own_r_rm1 p0) (Int32.ofNat ea) (own_r_rm2 (own_r_rm1 p0) (Int32.ofNat ea) p3))), .second, .val (.int v209), .val (.int (own_r_rm7 (FP.dmul (own_r_rm3 (p4 &&& (3 : Int32)) p0 (own_r_rm1 p0) (Int32.ofNat ea)) v130) (FP.dmul (own_r_rm4 (p4 &&& (3 : Int32)) p0 (own_r_rm2 (own_r_rm1 p0) (Int32.ofNat ea) p2)) v130) (FP.dmul (own_r_rm3 (p5 &&& (3 : Int32)) p0 (own_r_rm1 p0) (Int32.ofNat ea)) v130) (FP.dmul (own_r_rm4 (p5 &&& (3 : Int32)) p0 (own_r_rm2 (own_r_rm1 p0) (Int32.ofNat ea) p3)) v130))), .unset] [(.int (own_r_rm7 (FP.dmul (own_r_rm3 (p4 &&& (3 : Int32)) p0 (own_r_rm1 p0) (Int32.ofNat ea)) v130) (FP.dmul (own_r_rm4 (p4 &&& (3 : Int32)) p0 (own_r_rm2 (own_r_rm1 p0) (Int32.ofNat ea) p2)) v130) (FP.dmul (own_r_rm3 (p5 &&& (3 : Int32)) p0 (own_r_rm1 p0) (Int32.ofNat ea)) v130) (FP.dmul (own_r_rm4 (p5 &&& (3 : Int32)) p0 (own_r_rm2 (own_r_rm1 p0) (Int32.ofNat ea) p3)) v130)))]) := by
      intro P hr
      by_cases c224 : (own_r_rm7 (FP.dmul (own_r_rm3 (p4 &&& (3 : Int32)) p0 (own_r_rm1 p0) (Int32.ofNat ea)) v130) (FP.dmul (own_r_rm4 (p4 &&& (3 : Int32)) p0 (own_r_rm2 (own_r_rm1 p0) (Int32.ofNat ea) p2)) v130) (FP.dmul (own_r_rm3 (p5 &&& (3 : Int32)) p0 (own_r_rm1 p0) (Int32.ofNat ea)) v130) (FP.dmul (own_r_rm4 (p5 &&& (3 : Int32)) p0 (own_r_rm2 (own_r_rm1 p0) (Int32.ofNat ea) p3)) v130)) < 0
      · skip
        refine g_ifN A221 at_323 (c0_ge_f c224) (pc' := 326) rfl ?_
        refine g_iconst A221 at_326 (v := (-1 : Int32)) rfl (pc' := 327) rfl ?_
        refine g_goto A221 at_327 (pc' := 340) rfl ?_
        obtain rfl : v222 = (-1 : Int32) := hv222.trans ((if_pos c224).trans rfl)
        exact hr
      · skip
        refine g_ifY A221 at_323 (c0_ge_t c224) (pc' := 330) rfl ?_
        refine g_iload A221 at_330 rfl (pc' := 332) rfl ?_
        by_cases c225 : 0 < (own_r_rm7 (FP.dmul (own_r_rm3 (p4 &&& (3 : Int32)) p0 (own_r_rm1 p0) (Int32.ofNat ea)) v130) (FP.dmul (own_r_rm4 (p4 &&& (3 : Int32)) p0 (own_r_rm2 (own_r_rm1 p0) (Int32.ofNat ea) p2)) v130) (FP.dmul (own_r_rm3 (p5 &&& (3 : Int32)) p0 (own_r_rm1 p0) (Int32.ofNat ea)) v130) (FP.dmul (own_r_rm4 (p5 &&& (3 : Int32)) p0 (own_r_rm2 (own_r_rm1 p0) (Int32.ofNat ea) p3)) v130))
        · skip
          refine g_ifN A221 at_332 (c0_le_f c225) (pc' := 335) rfl ?_
          refine g_iconst A221 at_335 (v := (1 : Int32)) rfl (pc' := 336) rfl ?_
          refine g_goto A221 at_336 (pc' := 340) rfl ?_
          obtain rfl : v222 = (1 : Int32) := hv222.trans ((if_neg c224).trans ((if_pos c225).trans rfl))
          exact hr
        · skip
          refine g_ifY A221 at_332 (c0_le_t c225) (pc' := 339) rfl ?_
          refine g_iconst A221 at_339 (v := (0 : Int32)) rfl (pc' := 340) rfl ?_
          obtain rfl : v222 = (0 : Int32) := hv222.trans ((if_neg c224).trans ((if_neg c225).trans rfl))
          exact hr
    refine sg223 ?_
    refine g_istore A221 at_340 (ls' := #[.val (.long p0), .second, .val (.long p1), .second, .val (.long p2), .second, .val (.long p3), .second, .val (.int p4), .val (.int p5), .val (.int (p4 &&& (3 : Int32))), .val (.int (p5 &&& (3 : Int32))), .val (.int (Int32.ofNat ea)), .val (.int (1 : Int32)), .val (.long p0), .second, .val (.int (Int32.ofNat ea)), .val (.int (Int32.ofNat kf.1)), .val (.double (FP.l2d ((1 : Int64) <<< ((Int32.ofNat kf.1).toInt64 &&& 63)))), .second, .val (.double v130), .second, .val (.long (own_r_rm1 p0)), .second, .val (.long (own_r_rm1 p0)), .second, .val (.long (own_r_rm2 (own_r_rm1 p0) (Int32.ofNat ea) p2)), .second, .val (.long (own_r_rm2 (own_r_rm1 p0) (Int32.ofNat ea) p3)), .second, .val (.double (FP.dmul (own_r_rm3 (p4 &&& (3 : Int32)) p0 (own_r_rm1 p0) (Int32.ofNat ea)) v130)), .second, .val (.double (FP.dmul (own_r_rm4 (p4 &&& (3 : Int32)) p0 (own_r_rm2 (own_r_rm1 p0) (Int32.ofNat ea) p2)) v130)), .second, .val (.double (FP.dmul (own_r_rm3 (p5 &&& (3 : Int32)) p0 (own_r_rm1 p0) (Int32.ofNat ea)) v130)), .second, .val (.double (FP.dmul (own_r_rm4 (p5 &&& (3 : Int32)) p0 (own_r_rm2 (own_r_rm1 p0) (Int32.ofNat ea) p3)) v130)), .second, .val (.int (own_r_rm5 (p4 &&& (3 : Int32)) p0)), .val (.int (own_r_rm5 (p5 &&& (3 : Int32)) p0)), .val (.long (own_r_rm6 (p4 &&& (3 : Int32)) (own_r_rm1 p0) (Int32.ofNat ea) (own_r_rm2 (own_r_rm1 p0) (Int32.ofNat ea) p2))), .second, .val (.long (own_r_rm6 (p5 &&& (3 : Int32)) (own_r_rm1 p0) (Int32.ofNat ea) (own_r_rm2 (own_r_rm1 p0) (Int32.ofNat ea) p3))), .second, .val (.int v209), .val (.int (own_r_rm7 (FP.dmul (own_r_rm3 (p4 &&& (3 : Int32)) p0 (own_r_rm1 p0) (Int32.ofNat ea)) v130) (FP.dmul (own_r_rm4 (p4 &&& (3 : Int32)) p0 (own_r_rm2 (own_r_rm1 p0) (Int32.ofNat ea) p2)) v130) (FP.dmul (own_r_rm3 (p5 &&& (3 : Int32)) p0 (own_r_rm1 p0) (Int32.ofNat ea)) v130) (FP.dmul (own_r_rm4 (p5 &&& (3 : Int32)) p0 (own_r_rm2 (own_r_rm1 p0) (Int32.ofNat ea) p3)) v130))), .val (.int v222)]) rfl (pc' := 342) rfl ?_
    refine g_iload A221 at_342 rfl (pc' := 344) rfl ?_
    refine g_iload A221 at_344 rfl (pc' := 346) rfl ?_
    refine g_icN A221 at_346 (c2_ne_f (by
        rw [hv222, hv209]
        exact own_end (own_op (own_K p4) p0 p2 ea1 ea2 hS) (own_op (own_K p5) p0 p3 ea1 ea2 hS))) (pc' := 349) rfl ?_
    refine g_iconst A221 at_349 (v := (1 : Int32)) rfl (pc' := 350) rfl ?_
    refine g_goto A221 at_350 (pc' := 354) rfl ?_
    exact g_ret (Q := Q0 Z p0 p1 p2 p3 p4 p5 h0 n0) A221 at_354 Bd.notSynchronized Bd.returns rfl (Or.inl ⟨rfl, by simp, _, rfl⟩) (by decide) (by decide) (by rw [e220]; exact ⟨rfl, N219⟩)
set_option maxRecDepth 65536 in
set_option maxHeartbeats 40000000 in
theorem comes_1 {Post : Tables → Env → Array Value → State → Outcome → State → Prop} (hpost : ∀ tb e args s v u, (limb_1_1.after args s (.returned v) u = true ∧ limb_1_2.after args s (.returned v) u = true ∧ True) → FrameEnd s (.returned v) u (Jvm.fieldLocs frame_1_writes args s ++ Jvm.arrayLocs frame_1_arrays args s ++ Jvm.staticLocs frame_1_statics s) 0 0 → Post tb e args s (.returned v) u) :
    ArmFor flags0 classFile x code maxLocals ret World_1 tables_1 room_1 Calls_1 rest_1 Pre_1 Post := by
  intro l hfl _ _ p e ha hc hk s m args below hf hA hF happ hP
  obtain ⟨hcalls, hrest, hpre⟩ := hP
  obtain ⟨-, -, -, hnamed, -, -, -, hat⟩ := (Spec.applies_iff hf).mp happ
  obtain ⟨hg, hn⟩ := and_e (Cond.before_iff.mp (show (Jvm.Cond.and given_1 narrow_1).before args s = true from hpre))
  obtain ⟨g0, hg1⟩ := and_e hg
  obtain ⟨w0, w1, w2, w3, w4, w5, rfl⟩ : ∃ w0 w1 w2 w3 w4 w5 : Value, args = #[w0, w1, w2, w3, w4, w5] := by
    have hs : args.size = 6 := by simpa [Cond.value, given_1] using g0
    obtain ⟨L⟩ := args
    match L, hs with
    | [w0, w1, w2, w3, w4, w5], _ => exact ⟨w0, w1, w2, w3, w4, w5, rfl⟩
  have hw := fun d (hd : d ∈ tables_1) => atoms_spec (ws := Jvm.Cond.code x code maxLocals ret :: tables_1) hat d (List.mem_cons_of_mem _ hd)
  have hfit : Fit s := fun {y c} hc i hi => by
    obtain ⟨ha, rfl⟩ := Array.getElem?_eq_some_iff.mp hc
    have q := List.all_eq_true.mp ((Array.all_eq_true_iff_forall_mem.mp hF) _ (Array.getElem_mem ha)) i (List.mem_range.mpr hi)
    simpa [Array.getElem?_eq_getElem hi] using q
  obtain ⟨k0, hg2⟩ := and_e hg1
  obtain ⟨i0, j0⟩ := isL_v k0
  obtain rfl : w0 = (.long i0) := Option.some.inj j0
  obtain ⟨k1, hg3⟩ := and_e hg2
  obtain ⟨i1, j1⟩ := isL_v k1
  obtain rfl : w1 = (.long i1) := Option.some.inj j1
  obtain ⟨k2, hg4⟩ := and_e hg3
  obtain ⟨i2, j2⟩ := isL_v k2
  obtain rfl : w2 = (.long i2) := Option.some.inj j2
  obtain ⟨k3, hg5⟩ := and_e hg4
  obtain ⟨i3, j3⟩ := isL_v k3
  obtain rfl : w3 = (.long i3) := Option.some.inj j3
  obtain ⟨k4, hg6⟩ := and_e hg5
  obtain ⟨i4, j4⟩ := is_v k4
  obtain rfl : w4 = (.int i4) := Option.some.inj j4
  obtain ⟨i5, j5⟩ := is_v hg6
  obtain rfl : w5 = (.int i5) := Option.some.inj j5
  obtain ⟨n, o, h1, h2, h3, _, L, rfl, ⟨rfl, N⟩, hq⟩ := rm0 l s _ hw tables_1 i0 i1 i2 i3 i4 i5 s.heap s.heap.size (Nat.le_refl _)  p e ha hc hk s m _ below hf ((Spec.applies_iff_loose hf).mp happ).1 ⟨rfl, State.Warmed39.refl s, rfl⟩ trivial
  refine ⟨n, _, h1, h2, h3, hpost _ _ _ _ _ _ ⟨Cond.after_iff.mpr rfl, Cond.after_iff.mpr (eq_i res_at (Term.int_eval (1)) rfl), trivial⟩ ⟨hq.1, hq.2.1, (hq.2.2.sift fun y hy => Or.inr (N y hy)).mono (by decide) (by decide)⟩⟩
theorem main_1_1 : Claimed_1_1 := comes_1 fun _ _ _ _ _ _ h hF => ⟨h.1, hF⟩
theorem main_1_2 : Claimed_1_2 := comes_1 fun _ _ _ _ _ _ h hF => ⟨h.2.1, hF⟩
end Jvm.Pilot.@@N@@
namespace Jvm.Pilot.@@N@@
open Jvm Jvm.ClassFile Sem Op Lib Jvm.Free Jvm.Stand Jvm.Pilot.@@N@@.Jvm.D
/-! MADE BY PROGRAM (witnessworld.py) out of the Statement's table words and the real class files: 9 classes; the members and pool entries that the words name. The judged class is class 1, her method 7. -/
namespace start1
open Jvm.ClassFile
def u (s : String) : CpInfo := .utf8 (stringToUtf16 s)
/-- a pool by its gaps: so many unusable entries, then the entry; so many at the end -/
def gap : Nat → List CpInfo → List CpInfo
  | 0, r => r
  | n + 1, r => .unusable :: gap n r
def poolList (es : List (Nat × CpInfo)) (last : Nat) : List CpInfo := es.foldr (fun e r => gap e.1 (e.2 :: r)) (gap last [])
def pool (es : List (Nat × CpInfo)) (last : Nat) : Array CpInfo := ⟨poolList es last⟩
def fileOf (pool : Array CpInfo) (this : Nat) (attrs : Array Attribute := #[]) (ms : Array MethodInfo := #[]) (fl : Nat := 33) (sup : Nat := 0) (ifs : Array Nat := #[]) (fds : Array FieldInfo := #[]) : ClassFile where
  minorVersion := 0
  majorVersion := 65
  constantPool := pool
  accessFlags := fl
  thisClass := this
  superClass := sup
  interfaces := ifs
  fields := fds
  methods := ms
  attributes := attrs
def plain (name : String) (sup : Option ClassId) : Class where
  name := name
  kind := .ordinary
  loader := none
  accessFlags := 33
  super := sup
  interfaces := #[]
  cf := none
  fields := #[]
  methods := #[]
  instanceTypes := #[]
  staticTypes := #[]
  resolved := #[]
  callSites := []
  init := .initialized
  statics := none
  mirror := none

def pool0 : Array CpInfo := pool [(5, u "<init>"), (0, u "()V"), (1, .class_ 10), (1, u "java/lang/Object")] 113

def k0m0 : Method := { name := "<init>", desc := "()V", sig := { parameters := [], returnType := none }, accessFlags := 1, code := none }
/-- java/lang/Object -/
def k0 : Class := { plain "java/lang/Object" none with
  accessFlags := 33
  interfaces := #[]
  cf := some (fileOf pool0 8 #[] #[{ accessFlags := 1, nameIndex := 5, descriptorIndex := 6, attributes := #[] }] 33 0 #[] #[])
  fields := #[]
  methods := #[k0m0]
  instanceTypes := #[]
  staticTypes := #[]
  resolved := Array.replicate 124 none
  statics := none }

def pool1 : Array CpInfo := pool [(2, .class_ 4), (1, u "java/lang/Object"), (0, u "<init>"), (0, u "()V"), (0, .long 4503599627370496), (1, .long 4503599627370495), (1, .long 18442240474082181120), (1, .long 9223372036854775807), (1, .double 9223372036854775808), (3, .double 18442240474082181120), (1, .double 9218868437227405312), (1, .long 2), (1, .methodref 26 27), (0, .class_ 28), (0, .nameAndType 29 30), (0, u "com/example/hinterland/hinterland/DoubleDoubleComparePinLaw"), (0, u "mant"), (0, u "(J)J"), (0, .methodref 26 32), (0, .nameAndType 33 34), (0, u "lowOf"), (0, u "(JIJ)J"), (0, .methodref 26 36), (0, .nameAndType 37 38), (0, u "highPart"), (0, u "(IJJI)D"), (0, .methodref 26 40), (0, .nameAndType 41 42), (0, u "lowPart"), (0, u "(IJJ)D"), (0, .methodref 26 44), (0, .nameAndType 45 46), (0, u "cls"), (0, u "(IJ)I"), (0, .methodref 26 48), (0, .nameAndType 49 50), (0, u "value"), (0, u "(IJIJ)J"), (0, .methodref 52 53), (0, .class_ 54), (0, .nameAndType 55 56), (0, u "com/example/hinterland/hinterland/DoubleDouble"), (0, u "compare"), (0, u "(DDDD)I"), (3, u "law"), (0, u "(JJJJII)Z")] 2

def k1m0 : Method := { name := "<init>", desc := "()V", sig := { parameters := [], returnType := none }, accessFlags := 2, code := none }
def k1c1 : Code := { maxStack := 6, maxLocals := 4, code := method_2_code, exceptionTable := #[], attributes := #[] }
def k1m1 : Method := { name := "mant", desc := "(J)J", sig := { parameters := [.long], returnType := some .long }, accessFlags := 10, code := some k1c1 }
def k1c2 : Code := { maxStack := 6, maxLocals := 11, code := method_3_code, exceptionTable := #[], attributes := #[] }
def k1m2 : Method := { name := "lowOf", desc := "(JIJ)J", sig := { parameters := [.long, .int, .long], returnType := some .long }, accessFlags := 10, code := some k1c2 }
def k1c3 : Code := { maxStack := 4, maxLocals := 6, code := method_4_code, exceptionTable := #[], attributes := #[] }
def k1m3 : Method := { name := "highPart", desc := "(IJJI)D", sig := { parameters := [.int, .long, .long, .int], returnType := some .double }, accessFlags := 10, code := some k1c3 }
def k1c4 : Code := { maxStack := 4, maxLocals := 5, code := method_5_code, exceptionTable := #[], attributes := #[] }
def k1m4 : Method := { name := "lowPart", desc := "(IJJ)D", sig := { parameters := [.int, .long, .long], returnType := some .double }, accessFlags := 10, code := some k1c4 }
def k1c5 : Code := { maxStack := 4, maxLocals := 3, code := method_6_code, exceptionTable := #[], attributes := #[] }
def k1m5 : Method := { name := "cls", desc := "(IJ)I", sig := { parameters := [.int, .long], returnType := some .int }, accessFlags := 10, code := some k1c5 }
def k1c6 : Code := { maxStack := 4, maxLocals := 6, code := method_7_code, exceptionTable := #[], attributes := #[] }
def k1m6 : Method := { name := "value", desc := "(IJIJ)J", sig := { parameters := [.int, .long, .int, .long], returnType := some .long }, accessFlags := 10, code := some k1c6 }
def k1c7 : Code := { maxStack := 8, maxLocals := 47, code := code, exceptionTable := #[], attributes := #[] }
def k1m7 : Method := { name := "law", desc := "(JJJJII)Z", sig := { parameters := [.long, .long, .long, .long, .int, .int], returnType := some .boolean }, accessFlags := 9, code := some k1c7 }
/-- com/example/hinterland/hinterland/DoubleDoubleComparePinLaw -/
def k1 : Class := { plain "com/example/hinterland/hinterland/DoubleDoubleComparePinLaw" (some 0) with
  accessFlags := 49
  interfaces := #[]
  cf := some (fileOf pool1 26 #[] #[{ accessFlags := 2, nameIndex := 5, descriptorIndex := 6, attributes := #[] }, { accessFlags := 10, nameIndex := 29, descriptorIndex := 30, attributes := #[] }, { accessFlags := 10, nameIndex := 33, descriptorIndex := 34, attributes := #[] }, { accessFlags := 10, nameIndex := 37, descriptorIndex := 38, attributes := #[] }, { accessFlags := 10, nameIndex := 41, descriptorIndex := 42, attributes := #[] }, { accessFlags := 10, nameIndex := 45, descriptorIndex := 46, attributes := #[] }, { accessFlags := 10, nameIndex := 49, descriptorIndex := 50, attributes := #[] }, { accessFlags := 9, nameIndex := 60, descriptorIndex := 61, attributes := #[] }] 49 2 #[] #[])
  fields := #[]
  methods := #[k1m0, k1m1, k1m2, k1m3, k1m4, k1m5, k1m6, k1m7]
  instanceTypes := #[]
  staticTypes := #[]
  resolved := Array.replicate 64 none
  statics := none }

def pool2 : Array CpInfo := pool [(2, .class_ 4), (1, u "java/lang/Object"), (0, u "<init>"), (0, u "()V"), (1, .class_ 10), (1, u "com/example/hinterland/hinterland/DoubleDouble"), (0, u "high"), (0, u "D"), (2, u "low"), (13, u "compare"), (0, u "(DDDD)I")] 33

def k2m0 : Method := { name := "<init>", desc := "()V", sig := { parameters := [], returnType := none }, accessFlags := 0, code := none }
def k2c1 : Code := { maxStack := 4, maxLocals := 9, code := prog_9_method_19_code, exceptionTable := #[], attributes := #[] }
def k2m1 : Method := { name := "compare", desc := "(DDDD)I", sig := { parameters := [.double, .double, .double, .double], returnType := some .int }, accessFlags := 8, code := some k2c1 }
/-- com/example/hinterland/hinterland/DoubleDouble -/
def k2 : Class := { plain "com/example/hinterland/hinterland/DoubleDouble" (some 0) with
  accessFlags := 48
  interfaces := #[]
  cf := some (fileOf pool2 8 #[] #[{ accessFlags := 0, nameIndex := 5, descriptorIndex := 6, attributes := #[] }, { accessFlags := 8, nameIndex := 29, descriptorIndex := 30, attributes := #[] }] 48 2 #[] #[{ accessFlags := 2, nameIndex := 11, descriptorIndex := 12, attributes := #[] }, { accessFlags := 2, nameIndex := 15, descriptorIndex := 12, attributes := #[] }])
  fields := #[{ name := "high", type := .double, accessFlags := 2, slot := 0, constantValue := 0 }, { name := "low", type := .double, accessFlags := 2, slot := 1, constantValue := 0 }]
  methods := #[k2m0, k2m1]
  instanceTypes := #[.double, .double]
  staticTypes := #[]
  resolved := Array.replicate 64 none
  statics := none }

def pool3 : Array CpInfo := pool [(1, u "java/lang/Cloneable"), (0, .class_ 1), (0, u "java/lang/Object"), (0, .class_ 3)] 3

/-- java/lang/Cloneable -/
def k3 : Class := { plain "java/lang/Cloneable" (some 0) with
  accessFlags := 1537
  interfaces := #[]
  cf := some (fileOf pool3 2 #[] #[] 1537 4 #[] #[])
  fields := #[]
  methods := #[]
  instanceTypes := #[]
  staticTypes := #[]
  resolved := Array.replicate 8 none
  statics := none }

def pool4 : Array CpInfo := pool [(1, u "java/io/Serializable"), (0, .class_ 1), (0, u "java/lang/Object"), (0, .class_ 3)] 3

/-- java/io/Serializable -/
def k4 : Class := { plain "java/io/Serializable" (some 0) with
  accessFlags := 1537
  interfaces := #[]
  cf := some (fileOf pool4 2 #[] #[] 1537 4 #[] #[])
  fields := #[]
  methods := #[]
  instanceTypes := #[]
  staticTypes := #[]
  resolved := Array.replicate 8 none
  statics := none }

/-- the primitive byte -/
def k5 : Class := { plain "byte" none with kind := .primitive 'B', accessFlags := 0x411 }
/-- [B -/
def k6 : Class := { plain "[B" (some 0) with kind := .array 5 .byte, interfaces := #[3, 4], accessFlags := 1041 }

/-- the primitive int -/
def k7 : Class := { plain "int" none with kind := .primitive 'I', accessFlags := 0x411 }
/-- [I -/
def k8 : Class := { plain "[I" (some 0) with kind := .array 7 .int, interfaces := #[3, 4], accessFlags := 1041 }

def heap : Heap := #[]
def classes : Array Class := #[k0, k1, k2, k3, k4, k5, k6, k7, k8]
def interned : List (Array UInt16 × Addr) := []
def slotsUsed : Nat := 0
def theMethod : MethodId := ⟨1, 7⟩
def args0 : Array Value := #[.long 5, .long 7, .long 9, .long 3, .int 4, .int 5]
def aboutOver (below : List Frame) : State where
  vm := { classes := classes, interned := interned.toArray }
  heap := heap
  slotsUsed := slotsUsed
  threads := #[{ frames := .invoking theMethod args0 :: below }]
def below0 : List Frame := [.native { method := ⟨0, 0⟩, args := #[] }]
def about1 : State := aboutOver below0
def p0 : Program := .bare "" "" ""
def e0 : Env := launch0.env 0 0 0
theorem w_frames : about1.frames = Frame.invoking theMethod args0 :: below0 := rfl
set_option maxRecDepth 65536 in
theorem w_args : argsFit about1.vm theMethod args0 = true := by decide +kernel
set_option maxRecDepth 65536 in
theorem w_heap : heapFits about1 = true := by decide +kernel
set_option maxRecDepth 65536 in
theorem w_runnable : about1.curStatus? = some .runnable := by decide +kernel
set_option maxRecDepth 65536 in
theorem w_alone : about1.alone = true := by decide +kernel
set_option maxRecDepth 65536 in
theorem w_named : about1.methodNamed? x = some theMethod := by decide +kernel
set_option maxRecDepth 65536 in
theorem w_hears : about1.hears theMethod below0 = true := by decide +kernel
set_option maxRecDepth 65536 in
theorem w_ripe : about1.ripe theMethod args0 below0 = true := by decide +kernel
theorem w_running : about1.status = .running := rfl
set_option maxRecDepth 65536 in
theorem w_room : about1.hasRoom e0.platform room_1 = true :=
  launch0.hasRoom_least _ room_1 (by decide +kernel) (by decide +kernel) (by decide +kernel) (by decide +kernel) (by decide +kernel) (by decide +kernel)
theorem allAtoms_all (ts : List Jvm.Cond) (a : Array Jvm.Value) (st : Jvm.State) : (allAtoms ts).before a st = ts.all (fun c => c.before a st) := by
  induction ts with
  | nil => rfl
  | cons c t ih =>
    show (Jvm.Cond.and c (allAtoms t)).before a st = _
    rw [Jvm.Cond.before_and, ih, List.all_cons]
def words1 : List Jvm.Cond := Jvm.Cond.code x code maxLocals ret :: tables_1
/-- a 'code' word, met by the world's own term for the bytes: nothing is compared byte by byte -/
theorem code_word {y : MethodName} {bytes : ByteArray} {mx : Nat} {rt : Option FieldType} {a : Array Value} {s : State} {m : MethodId} {meth : Method} {c : Code} (h1 : s.methodNamed? y = some m) (h2 : s.vm.method? m = some meth) (h3 : meth.code = some c) (h4 : c.code = bytes)
    (h5 : (c.maxLocals == mx && c.exceptionTable.isEmpty && decide (c.maxStack ≤ mostOperands) && decide (meth.sig.returnType = rt) && !meth.locks && decide (parseMethodDescriptor y.desc = some meth.sig)) = true) : (Jvm.Cond.code y bytes mx rt).before a s = true := by
  simp only [Bool.and_eq_true, beq_iff_eq, Bool.not_eq_true', decide_eq_true_eq] at h5
  obtain ⟨⟨⟨⟨⟨g1, g2⟩, g3⟩, g4⟩, g5⟩, g6⟩ := h5
  simp [Cond.before, Cond.holds, Cond.value, h1, h2, h3, h4, g1, g2, g3, g4, g5, g6]
def isCode : Jvm.Cond → Bool
  | .code _ _ _ _ => true
  | _ => false
theorem all_split {L : List Jvm.Cond} {P : Jvm.Cond → Bool} (h1 : L.all (fun c => isCode c || P c) = true) (h2 : ∀ c ∈ L.filter isCode, P c = true) : L.all P = true := by
  refine List.all_eq_true.mpr fun c hc => ?_
  have h := List.all_eq_true.mp h1 c hc
  rcases Bool.eq_false_or_eq_true (isCode c) with hi | hi
  · exact h2 c (List.mem_filter.mpr ⟨hc, hi⟩)
  · simpa [hi] using h
set_option maxRecDepth 65536 in
theorem w_c0 : (Jvm.Cond.code x code maxLocals ret).before args0 about1 = true := code_word (m := ⟨1, 7⟩) (meth := k1m7) (c := k1c7) (by decide +kernel) rfl rfl rfl (by decide +kernel)
set_option maxRecDepth 65536 in
theorem w_c1 : (Jvm.Cond.code ({ cls := "com/example/hinterland/hinterland/DoubleDoubleComparePinLaw", name := "mant", desc := "(J)J" } : Jvm.MethodName) method_2_code (4 : Nat) (Option.some Jvm.ClassFile.FieldType.long)).before args0 about1 = true := code_word (m := ⟨1, 1⟩) (meth := k1m1) (c := k1c1) (by decide +kernel) rfl rfl rfl (by decide +kernel)
set_option maxRecDepth 65536 in
theorem w_c2 : (Jvm.Cond.code ({ cls := "com/example/hinterland/hinterland/DoubleDoubleComparePinLaw", name := "lowOf", desc := "(JIJ)J" } : Jvm.MethodName) method_3_code (11 : Nat) (Option.some Jvm.ClassFile.FieldType.long)).before args0 about1 = true := code_word (m := ⟨1, 2⟩) (meth := k1m2) (c := k1c2) (by decide +kernel) rfl rfl rfl (by decide +kernel)
set_option maxRecDepth 65536 in
theorem w_c3 : (Jvm.Cond.code ({ cls := "com/example/hinterland/hinterland/DoubleDoubleComparePinLaw", name := "highPart", desc := "(IJJI)D" } : Jvm.MethodName) method_4_code (6 : Nat) (Option.some Jvm.ClassFile.FieldType.double)).before args0 about1 = true := code_word (m := ⟨1, 3⟩) (meth := k1m3) (c := k1c3) (by decide +kernel) rfl rfl rfl (by decide +kernel)
set_option maxRecDepth 65536 in
theorem w_c4 : (Jvm.Cond.code ({ cls := "com/example/hinterland/hinterland/DoubleDoubleComparePinLaw", name := "lowPart", desc := "(IJJ)D" } : Jvm.MethodName) method_5_code (5 : Nat) (Option.some Jvm.ClassFile.FieldType.double)).before args0 about1 = true := code_word (m := ⟨1, 4⟩) (meth := k1m4) (c := k1c4) (by decide +kernel) rfl rfl rfl (by decide +kernel)
set_option maxRecDepth 65536 in
theorem w_c5 : (Jvm.Cond.code ({ cls := "com/example/hinterland/hinterland/DoubleDoubleComparePinLaw", name := "cls", desc := "(IJ)I" } : Jvm.MethodName) method_6_code (3 : Nat) (Option.some Jvm.ClassFile.FieldType.int)).before args0 about1 = true := code_word (m := ⟨1, 5⟩) (meth := k1m5) (c := k1c5) (by decide +kernel) rfl rfl rfl (by decide +kernel)
set_option maxRecDepth 65536 in
theorem w_c6 : (Jvm.Cond.code ({ cls := "com/example/hinterland/hinterland/DoubleDoubleComparePinLaw", name := "value", desc := "(IJIJ)J" } : Jvm.MethodName) method_7_code (6 : Nat) (Option.some Jvm.ClassFile.FieldType.long)).before args0 about1 = true := code_word (m := ⟨1, 6⟩) (meth := k1m6) (c := k1c6) (by decide +kernel) rfl rfl rfl (by decide +kernel)
set_option maxRecDepth 65536 in
theorem w_c7 : (Jvm.Cond.code ({ cls := "com/example/hinterland/hinterland/DoubleDouble", name := "compare", desc := "(DDDD)I" } : Jvm.MethodName) prog_9_method_19_code (9 : Nat) (Option.some Jvm.ClassFile.FieldType.int)).before args0 about1 = true := code_word (m := ⟨2, 1⟩) (meth := k2m1) (c := k2c1) (by decide +kernel) rfl rfl rfl (by decide +kernel)
def codes1 : List Jvm.Cond := [Jvm.Cond.code x code maxLocals ret, Jvm.Cond.code ({ cls := "com/example/hinterland/hinterland/DoubleDoubleComparePinLaw", name := "mant", desc := "(J)J" } : Jvm.MethodName) method_2_code (4 : Nat) (Option.some Jvm.ClassFile.FieldType.long), Jvm.Cond.code ({ cls := "com/example/hinterland/hinterland/DoubleDoubleComparePinLaw", name := "lowOf", desc := "(JIJ)J" } : Jvm.MethodName) method_3_code (11 : Nat) (Option.some Jvm.ClassFile.FieldType.long), Jvm.Cond.code ({ cls := "com/example/hinterland/hinterland/DoubleDoubleComparePinLaw", name := "highPart", desc := "(IJJI)D" } : Jvm.MethodName) method_4_code (6 : Nat) (Option.some Jvm.ClassFile.FieldType.double), Jvm.Cond.code ({ cls := "com/example/hinterland/hinterland/DoubleDoubleComparePinLaw", name := "lowPart", desc := "(IJJ)D" } : Jvm.MethodName) method_5_code (5 : Nat) (Option.some Jvm.ClassFile.FieldType.double), Jvm.Cond.code ({ cls := "com/example/hinterland/hinterland/DoubleDoubleComparePinLaw", name := "cls", desc := "(IJ)I" } : Jvm.MethodName) method_6_code (3 : Nat) (Option.some Jvm.ClassFile.FieldType.int), Jvm.Cond.code ({ cls := "com/example/hinterland/hinterland/DoubleDoubleComparePinLaw", name := "value", desc := "(IJIJ)J" } : Jvm.MethodName) method_7_code (6 : Nat) (Option.some Jvm.ClassFile.FieldType.long), Jvm.Cond.code ({ cls := "com/example/hinterland/hinterland/DoubleDouble", name := "compare", desc := "(DDDD)I" } : Jvm.MethodName) prog_9_method_19_code (9 : Nat) (Option.some Jvm.ClassFile.FieldType.int)]
set_option maxRecDepth 65536 in
theorem codes_eq : words1.filter isCode = codes1 := rfl
theorem w_codes : ∀ c ∈ words1.filter isCode, c.before args0 about1 = true := by
  rw [codes_eq]
  intro c hc
  simp only [codes1, List.mem_cons, List.not_mem_nil, or_false] at hc
  rcases hc with rfl | rfl | rfl | rfl | rfl | rfl | rfl | rfl
  · exact w_c0
  · exact w_c1
  · exact w_c2
  · exact w_c3
  · exact w_c4
  · exact w_c5
  · exact w_c6
  · exact w_c7
set_option maxRecDepth 65536 in
theorem w_t1 : (words1.take 24).all (fun c => isCode c || c.before args0 about1) = true := by decide +kernel
set_option maxRecDepth 65536 in
theorem w_t2 : (words1.drop 24).all (fun c => isCode c || c.before args0 about1) = true := by decide +kernel
theorem w_tables : (allAtoms (Jvm.Cond.code x code maxLocals ret :: tables_1)).before args0 about1 = true := by
  rw [allAtoms_all]
  show words1.all (fun c => c.before args0 about1) = true
  refine all_split ?_ w_codes
  rw [← List.take_append_drop 24 words1, List.all_append, w_t1, w_t2]
  rfl
set_option maxRecDepth 65536 in
theorem w_case : (Jvm.Cond.and given_1 narrow_1).before args0 about1 = true := by decide +kernel
theorem w_applies : (headSpec (Jvm.Cond.code x code maxLocals ret :: tables_1) room_1).applies x e0.platform about1 = true :=
  (Spec.applies_iff w_frames).mpr ⟨w_running, w_runnable, w_alone, w_named, w_hears, w_ripe, w_room, w_tables⟩
theorem atStart : AtStart classFile x code maxLocals ret World_1 tables_1 room_1 Calls_1 rest_1 Pre_1 launch0 p0 e0 about1 theMethod args0 below0 :=
  ⟨lists_1, trivial, launch0.admits_env _ _ _, launch0.least_env, fairChoices_fair.cas, fairChoices_fair.clock, w_frames, w_args, w_heap, w_applies, trivial, trivial, w_case⟩
end start1
theorem witness_1 : WitnessClaimed_1 := ⟨start1.p0, start1.e0, start1.about1, start1.theMethod, start1.args0, start1.below0, start1.atStart⟩
end Jvm.Pilot.@@N@@
