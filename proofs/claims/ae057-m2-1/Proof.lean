import JvmDerived
import JvmDerived.Pilot.@@N@@Statement
import JvmDerived.Pilot.@@N@@Code
set_option linter.unusedVariables false
set_option linter.unusedSimpArgs false
namespace Jvm.Pilot.@@N@@
open Jvm Jvm.ClassFile Sem Op Lib Jvm.Free Jvm.Free.Fl Jvm.Stand Jvm.LawKit Jvm.RoadKit Bundle Jvm.Pilot.@@N@@.Jvm.D
section own_go
/-- where the walk stands, with the two facts that every step asks -/
def Ax (p : Program) (l : Launch) (e : Env) (R : Room) (s : State) (m : MethodId) (args : Array Value) (below : List Frame) (meth : Method) (c : Code) (T : State) (locs : List Loc) (cells slots : Nat) (B : ByteArray) : Prop := Stand p l e R s m args below meth c T locs cells slots ∧ p.tables.exec = Jvm.exec ∧ c.code = B
/-- from this frame the run ends, and P holds of its end -/
def Go (p : Program) (e : Env) (below : List Frame) (P : State → Outcome → Prop) (T : State) (g : JFrame) : Prop := ∃ U o, Steps p.tables e below (T.setTop g) U ∧ U.status = .running ∧ Ended U below o ∧ P U o
variable {p : Program} {l : Launch} {e : Env} {R : Room} {s : State} {m : MethodId} {args : Array Value} {below : List Frame} {meth : Method} {c : Code} {T : State} {locs : List Loc} {cells slots : Nat} {P : State → Outcome → Prop} {B : ByteArray} {pc pc' : Nat} {ls ls' : Array Slot} {st : List Value}
theorem Go.of {T' : State} {g g' : JFrame} (k : ∀ t, Steps p.tables e below (T'.setTop g') t → Steps p.tables e below (T.setTop g) t) (h : Go p e below P T' g') : Go p e below P T g := by
  obtain ⟨U, o, h1, h2⟩ := h
  exact ⟨U, o, k _ h1, h2⟩
theorem Go.tr {T' : State} {g g' : JFrame} (k : Steps p.tables e below (T.setTop g) (T'.setTop g')) (h : Go p e below P T' g') : Go p e below P T g := Go.of (fun _ h => k.trans h) h
theorem Go.cast {g g' : JFrame} (q : g = g') (h : Go p e below P T g') : Go p e below P T g := q ▸ h

theorem g_iadd (A : Ax p l e R s m args below meth c T locs cells slots B) {x : Int32} {y : Int32} (hd : decode B pc = .ok (.iadd, 1)) (hp : pc + 1 = pc') (k : Go p e below P T (mkF m pc' ls (.int (x + y) :: st))) : Go p e below P T (mkF m pc ls (.int y :: .int x :: st)) := by
  subst hp; exact Go.of (fun _ k' => XS.iadd A.1.here A.2.1 rfl (hb A.2.2 hd) rfl k') k
theorem g_isub (A : Ax p l e R s m args below meth c T locs cells slots B) {x : Int32} {y : Int32} (hd : decode B pc = .ok (.isub, 1)) (hp : pc + 1 = pc') (k : Go p e below P T (mkF m pc' ls (.int (x - y) :: st))) : Go p e below P T (mkF m pc ls (.int y :: .int x :: st)) := by
  subst hp; exact Go.of (fun _ k' => XS.isub A.1.here A.2.1 rfl (hb A.2.2 hd) rfl k') k
theorem g_iand (A : Ax p l e R s m args below meth c T locs cells slots B) {x : Int32} {y : Int32} (hd : decode B pc = .ok (.iand, 1)) (hp : pc + 1 = pc') (k : Go p e below P T (mkF m pc' ls (.int (x &&& y) :: st))) : Go p e below P T (mkF m pc ls (.int y :: .int x :: st)) := by
  subst hp; exact Go.of (fun _ k' => XS.iand A.1.here A.2.1 rfl (hb A.2.2 hd) rfl k') k
theorem g_imul (A : Ax p l e R s m args below meth c T locs cells slots B) {x : Int32} {y : Int32} (hd : decode B pc = .ok (.imul, 1)) (hp : pc + 1 = pc') (k : Go p e below P T (mkF m pc' ls (.int (x * y) :: st))) : Go p e below P T (mkF m pc ls (.int y :: .int x :: st)) := by
  subst hp; exact Go.of (fun _ k' => XS.imul A.1.here A.2.1 rfl (hb A.2.2 hd) rfl k') k
theorem g_iaddL (A : Ax p l e R s m args below meth c T locs cells slots B) {x y z : Int32} (hd : decode B pc = .ok (.iadd, 1)) (hz : x + y = z) (hp : pc + 1 = pc') (k : Go p e below P T (mkF m pc' ls (.int z :: st))) : Go p e below P T (mkF m pc ls (.int y :: .int x :: st)) := g_iadd A hd hp (hz.symm ▸ k)
theorem g_isubL (A : Ax p l e R s m args below meth c T locs cells slots B) {x y z : Int32} (hd : decode B pc = .ok (.isub, 1)) (hz : x - y = z) (hp : pc + 1 = pc') (k : Go p e below P T (mkF m pc' ls (.int z :: st))) : Go p e below P T (mkF m pc ls (.int y :: .int x :: st)) := g_isub A hd hp (hz.symm ▸ k)
theorem g_imulL (A : Ax p l e R s m args below meth c T locs cells slots B) {x y z : Int32} (hd : decode B pc = .ok (.imul, 1)) (hz : x * y = z) (hp : pc + 1 = pc') (k : Go p e below P T (mkF m pc' ls (.int z :: st))) : Go p e below P T (mkF m pc ls (.int y :: .int x :: st)) := g_imul A hd hp (hz.symm ▸ k)
theorem g_iandL (A : Ax p l e R s m args below meth c T locs cells slots B) {x y z : Int32} (hd : decode B pc = .ok (.iand, 1)) (hz : x &&& y = z) (hp : pc + 1 = pc') (k : Go p e below P T (mkF m pc' ls (.int z :: st))) : Go p e below P T (mkF m pc ls (.int y :: .int x :: st)) := g_iand A hd hp (hz.symm ▸ k)
theorem g_ixor (A : Ax p l e R s m args below meth c T locs cells slots B) {x : Int32} {y : Int32} (hd : decode B pc = .ok (.ixor, 1)) (hp : pc + 1 = pc') (k : Go p e below P T (mkF m pc' ls (.int (x ^^^ y) :: st))) : Go p e below P T (mkF m pc ls (.int y :: .int x :: st)) := by
  subst hp; exact Go.of (fun _ k' => XT.ixor A.1.here A.2.1 rfl (hb A.2.2 hd) rfl k') k
theorem g_ior (A : Ax p l e R s m args below meth c T locs cells slots B) {x : Int32} {y : Int32} (hd : decode B pc = .ok (.ior, 1)) (hp : pc + 1 = pc') (k : Go p e below P T (mkF m pc' ls (.int (x ||| y) :: st))) : Go p e below P T (mkF m pc ls (.int y :: .int x :: st)) := by
  subst hp; exact Go.of (fun _ k' => XT.ior A.1.here A.2.1 rfl (hb A.2.2 hd) rfl k') k
theorem g_ishl (A : Ax p l e R s m args below meth c T locs cells slots B) {x : Int32} {y : Int32} (hd : decode B pc = .ok (.ishl, 1)) (hp : pc + 1 = pc') (k : Go p e below P T (mkF m pc' ls (.int (x <<< (y &&& 31)) :: st))) : Go p e below P T (mkF m pc ls (.int y :: .int x :: st)) := by
  subst hp; exact Go.of (fun _ k' => XT.ishl A.1.here A.2.1 rfl (hb A.2.2 hd) rfl k') k
theorem g_ishr (A : Ax p l e R s m args below meth c T locs cells slots B) {x : Int32} {y : Int32} (hd : decode B pc = .ok (.ishr, 1)) (hp : pc + 1 = pc') (k : Go p e below P T (mkF m pc' ls (.int (x >>> (y &&& 31)) :: st))) : Go p e below P T (mkF m pc ls (.int y :: .int x :: st)) := by
  subst hp; exact Go.of (fun _ k' => XT.ishr A.1.here A.2.1 rfl (hb A.2.2 hd) rfl k') k
theorem g_iushr (A : Ax p l e R s m args below meth c T locs cells slots B) {x : Int32} {y : Int32} (hd : decode B pc = .ok (.iushr, 1)) (hp : pc + 1 = pc') (k : Go p e below P T (mkF m pc' ls (.int (XT.ushr x y) :: st))) : Go p e below P T (mkF m pc ls (.int y :: .int x :: st)) := by
  subst hp; exact Go.of (fun _ k' => XT.iushr A.1.here A.2.1 rfl (hb A.2.2 hd) rfl k') k
theorem g_idiv (A : Ax p l e R s m args below meth c T locs cells slots B) {x : Int32} {y : Int32} (hd : decode B pc = .ok (.idiv, 1)) (hy : y ≠ 0) (hp : pc + 1 = pc') (k : Go p e below P T (mkF m pc' ls (.int (x / y) :: st))) : Go p e below P T (mkF m pc ls (.int y :: .int x :: st)) := by
  subst hp; exact Go.of (fun _ k' => XS.idiv A.1.here A.2.1 rfl (hb A.2.2 hd) rfl hy k') k
theorem g_ladd (A : Ax p l e R s m args below meth c T locs cells slots B) {x : Int64} {y : Int64} (hd : decode B pc = .ok (.ladd, 1)) (hp : pc + 1 = pc') (k : Go p e below P T (mkF m pc' ls (.long (x + y) :: st))) : Go p e below P T (mkF m pc ls (.long y :: .long x :: st)) := by
  subst hp; exact Go.of (fun _ k' => XT.ladd A.1.here A.2.1 rfl (hb A.2.2 hd) rfl k') k
theorem g_lsub (A : Ax p l e R s m args below meth c T locs cells slots B) {x : Int64} {y : Int64} (hd : decode B pc = .ok (.lsub, 1)) (hp : pc + 1 = pc') (k : Go p e below P T (mkF m pc' ls (.long (x - y) :: st))) : Go p e below P T (mkF m pc ls (.long y :: .long x :: st)) := by
  subst hp; exact Go.of (fun _ k' => XT.lsub A.1.here A.2.1 rfl (hb A.2.2 hd) rfl k') k
theorem g_lmul (A : Ax p l e R s m args below meth c T locs cells slots B) {x : Int64} {y : Int64} (hd : decode B pc = .ok (.lmul, 1)) (hp : pc + 1 = pc') (k : Go p e below P T (mkF m pc' ls (.long (x * y) :: st))) : Go p e below P T (mkF m pc ls (.long y :: .long x :: st)) := by
  subst hp; exact Go.of (fun _ k' => XT.lmul A.1.here A.2.1 rfl (hb A.2.2 hd) rfl k') k
theorem g_land (A : Ax p l e R s m args below meth c T locs cells slots B) {x : Int64} {y : Int64} (hd : decode B pc = .ok (.land, 1)) (hp : pc + 1 = pc') (k : Go p e below P T (mkF m pc' ls (.long (x &&& y) :: st))) : Go p e below P T (mkF m pc ls (.long y :: .long x :: st)) := by
  subst hp; exact Go.of (fun _ k' => XT.land A.1.here A.2.1 rfl (hb A.2.2 hd) rfl k') k
theorem g_lor (A : Ax p l e R s m args below meth c T locs cells slots B) {x : Int64} {y : Int64} (hd : decode B pc = .ok (.lor, 1)) (hp : pc + 1 = pc') (k : Go p e below P T (mkF m pc' ls (.long (x ||| y) :: st))) : Go p e below P T (mkF m pc ls (.long y :: .long x :: st)) := by
  subst hp; exact Go.of (fun _ k' => XT.lor A.1.here A.2.1 rfl (hb A.2.2 hd) rfl k') k
theorem g_lxor (A : Ax p l e R s m args below meth c T locs cells slots B) {x : Int64} {y : Int64} (hd : decode B pc = .ok (.lxor, 1)) (hp : pc + 1 = pc') (k : Go p e below P T (mkF m pc' ls (.long (x ^^^ y) :: st))) : Go p e below P T (mkF m pc ls (.long y :: .long x :: st)) := by
  subst hp; exact Go.of (fun _ k' => XT.lxor A.1.here A.2.1 rfl (hb A.2.2 hd) rfl k') k
theorem g_lshl (A : Ax p l e R s m args below meth c T locs cells slots B) {x : Int64} {y : Int32} (hd : decode B pc = .ok (.lshl, 1)) (hp : pc + 1 = pc') (k : Go p e below P T (mkF m pc' ls (.long (x <<< (y.toInt64 &&& 63)) :: st))) : Go p e below P T (mkF m pc ls (.int y :: .long x :: st)) := by
  subst hp; exact Go.of (fun _ k' => XT.lshl A.1.here A.2.1 rfl (hb A.2.2 hd) rfl k') k
theorem g_lshr (A : Ax p l e R s m args below meth c T locs cells slots B) {x : Int64} {y : Int32} (hd : decode B pc = .ok (.lshr, 1)) (hp : pc + 1 = pc') (k : Go p e below P T (mkF m pc' ls (.long (x >>> (y.toInt64 &&& 63)) :: st))) : Go p e below P T (mkF m pc ls (.int y :: .long x :: st)) := by
  subst hp; exact Go.of (fun _ k' => XT.lshr A.1.here A.2.1 rfl (hb A.2.2 hd) rfl k') k
theorem g_lushr (A : Ax p l e R s m args below meth c T locs cells slots B) {x : Int64} {y : Int32} (hd : decode B pc = .ok (.lushr, 1)) (hp : pc + 1 = pc') (k : Go p e below P T (mkF m pc' ls (.long (XT.ushrL x y) :: st))) : Go p e below P T (mkF m pc ls (.int y :: .long x :: st)) := by
  subst hp; exact Go.of (fun _ k' => XT.lushr A.1.here A.2.1 rfl (hb A.2.2 hd) rfl k') k
theorem g_ldiv (A : Ax p l e R s m args below meth c T locs cells slots B) {x : Int64} {y : Int64} (hd : decode B pc = .ok (.ldiv, 1)) (hy : y ≠ 0) (hp : pc + 1 = pc') (k : Go p e below P T (mkF m pc' ls (.long (x / y) :: st))) : Go p e below P T (mkF m pc ls (.long y :: .long x :: st)) := by
  subst hp; exact Go.of (fun _ k' => XT.ldiv A.1.here A.2.1 rfl (hb A.2.2 hd) rfl hy k') k
theorem g_lrem (A : Ax p l e R s m args below meth c T locs cells slots B) {x y : Int64} (hd : decode B pc = .ok (.lrem, 1)) (hy : y ≠ 0) (hp : pc + 1 = pc') (k : Go p e below P T (mkF m pc' ls (.long (x % y) :: st))) : Go p e below P T (mkF m pc ls (.long y :: .long x :: st)) := by
  subst hp; rw [← lrem_mod] at k; exact Go.of (fun _ k' => XT.lrem A.1.here A.2.1 rfl (hb A.2.2 hd) rfl hy k') k
theorem g_i2s (A : Ax p l e R s m args below meth c T locs cells slots B) {x : Int32} (hd : decode B pc = .ok (.i2s, 1)) (hp : pc + 1 = pc') (k : Go p e below P T (mkF m pc' ls (.int (x.toInt16.toInt32) :: st))) : Go p e below P T (mkF m pc ls (.int x :: st)) := by
  subst hp; exact Go.of (fun _ k' => XT.i2s A.1.here A.2.1 rfl (hb A.2.2 hd) rfl k') k
theorem g_i2b (A : Ax p l e R s m args below meth c T locs cells slots B) {x : Int32} (hd : decode B pc = .ok (.i2b, 1)) (hp : pc + 1 = pc') (k : Go p e below P T (mkF m pc' ls (.int (x.toInt8.toInt32) :: st))) : Go p e below P T (mkF m pc ls (.int x :: st)) := by
  subst hp; exact Go.of (fun _ k' => XT.i2b A.1.here A.2.1 rfl (hb A.2.2 hd) rfl k') k
theorem g_i2c (A : Ax p l e R s m args below meth c T locs cells slots B) {x : Int32} (hd : decode B pc = .ok (.i2c, 1)) (hp : pc + 1 = pc') (k : Go p e below P T (mkF m pc' ls (.int (x.toUInt32.toUInt16.toUInt32.toInt32) :: st))) : Go p e below P T (mkF m pc ls (.int x :: st)) := by
  subst hp; exact Go.of (fun _ k' => XT.i2c A.1.here A.2.1 rfl (hb A.2.2 hd) rfl k') k
theorem g_ineg (A : Ax p l e R s m args below meth c T locs cells slots B) {x : Int32} (hd : decode B pc = .ok (.ineg, 1)) (hp : pc + 1 = pc') (k : Go p e below P T (mkF m pc' ls (.int (-x) :: st))) : Go p e below P T (mkF m pc ls (.int x :: st)) := by
  subst hp; exact Go.of (fun _ k' => XS.ineg A.1.here A.2.1 rfl (hb A.2.2 hd) rfl k') k
theorem g_lneg (A : Ax p l e R s m args below meth c T locs cells slots B) {x : Int64} (hd : decode B pc = .ok (.lneg, 1)) (hp : pc + 1 = pc') (k : Go p e below P T (mkF m pc' ls (.long (-x) :: st))) : Go p e below P T (mkF m pc ls (.long x :: st)) := by
  subst hp; exact Go.of (fun _ k' => XT.lneg A.1.here A.2.1 rfl (hb A.2.2 hd) rfl k') k
theorem g_i2l (A : Ax p l e R s m args below meth c T locs cells slots B) {x : Int32} (hd : decode B pc = .ok (.i2l, 1)) (hp : pc + 1 = pc') (k : Go p e below P T (mkF m pc' ls (.long (x.toInt64) :: st))) : Go p e below P T (mkF m pc ls (.int x :: st)) := by
  subst hp; exact Go.of (fun _ k' => XT.i2l A.1.here A.2.1 rfl (hb A.2.2 hd) rfl k') k
theorem g_l2i (A : Ax p l e R s m args below meth c T locs cells slots B) {x : Int64} (hd : decode B pc = .ok (.l2i, 1)) (hp : pc + 1 = pc') (k : Go p e below P T (mkF m pc' ls (.int (x.toInt32) :: st))) : Go p e below P T (mkF m pc ls (.long x :: st)) := by
  subst hp; exact Go.of (fun _ k' => XT.l2i A.1.here A.2.1 rfl (hb A.2.2 hd) rfl k') k
theorem g_irem (A : Ax p l e R s m args below meth c T locs cells slots B) {x y : Int32} (hd : decode B pc = .ok (.irem, 1)) (hy : y ≠ 0) (hp : pc + 1 = pc') (k : Go p e below P T (mkF m pc' ls (.int (x % y) :: st))) : Go p e below P T (mkF m pc ls (.int y :: .int x :: st)) := by
  subst hp; exact Go.of (fun _ k' => iremM A.1 A.2.1 rfl (hb A.2.2 hd) rfl hy k') k
theorem g_iloadN (A : Ax p l e R s m args below meth c T locs cells slots B) {k : Fin 4} {v : Int32} (hd : decode B pc = .ok (.iload_n k, 1)) (hl : ls[k.val]? = some (.val (.int v))) (hp : pc + 1 = pc') (k : Go p e below P T (mkF m pc' ls (.int v :: st))) : Go p e below P T (mkF m pc ls st) := by
  subst hp; exact Go.of (fun _ k' => XS.iloadN A.1.here A.2.1 rfl (hb A.2.2 hd) hl k') k
theorem g_iload (A : Ax p l e R s m args below meth c T locs cells slots B) {k : Nat} {v : Int32} (hd : decode B pc = .ok (.iload k, 2)) (hl : ls[k]? = some (.val (.int v))) (hp : pc + 2 = pc') (k : Go p e below P T (mkF m pc' ls (.int v :: st))) : Go p e below P T (mkF m pc ls st) := by
  subst hp; exact Go.of (fun _ k' => XS.iload A.1.here A.2.1 rfl (hb A.2.2 hd) hl k') k
theorem g_lloadN (A : Ax p l e R s m args below meth c T locs cells slots B) {k : Fin 4} {v : Int64} (hd : decode B pc = .ok (.lload_n k, 1)) (hl : ls[k.val]? = some (.val (.long v))) (hp : pc + 1 = pc') (k : Go p e below P T (mkF m pc' ls (.long v :: st))) : Go p e below P T (mkF m pc ls st) := by
  subst hp; exact Go.of (fun _ k' => XT.lloadN A.1.here A.2.1 rfl (hb A.2.2 hd) hl k') k
theorem g_lload (A : Ax p l e R s m args below meth c T locs cells slots B) {k : Nat} {v : Int64} (hd : decode B pc = .ok (.lload k, 2)) (hl : ls[k]? = some (.val (.long v))) (hp : pc + 2 = pc') (k : Go p e below P T (mkF m pc' ls (.long v :: st))) : Go p e below P T (mkF m pc ls st) := by
  subst hp; exact Go.of (fun _ k' => XT.lload A.1.here A.2.1 rfl (hb A.2.2 hd) hl k') k
theorem g_aloadN (A : Ax p l e R s m args below meth c T locs cells slots B) {k : Fin 4} {v : Value} (hd : decode B pc = .ok (.aload_n k, 1)) (hl : ls[k.val]? = some (.val v)) (hv : v.isRef = true) (hp : pc + 1 = pc') (k : Go p e below P T (mkF m pc' ls (v :: st))) : Go p e below P T (mkF m pc ls st) := by
  subst hp; exact Go.of (fun _ k' => XS.aloadN A.1.here A.2.1 rfl (hb A.2.2 hd) hl hv k') k
theorem g_aload (A : Ax p l e R s m args below meth c T locs cells slots B) {k : Nat} {v : Value} (hd : decode B pc = .ok (.aload k, 2)) (hl : ls[k]? = some (.val v)) (hv : v.isRef = true) (hp : pc + 2 = pc') (k : Go p e below P T (mkF m pc' ls (v :: st))) : Go p e below P T (mkF m pc ls st) := by
  subst hp; exact Go.of (fun _ k' => XS.aload A.1.here A.2.1 rfl (hb A.2.2 hd) hl hv k') k
theorem g_dloadN (A : Ax p l e R s m args below meth c T locs cells slots B) {k : Fin 4} {v : UInt64} (hd : decode B pc = .ok (.dload_n k, 1)) (hl : ls[k.val]? = some (.val (.double v))) (hp : pc + 1 = pc') (k : Go p e below P T (mkF m pc' ls (.double v :: st))) : Go p e below P T (mkF m pc ls st) := by
  subst hp
  refine Go.of (fun t k' => ?_) k
  have h := A.1.here
  have hx := A.2.1
  have hd' := hb A.2.2 hd
  show Steps p.tables e below (T.setTop { method := m, pc := pc, locals := ls, stack := st, locked := none }) _
  jvm_step h [h.top, hx, hd', hl]
  exact k'
theorem g_dload (A : Ax p l e R s m args below meth c T locs cells slots B) {k : Nat} {v : UInt64} (hd : decode B pc = .ok (.dload k, 2)) (hl : ls[k]? = some (.val (.double v))) (hp : pc + 2 = pc') (k : Go p e below P T (mkF m pc' ls (.double v :: st))) : Go p e below P T (mkF m pc ls st) := by
  subst hp
  refine Go.of (fun t k' => ?_) k
  have h := A.1.here
  have hx := A.2.1
  have hd' := hb A.2.2 hd
  show Steps p.tables e below (T.setTop { method := m, pc := pc, locals := ls, stack := st, locked := none }) _
  jvm_step h [h.top, hx, hd', hl]
  exact k'
theorem g_istoreN (A : Ax p l e R s m args below meth c T locs cells slots B) {k : Fin 4} {x : Int32} (hd : decode B pc = .ok (.istore_n k, 1)) (hl : storeLocals ls k.val (.int x) = some ls') (hp : pc + 1 = pc') (k : Go p e below P T (mkF m pc' ls' st)) : Go p e below P T (mkF m pc ls (.int x :: st)) := by
  subst hp; exact Go.of (fun _ k' => XS.istoreN A.1.here A.2.1 rfl (hb A.2.2 hd) rfl hl k') k
theorem g_istore (A : Ax p l e R s m args below meth c T locs cells slots B) {k : Nat} {x : Int32} (hd : decode B pc = .ok (.istore k, 2)) (hl : storeLocals ls k (.int x) = some ls') (hp : pc + 2 = pc') (k : Go p e below P T (mkF m pc' ls' st)) : Go p e below P T (mkF m pc ls (.int x :: st)) := by
  subst hp; exact Go.of (fun _ k' => XS.istore A.1.here A.2.1 rfl (hb A.2.2 hd) rfl hl k') k
theorem g_lstoreN (A : Ax p l e R s m args below meth c T locs cells slots B) {k : Fin 4} {x : Int64} (hd : decode B pc = .ok (.lstore_n k, 1)) (hl : storeLocals ls k.val (.long x) = some ls') (hp : pc + 1 = pc') (k : Go p e below P T (mkF m pc' ls' st)) : Go p e below P T (mkF m pc ls (.long x :: st)) := by
  subst hp; exact Go.of (fun _ k' => XT.lstoreN A.1.here A.2.1 rfl (hb A.2.2 hd) rfl hl k') k
theorem g_lstore (A : Ax p l e R s m args below meth c T locs cells slots B) {k : Nat} {x : Int64} (hd : decode B pc = .ok (.lstore k, 2)) (hl : storeLocals ls k (.long x) = some ls') (hp : pc + 2 = pc') (k : Go p e below P T (mkF m pc' ls' st)) : Go p e below P T (mkF m pc ls (.long x :: st)) := by
  subst hp; exact Go.of (fun _ k' => XT.lstore A.1.here A.2.1 rfl (hb A.2.2 hd) rfl hl k') k
theorem g_astoreN (A : Ax p l e R s m args below meth c T locs cells slots B) {k : Fin 4} {x : Value} (hd : decode B pc = .ok (.astore_n k, 1)) (hv : x.isRef = true) (hl : storeLocals ls k.val x = some ls') (hp : pc + 1 = pc') (k : Go p e below P T (mkF m pc' ls' st)) : Go p e below P T (mkF m pc ls (x :: st)) := by
  subst hp; exact Go.of (fun _ k' => XS.astoreN A.1.here A.2.1 rfl (hb A.2.2 hd) rfl hv hl k') k
theorem g_astore (A : Ax p l e R s m args below meth c T locs cells slots B) {k : Nat} {x : Value} (hd : decode B pc = .ok (.astore k, 2)) (hv : x.isRef = true) (hl : storeLocals ls k x = some ls') (hp : pc + 2 = pc') (k : Go p e below P T (mkF m pc' ls' st)) : Go p e below P T (mkF m pc ls (x :: st)) := by
  subst hp; exact Go.of (fun _ k' => XS.astore A.1.here A.2.1 rfl (hb A.2.2 hd) rfl hv hl k') k
theorem g_dstoreN (A : Ax p l e R s m args below meth c T locs cells slots B) {k : Fin 4} {x : UInt64} (hd : decode B pc = .ok (.dstore_n k, 1)) (hl : storeLocals ls k.val (.double x) = some ls') (hp : pc + 1 = pc') (k : Go p e below P T (mkF m pc' ls' st)) : Go p e below P T (mkF m pc ls (.double x :: st)) := by
  subst hp
  refine Go.of (fun t k' => ?_) k
  have h := A.1.here
  have hx := A.2.1
  have hd' := hb A.2.2 hd
  show Steps p.tables e below (T.setTop { method := m, pc := pc, locals := ls, stack := .double x :: st, locked := none }) _
  jvm_step h [h.top, hx, hd']
  exact ⟨ls', hl, k'⟩
theorem g_dstore (A : Ax p l e R s m args below meth c T locs cells slots B) {k : Nat} {x : UInt64} (hd : decode B pc = .ok (.dstore k, 2)) (hl : storeLocals ls k (.double x) = some ls') (hp : pc + 2 = pc') (k : Go p e below P T (mkF m pc' ls' st)) : Go p e below P T (mkF m pc ls (.double x :: st)) := by
  subst hp
  refine Go.of (fun t k' => ?_) k
  have h := A.1.here
  have hx := A.2.1
  have hd' := hb A.2.2 hd
  show Steps p.tables e below (T.setTop { method := m, pc := pc, locals := ls, stack := .double x :: st, locked := none }) _
  jvm_step h [h.top, hx, hd']
  exact ⟨ls', hl, k'⟩
theorem g_iconst (A : Ax p l e R s m args below meth c T locs cells slots B) {i : Int} {v : Int32} (hd : decode B pc = .ok (.iconst i, 1)) (hv : Int32.ofInt i = v) (hp : pc + 1 = pc') (k : Go p e below P T (mkF m pc' ls (.int v :: st))) : Go p e below P T (mkF m pc ls st) := by
  subst hp hv; exact Go.of (fun _ k' => XS.iconst A.1.here A.2.1 rfl (hb A.2.2 hd) k') k
theorem g_bipush (A : Ax p l e R s m args below meth c T locs cells slots B) {i : Int} {v : Int32} (hd : decode B pc = .ok (.bipush i, 2)) (hv : (Int8.ofInt i).toInt32 = v) (hp : pc + 2 = pc') (k : Go p e below P T (mkF m pc' ls (.int v :: st))) : Go p e below P T (mkF m pc ls st) := by
  subst hp hv; exact Go.of (fun _ k' => XS.bipush A.1.here A.2.1 rfl (hb A.2.2 hd) k') k
theorem g_sipush (A : Ax p l e R s m args below meth c T locs cells slots B) {i : Int} {v : Int32} (hd : decode B pc = .ok (.sipush i, 3)) (hv : (Int16.ofInt i).toInt32 = v) (hp : pc + 3 = pc') (k : Go p e below P T (mkF m pc' ls (.int v :: st))) : Go p e below P T (mkF m pc ls st) := by
  subst hp hv; exact Go.of (fun _ k' => XS.sipush A.1.here A.2.1 rfl (hb A.2.2 hd) k') k
theorem g_aconst (A : Ax p l e R s m args below meth c T locs cells slots B) (hd : decode B pc = .ok (.aconst_null, 1)) (hp : pc + 1 = pc') (k : Go p e below P T (mkF m pc' ls (.null :: st))) : Go p e below P T (mkF m pc ls st) := by
  subst hp; exact Go.of (fun _ k' => XS.aconstNull A.1.here A.2.1 rfl (hb A.2.2 hd) k') k
theorem g_lconst (A : Ax p l e R s m args below meth c T locs cells slots B) {i : Fin 2} {v : Int64} (hd : decode B pc = .ok (.lconst i, 1)) (hv : Int64.ofNat i = v) (hp : pc + 1 = pc') (k : Go p e below P T (mkF m pc' ls (.long v :: st))) : Go p e below P T (mkF m pc ls st) := by
  subst hp hv; exact Go.of (fun _ k' => XT.lconst A.1.here A.2.1 rfl (hb A.2.2 hd) k') k
theorem g_dconst0 (A : Ax p l e R s m args below meth c T locs cells slots B) (hd : decode B pc = .ok (.dconst 0, 1)) (hp : pc + 1 = pc') (k : Go p e below P T (mkF m pc' ls (.double (0 : UInt64) :: st))) : Go p e below P T (mkF m pc ls st) := by
  subst hp
  refine Go.of (fun t k' => ?_) k
  have h := A.1.here
  have hx := A.2.1
  have hd' := hb A.2.2 hd
  show Steps p.tables e below (T.setTop { method := m, pc := pc, locals := ls, stack := st, locked := none }) _
  jvm_step h [h.top, hx, hd']
  exact k'
theorem g_dconst1 (A : Ax p l e R s m args below meth c T locs cells slots B) (hd : decode B pc = .ok (.dconst 1, 1)) (hp : pc + 1 = pc') (k : Go p e below P T (mkF m pc' ls (.double (4607182418800017408 : UInt64) :: st))) : Go p e below P T (mkF m pc ls st) := by
  subst hp
  refine Go.of (fun t k' => ?_) k
  have h := A.1.here
  have hx := A.2.1
  have hd' := hb A.2.2 hd
  show Steps p.tables e below (T.setTop { method := m, pc := pc, locals := ls, stack := st, locked := none }) _
  jvm_step h [h.top, hx, hd']
  exact k'
theorem g_dadd (A : Ax p l e R s m args below meth c T locs cells slots B) {x y : UInt64} (hd : decode B pc = .ok (.dadd, 1)) (hn : NoNaN64 (FP.dadd x y)) (hp : pc + 1 = pc') (k : Go p e below P T (mkF m pc' ls (.double (FP.dadd x y) :: st))) : Go p e below P T (mkF m pc ls (.double y :: .double x :: st)) := by
  subst hp
  refine Go.of (fun t k' => ?_) k
  have h := A.1.here
  have hx := A.2.1
  have hd' := hb A.2.2 hd
  show Steps p.tables e below (T.setTop { method := m, pc := pc, locals := ls, stack := .double y :: .double x :: st, locked := none }) _
  jvm_step h [h.top, hx, hd', Op.dadd.at_number h.top hn]
  exact k'
theorem g_dsub (A : Ax p l e R s m args below meth c T locs cells slots B) {x y : UInt64} (hd : decode B pc = .ok (.dsub, 1)) (hn : NoNaN64 (FP.dsub x y)) (hp : pc + 1 = pc') (k : Go p e below P T (mkF m pc' ls (.double (FP.dsub x y) :: st))) : Go p e below P T (mkF m pc ls (.double y :: .double x :: st)) := by
  subst hp
  refine Go.of (fun t k' => ?_) k
  have h := A.1.here
  have hx := A.2.1
  have hd' := hb A.2.2 hd
  show Steps p.tables e below (T.setTop { method := m, pc := pc, locals := ls, stack := .double y :: .double x :: st, locked := none }) _
  jvm_step h [h.top, hx, hd', Op.dsub.at_number h.top hn]
  exact k'
theorem g_dmul (A : Ax p l e R s m args below meth c T locs cells slots B) {x y : UInt64} (hd : decode B pc = .ok (.dmul, 1)) (hn : NoNaN64 (FP.dmul x y)) (hp : pc + 1 = pc') (k : Go p e below P T (mkF m pc' ls (.double (FP.dmul x y) :: st))) : Go p e below P T (mkF m pc ls (.double y :: .double x :: st)) := by
  subst hp
  refine Go.of (fun t k' => ?_) k
  have h := A.1.here
  have hx := A.2.1
  have hd' := hb A.2.2 hd
  show Steps p.tables e below (T.setTop { method := m, pc := pc, locals := ls, stack := .double y :: .double x :: st, locked := none }) _
  jvm_step h [h.top, hx, hd', Op.dmul.at_number h.top hn]
  exact k'
theorem g_ddiv (A : Ax p l e R s m args below meth c T locs cells slots B) {x y : UInt64} (hd : decode B pc = .ok (.ddiv, 1)) (hn : NoNaN64 (FP.ddiv x y)) (hp : pc + 1 = pc') (k : Go p e below P T (mkF m pc' ls (.double (FP.ddiv x y) :: st))) : Go p e below P T (mkF m pc ls (.double y :: .double x :: st)) := by
  subst hp
  refine Go.of (fun t k' => ?_) k
  have h := A.1.here
  have hx := A.2.1
  have hd' := hb A.2.2 hd
  show Steps p.tables e below (T.setTop { method := m, pc := pc, locals := ls, stack := .double y :: .double x :: st, locked := none }) _
  jvm_step h [h.top, hx, hd', Op.ddiv.at_number h.top hn]
  exact k'
theorem g_daddL (A : Ax p l e R s m args below meth c T locs cells slots B) {x y z : UInt64} (hd : decode B pc = .ok (.dadd, 1)) (hz : FP.dadd x y = z) (hn : NoNaN64 z) (hp : pc + 1 = pc') (k : Go p e below P T (mkF m pc' ls (.double z :: st))) : Go p e below P T (mkF m pc ls (.double y :: .double x :: st)) := g_dadd A hd (hz.symm ▸ hn) hp (hz.symm ▸ k)
theorem g_dsubL (A : Ax p l e R s m args below meth c T locs cells slots B) {x y z : UInt64} (hd : decode B pc = .ok (.dsub, 1)) (hz : FP.dsub x y = z) (hn : NoNaN64 z) (hp : pc + 1 = pc') (k : Go p e below P T (mkF m pc' ls (.double z :: st))) : Go p e below P T (mkF m pc ls (.double y :: .double x :: st)) := g_dsub A hd (hz.symm ▸ hn) hp (hz.symm ▸ k)
theorem g_dmulL (A : Ax p l e R s m args below meth c T locs cells slots B) {x y z : UInt64} (hd : decode B pc = .ok (.dmul, 1)) (hz : FP.dmul x y = z) (hn : NoNaN64 z) (hp : pc + 1 = pc') (k : Go p e below P T (mkF m pc' ls (.double z :: st))) : Go p e below P T (mkF m pc ls (.double y :: .double x :: st)) := g_dmul A hd (hz.symm ▸ hn) hp (hz.symm ▸ k)
theorem g_ddivL (A : Ax p l e R s m args below meth c T locs cells slots B) {x y z : UInt64} (hd : decode B pc = .ok (.ddiv, 1)) (hz : FP.ddiv x y = z) (hn : NoNaN64 z) (hp : pc + 1 = pc') (k : Go p e below P T (mkF m pc' ls (.double z :: st))) : Go p e below P T (mkF m pc ls (.double y :: .double x :: st)) := g_ddiv A hd (hz.symm ▸ hn) hp (hz.symm ▸ k)
theorem g_dneg (A : Ax p l e R s m args below meth c T locs cells slots B) {x : UInt64} (hd : decode B pc = .ok (.dneg, 1)) (hp : pc + 1 = pc') (k : Go p e below P T (mkF m pc' ls (.double (FP.dneg x) :: st))) : Go p e below P T (mkF m pc ls (.double x :: st)) := by
  subst hp
  refine Go.of (fun t k' => ?_) k
  have h := A.1.here
  have hx := A.2.1
  have hd' := hb A.2.2 hd
  show Steps p.tables e below (T.setTop { method := m, pc := pc, locals := ls, stack := .double x :: st, locked := none }) _
  jvm_step h [h.top, hx, hd']
  exact k'
theorem g_i2d (A : Ax p l e R s m args below meth c T locs cells slots B) {x : Int32} (hd : decode B pc = .ok (.i2d, 1)) (hp : pc + 1 = pc') (k : Go p e below P T (mkF m pc' ls (.double (FP.i2d x) :: st))) : Go p e below P T (mkF m pc ls (.int x :: st)) := by
  subst hp
  refine Go.of (fun t k' => ?_) k
  have h := A.1.here
  have hx := A.2.1
  have hd' := hb A.2.2 hd
  show Steps p.tables e below (T.setTop { method := m, pc := pc, locals := ls, stack := .int x :: st, locked := none }) _
  jvm_step h [h.top, hx, hd']
  exact k'
theorem g_l2d (A : Ax p l e R s m args below meth c T locs cells slots B) {x : Int64} (hd : decode B pc = .ok (.l2d, 1)) (hp : pc + 1 = pc') (k : Go p e below P T (mkF m pc' ls (.double (FP.l2d x) :: st))) : Go p e below P T (mkF m pc ls (.long x :: st)) := by
  subst hp
  refine Go.of (fun t k' => ?_) k
  have h := A.1.here
  have hx := A.2.1
  have hd' := hb A.2.2 hd
  show Steps p.tables e below (T.setTop { method := m, pc := pc, locals := ls, stack := .long x :: st, locked := none }) _
  jvm_step h [h.top, hx, hd']
  exact k'
theorem g_dcmp (A : Ax p l e R s m args below meth c T locs cells slots B) {x y : UInt64} {op : CmpOp} (hd : decode B pc = .ok (.dcmp op, 1)) (hp : pc + 1 = pc') (k : Go p e below P T (mkF m pc' ls (.int (cmpValue (FP.dcmp x y) op) :: st))) : Go p e below P T (mkF m pc ls (.double y :: .double x :: st)) := by
  subst hp
  refine Go.of (fun t k' => ?_) k
  have h := A.1.here
  have hx := A.2.1
  have hd' := hb A.2.2 hd
  show Steps p.tables e below (T.setTop { method := m, pc := pc, locals := ls, stack := .double y :: .double x :: st, locked := none }) _
  jvm_step h [h.top, hx, hd']
  exact k'
theorem g_lcmp (A : Ax p l e R s m args below meth c T locs cells slots B) {x y : Int64} (hd : decode B pc = .ok (.lcmp, 1)) (hp : pc + 1 = pc') (k : Go p e below P T (mkF m pc' ls (.int (XT.cmpL x y) :: st))) : Go p e below P T (mkF m pc ls (.long y :: .long x :: st)) := by
  subst hp; exact Go.of (fun _ k' => XT.lcmp A.1.here A.2.1 rfl (hb A.2.2 hd) rfl k') k
theorem g_dup (A : Ax p l e R s m args below meth c T locs cells slots B) {x : Value} (hd : decode B pc = .ok (.dup, 1)) (hc : x.category = 1) (hp : pc + 1 = pc') (k : Go p e below P T (mkF m pc' ls (x :: x :: st))) : Go p e below P T (mkF m pc ls (x :: st)) := by
  subst hp; exact Go.of (fun _ k' => XS.dup A.1.here A.2.1 rfl (hb A.2.2 hd) rfl hc k') k
theorem g_pop (A : Ax p l e R s m args below meth c T locs cells slots B) {x : Value} (hd : decode B pc = .ok (.pop, 1)) (hc : x.category = 1) (hp : pc + 1 = pc') (k : Go p e below P T (mkF m pc' ls st)) : Go p e below P T (mkF m pc ls (x :: st)) := by
  subst hp; exact Go.of (fun _ k' => XT.pop A.1.here A.2.1 rfl (hb A.2.2 hd) rfl hc k') k
theorem g_iinc (A : Ax p l e R s m args below meth c T locs cells slots B) {k : Nat} {i : Int} {x y : Int32} (hd : decode B pc = .ok (.iinc k i, 3)) (hl : ls[k]? = some (.val (.int x))) (hy : x + Int32.ofInt i = y) (hl' : storeLocals ls k (.int y) = some ls') (hp : pc + 3 = pc') (k : Go p e below P T (mkF m pc' ls' st)) : Go p e below P T (mkF m pc ls st) := by
  subst hp hy; exact Go.of (fun _ k' => XS.iinc A.1.here A.2.1 rfl (hb A.2.2 hd) hl hl' k') k
theorem own_off {pc pc' : Nat} {o : Int} (h : (pc : Int) + o = (pc' : Int)) : 0 ≤ (pc : Int) + o ∧ ((pc : Int) + o).toNat = pc' := by omega
theorem g_goto (A : Ax p l e R s m args below meth c T locs cells slots B) {o : Int} (hd : decode B pc = .ok (.goto o, 3)) (hp : (pc : Int) + o = (pc' : Int)) (k : Go p e below P T (mkF m pc' ls st)) : Go p e below P T (mkF m pc ls st) := Go.of (fun _ k' => XS.goto A.1.here A.2.1 rfl rfl (hb A.2.2 hd) (own_off hp).1 (own_off hp).2 k') k
theorem g_ifY (A : Ax p l e R s m args below meth c T locs cells slots B) {o : Int} {cd : ClassFile.Cond} {x : Int32} (hd : decode B pc = .ok (.ifCond cd o, 3)) (hc : ifCond.holds cd x = true) (hp : (pc : Int) + o = (pc' : Int)) (k : Go p e below P T (mkF m pc' ls st)) : Go p e below P T (mkF m pc ls (.int x :: st)) := Go.of (fun _ k' => XS.ifYes A.1.here A.2.1 rfl rfl (hb A.2.2 hd) rfl hc (own_off hp).1 (own_off hp).2 k') k
theorem g_ifN (A : Ax p l e R s m args below meth c T locs cells slots B) {o : Int} {cd : ClassFile.Cond} {x : Int32} (hd : decode B pc = .ok (.ifCond cd o, 3)) (hc : ifCond.holds cd x = false) (hp : pc + 3 = pc') (k : Go p e below P T (mkF m pc' ls st)) : Go p e below P T (mkF m pc ls (.int x :: st)) := by
  subst hp; exact Go.of (fun _ k' => XS.ifNo A.1.here A.2.1 rfl (hb A.2.2 hd) rfl hc k') k
theorem g_icY (A : Ax p l e R s m args below meth c T locs cells slots B) {o : Int} {cd : ClassFile.Cond} {x y : Int32} (hd : decode B pc = .ok (.if_icmp cd o, 3)) (hc : if_icmp.holds cd x y = true) (hp : (pc : Int) + o = (pc' : Int)) (k : Go p e below P T (mkF m pc' ls st)) : Go p e below P T (mkF m pc ls (.int y :: .int x :: st)) := Go.of (fun _ k' => XS.icmpYes A.1.here A.2.1 rfl rfl (hb A.2.2 hd) rfl hc (own_off hp).1 (own_off hp).2 k') k
theorem g_icN (A : Ax p l e R s m args below meth c T locs cells slots B) {o : Int} {cd : ClassFile.Cond} {x y : Int32} (hd : decode B pc = .ok (.if_icmp cd o, 3)) (hc : if_icmp.holds cd x y = false) (hp : pc + 3 = pc') (k : Go p e below P T (mkF m pc' ls st)) : Go p e below P T (mkF m pc ls (.int y :: .int x :: st)) := by
  subst hp; exact Go.of (fun _ k' => XS.icmpNo A.1.here A.2.1 rfl (hb A.2.2 hd) rfl hc k') k
theorem c0_eq_t {x : Int32} (h : x = 0) : ifCond.holds .eq x = true := (if0 _ _).trans (teq h).1
theorem c0_eq_f {x : Int32} (h : ¬ x = 0) : ifCond.holds .eq x = false := (if0 _ _).trans (feq h).1
theorem c0_ne_t {x : Int32} (h : ¬ x = 0) : ifCond.holds .ne x = true := (if0 _ _).trans (feq h).2
theorem c0_ne_f {x : Int32} (h : x = 0) : ifCond.holds .ne x = false := (if0 _ _).trans (teq h).2
theorem c0_lt_t {x : Int32} (h : x < 0) : ifCond.holds .lt x = true := (if0 _ _).trans (tlt h).1
theorem c0_lt_f {x : Int32} (h : ¬ x < 0) : ifCond.holds .lt x = false := (if0 _ _).trans (flt h).1
theorem c0_ge_t {x : Int32} (h : ¬ x < 0) : ifCond.holds .ge x = true := (if0 _ _).trans (flt h).2.1
theorem c0_ge_f {x : Int32} (h : x < 0) : ifCond.holds .ge x = false := (if0 _ _).trans (tlt h).2.1
theorem c0_gt_t {x : Int32} (h : 0 < x) : ifCond.holds .gt x = true := (if0 _ _).trans (tlt h).2.2.1
theorem c0_gt_f {x : Int32} (h : ¬ 0 < x) : ifCond.holds .gt x = false := (if0 _ _).trans (flt h).2.2.1
theorem c0_le_t {x : Int32} (h : ¬ 0 < x) : ifCond.holds .le x = true := (if0 _ _).trans (flt h).2.2.2
theorem c0_le_f {x : Int32} (h : 0 < x) : ifCond.holds .le x = false := (if0 _ _).trans (tlt h).2.2.2
theorem c2_eq_t {x y : Int32} (h : x = y) : if_icmp.holds .eq x y = true := (teq h).1
theorem c2_eq_f {x y : Int32} (h : ¬ x = y) : if_icmp.holds .eq x y = false := (feq h).1
theorem c2_ne_t {x y : Int32} (h : ¬ x = y) : if_icmp.holds .ne x y = true := (feq h).2
theorem c2_ne_f {x y : Int32} (h : x = y) : if_icmp.holds .ne x y = false := (teq h).2
theorem c2_lt_t {x y : Int32} (h : x < y) : if_icmp.holds .lt x y = true := (tlt h).1
theorem c2_lt_f {x y : Int32} (h : ¬ x < y) : if_icmp.holds .lt x y = false := (flt h).1
theorem c2_ge_t {x y : Int32} (h : ¬ x < y) : if_icmp.holds .ge x y = true := (flt h).2.1
theorem c2_ge_f {x y : Int32} (h : x < y) : if_icmp.holds .ge x y = false := (tlt h).2.1
theorem c2_gt_t {x y : Int32} (h : y < x) : if_icmp.holds .gt x y = true := (tlt h).2.2.1
theorem c2_gt_f {x y : Int32} (h : ¬ y < x) : if_icmp.holds .gt x y = false := (flt h).2.2.1
theorem c2_le_t {x y : Int32} (h : ¬ y < x) : if_icmp.holds .le x y = true := (flt h).2.2.2
theorem c2_le_f {x y : Int32} (h : y < x) : if_icmp.holds .le x y = false := (tlt h).2.2.2
theorem b0_eq_t {C : Prop} [Decidable C] {v : Int32} (e : v = if C then 1 else 0) (h : ¬ C) : ifCond.holds .eq v = true := c0_eq_t (by rw [e, if_neg h])
theorem b0_eq_f {C : Prop} [Decidable C] {v : Int32} (e : v = if C then 1 else 0) (h : C) : ifCond.holds .eq v = false := c0_eq_f (by rw [e, if_pos h]; decide)
theorem b0_ne_t {C : Prop} [Decidable C] {v : Int32} (e : v = if C then 1 else 0) (h : C) : ifCond.holds .ne v = true := c0_ne_t (by rw [e, if_pos h]; decide)
theorem b0_ne_f {C : Prop} [Decidable C] {v : Int32} (e : v = if C then 1 else 0) (h : ¬ C) : ifCond.holds .ne v = false := c0_ne_f (by rw [e, if_neg h])
theorem own_b01 {C : Prop} [Decidable C] {v : Int32} (e : v = if C then 1 else 0) : narrow .boolean (.int v) = .int v := by
  subst e; by_cases h : C
  · rw [if_pos h]; rfl
  · rw [if_neg h]; rfl
theorem own_fb {C : Prop} [Decidable C] {v : Int32} (e : v = if C then 1 else 0) : fits .boolean (.int v) = true := by
  subst e; by_cases h : C
  · rw [if_pos h]; rfl
  · rw [if_neg h]; rfl
theorem own_ndadd {x y : UInt64} (h1 : Fin64 x) (h2 : Fin64 y) : NoNaN64 (FP.dadd x y) := dadd_out h1.noNaN h2
theorem own_ndsub {x y : UInt64} (h1 : Fin64 x) (h2 : Fin64 y) : NoNaN64 (FP.dsub x y) := dsub_out h1.noNaN h2
theorem own_ndmul {x y : UInt64} (h1 : Fin64 x) (h2 : Fin64 y) : NoNaN64 (FP.dmul x y) := dmul_out h1 h2
theorem own_fin {x : UInt64} : Fin64 x ↔ FP.Core.DFin x := fin64_core
theorem own_fneg {x : UInt64} (h : Fin64 x) : Fin64 (FP.dneg x) := by
  obtain ⟨s, c, q, e⟩ := fin64_core.mp h
  exact fin64_core.mpr ⟨!s, c, q, (FP.val64_dneg x).trans (by rw [e]; rfl)⟩
theorem own_self {x : UInt64} (h : Fin64 x) : FP.dcmp x x = some .eq := FP.Core.dcmp_self (fin64_core.mp h).ne_nan
theorem own_sgt {x : UInt64} (h : Fin64 x) : ¬ FP.dcmp x x = some .gt := by rw [own_self h]; decide
theorem own_slt {x : UInt64} (h : Fin64 x) : ¬ FP.dcmp x x = some .lt := by rw [own_self h]; decide
theorem own_and {c d : Jvm.Cond} {a : Array Value} {s : State} (h1 : c.before a s = true) (h2 : d.before a s = true) : (Jvm.Cond.and c d).before a s = true := by rw [Cond.before_and, h1, h2]; rfl
theorem own_isfin {x : UInt64} (h : Fin64 x) : some (Value.int (if Jvm.Free.Fl.relLe (FP.dcmp (x &&& 0x7fffffffffffffff) Jvm.Free.Fl.maxD) = true then (1 : Int32) else 0)) = some (.int (1 : Int32)) := by rw [if_pos ((le_max_iff h.noNaN).mpr h)]
theorem own_isinf {x : UInt64} (h : Fin64 x) : some (Value.int (if Jvm.Free.Fl.relGt (FP.dcmp (x &&& 0x7fffffffffffffff) Jvm.Free.Fl.maxD) = true then (1 : Int32) else 0)) = some (.int (0 : Int32)) := by rw [if_neg (fun h4 => (gt_max_iff h.noNaN).mp h4 h)]
theorem own_dfin {i : Int} {x : UInt64} (h : FP.Core.DInt i x) : Fin64 x := by
  refine fin64_core.mpr ?_
  have q : FP.Core.Whole i (FP.Core.val64 x) := h
  cases e : FP.Core.val64 x with
  | nan => rw [e] at q; exact q.elim
  | inf s => rw [e] at q; exact q.elim
  | fin s c q => exact ⟨s, c, q, e⟩
theorem own_fn {v : Int32} (h : narrow .boolean (.int v) = .int v) : fits .boolean (.int v) = true := by
  have q : v &&& 1 = v := Value.int.inj h
  rcases and_one v with z | z <;> rw [z] at q <;> subst q <;> rfl
/-- a double less than, equal to .. another, as the code asks it -/
abbrev oGe (o : Option Ordering) : Prop := o = some .gt ∨ o = some .eq
abbrev oLe (o : Option Ordering) : Prop := o = some .lt ∨ o = some .eq
theorem d_l_eq_t {o : Option Ordering} (h : o = some .eq) : ifCond.holds .eq (cmpValue o .l) = true := by
  rcases o with _ | _ | _ | _ <;> first | rfl | decide | (exfalso; revert h; decide)
theorem d_l_eq_f {o : Option Ordering} (h : ¬ o = some .eq) : ifCond.holds .eq (cmpValue o .l) = false := by
  rcases o with _ | _ | _ | _ <;> first | rfl | decide | (exfalso; revert h; decide)
theorem d_l_ne_t {o : Option Ordering} (h : ¬ o = some .eq) : ifCond.holds .ne (cmpValue o .l) = true := by
  rcases o with _ | _ | _ | _ <;> first | rfl | decide | (exfalso; revert h; decide)
theorem d_l_ne_f {o : Option Ordering} (h : o = some .eq) : ifCond.holds .ne (cmpValue o .l) = false := by
  rcases o with _ | _ | _ | _ <;> first | rfl | decide | (exfalso; revert h; decide)
theorem d_g_eq_t {o : Option Ordering} (h : o = some .eq) : ifCond.holds .eq (cmpValue o .g) = true := by
  rcases o with _ | _ | _ | _ <;> first | rfl | decide | (exfalso; revert h; decide)
theorem d_g_eq_f {o : Option Ordering} (h : ¬ o = some .eq) : ifCond.holds .eq (cmpValue o .g) = false := by
  rcases o with _ | _ | _ | _ <;> first | rfl | decide | (exfalso; revert h; decide)
theorem d_g_ne_t {o : Option Ordering} (h : ¬ o = some .eq) : ifCond.holds .ne (cmpValue o .g) = true := by
  rcases o with _ | _ | _ | _ <;> first | rfl | decide | (exfalso; revert h; decide)
theorem d_g_ne_f {o : Option Ordering} (h : o = some .eq) : ifCond.holds .ne (cmpValue o .g) = false := by
  rcases o with _ | _ | _ | _ <;> first | rfl | decide | (exfalso; revert h; decide)
theorem d_l_lt_t {o : Option Ordering} (h : ¬ oGe o) : ifCond.holds .lt (cmpValue o .l) = true := by
  rcases o with _ | _ | _ | _ <;> first | rfl | decide | (exfalso; revert h; decide)
theorem d_l_lt_f {o : Option Ordering} (h : oGe o) : ifCond.holds .lt (cmpValue o .l) = false := by
  rcases o with _ | _ | _ | _ <;> first | rfl | decide | (exfalso; revert h; decide)
theorem d_l_ge_t {o : Option Ordering} (h : oGe o) : ifCond.holds .ge (cmpValue o .l) = true := by
  rcases o with _ | _ | _ | _ <;> first | rfl | decide | (exfalso; revert h; decide)
theorem d_l_ge_f {o : Option Ordering} (h : ¬ oGe o) : ifCond.holds .ge (cmpValue o .l) = false := by
  rcases o with _ | _ | _ | _ <;> first | rfl | decide | (exfalso; revert h; decide)
theorem d_l_gt_t {o : Option Ordering} (h : o = some .gt) : ifCond.holds .gt (cmpValue o .l) = true := by
  rcases o with _ | _ | _ | _ <;> first | rfl | decide | (exfalso; revert h; decide)
theorem d_l_gt_f {o : Option Ordering} (h : ¬ o = some .gt) : ifCond.holds .gt (cmpValue o .l) = false := by
  rcases o with _ | _ | _ | _ <;> first | rfl | decide | (exfalso; revert h; decide)
theorem d_l_le_t {o : Option Ordering} (h : ¬ o = some .gt) : ifCond.holds .le (cmpValue o .l) = true := by
  rcases o with _ | _ | _ | _ <;> first | rfl | decide | (exfalso; revert h; decide)
theorem d_l_le_f {o : Option Ordering} (h : o = some .gt) : ifCond.holds .le (cmpValue o .l) = false := by
  rcases o with _ | _ | _ | _ <;> first | rfl | decide | (exfalso; revert h; decide)
theorem d_g_lt_t {o : Option Ordering} (h : o = some .lt) : ifCond.holds .lt (cmpValue o .g) = true := by
  rcases o with _ | _ | _ | _ <;> first | rfl | decide | (exfalso; revert h; decide)
theorem d_g_lt_f {o : Option Ordering} (h : ¬ o = some .lt) : ifCond.holds .lt (cmpValue o .g) = false := by
  rcases o with _ | _ | _ | _ <;> first | rfl | decide | (exfalso; revert h; decide)
theorem d_g_ge_t {o : Option Ordering} (h : ¬ o = some .lt) : ifCond.holds .ge (cmpValue o .g) = true := by
  rcases o with _ | _ | _ | _ <;> first | rfl | decide | (exfalso; revert h; decide)
theorem d_g_ge_f {o : Option Ordering} (h : o = some .lt) : ifCond.holds .ge (cmpValue o .g) = false := by
  rcases o with _ | _ | _ | _ <;> first | rfl | decide | (exfalso; revert h; decide)
theorem d_g_gt_t {o : Option Ordering} (h : ¬ oLe o) : ifCond.holds .gt (cmpValue o .g) = true := by
  rcases o with _ | _ | _ | _ <;> first | rfl | decide | (exfalso; revert h; decide)
theorem d_g_gt_f {o : Option Ordering} (h : oLe o) : ifCond.holds .gt (cmpValue o .g) = false := by
  rcases o with _ | _ | _ | _ <;> first | rfl | decide | (exfalso; revert h; decide)
theorem d_g_le_t {o : Option Ordering} (h : oLe o) : ifCond.holds .le (cmpValue o .g) = true := by
  rcases o with _ | _ | _ | _ <;> first | rfl | decide | (exfalso; revert h; decide)
theorem d_g_le_f {o : Option Ordering} (h : ¬ oLe o) : ifCond.holds .le (cmpValue o .g) = false := by
  rcases o with _ | _ | _ | _ <;> first | rfl | decide | (exfalso; revert h; decide)
theorem l_eq (x y : Int64) : XT.cmpL x y = 0 ↔ x = y := lw_eq x y
theorem l_lt (x y : Int64) : XT.cmpL x y < 0 ↔ x < y := lw_lt x y
theorem l_gt (x y : Int64) : 0 < XT.cmpL x y ↔ y < x := lw_gt x y
theorem g_ret (A : Ax p l e R s m args below meth c T locs cells slots B) {w : Value} {t : FieldType} {i : Instr} {Q : Option Value → Heap → List Loc → Prop} {K S : Nat} (hd : decode B pc = .ok (i, 1)) (hlk : meth.locks = false) (hret : meth.sig.returnType = some t) (hn : narrow t w = w)
    (hi : (i = .ireturn ∧ (t = .int ∨ t = .boolean ∨ t = .byte ∨ t = .char ∨ t = .short) ∧ ∃ z, w = .int z) ∨ (i = .lreturn ∧ t = .long ∧ ∃ z, w = .long z) ∨ (i = .dreturn ∧ t = .double ∧ ∃ z, w = .double z) ∨ (i = .freturn ∧ t = .float ∧ ∃ z, w = .float z) ∨ (i = .areturn ∧ t.isReference = true ∧ w.isRef = true))
    (hK : cells ≤ K) (hS : slots ≤ S) (hQ : Q (some w) T.heap locs) : Go p e below (fun U o => ∃ v L, o = .returned v ∧ Q v U.heap L ∧ FrameEnd s o U L K S) T (mkF m pc ls (w :: st)) := by
  obtain ⟨fs, hr, hrun, hended, hW, hsame⟩ := A.1.leave (v := some w) (fun h => by rw [hret] at h; cases h) hlk
  exact ⟨_, _, retOut A.1 A.2.1 hret hn hi (hb A.2.2 hd) hr, hrun, hended, _, _, rfl, hQ, ⟨_, rfl⟩, hW, hsame.mono hK hS⟩
theorem g_retV (A : Ax p l e R s m args below meth c T locs cells slots B) {Q : Option Value → Heap → List Loc → Prop} {K S : Nat} (hd : decode B pc = .ok (.return_, 1)) (hlk : meth.locks = false) (hret : meth.sig.returnType = none)
    (hK : cells ≤ K) (hS : slots ≤ S) (hQ : Q none T.heap locs) : Go p e below (fun U o => ∃ v L, o = .returned v ∧ Q v U.heap L ∧ FrameEnd s o U L K S) T (mkF m pc ls []) := by
  obtain ⟨fs, hr, hrun, hended, hW, hsame⟩ := A.1.leave (v := none) (fun _ => rfl) hlk
  exact ⟨_, _, A.1.returnOut A.2.1 hret (hb A.2.2 hd) hr, hrun, hended, _, _, rfl, hQ, ⟨_, rfl⟩, hW, hsame.mono hK hS⟩
theorem g_ldcI (A : Ax p l e R s m args below meth c T locs cells slots B) {Z : State} {a0 : Array Value} {own : String} {i : Nat} {v : Int32} (hZ : Z.Warmed39 s.vm) (hown : s.vm.findClass own = some m.cls) (w : (Jvm.Cond.constant own i v).before a0 Z = true) (hd : decode B pc = .ok (.ldc i, 2)) (hp : pc + 2 = pc') (k : Go p e below P T (mkF m pc' ls (.int v :: st))) : Go p e below P T (mkF m pc ls st) := by
  subst hp; exact Go.of (A.1.ldcInt A.2.1 hown (mvT hZ w) (g := mkF m pc ls st) rfl (hb A.2.2 hd)) k
theorem g_ldcD (A : Ax p l e R s m args below meth c T locs cells slots B) {Z : State} {a0 : Array Value} {own : String} {i : Nat} {v : UInt64} (hZ : Z.Warmed39 s.vm) (hown : s.vm.findClass own = some m.cls) (w : (Jvm.Cond.constantDouble own i v).before a0 Z = true) (hd : decode B pc = .ok (.ldc2_w i, 3)) (hp : pc + 3 = pc') (k : Go p e below P T (mkF m pc' ls (.double v :: st))) : Go p e below P T (mkF m pc ls st) := by
  subst hp; exact Go.of (A.1.ldc2DoubleC A.2.1 hown (mvT hZ w) (g := mkF m pc ls st) rfl (hb A.2.2 hd)) k
theorem g_ldcL (A : Ax p l e R s m args below meth c T locs cells slots B) {Z : State} {a0 : Array Value} {own : String} {i : Nat} {v : Int64} (hZ : Z.Warmed39 s.vm) (hown : s.vm.findClass own = some m.cls) (w : (Jvm.Cond.constantLong own i v).before a0 Z = true) (hd : decode B pc = .ok (.ldc2_w i, 3)) (hp : pc + 3 = pc') (k : Go p e below P T (mkF m pc' ls (.long v :: st))) : Go p e below P T (mkF m pc ls st) := by
  subst hp; exact Go.of (A.1.ldc2Long A.2.1 hown (mvT hZ w) (g := mkF m pc ls st) rfl (hb A.2.2 hd)) k
theorem g_nnY (A : Ax p l e R s m args below meth c T locs cells slots B) {o : Int} {b : Addr} (hd : decode B pc = .ok (.ifnonnull o, 3)) (hp : (pc : Int) + o = (pc' : Int)) (k : Go p e below P T (mkF m pc' ls st)) : Go p e below P T (mkF m pc ls (.ref b :: st)) := Go.of (fun _ k' => XT.ifnonnullYes A.1.here A.2.1 rfl rfl (hb A.2.2 hd) rfl (own_off hp).1 (own_off hp).2 k') k
theorem g_nnN (A : Ax p l e R s m args below meth c T locs cells slots B) {o : Int} (hd : decode B pc = .ok (.ifnonnull o, 3)) (hp : pc + 3 = pc') (k : Go p e below P T (mkF m pc' ls st)) : Go p e below P T (mkF m pc ls (.null :: st)) := by
  subst hp; exact Go.of (fun _ k' => XT.ifnonnullNo A.1.here A.2.1 rfl (hb A.2.2 hd) rfl k') k
theorem g_nuY (A : Ax p l e R s m args below meth c T locs cells slots B) {o : Int} (hd : decode B pc = .ok (.ifnull o, 3)) (hp : (pc : Int) + o = (pc' : Int)) (k : Go p e below P T (mkF m pc' ls st)) : Go p e below P T (mkF m pc ls (.null :: st)) := Go.of (fun _ k' => XS.ifnullYes A.1.here A.2.1 rfl rfl (hb A.2.2 hd) rfl (own_off hp).1 (own_off hp).2 k') k
theorem g_nuN (A : Ax p l e R s m args below meth c T locs cells slots B) {o : Int} {b : Addr} (hd : decode B pc = .ok (.ifnull o, 3)) (hp : pc + 3 = pc') (k : Go p e below P T (mkF m pc' ls st)) : Go p e below P T (mkF m pc ls (.ref b :: st)) := by
  subst hp; exact Go.of (fun _ k' => XS.ifnullNo A.1.here A.2.1 rfl (hb A.2.2 hd) rfl k') k
theorem g_acY (A : Ax p l e R s m args below meth c T locs cells slots B) {o : Int} {cd : ClassFile.ACond} {x y : Value} (hd : decode B pc = .ok (.if_acmp cd o, 3)) (h1 : x.isRef = true) (h2 : y.isRef = true) (hc : XT.acmp cd x y = true) (hp : (pc : Int) + o = (pc' : Int)) (k : Go p e below P T (mkF m pc' ls st)) : Go p e below P T (mkF m pc ls (y :: x :: st)) := Go.of (fun _ k' => XT.acmpYes A.1.here A.2.1 rfl rfl (hb A.2.2 hd) rfl h1 h2 hc (own_off hp).1 (own_off hp).2 k') k
theorem g_acN (A : Ax p l e R s m args below meth c T locs cells slots B) {o : Int} {cd : ClassFile.ACond} {x y : Value} (hd : decode B pc = .ok (.if_acmp cd o, 3)) (h1 : x.isRef = true) (h2 : y.isRef = true) (hc : XT.acmp cd x y = false) (hp : pc + 3 = pc') (k : Go p e below P T (mkF m pc' ls st)) : Go p e below P T (mkF m pc ls (y :: x :: st)) := by
  subst hp; exact Go.of (fun _ k' => XT.acmpNo A.1.here A.2.1 rfl (hb A.2.2 hd) rfl h1 h2 hc k') k
/-- an array of n places: its i-th holds f i -/
def Dar (Z : State) (h : Heap) (a : Addr) (ty : FieldType) (n : Nat) (f : Nat → Value) : Prop := ∃ cl : Cell, RoadKit.Arr Z h a cl ty ∧ cl.slots.size = n ∧ n < 2147483648 ∧ ∀ i, i < n → cl.slots[i]? = some (f i)
variable {Z : State} {h h' : Heap} {a b : Addr} {ty : FieldType} {n : Nat} {f g : Nat → Value} {sl : Nat} {v : Value} {ws : List Addr}
theorem Dar.lt (F : Dar Z h a ty n f) : a < h.size := by obtain ⟨cl, A, -⟩ := F; exact A.lt
theorem Dar.ext (E : Ext h h') (F : Dar Z h a ty n f) : Dar Z h' a ty n f := by obtain ⟨cl, A, r⟩ := F; exact ⟨cl, A.ext E, r⟩
theorem Dar.other (W : Wr h h' b sl v) (F : Dar Z h a ty n f) (q : a ≠ b) : Dar Z h' a ty n f := by obtain ⟨cl, A, r⟩ := F; exact ⟨cl, A.other W q, r⟩
theorem Dar.keep (F : Dar Z h a ty n f) (K : Keep h h' ws) (q : a ∉ ws) : Dar Z h' a ty n f := by obtain ⟨cl, A, r⟩ := F; exact ⟨cl, ⟨K.2.1 a cl A.1 q, A.2⟩, r⟩
theorem Dar.congr (F : Dar Z h a ty n f) (q : ∀ i, i < n → f i = g i) : Dar Z h a ty n g := by obtain ⟨cl, A, r1, r2, r3⟩ := F; exact ⟨cl, A, r1, r2, fun i hi => by rw [← q i hi]; exact r3 i hi⟩
theorem Dar.new {cA : ClassId} {z : Int32} (A : RoadKit.Arr Z h a (newA cA ty z) ty) (hz : z.toNatClampNeg = n) : Dar Z h a ty n (fun _ => defaultValue ty) := by
  refine ⟨_, A, (sz_new _ _ _).trans hz, ?_, fun i hi => by subst hz; simp [newA, hi]⟩
  have := z.toInt_lt
  rw [← hz, Int32.toNatClampNeg]; omega
theorem Dar.ne_exa {a0 : Array Value} {k : Nat} {C : String} (F : Dar Z h a ty n f) (E : Exa Z h b C) (wi : (Jvm.Cond.instantiable C k).before a0 Z = true) : a ≠ b := by obtain ⟨cl, A, -⟩ := F; exact fun q => ne_arr E wi A q.symm
theorem own_ne {a b : Nat} {h : Heap} (g : a = h.size) (q : b < h.size) : b ≠ a := by rw [g]; exact Nat.ne_of_lt q
theorem own_clamp {i : Nat} (hi : i < 2147483648) : (Int32.ofNat i).toNatClampNeg = i ∧ ¬ Int32.ofNat i < 0 := by
  have e : (Int32.ofNat i).toInt = i := Int32.toInt_ofNat_of_lt hi
  refine ⟨by rw [Int32.toNatClampNeg, e]; omega, fun q => ?_⟩
  rw [Int32.lt_iff_toInt_lt, e] at q
  have : (0 : Int32).toInt = 0 := rfl
  omega
theorem Dar.set {i : Nat} (F : Dar Z h a ty n f) (W : Wr h h' a i v) (q : ∀ j, j < n → g j = if j = i then v else f j) : Dar Z h' a ty n g := by
  obtain ⟨cl, A, r1, r2, r3⟩ := F
  refine ⟨_, A.same W, (sz_set _ _ _).trans r1, r2, fun j hj => ?_⟩
  rw [q j hj]
  by_cases e : j = i
  · subst e; rw [if_pos rfl]; simp [Cell.setSlot, r1, hj]
  · rw [if_neg e]; exact (Array.getElem?_setIfInBounds_ne (Ne.symm e)).trans (r3 j hj)
theorem own_in {cl : Cell} {i : Nat} (S : cl.slots.size = n) (hn : n < 2147483648) (hi : i < n) : ¬ (Int32.ofNat i < 0 ∨ cl.slots.size ≤ (Int32.ofNat i).toNatClampNeg) := by
  obtain ⟨q1, q2⟩ := own_clamp (i := i) (by omega)
  rw [q1, S]; exact fun z => z.elim q2 (by omega)
theorem g_daload (A : Ax p l e R s m args below meth c T locs cells slots B) (hZ : Z.Warmed39 s.vm) (eT : T.heap = h) {j : Int32} {i : Nat} {x : UInt64} (F : Dar Z h a .double n f) (hi : i < n) (hj : j = Int32.ofNat i) (hv : f i = .double x) (hd : decode B pc = .ok (.daload, 1)) (hp : pc + 1 = pc') (k : Go p e below P T (mkF m pc' ls (.double x :: st))) : Go p e below P T (mkF m pc ls (.int j :: .ref a :: st)) := by
  subst hp hj
  obtain ⟨cl, A2, r1, r2, r3⟩ := F
  have q := (own_clamp (i := i) (by omega)).1
  exact Go.of (fun t k' => A.1.daload A.2.1 (j := Int32.ofNat i) (v := .double x) (by rw [eT]; exact A2.1) (State.isArrayOf_alike hZ.alike A2.2.1) A2.2.2 (own_in r1 r2 hi) (by rw [q, ← hv]; exact r3 i hi) (g := mkF m pc ls (.int (Int32.ofNat i) :: .ref a :: st)) rfl rfl (hb A.2.2 hd) t k') k
theorem g_iaload (A : Ax p l e R s m args below meth c T locs cells slots B) (hZ : Z.Warmed39 s.vm) (eT : T.heap = h) {j : Int32} {i : Nat} {x : Int32} (F : Dar Z h a .int n f) (hi : i < n) (hj : j = Int32.ofNat i) (hv : f i = .int x) (hd : decode B pc = .ok (.iaload, 1)) (hp : pc + 1 = pc') (k : Go p e below P T (mkF m pc' ls (.int x :: st))) : Go p e below P T (mkF m pc ls (.int j :: .ref a :: st)) := by
  subst hp hj
  obtain ⟨cl, A2, r1, r2, r3⟩ := F
  have q := (own_clamp (i := i) (by omega)).1
  exact Go.of (fun t k' => A.1.iaload A.2.1 (j := Int32.ofNat i) (v := .int x) (by rw [eT]; exact A2.1) (State.isArrayOf_alike hZ.alike A2.2.1) A2.2.2 (own_in r1 r2 hi) (by rw [q, ← hv]; exact r3 i hi) (g := mkF m pc ls (.int (Int32.ofNat i) :: .ref a :: st)) rfl rfl (hb A.2.2 hd) t k') k
theorem g_baload (A : Ax p l e R s m args below meth c T locs cells slots B) (hZ : Z.Warmed39 s.vm) (eT : T.heap = h) {j : Int32} {i : Nat} {x : Int32} (F : Dar Z h a .boolean n f) (hi : i < n) (hj : j = Int32.ofNat i) (hv : f i = .int x) (hd : decode B pc = .ok (.baload, 1)) (hp : pc + 1 = pc') (k : Go p e below P T (mkF m pc' ls (.int x :: st))) : Go p e below P T (mkF m pc ls (.int j :: .ref a :: st)) := by
  subst hp hj
  obtain ⟨cl, A2, r1, r2, r3⟩ := F
  have q := (own_clamp (i := i) (by omega)).1
  exact Go.of (fun t k' => A.1.baloadBooleans A.2.1 (j := Int32.ofNat i) (v := .int x) (by rw [eT]; exact A2.1) (State.isArrayOf_alike hZ.alike A2.2.1) A2.2.2 (own_in r1 r2 hi) (by rw [q, ← hv]; exact r3 i hi) (g := mkF m pc ls (.int (Int32.ofNat i) :: .ref a :: st)) rfl rfl (hb A.2.2 hd) t k') k
theorem g_alen (A : Ax p l e R s m args below meth c T locs cells slots B) (hZ : Z.Warmed39 s.vm) (eT : T.heap = h) (F : Dar Z h a ty n f) (hd : decode B pc = .ok (.arraylength, 1)) {z : Int32} (hz : Int32.ofNat n = z) (hp : pc + 1 = pc') (k : Go p e below P T (mkF m pc' ls (.int z :: st))) : Go p e below P T (mkF m pc ls (.ref a :: st)) := by
  subst hp hz
  obtain ⟨cl, A2, r1, r2, r3⟩ := F
  exact Go.of (fun t k' => A.1.arraylength A.2.1 (cell := cl) (by rw [eT]; exact A2.1) (State.isArrayOf_alike hZ.alike A2.2.1) (g := mkF m pc ls (.ref a :: st)) rfl (rest := st) rfl (hb A.2.2 hd) t (by rw [r1]; exact k')) k
theorem s_dastore (A : Ax p l e R s m args below meth c T locs cells slots B) (hZ : Z.Warmed39 s.vm) (eT : T.heap = h) {j : Int32} {i : Nat} {x : UInt64} (F : Dar Z h a .double n f) (hi : i < n) (hj : j = Int32.ofNat i) (hd : decode B pc = .ok (.dastore, 1)) (hp : pc + 1 = pc') :
    ∃ T' h', Ax p l e R s m args below meth c T' (locs ++ [⟨a, i⟩]) cells slots B ∧ T'.heap = h' ∧ Wr h h' a i (.double x) ∧ ∀ {P : State → Outcome → Prop}, Go p e below P T' (mkF m pc' ls st) → Go p e below P T (mkF m pc ls (.double x :: .int j :: .ref a :: st)) := by
  subst hp hj
  obtain ⟨cl, A2, r1, r2, r3⟩ := F
  have q := (own_clamp (i := i) (by omega)).1
  obtain ⟨X', st'⟩ := A.1.dastore A.2.1 (by rw [eT]; exact A2.1) (State.isArrayOf_alike hZ.alike A2.2.1) A2.2.2 (own_in r1 r2 hi) (x := x) (g := mkF m pc ls (.double x :: .int (Int32.ofNat i) :: .ref a :: st)) rfl rfl (hb A.2.2 hd)
  rw [q] at X' st'
  exact ⟨_, _, ⟨X', A.2⟩, rfl, ⟨cl, A2.1, A2.plain, by rw [r1]; exact hi, by rw [← eT]; rfl⟩, fun k => Go.of st' k⟩
theorem s_iastore (A : Ax p l e R s m args below meth c T locs cells slots B) (hZ : Z.Warmed39 s.vm) (eT : T.heap = h) {j : Int32} {i : Nat} {x : Int32} (F : Dar Z h a .int n f) (hi : i < n) (hj : j = Int32.ofNat i) (hd : decode B pc = .ok (.iastore, 1)) (hp : pc + 1 = pc') :
    ∃ T' h', Ax p l e R s m args below meth c T' (locs ++ [⟨a, i⟩]) cells slots B ∧ T'.heap = h' ∧ Wr h h' a i (.int x) ∧ ∀ {P : State → Outcome → Prop}, Go p e below P T' (mkF m pc' ls st) → Go p e below P T (mkF m pc ls (.int x :: .int j :: .ref a :: st)) := by
  subst hp hj
  obtain ⟨cl, A2, r1, r2, r3⟩ := F
  have q := (own_clamp (i := i) (by omega)).1
  obtain ⟨T', h', X', e', W, st'⟩ := stI A.1 A.2.1 hZ eT A2 (own_in r1 r2 hi) (x := x) (g := mkF m pc ls (.int x :: .int (Int32.ofNat i) :: .ref a :: st)) rfl rfl (hb A.2.2 hd)
  rw [q] at X' W
  exact ⟨_, _, ⟨X', A.2⟩, e', W, fun k => Go.of st' k⟩
theorem s_zastore (A : Ax p l e R s m args below meth c T locs cells slots B) (hZ : Z.Warmed39 s.vm) (eT : T.heap = h) {j : Int32} {i : Nat} {x : Int32} (F : Dar Z h a .boolean n f) (hi : i < n) (hj : j = Int32.ofNat i) (hx1 : narrow .boolean (.int x) = .int x) (hd : decode B pc = .ok (.bastore, 1)) (hp : pc + 1 = pc') :
    ∃ T' h', Ax p l e R s m args below meth c T' (locs ++ [⟨a, i⟩]) cells slots B ∧ T'.heap = h' ∧ Wr h h' a i (.int x) ∧ ∀ {P : State → Outcome → Prop}, Go p e below P T' (mkF m pc' ls st) → Go p e below P T (mkF m pc ls (.int x :: .int j :: .ref a :: st)) := by
  subst hp hj
  obtain ⟨cl, A2, r1, r2, r3⟩ := F
  have q := (own_clamp (i := i) (by omega)).1
  obtain ⟨T', h', X', e', W, st'⟩ := stZ A.1 A.2.1 hZ eT A2 (own_in r1 r2 hi) (x := x) (g := mkF m pc ls (.int x :: .int (Int32.ofNat i) :: .ref a :: st)) rfl rfl (hb A.2.2 hd)
  have q2 : nar .boolean x = x := Value.int.inj hx1
  rw [q] at X' W; rw [q2] at W
  exact ⟨_, _, ⟨X', A.2⟩, e', W, fun k => Go.of st' k⟩
end own_go
theorem own_mod (x y : Int32) (n : Nat) (h0 : 0 < n) (hn : n < 2147483648) (hy : y.toInt = n) (hx : 0 ≤ x.toInt) : ∃ i : Nat, i < n ∧ x % y = Int32.ofNat i := by
  have h2 := (c_irem x y n hy).1 hx
  have b1 := Int.emod_nonneg x.toInt (show (n : Int) ≠ 0 by omega)
  have b2 := Int.emod_lt_of_pos x.toInt (show (0 : Int) < n by omega)
  refine ⟨(x % y).toInt.toNat, by omega, ?_⟩
  apply Int32.toInt_inj.mp
  rw [Int32.toInt_ofNat_of_lt (by omega)]
  omega
theorem own_m31 (p : Int32) : 0 ≤ (p &&& (2147483647 : Int32)).toInt := by
  have h := c_and p 2147483647 (by decide)
  exact h.1
def own_st (f : Nat → Value) (i : Nat) (a b : UInt64) : Nat → Value := fun j => if j = 2 * i + 1 then .double b else if j = 2 * i then .double a else f j
theorem own_stH (f : Nat → Value) (i : Nat) (a b : UInt64) : own_st f i a b (2 * i) = .double a := by
  unfold own_st; rw [if_neg (by omega), if_pos rfl]
theorem own_stL (f : Nat → Value) (i : Nat) (a b : UInt64) : own_st f i a b (2 * i + 1) = .double b := by
  unfold own_st; rw [if_pos rfl]
theorem own_stO {f : Nat → Value} {i k : Nat} {a b : UInt64} (h1 : k ≠ 2 * i) (h2 : k ≠ 2 * i + 1) : own_st f i a b k = f k := by
  unfold own_st; rw [if_neg h2, if_neg h1]
theorem own_2i {i : Nat} : (2 : Int32) * Int32.ofNat i = Int32.ofNat (2 * i) := by
  rw [Int32.ofNat_mul]; rfl
theorem own_2i1 {i : Nat} : (2 : Int32) * Int32.ofNat i + (1 : Int32) = Int32.ofNat (2 * i + 1) := by
  rw [Int32.ofNat_add, Int32.ofNat_mul]; rfl
theorem own_n (p : Int32) : ∃ n : Nat, 2 ≤ n ∧ n ≤ 5 ∧ (2 : Int32) + (p &&& (3 : Int32)) = Int32.ofNat n ∧ (Int32.ofNat n).toInt = n ∧ Int32.ofNat n ≠ 0 := by
  have h := c_mask p 3 2 (by decide) (by decide)
  have h1 := c_and p 3 (by decide)
  obtain ⟨k, hk⟩ : ∃ k : Nat, (p &&& (3 : Int32)).toInt = k := ⟨(p &&& (3 : Int32)).toInt.toNat, by have := h1.1; omega⟩
  have k3 : k ≤ 3 := by have h3 : (3 : Int32).toInt = 3 := rfl; have := h1.2; omega
  have e : (p &&& (3 : Int32)) = Int32.ofNat k := Int32.toInt_inj.mp (by rw [hk, Int32.toInt_ofNat_of_lt (by omega)])
  have t : (Int32.ofNat (2 + k)).toInt = ((2 + k : Nat) : Int) := Int32.toInt_ofNat_of_lt (by omega)
  refine ⟨2 + k, by omega, by omega, by rw [e, Int32.ofNat_add]; rfl, t, fun q => ?_⟩
  rw [q] at t; have z : (0 : Int32).toInt = 0 := rfl; omega
theorem own_succ {i : Nat} : Int32.ofNat i + (1 : Int32) = Int32.ofNat (i + 1) := by rw [Int32.ofNat_add]; rfl
theorem own_oth {i n : Nat} (hi : i < n) (h2 : 2 ≤ n) (h5 : n ≤ 5) : ∃ j, j < n ∧ j ≠ i ∧ Int32.ofNat (i + 1) % Int32.ofNat n = Int32.ofNat j := by
  refine ⟨(i + 1) % n, Nat.mod_lt _ (by omega), ?_, ?_⟩
  · by_cases q : i + 1 = n
    · rw [q, Nat.mod_self]; omega
    · rw [Nat.mod_eq_of_lt (by omega)]; omega
  · have t : (Int32.ofNat n).toInt = n := Int32.toInt_ofNat_of_lt (by omega)
    have t1 : (Int32.ofNat (i + 1)).toInt = ((i + 1 : Nat) : Int) := Int32.toInt_ofNat_of_lt (by omega)
    have h := (c_irem (Int32.ofNat (i + 1)) (Int32.ofNat n) n t).1 (by omega)
    apply Int32.toInt_inj.mp
    rw [h, t1, Int32.toInt_ofNat_of_lt (Nat.lt_of_lt_of_le (Nat.mod_lt _ (by omega)) (by omega))]
    exact (Int.natCast_emod (i + 1) n).symm
theorem d1_0 : decode prog_9_method_1_code 0 = .ok (.aload_n 0, 1) := by decide +kernel
theorem d1_1 : decode prog_9_method_1_code 1 = .ok (.invokespecial 1, 3) := by decide +kernel
theorem d1_4 : decode prog_9_method_1_code 4 = .ok (.return_, 1) := by decide +kernel
theorem pn_0 : plainName "com/example/hinterland/hinterland/DoubleDouble" = true := by first | (simp [plainName, overriddenIn]; done) | decide +kernel
theorem ef1 (m : MethodId) (a1 : Addr) : entryFrame m #[(.ref a1)] 1 = mkF m 0 #[.val (.ref a1)] [] := by first | (simp [entryFrame, mkF, argsToLocals, Value.category]; done) | rfl
def Q1 (Z : State) (a1 : Addr) (h0 : Heap) (n0 : Nat) (v : Option Value) (h : Heap) (L : List Loc) : Prop := v = none ∧ Fr n0 L ∧ h = h0
set_option maxRecDepth 65536 in
set_option maxHeartbeats 40000000 in
theorem rm1 (l : Launch) (Z : State) (a0 : Array Value) (hw : ∀ d ∈ tables_1, d.before a0 Z = true) (ws : List Jvm.Cond) (a1 : Addr) (h0 : Heap) (n0 : Nat) (Z0 : n0 ≤ h0.size)  :
    MetFree l (⟨"com/example/hinterland/hinterland/DoubleDouble", "<init>", "()V"⟩ : MethodName) (head1 (Jvm.Cond.code (⟨"com/example/hinterland/hinterland/DoubleDouble", "<init>", "()V"⟩ : MethodName) prog_9_method_1_code 1 none :: ws) ({ frames := 1, cells := 0, slots := 0, locals := 12 } : Room)) (fun a U => a = #[(.ref a1)] ∧ Z.Warmed39 U.vm ∧ U.heap = h0) (fun _ _ _ _ _ => True) (fun _ U o U' => ∃ v L, o = .returned v ∧ Q1 Z a1 h0 n0 v U'.heap L ∧ FrameEnd U o U' L 0 0) := by
  refine MetFree.of_bodySF (plainFor_of_name pn_0) hisR ?_
  intro p e s m args below meth c s₁ Bd hml0 hP hK
  obtain ⟨rfl, hZ, hh⟩ := hP
  have hx := Bd.exec
  have hby := Bd.bytes
  have hml : c.maxLocals = 1 := hml0
  have hown : s.vm.findClass "com/example/hinterland/hinterland/DoubleDouble" = some m.cls := findClass_of_methodNamed Bd.named
  have hnm := (name_of_methodNamed Bd.named Bd.method).1
  have X0 : Stand p l e ({ frames := 1, cells := 0, slots := 0, locals := 12 } : Room) s m #[(.ref a1)] below meth c s₁ [] 0 0 := Stand.of_body Bd
  have e0 : s₁.heap = h0 := by rw [← hh, Bd.state]; rfl
  have N0 := Fr.nil n0
  have A0 := (⟨X0, hx, hby⟩ : Ax _ _ _ _ _ _ _ _ _ _ _ _ _ _ _)
  show Go p e below (fun U o => ∃ v L, o = .returned v ∧ Q1 Z a1 h0 n0 v U.heap L ∧ FrameEnd s o U L 0 0) s₁ (entryFrame m #[(.ref a1)] 1)
  refine Go.cast (ef1 m a1) ?_
  refine g_aloadN A0 d1_0 rfl rfl (pc' := 1) rfl ?_
  obtain ⟨T2, X2, e2, st2⟩ := initO X0 hx hZ hown (hw _ (List.mem_of_getElem? (i := 8) rfl)) (hw _ (List.mem_of_getElem? (i := 9) rfl)) (hw _ (List.mem_of_getElem? (i := 10) rfl)) e0 (g := (mkF m 1 #[.val (.ref a1)] [(.ref a1)])) rfl (by rw [hml]; rfl) rfl (hb hby d1_1) (by decide) (W := 0) (by show 2 * 0 + _ ≤ _; exact Nat.le_of_eq rfl) (by decide)
  refine Go.of (g' := (mkF m 4 #[.val (.ref a1)] [])) st2 ?_
  have A3 := (⟨X2, hx, hby⟩ : Ax _ _ _ _ _ _ _ _ _ _ _ _ _ _ _)
  exact g_retV (Q := Q1 Z a1 h0 n0) A3 d1_4 Bd.notSynchronized Bd.returns (by decide) (by decide) (by rw [e2]; exact ⟨rfl, N0, rfl⟩)
theorem d3_0 : decode prog_9_method_2_code 0 = .ok (.aload_n 0, 1) := by decide +kernel
theorem d3_1 : decode prog_9_method_2_code 1 = .ok (.dload_n 1, 1) := by decide +kernel
theorem d3_2 : decode prog_9_method_2_code 2 = .ok (.putfield 7, 3) := by decide +kernel
theorem d3_5 : decode prog_9_method_2_code 5 = .ok (.aload_n 0, 1) := by decide +kernel
theorem d3_6 : decode prog_9_method_2_code 6 = .ok (.dconst 0, 1) := by decide +kernel
theorem d3_7 : decode prog_9_method_2_code 7 = .ok (.putfield 13, 3) := by decide +kernel
theorem d3_10 : decode prog_9_method_2_code 10 = .ok (.aload_n 0, 1) := by decide +kernel
theorem d3_11 : decode prog_9_method_2_code 11 = .ok (.areturn, 1) := by decide +kernel
theorem ef4 (m : MethodId) (a1 : Addr) (x1 : UInt64) (u0 : Value) (u1 : Value) : entryFrame m #[(.ref a1), (.double x1)] 3 = mkF m 0 #[.val (.ref a1), .val (.double x1), .second] [] := by first | (simp [entryFrame, mkF, argsToLocals, Value.category]; done) | rfl
def Q3 (Z : State) (a1 : Addr) (x1 : UInt64) (u0 : Value) (u1 : Value) (h0 : Heap) (n0 : Nat) (v : Option Value) (h : Heap) (L : List Loc) : Prop := v = some (.ref a1) ∧ Fr n0 L ∧ Keep h0 h [a1] ∧ Fld Z h a1 "com/example/hinterland/hinterland/DoubleDouble" "high" "D" (.double x1) ∧ Fld Z h a1 "com/example/hinterland/hinterland/DoubleDouble" "low" "D" (.double (0 : UInt64))
set_option maxRecDepth 65536 in
set_option maxHeartbeats 40000000 in
theorem rm3 (l : Launch) (Z : State) (a0 : Array Value) (hw : ∀ d ∈ tables_1, d.before a0 Z = true) (ws : List Jvm.Cond) (a1 : Addr) (x1 : UInt64) (u0 : Value) (u1 : Value) (h0 : Heap) (n0 : Nat) (Z0 : n0 ≤ h0.size) (E5 : Exa Z h0 a1 "com/example/hinterland/hinterland/DoubleDouble") (F6 : Fld Z h0 a1 "com/example/hinterland/hinterland/DoubleDouble" "high" "D" u0) (F7 : Fld Z h0 a1 "com/example/hinterland/hinterland/DoubleDouble" "low" "D" u1) (g8 : n0 ≤ a1) :
    MetFree l (⟨"com/example/hinterland/hinterland/DoubleDouble", "set", "(D)Lcom/example/hinterland/hinterland/DoubleDouble;"⟩ : MethodName) (head1 (Jvm.Cond.code (⟨"com/example/hinterland/hinterland/DoubleDouble", "set", "(D)Lcom/example/hinterland/hinterland/DoubleDouble;"⟩ : MethodName) prog_9_method_2_code 3 (some (.object "com/example/hinterland/hinterland/DoubleDouble")) :: ws) ({ frames := 0, cells := 0, slots := 0, locals := 0 } : Room)) (fun a U => a = #[(.ref a1), (.double x1)] ∧ Z.Warmed39 U.vm ∧ U.heap = h0) (fun _ _ _ _ _ => True) (fun _ U o U' => ∃ v L, o = .returned v ∧ Q3 Z a1 x1 u0 u1 h0 n0 v U'.heap L ∧ FrameEnd U o U' L 0 0) := by
  refine MetFree.of_bodySF (plainFor_of_name pn_0) hisR ?_
  intro p e s m args below meth c s₁ Bd hml0 hP hK
  obtain ⟨rfl, hZ, hh⟩ := hP
  have hx := Bd.exec
  have hby := Bd.bytes
  have hml : c.maxLocals = 3 := hml0
  have hown : s.vm.findClass "com/example/hinterland/hinterland/DoubleDouble" = some m.cls := findClass_of_methodNamed Bd.named
  have hnm := (name_of_methodNamed Bd.named Bd.method).1
  have X0 : Stand p l e ({ frames := 0, cells := 0, slots := 0, locals := 0 } : Room) s m #[(.ref a1), (.double x1)] below meth c s₁ [] 0 0 := Stand.of_body Bd
  have e0 : s₁.heap = h0 := by rw [← hh, Bd.state]; rfl
  have N0 := Fr.nil n0
  have A0 := (⟨X0, hx, hby⟩ : Ax _ _ _ _ _ _ _ _ _ _ _ _ _ _ _)
  show Go p e below (fun U o => ∃ v L, o = .returned v ∧ Q3 Z a1 x1 u0 u1 h0 n0 v U.heap L ∧ FrameEnd s o U L 0 0) s₁ (entryFrame m #[(.ref a1), (.double x1)] 3)
  refine Go.cast (ef4 m a1 x1 u0 u1) ?_
  refine g_aloadN A0 d3_0 rfl rfl (pc' := 1) rfl ?_
  refine g_dloadN A0 d3_1 rfl (pc' := 2) rfl ?_
  obtain ⟨T9, h9, X9, e9, W9, st9⟩ := putF X0 hx hZ hown (host := "") (Or.inl (hw _ (List.mem_of_getElem? (i := 16) rfl))) Via.refl e0 F6 E5 (Or.inl (hw _ (List.mem_of_getElem? (i := 17) rfl))) (hw _ (List.mem_of_getElem? (i := 3) rfl)) (ty := .double) (by decide) rfl rfl (g := (mkF m 2 #[.val (.ref a1), .val (.double x1), .second] [(.double x1), (.ref a1)])) rfl rfl (hb hby d3_2)
  have N10 := Fr.snoc X9 N0 g8
  have K11 : Keep h0 h9 [a1] := (Keep.refl h0 [a1]).wr W9 (Or.inl (List.mem_of_getElem? (i := 0) rfl))
  have E12 : Exa Z h9 a1 "com/example/hinterland/hinterland/DoubleDouble" := Exa.wr W9 E5
  have F13 : Fld Z h9 a1 "com/example/hinterland/hinterland/DoubleDouble" "low" "D" u1 := Fld.other W9 F7 (Or.inr (slot_ne (Or.inl (hw _ (List.mem_of_getElem? (i := 19) rfl))) (Or.inl (hw _ (List.mem_of_getElem? (i := 17) rfl))) (by decide) (t := .double) (t' := .double) (by decide) (by decide)))
  have F14 : Fld Z h9 a1 "com/example/hinterland/hinterland/DoubleDouble" "high" "D" (.double x1) := Fld.same W9 F6
  have Z15 : n0 ≤ h9.size := by rw [W9.size]; exact Z0
  refine Go.of (g' := (mkF m 5 #[.val (.ref a1), .val (.double x1), .second] [])) st9 ?_
  have A16 := (⟨X9, hx, hby⟩ : Ax _ _ _ _ _ _ _ _ _ _ _ _ _ _ _)
  refine g_aloadN A16 d3_5 rfl rfl (pc' := 6) rfl ?_
  refine g_dconst0 A16 d3_6 (pc' := 7) rfl ?_
  obtain ⟨T17, h17, X17, e17, W17, st17⟩ := putF X9 hx hZ hown (host := "") (Or.inl (hw _ (List.mem_of_getElem? (i := 18) rfl))) Via.refl e9 F13 E12 (Or.inl (hw _ (List.mem_of_getElem? (i := 19) rfl))) (hw _ (List.mem_of_getElem? (i := 3) rfl)) (ty := .double) (by decide) rfl rfl (g := (mkF m 7 #[.val (.ref a1), .val (.double x1), .second] [(.double (0 : UInt64)), (.ref a1)])) rfl rfl (hb hby d3_7)
  have N18 := Fr.snoc X17 N10 g8
  have K19 : Keep h0 h17 [a1] := K11.wr W17 (Or.inl (List.mem_of_getElem? (i := 0) rfl))
  have E20 : Exa Z h17 a1 "com/example/hinterland/hinterland/DoubleDouble" := Exa.wr W17 E12
  have F21 : Fld Z h17 a1 "com/example/hinterland/hinterland/DoubleDouble" "high" "D" (.double x1) := Fld.other W17 F14 (Or.inr (slot_ne (Or.inl (hw _ (List.mem_of_getElem? (i := 17) rfl))) (Or.inl (hw _ (List.mem_of_getElem? (i := 19) rfl))) (by decide) (t := .double) (t' := .double) (by decide) (by decide)))
  have F22 : Fld Z h17 a1 "com/example/hinterland/hinterland/DoubleDouble" "low" "D" (.double (0 : UInt64)) := Fld.same W17 F13
  have Z23 : n0 ≤ h17.size := by rw [W17.size]; exact Z15
  refine Go.of (g' := (mkF m 10 #[.val (.ref a1), .val (.double x1), .second] [])) st17 ?_
  have A24 := (⟨X17, hx, hby⟩ : Ax _ _ _ _ _ _ _ _ _ _ _ _ _ _ _)
  refine g_aloadN A24 d3_10 rfl rfl (pc' := 11) rfl ?_
  exact g_ret (Q := Q3 Z a1 x1 u0 u1 h0 n0) A24 d3_11 Bd.notSynchronized Bd.returns rfl (Or.inr (Or.inr (Or.inr (Or.inr ⟨rfl, rfl, rfl⟩)))) (by decide) (by decide) (by rw [e17]; exact ⟨rfl, N18, K19, F21, F22⟩)
theorem d8_0 : decode prog_9_method_20_code 0 = .ok (.dload 4, 2) := by decide +kernel
theorem d8_2 : decode prog_9_method_20_code 2 = .ok (.dload_n 0, 1) := by decide +kernel
theorem d8_3 : decode prog_9_method_20_code 3 = .ok (.dsub, 1) := by decide +kernel
theorem d8_4 : decode prog_9_method_20_code 4 = .ok (.dstore 6, 2) := by decide +kernel
theorem d8_6 : decode prog_9_method_20_code 6 = .ok (.dload 4, 2) := by decide +kernel
theorem d8_8 : decode prog_9_method_20_code 8 = .ok (.dload 6, 2) := by decide +kernel
theorem d8_10 : decode prog_9_method_20_code 10 = .ok (.dsub, 1) := by decide +kernel
theorem d8_11 : decode prog_9_method_20_code 11 = .ok (.dstore 8, 2) := by decide +kernel
theorem d8_13 : decode prog_9_method_20_code 13 = .ok (.dload_n 0, 1) := by decide +kernel
theorem d8_14 : decode prog_9_method_20_code 14 = .ok (.dload 8, 2) := by decide +kernel
theorem d8_16 : decode prog_9_method_20_code 16 = .ok (.dsub, 1) := by decide +kernel
theorem d8_17 : decode prog_9_method_20_code 17 = .ok (.dload_n 2, 1) := by decide +kernel
theorem d8_18 : decode prog_9_method_20_code 18 = .ok (.dload 6, 2) := by decide +kernel
theorem d8_20 : decode prog_9_method_20_code 20 = .ok (.dsub, 1) := by decide +kernel
theorem d8_21 : decode prog_9_method_20_code 21 = .ok (.dadd, 1) := by decide +kernel
theorem d8_22 : decode prog_9_method_20_code 22 = .ok (.dreturn, 1) := by decide +kernel
theorem ef25 (m : MethodId)  : entryFrame m #[(.double (4877398396442247168 : UInt64)), (.double (4607182418800017408 : UInt64)), (.double (4877398396442247168 : UInt64))] 10 = mkF m 0 #[.val (.double (4877398396442247168 : UInt64)), .second, .val (.double (4607182418800017408 : UInt64)), .second, .val (.double (4877398396442247168 : UInt64)), .second, .unset, .unset, .unset, .unset] [] := by first | (simp [entryFrame, mkF, argsToLocals, Value.category]; done) | rfl
def Q8 (Z : State)  (h0 : Heap) (n0 : Nat) (v : Option Value) (h : Heap) (L : List Loc) : Prop := v = some (.double (4607182418800017408 : UInt64)) ∧ Fr n0 L ∧ h = h0
set_option maxRecDepth 65536 in
set_option maxHeartbeats 40000000 in
theorem rm8 (l : Launch) (Z : State) (a0 : Array Value) (hw : ∀ d ∈ tables_1, d.before a0 Z = true) (ws : List Jvm.Cond)  (h0 : Heap) (n0 : Nat) (Z0 : n0 ≤ h0.size)  :
    MetFree l (⟨"com/example/hinterland/hinterland/DoubleDouble", "roundingError", "(DDD)D"⟩ : MethodName) (head1 (Jvm.Cond.code (⟨"com/example/hinterland/hinterland/DoubleDouble", "roundingError", "(DDD)D"⟩ : MethodName) prog_9_method_20_code 10 (some .double) :: ws) ({ frames := 0, cells := 0, slots := 0, locals := 0 } : Room)) (fun a U => a = #[(.double (4877398396442247168 : UInt64)), (.double (4607182418800017408 : UInt64)), (.double (4877398396442247168 : UInt64))] ∧ Z.Warmed39 U.vm ∧ U.heap = h0) (fun _ _ _ _ _ => True) (fun _ U o U' => ∃ v L, o = .returned v ∧ Q8 Z  h0 n0 v U'.heap L ∧ FrameEnd U o U' L 0 0) := by
  refine MetFree.of_bodySF (plainFor_of_name pn_0) hisR ?_
  intro p e s m args below meth c s₁ Bd hml0 hP hK
  obtain ⟨rfl, hZ, hh⟩ := hP
  have hx := Bd.exec
  have hby := Bd.bytes
  have hml : c.maxLocals = 10 := hml0
  have hown : s.vm.findClass "com/example/hinterland/hinterland/DoubleDouble" = some m.cls := findClass_of_methodNamed Bd.named
  have hnm := (name_of_methodNamed Bd.named Bd.method).1
  have X0 : Stand p l e ({ frames := 0, cells := 0, slots := 0, locals := 0 } : Room) s m #[(.double (4877398396442247168 : UInt64)), (.double (4607182418800017408 : UInt64)), (.double (4877398396442247168 : UInt64))] below meth c s₁ [] 0 0 := Stand.of_body Bd
  have e0 : s₁.heap = h0 := by rw [← hh, Bd.state]; rfl
  have N0 := Fr.nil n0
  have A0 := (⟨X0, hx, hby⟩ : Ax _ _ _ _ _ _ _ _ _ _ _ _ _ _ _)
  show Go p e below (fun U o => ∃ v L, o = .returned v ∧ Q8 Z  h0 n0 v U.heap L ∧ FrameEnd s o U L 0 0) s₁ (entryFrame m #[(.double (4877398396442247168 : UInt64)), (.double (4607182418800017408 : UInt64)), (.double (4877398396442247168 : UInt64))] 10)
  refine Go.cast (ef25 m ) ?_
  refine g_dload A0 d8_0 rfl (pc' := 2) rfl ?_
  refine g_dloadN A0 d8_2 rfl (pc' := 3) rfl ?_
  refine g_dsubL A0 d8_3 (z := (0 : UInt64)) (by decide +kernel) (by unfold NoNaN64; decide +kernel) (pc' := 4) rfl ?_
  refine g_dstore A0 d8_4 (ls' := #[.val (.double (4877398396442247168 : UInt64)), .second, .val (.double (4607182418800017408 : UInt64)), .second, .val (.double (4877398396442247168 : UInt64)), .second, .val (.double (0 : UInt64)), .second, .unset, .unset]) rfl (pc' := 6) rfl ?_
  refine g_dload A0 d8_6 rfl (pc' := 8) rfl ?_
  refine g_dload A0 d8_8 rfl (pc' := 10) rfl ?_
  refine g_dsubL A0 d8_10 (z := (4877398396442247168 : UInt64)) (by decide +kernel) (by unfold NoNaN64; decide +kernel) (pc' := 11) rfl ?_
  refine g_dstore A0 d8_11 (ls' := #[.val (.double (4877398396442247168 : UInt64)), .second, .val (.double (4607182418800017408 : UInt64)), .second, .val (.double (4877398396442247168 : UInt64)), .second, .val (.double (0 : UInt64)), .second, .val (.double (4877398396442247168 : UInt64)), .second]) rfl (pc' := 13) rfl ?_
  refine g_dloadN A0 d8_13 rfl (pc' := 14) rfl ?_
  refine g_dload A0 d8_14 rfl (pc' := 16) rfl ?_
  refine g_dsubL A0 d8_16 (z := (0 : UInt64)) (by decide +kernel) (by unfold NoNaN64; decide +kernel) (pc' := 17) rfl ?_
  refine g_dloadN A0 d8_17 rfl (pc' := 18) rfl ?_
  refine g_dload A0 d8_18 rfl (pc' := 20) rfl ?_
  refine g_dsubL A0 d8_20 (z := (4607182418800017408 : UInt64)) (by decide +kernel) (by unfold NoNaN64; decide +kernel) (pc' := 21) rfl ?_
  refine g_daddL A0 d8_21 (z := (4607182418800017408 : UInt64)) (by decide +kernel) (by unfold NoNaN64; decide +kernel) (pc' := 22) rfl ?_
  exact g_ret (Q := Q8 Z  h0 n0) A0 d8_22 Bd.notSynchronized Bd.returns rfl (Or.inr (Or.inr (Or.inl ⟨rfl, rfl, _, rfl⟩))) (by decide) (by decide) (by rw [e0]; exact ⟨rfl, N0, rfl⟩)
theorem d5_0 : decode prog_9_method_18_code 0 = .ok (.aload_n 0, 1) := by decide +kernel
theorem d5_1 : decode prog_9_method_18_code 1 = .ok (.getfield 7, 3) := by decide +kernel
theorem d5_4 : decode prog_9_method_18_code 4 = .ok (.dload_n 1, 1) := by decide +kernel
theorem d5_5 : decode prog_9_method_18_code 5 = .ok (.dadd, 1) := by decide +kernel
theorem d5_6 : decode prog_9_method_18_code 6 = .ok (.dstore 5, 2) := by decide +kernel
theorem d5_8 : decode prog_9_method_18_code 8 = .ok (.dload 5, 2) := by decide +kernel
theorem d5_10 : decode prog_9_method_18_code 10 = .ok (.invokestatic 42, 3) := by decide +kernel
theorem d5_13 : decode prog_9_method_18_code 13 = .ok (.ifCond .eq 17, 3) := by decide +kernel
theorem d5_16 : decode prog_9_method_18_code 16 = .ok (.aload_n 0, 1) := by decide +kernel
theorem d5_17 : decode prog_9_method_18_code 17 = .ok (.dload 5, 2) := by decide +kernel
theorem d5_19 : decode prog_9_method_18_code 19 = .ok (.putfield 7, 3) := by decide +kernel
theorem d5_22 : decode prog_9_method_18_code 22 = .ok (.aload_n 0, 1) := by decide +kernel
theorem d5_23 : decode prog_9_method_18_code 23 = .ok (.dconst 0, 1) := by decide +kernel
theorem d5_24 : decode prog_9_method_18_code 24 = .ok (.putfield 13, 3) := by decide +kernel
theorem d5_27 : decode prog_9_method_18_code 27 = .ok (.goto 48, 3) := by decide +kernel
theorem d5_30 : decode prog_9_method_18_code 30 = .ok (.aload_n 0, 1) := by decide +kernel
theorem d5_31 : decode prog_9_method_18_code 31 = .ok (.getfield 7, 3) := by decide +kernel
theorem d5_34 : decode prog_9_method_18_code 34 = .ok (.dload_n 1, 1) := by decide +kernel
theorem d5_35 : decode prog_9_method_18_code 35 = .ok (.dload 5, 2) := by decide +kernel
theorem d5_37 : decode prog_9_method_18_code 37 = .ok (.invokestatic 46, 3) := by decide +kernel
theorem d5_40 : decode prog_9_method_18_code 40 = .ok (.aload_n 0, 1) := by decide +kernel
theorem d5_41 : decode prog_9_method_18_code 41 = .ok (.getfield 13, 3) := by decide +kernel
theorem d5_44 : decode prog_9_method_18_code 44 = .ok (.dload_n 3, 1) := by decide +kernel
theorem d5_45 : decode prog_9_method_18_code 45 = .ok (.dadd, 1) := by decide +kernel
theorem d5_46 : decode prog_9_method_18_code 46 = .ok (.dadd, 1) := by decide +kernel
theorem d5_47 : decode prog_9_method_18_code 47 = .ok (.dstore 7, 2) := by decide +kernel
theorem d5_49 : decode prog_9_method_18_code 49 = .ok (.dload 5, 2) := by decide +kernel
theorem d5_51 : decode prog_9_method_18_code 51 = .ok (.dload 7, 2) := by decide +kernel
theorem d5_53 : decode prog_9_method_18_code 53 = .ok (.dadd, 1) := by decide +kernel
theorem d5_54 : decode prog_9_method_18_code 54 = .ok (.dstore 9, 2) := by decide +kernel
theorem d5_56 : decode prog_9_method_18_code 56 = .ok (.aload_n 0, 1) := by decide +kernel
theorem d5_57 : decode prog_9_method_18_code 57 = .ok (.dload 5, 2) := by decide +kernel
theorem d5_59 : decode prog_9_method_18_code 59 = .ok (.dload 7, 2) := by decide +kernel
theorem d5_61 : decode prog_9_method_18_code 61 = .ok (.dload 9, 2) := by decide +kernel
theorem d5_63 : decode prog_9_method_18_code 63 = .ok (.invokestatic 46, 3) := by decide +kernel
theorem d5_66 : decode prog_9_method_18_code 66 = .ok (.putfield 13, 3) := by decide +kernel
theorem d5_69 : decode prog_9_method_18_code 69 = .ok (.aload_n 0, 1) := by decide +kernel
theorem d5_70 : decode prog_9_method_18_code 70 = .ok (.dload 9, 2) := by decide +kernel
theorem d5_72 : decode prog_9_method_18_code 72 = .ok (.putfield 7, 3) := by decide +kernel
theorem d5_75 : decode prog_9_method_18_code 75 = .ok (.aload_n 0, 1) := by decide +kernel
theorem d5_76 : decode prog_9_method_18_code 76 = .ok (.areturn, 1) := by decide +kernel
theorem ef26 (m : MethodId) (a1 : Addr) : entryFrame m #[(.ref a1), (.double (4607182418800017408 : UInt64)), (.double (0 : UInt64))] 11 = mkF m 0 #[.val (.ref a1), .val (.double (4607182418800017408 : UInt64)), .second, .val (.double (0 : UInt64)), .second, .unset, .unset, .unset, .unset, .unset, .unset] [] := by first | (simp [entryFrame, mkF, argsToLocals, Value.category]; done) | rfl
def Q5 (Z : State) (a1 : Addr) (h0 : Heap) (n0 : Nat) (v : Option Value) (h : Heap) (L : List Loc) : Prop := v = some (.ref a1) ∧ Fr n0 L ∧ Keep h0 h [a1] ∧ Fld Z h a1 "com/example/hinterland/hinterland/DoubleDouble" "high" "D" (.double (4877398396442247168 : UInt64)) ∧ Fld Z h a1 "com/example/hinterland/hinterland/DoubleDouble" "low" "D" (.double (4607182418800017408 : UInt64))
theorem pd_0 : parseMethodDescriptor "(D)Z" = some ⟨[.double], some .boolean⟩ := by decide +kernel
theorem pd_1 : parseMethodDescriptor "(DDD)D" = some ⟨[.double, .double, .double], some .double⟩ := by decide +kernel
set_option maxRecDepth 65536 in
set_option maxHeartbeats 40000000 in
theorem rm5 (l : Launch) (Z : State) (a0 : Array Value) (hw : ∀ d ∈ tables_1, d.before a0 Z = true) (ws : List Jvm.Cond) (a1 : Addr) (h0 : Heap) (n0 : Nat) (Z0 : n0 ≤ h0.size) (E27 : Exa Z h0 a1 "com/example/hinterland/hinterland/DoubleDouble") (F28 : Fld Z h0 a1 "com/example/hinterland/hinterland/DoubleDouble" "high" "D" (.double (4877398396442247168 : UInt64))) (F29 : Fld Z h0 a1 "com/example/hinterland/hinterland/DoubleDouble" "low" "D" (.double (0 : UInt64))) (g30 : n0 ≤ a1) :
    MetFree l (⟨"com/example/hinterland/hinterland/DoubleDouble", "add", "(DD)Lcom/example/hinterland/hinterland/DoubleDouble;"⟩ : MethodName) (head1 (Jvm.Cond.code (⟨"com/example/hinterland/hinterland/DoubleDouble", "add", "(DD)Lcom/example/hinterland/hinterland/DoubleDouble;"⟩ : MethodName) prog_9_method_18_code 11 (some (.object "com/example/hinterland/hinterland/DoubleDouble")) :: ws) ({ frames := 2, cells := 0, slots := 0, locals := 26 } : Room)) (fun a U => a = #[(.ref a1), (.double (4607182418800017408 : UInt64)), (.double (0 : UInt64))] ∧ Z.Warmed39 U.vm ∧ U.heap = h0) (fun _ _ _ _ _ => True) (fun _ U o U' => ∃ v L, o = .returned v ∧ Q5 Z a1 h0 n0 v U'.heap L ∧ FrameEnd U o U' L 0 0) := by
  refine MetFree.of_bodySF (plainFor_of_name pn_0) hisR ?_
  intro p e s m args below meth c s₁ Bd hml0 hP hK
  obtain ⟨rfl, hZ, hh⟩ := hP
  have hx := Bd.exec
  have hby := Bd.bytes
  have hml : c.maxLocals = 11 := hml0
  have hown : s.vm.findClass "com/example/hinterland/hinterland/DoubleDouble" = some m.cls := findClass_of_methodNamed Bd.named
  have hnm := (name_of_methodNamed Bd.named Bd.method).1
  have X0 : Stand p l e ({ frames := 2, cells := 0, slots := 0, locals := 26 } : Room) s m #[(.ref a1), (.double (4607182418800017408 : UInt64)), (.double (0 : UInt64))] below meth c s₁ [] 0 0 := Stand.of_body Bd
  have e0 : s₁.heap = h0 := by rw [← hh, Bd.state]; rfl
  have N0 := Fr.nil n0
  have A0 := (⟨X0, hx, hby⟩ : Ax _ _ _ _ _ _ _ _ _ _ _ _ _ _ _)
  show Go p e below (fun U o => ∃ v L, o = .returned v ∧ Q5 Z a1 h0 n0 v U.heap L ∧ FrameEnd s o U L 0 0) s₁ (entryFrame m #[(.ref a1), (.double (4607182418800017408 : UInt64)), (.double (0 : UInt64))] 11)
  refine Go.cast (ef26 m a1) ?_
  refine g_aloadN A0 d5_0 rfl rfl (pc' := 1) rfl ?_
  obtain ⟨T31, X31, e31, st31⟩ := getF X0 hx hZ hown (host := "") (Or.inl (hw _ (List.mem_of_getElem? (i := 16) rfl))) Via.refl e0 F28 (g := (mkF m 1 #[.val (.ref a1), .val (.double (4607182418800017408 : UInt64)), .second, .val (.double (0 : UInt64)), .second, .unset, .unset, .unset, .unset, .unset, .unset] [(.ref a1)])) rfl rfl (hb hby d5_1)
  refine Go.of (g' := (mkF m 4 #[.val (.ref a1), .val (.double (4607182418800017408 : UInt64)), .second, .val (.double (0 : UInt64)), .second, .unset, .unset, .unset, .unset, .unset, .unset] [(.double (4877398396442247168 : UInt64))])) st31 ?_
  have A32 := (⟨X31, hx, hby⟩ : Ax _ _ _ _ _ _ _ _ _ _ _ _ _ _ _)
  refine g_dloadN A32 d5_4 rfl (pc' := 5) rfl ?_
  refine g_daddL A32 d5_5 (z := (4877398396442247168 : UInt64)) (by decide +kernel) (by unfold NoNaN64; decide +kernel) (pc' := 6) rfl ?_
  refine g_dstore A32 d5_6 (ls' := #[.val (.ref a1), .val (.double (4607182418800017408 : UInt64)), .second, .val (.double (0 : UInt64)), .second, .val (.double (4877398396442247168 : UInt64)), .second, .unset, .unset, .unset, .unset]) rfl (pc' := 8) rfl ?_
  refine g_dload A32 d5_8 rfl (pc' := 10) rfl ?_
  obtain ⟨v33, _, ⟨T33, L33, k33, n33⟩, -, X33, ⟨⟨eh33, el33, ec33, es33⟩, hv33⟩, st33⟩ := Jvm.LawKit.callS X31 hx (y := Jvm.Free.Fl.IsInfinite.yN) hown (mvT hZ (hw _ (List.mem_of_getElem? (i := 29) rfl))) (mvT hZ (hw _ (List.mem_of_getElem? (i := 30) rfl))) (mvT hZ (hw _ (List.mem_of_getElem? (i := 31) rfl))) (bytes := Jvm.Free.Fl.IsInfinite.yB) (maxL := 2) (ret := some .boolean) (mvT hZ (hw _ (List.mem_of_getElem? (i := 32) rfl))) (by decide) (Jvm.Free.Fl.IsInfinite.pays (W := 0) (by decide) (by decide) (own_and (mvT hZ (hw _ (List.mem_of_getElem? (i := 32) rfl))) (own_and (mvT hZ (hw _ (List.mem_of_getElem? (i := 33) rfl))) (own_and (mvT hZ (hw _ (List.mem_of_getElem? (i := 34) rfl))) (own_and (mvT hZ (hw _ (List.mem_of_getElem? (i := 35) rfl))) (own_and (mvT hZ (hw _ (List.mem_of_getElem? (i := 36) rfl))) (mvT hZ (hw _ (List.mem_of_getElem? (i := 37) rfl)))))))) (mvT hZ (hw _ (List.mem_of_getElem? (i := 31) rfl)))) (g := (mkF m 10 #[.val (.ref a1), .val (.double (4607182418800017408 : UInt64)), .second, .val (.double (0 : UInt64)), .second, .val (.double (4877398396442247168 : UInt64)), .second, .unset, .unset, .unset, .unset] [(.double (4877398396442247168 : UInt64))])) rfl (by rw [hml]; rfl) (argsL := [(.double (4877398396442247168 : UInt64))]) (rest := []) (lenOf pd_0 rfl) rfl (by show 2 * 0 + _ ≤ _; exact Nat.le_of_eq rfl) (hb hby d5_10) (fun _ _ => ⟨(by decide : 0 ≤ _), (by decide : 0 ≤ _), _, rfl, (by unfold Fin64; decide : Fin64 (4877398396442247168 : UInt64)).noNaN⟩)
  dsimp only [Pt.U, Pt.locs, Pt.cells, Pt.slots] at X33 eh33 el33 ec33 es33 st33
  subst ec33 es33
  have N34 : Fr n0 L33 := by rw [el33]; exact N0
  obtain rfl : v33 = some (.int (0 : Int32)) := (hv33 _ ⟨rfl, (by unfold Fin64; decide : Fin64 (4877398396442247168 : UInt64)).noNaN⟩).trans (own_isinf (by unfold Fin64; decide : Fin64 (4877398396442247168 : UInt64)))
  refine Go.of (g' := (mkF m 13 #[.val (.ref a1), .val (.double (4607182418800017408 : UInt64)), .second, .val (.double (0 : UInt64)), .second, .val (.double (4877398396442247168 : UInt64)), .second, .unset, .unset, .unset, .unset] [(.int (0 : Int32))])) st33 ?_
  have e35 : T33.heap = h0 := eh33.trans e31
  have A36 := (⟨X33, hx, hby⟩ : Ax _ _ _ _ _ _ _ _ _ _ _ _ _ _ _)
  refine g_ifY A36 d5_13 (c0_eq_t (by decide)) (pc' := 30) rfl ?_
  refine g_aloadN A36 d5_30 rfl rfl (pc' := 31) rfl ?_
  obtain ⟨T37, X37, e37, st37⟩ := getF X33 hx hZ hown (host := "") (Or.inl (hw _ (List.mem_of_getElem? (i := 16) rfl))) Via.refl e35 F28 (g := (mkF m 31 #[.val (.ref a1), .val (.double (4607182418800017408 : UInt64)), .second, .val (.double (0 : UInt64)), .second, .val (.double (4877398396442247168 : UInt64)), .second, .unset, .unset, .unset, .unset] [(.ref a1)])) rfl rfl (hb hby d5_31)
  refine Go.of (g' := (mkF m 34 #[.val (.ref a1), .val (.double (4607182418800017408 : UInt64)), .second, .val (.double (0 : UInt64)), .second, .val (.double (4877398396442247168 : UInt64)), .second, .unset, .unset, .unset, .unset] [(.double (4877398396442247168 : UInt64))])) st37 ?_
  have A38 := (⟨X37, hx, hby⟩ : Ax _ _ _ _ _ _ _ _ _ _ _ _ _ _ _)
  refine g_dloadN A38 d5_34 rfl (pc' := 35) rfl ?_
  refine g_dload A38 d5_35 rfl (pc' := 37) rfl ?_
  obtain ⟨vv39, _, ⟨T39, L39, k39, n39⟩, -, X39, ⟨L39c, hQ39, l39, y39, z39⟩, st39⟩ := Jvm.LawKit.callS X37 hx (y := (⟨"com/example/hinterland/hinterland/DoubleDouble", "roundingError", "(DDD)D"⟩ : MethodName)) hown (mvT hZ (hw _ (List.mem_of_getElem? (i := 38) rfl))) (mvT hZ (hw _ (List.mem_of_getElem? (i := 39) rfl))) (mvT hZ (hw _ (List.mem_of_getElem? (i := 4) rfl))) (mvT hZ (hw _ (List.mem_of_getElem? (i := 40) rfl))) (by decide) (backOf (W := 0) (rm8 l Z a0 hw []  h0 n0 Z0 ) hZ (hw _ (List.mem_of_getElem? (i := 40) rfl)) (hw _ (List.mem_of_getElem? (i := 4) rfl)) (by decide) (by decide)) (g := (mkF m 37 #[.val (.ref a1), .val (.double (4607182418800017408 : UInt64)), .second, .val (.double (0 : UInt64)), .second, .val (.double (4877398396442247168 : UInt64)), .second, .unset, .unset, .unset, .unset] [(.double (4877398396442247168 : UInt64)), (.double (4607182418800017408 : UInt64)), (.double (4877398396442247168 : UInt64))])) rfl (by rw [hml]; rfl) (argsL := [(.double (4877398396442247168 : UInt64)), (.double (4607182418800017408 : UInt64)), (.double (4877398396442247168 : UInt64))]) (rest := []) (lenOf pd_1 rfl) rfl (by show 2 * 0 + _ ≤ _; exact Nat.le_of_eq rfl) (hb hby d5_37) (fun _ _ => ⟨rfl, e37, (by decide : 0 + 0 ≤ _), (by decide : 0 + 0 ≤ _)⟩)
  have hQ39b : Q8 Z  h0 n0 vv39 T39.heap L39c := hQ39
  clear hQ39
  dsimp only [Pt.U, Pt.locs, Pt.cells, Pt.slots] at X39 l39 y39 z39 st39
  subst y39 z39
  obtain ⟨rfl, Nq40, Kq41⟩ := hQ39b
  have N42 : Fr n0 L39 := by rw [l39]; exact Fr.app N34 Nq40
  refine Go.of (g' := (mkF m 40 #[.val (.ref a1), .val (.double (4607182418800017408 : UInt64)), .second, .val (.double (0 : UInt64)), .second, .val (.double (4877398396442247168 : UInt64)), .second, .unset, .unset, .unset, .unset] [(.double (4607182418800017408 : UInt64))])) st39 ?_
  have e43 : T39.heap = h0 := Kq41
  have A44 := (⟨X39, hx, hby⟩ : Ax _ _ _ _ _ _ _ _ _ _ _ _ _ _ _)
  refine g_aloadN A44 d5_40 rfl rfl (pc' := 41) rfl ?_
  obtain ⟨T45, X45, e45, st45⟩ := getF X39 hx hZ hown (host := "") (Or.inl (hw _ (List.mem_of_getElem? (i := 18) rfl))) Via.refl e43 F29 (g := (mkF m 41 #[.val (.ref a1), .val (.double (4607182418800017408 : UInt64)), .second, .val (.double (0 : UInt64)), .second, .val (.double (4877398396442247168 : UInt64)), .second, .unset, .unset, .unset, .unset] [(.ref a1), (.double (4607182418800017408 : UInt64))])) rfl rfl (hb hby d5_41)
  refine Go.of (g' := (mkF m 44 #[.val (.ref a1), .val (.double (4607182418800017408 : UInt64)), .second, .val (.double (0 : UInt64)), .second, .val (.double (4877398396442247168 : UInt64)), .second, .unset, .unset, .unset, .unset] [(.double (0 : UInt64)), (.double (4607182418800017408 : UInt64))])) st45 ?_
  have A46 := (⟨X45, hx, hby⟩ : Ax _ _ _ _ _ _ _ _ _ _ _ _ _ _ _)
  refine g_dloadN A46 d5_44 rfl (pc' := 45) rfl ?_
  refine g_daddL A46 d5_45 (z := (0 : UInt64)) (by decide +kernel) (by unfold NoNaN64; decide +kernel) (pc' := 46) rfl ?_
  refine g_daddL A46 d5_46 (z := (4607182418800017408 : UInt64)) (by decide +kernel) (by unfold NoNaN64; decide +kernel) (pc' := 47) rfl ?_
  refine g_dstore A46 d5_47 (ls' := #[.val (.ref a1), .val (.double (4607182418800017408 : UInt64)), .second, .val (.double (0 : UInt64)), .second, .val (.double (4877398396442247168 : UInt64)), .second, .val (.double (4607182418800017408 : UInt64)), .second, .unset, .unset]) rfl (pc' := 49) rfl ?_
  refine g_dload A46 d5_49 rfl (pc' := 51) rfl ?_
  refine g_dload A46 d5_51 rfl (pc' := 53) rfl ?_
  refine g_daddL A46 d5_53 (z := (4877398396442247168 : UInt64)) (by decide +kernel) (by unfold NoNaN64; decide +kernel) (pc' := 54) rfl ?_
  refine g_dstore A46 d5_54 (ls' := #[.val (.ref a1), .val (.double (4607182418800017408 : UInt64)), .second, .val (.double (0 : UInt64)), .second, .val (.double (4877398396442247168 : UInt64)), .second, .val (.double (4607182418800017408 : UInt64)), .second, .val (.double (4877398396442247168 : UInt64)), .second]) rfl (pc' := 56) rfl ?_
  refine g_aloadN A46 d5_56 rfl rfl (pc' := 57) rfl ?_
  refine g_dload A46 d5_57 rfl (pc' := 59) rfl ?_
  refine g_dload A46 d5_59 rfl (pc' := 61) rfl ?_
  refine g_dload A46 d5_61 rfl (pc' := 63) rfl ?_
  obtain ⟨vv47, _, ⟨T47, L47, k47, n47⟩, -, X47, ⟨L47c, hQ47, l47, y47, z47⟩, st47⟩ := Jvm.LawKit.callS X45 hx (y := (⟨"com/example/hinterland/hinterland/DoubleDouble", "roundingError", "(DDD)D"⟩ : MethodName)) hown (mvT hZ (hw _ (List.mem_of_getElem? (i := 38) rfl))) (mvT hZ (hw _ (List.mem_of_getElem? (i := 39) rfl))) (mvT hZ (hw _ (List.mem_of_getElem? (i := 4) rfl))) (mvT hZ (hw _ (List.mem_of_getElem? (i := 40) rfl))) (by decide) (backOf (W := 1) (rm8 l Z a0 hw []  h0 n0 Z0 ) hZ (hw _ (List.mem_of_getElem? (i := 40) rfl)) (hw _ (List.mem_of_getElem? (i := 4) rfl)) (by decide) (by decide)) (g := (mkF m 63 #[.val (.ref a1), .val (.double (4607182418800017408 : UInt64)), .second, .val (.double (0 : UInt64)), .second, .val (.double (4877398396442247168 : UInt64)), .second, .val (.double (4607182418800017408 : UInt64)), .second, .val (.double (4877398396442247168 : UInt64)), .second] [(.double (4877398396442247168 : UInt64)), (.double (4607182418800017408 : UInt64)), (.double (4877398396442247168 : UInt64)), (.ref a1)])) rfl (by rw [hml]; rfl) (argsL := [(.double (4877398396442247168 : UInt64)), (.double (4607182418800017408 : UInt64)), (.double (4877398396442247168 : UInt64))]) (rest := [(.ref a1)]) (lenOf pd_1 rfl) rfl (by show 2 * 0 + _ ≤ _; exact Nat.le_of_eq rfl) (hb hby d5_63) (fun _ _ => ⟨rfl, e45, (by decide : 0 + 0 ≤ _), (by decide : 0 + 0 ≤ _)⟩)
  have hQ47b : Q8 Z  h0 n0 vv47 T47.heap L47c := hQ47
  clear hQ47
  dsimp only [Pt.U, Pt.locs, Pt.cells, Pt.slots] at X47 l47 y47 z47 st47
  subst y47 z47
  obtain ⟨rfl, Nq48, Kq49⟩ := hQ47b
  have N50 : Fr n0 L47 := by rw [l47]; exact Fr.app N42 Nq48
  refine Go.of (g' := (mkF m 66 #[.val (.ref a1), .val (.double (4607182418800017408 : UInt64)), .second, .val (.double (0 : UInt64)), .second, .val (.double (4877398396442247168 : UInt64)), .second, .val (.double (4607182418800017408 : UInt64)), .second, .val (.double (4877398396442247168 : UInt64)), .second] [(.double (4607182418800017408 : UInt64)), (.ref a1)])) st47 ?_
  have e51 : T47.heap = h0 := Kq49
  have A52 := (⟨X47, hx, hby⟩ : Ax _ _ _ _ _ _ _ _ _ _ _ _ _ _ _)
  obtain ⟨T53, h53, X53, e53, W53, st53⟩ := putF X47 hx hZ hown (host := "") (Or.inl (hw _ (List.mem_of_getElem? (i := 18) rfl))) Via.refl e51 F29 E27 (Or.inl (hw _ (List.mem_of_getElem? (i := 19) rfl))) (hw _ (List.mem_of_getElem? (i := 3) rfl)) (ty := .double) (by decide) rfl rfl (g := (mkF m 66 #[.val (.ref a1), .val (.double (4607182418800017408 : UInt64)), .second, .val (.double (0 : UInt64)), .second, .val (.double (4877398396442247168 : UInt64)), .second, .val (.double (4607182418800017408 : UInt64)), .second, .val (.double (4877398396442247168 : UInt64)), .second] [(.double (4607182418800017408 : UInt64)), (.ref a1)])) rfl rfl (hb hby d5_66)
  have N54 := Fr.snoc X53 N50 g30
  have K55 : Keep h0 h53 [a1] := (Keep.refl h0 [a1]).wr W53 (Or.inl (List.mem_of_getElem? (i := 0) rfl))
  have E56 : Exa Z h53 a1 "com/example/hinterland/hinterland/DoubleDouble" := Exa.wr W53 E27
  have F57 : Fld Z h53 a1 "com/example/hinterland/hinterland/DoubleDouble" "high" "D" (.double (4877398396442247168 : UInt64)) := Fld.other W53 F28 (Or.inr (slot_ne (Or.inl (hw _ (List.mem_of_getElem? (i := 17) rfl))) (Or.inl (hw _ (List.mem_of_getElem? (i := 19) rfl))) (by decide) (t := .double) (t' := .double) (by decide) (by decide)))
  have F58 : Fld Z h53 a1 "com/example/hinterland/hinterland/DoubleDouble" "low" "D" (.double (4607182418800017408 : UInt64)) := Fld.same W53 F29
  have Z59 : n0 ≤ h53.size := by rw [W53.size]; exact Z0
  refine Go.of (g' := (mkF m 69 #[.val (.ref a1), .val (.double (4607182418800017408 : UInt64)), .second, .val (.double (0 : UInt64)), .second, .val (.double (4877398396442247168 : UInt64)), .second, .val (.double (4607182418800017408 : UInt64)), .second, .val (.double (4877398396442247168 : UInt64)), .second] [])) st53 ?_
  have A60 := (⟨X53, hx, hby⟩ : Ax _ _ _ _ _ _ _ _ _ _ _ _ _ _ _)
  refine g_aloadN A60 d5_69 rfl rfl (pc' := 70) rfl ?_
  refine g_dload A60 d5_70 rfl (pc' := 72) rfl ?_
  obtain ⟨T61, h61, X61, e61, W61, st61⟩ := putF X53 hx hZ hown (host := "") (Or.inl (hw _ (List.mem_of_getElem? (i := 16) rfl))) Via.refl e53 F57 E56 (Or.inl (hw _ (List.mem_of_getElem? (i := 17) rfl))) (hw _ (List.mem_of_getElem? (i := 3) rfl)) (ty := .double) (by decide) rfl rfl (g := (mkF m 72 #[.val (.ref a1), .val (.double (4607182418800017408 : UInt64)), .second, .val (.double (0 : UInt64)), .second, .val (.double (4877398396442247168 : UInt64)), .second, .val (.double (4607182418800017408 : UInt64)), .second, .val (.double (4877398396442247168 : UInt64)), .second] [(.double (4877398396442247168 : UInt64)), (.ref a1)])) rfl rfl (hb hby d5_72)
  have N62 := Fr.snoc X61 N54 g30
  have K63 : Keep h0 h61 [a1] := K55.wr W61 (Or.inl (List.mem_of_getElem? (i := 0) rfl))
  have E64 : Exa Z h61 a1 "com/example/hinterland/hinterland/DoubleDouble" := Exa.wr W61 E56
  have F65 : Fld Z h61 a1 "com/example/hinterland/hinterland/DoubleDouble" "low" "D" (.double (4607182418800017408 : UInt64)) := Fld.other W61 F58 (Or.inr (slot_ne (Or.inl (hw _ (List.mem_of_getElem? (i := 19) rfl))) (Or.inl (hw _ (List.mem_of_getElem? (i := 17) rfl))) (by decide) (t := .double) (t' := .double) (by decide) (by decide)))
  have F66 : Fld Z h61 a1 "com/example/hinterland/hinterland/DoubleDouble" "high" "D" (.double (4877398396442247168 : UInt64)) := Fld.same W61 F57
  have Z67 : n0 ≤ h61.size := by rw [W61.size]; exact Z59
  refine Go.of (g' := (mkF m 75 #[.val (.ref a1), .val (.double (4607182418800017408 : UInt64)), .second, .val (.double (0 : UInt64)), .second, .val (.double (4877398396442247168 : UInt64)), .second, .val (.double (4607182418800017408 : UInt64)), .second, .val (.double (4877398396442247168 : UInt64)), .second] [])) st61 ?_
  have A68 := (⟨X61, hx, hby⟩ : Ax _ _ _ _ _ _ _ _ _ _ _ _ _ _ _)
  refine g_aloadN A68 d5_75 rfl rfl (pc' := 76) rfl ?_
  exact g_ret (Q := Q5 Z a1 h0 n0) A68 d5_76 Bd.notSynchronized Bd.returns rfl (Or.inr (Or.inr (Or.inr (Or.inr ⟨rfl, rfl, rfl⟩)))) (by decide) (by decide) (by rw [e61]; exact ⟨rfl, N62, K63, F66, F65⟩)
theorem d4_0 : decode prog_9_method_5_code 0 = .ok (.aload_n 0, 1) := by decide +kernel
theorem d4_1 : decode prog_9_method_5_code 1 = .ok (.dload_n 1, 1) := by decide +kernel
theorem d4_2 : decode prog_9_method_5_code 2 = .ok (.dconst 0, 1) := by decide +kernel
theorem d4_3 : decode prog_9_method_5_code 3 = .ok (.invokevirtual 23, 3) := by decide +kernel
theorem d4_6 : decode prog_9_method_5_code 6 = .ok (.areturn, 1) := by decide +kernel
theorem ef69 (m : MethodId) (a1 : Addr) : entryFrame m #[(.ref a1), (.double (4607182418800017408 : UInt64))] 3 = mkF m 0 #[.val (.ref a1), .val (.double (4607182418800017408 : UInt64)), .second] [] := by first | (simp [entryFrame, mkF, argsToLocals, Value.category]; done) | rfl
def Q4 (Z : State) (a1 : Addr) (h0 : Heap) (n0 : Nat) (v : Option Value) (h : Heap) (L : List Loc) : Prop := v = some (.ref a1) ∧ Fr n0 L ∧ Keep h0 h [a1] ∧ Fld Z h a1 "com/example/hinterland/hinterland/DoubleDouble" "high" "D" (.double (4877398396442247168 : UInt64)) ∧ Fld Z h a1 "com/example/hinterland/hinterland/DoubleDouble" "low" "D" (.double (4607182418800017408 : UInt64))
theorem pd_2 : parseMethodDescriptor "(DD)Lcom/example/hinterland/hinterland/DoubleDouble;" = some ⟨[.double, .double], some (.object "com/example/hinterland/hinterland/DoubleDouble")⟩ := by decide +kernel
theorem own_selP {s : State} {args : Array Value} {y : MethodName} {n : Nat} (hi : (Jvm.Cond.instantiable y.cls n).before args s = true) (hpriv : s.PrivateAt y) (hinst : (Jvm.Cond.instanceMethod y).before args s = true) (hy : y.cls ≠ "java/lang/invoke/MethodHandle" ∧ y.cls ≠ "java/lang/invoke/VarHandle") : (Jvm.Cond.selects y.cls y y).before args s = true := by
  obtain ⟨c, k, h1, h2, -, h3, -⟩ := Cond.instantiable_spec hi
  exact Stand.selects_self_of_private h1 h2 (by cases q : k.isInterface with | false => rfl | true => rw [q] at h3; cases h3) hpriv hinst hy
set_option maxRecDepth 65536 in
set_option maxHeartbeats 40000000 in
theorem rm4 (l : Launch) (Z : State) (a0 : Array Value) (hw : ∀ d ∈ tables_1, d.before a0 Z = true) (ws : List Jvm.Cond) (a1 : Addr) (h0 : Heap) (n0 : Nat) (Z0 : n0 ≤ h0.size) (E70 : Exa Z h0 a1 "com/example/hinterland/hinterland/DoubleDouble") (F71 : Fld Z h0 a1 "com/example/hinterland/hinterland/DoubleDouble" "high" "D" (.double (4877398396442247168 : UInt64))) (F72 : Fld Z h0 a1 "com/example/hinterland/hinterland/DoubleDouble" "low" "D" (.double (0 : UInt64))) (g73 : n0 ≤ a1) :
    MetFree l (⟨"com/example/hinterland/hinterland/DoubleDouble", "add", "(D)Lcom/example/hinterland/hinterland/DoubleDouble;"⟩ : MethodName) (head1 (Jvm.Cond.code (⟨"com/example/hinterland/hinterland/DoubleDouble", "add", "(D)Lcom/example/hinterland/hinterland/DoubleDouble;"⟩ : MethodName) prog_9_method_5_code 3 (some (.object "com/example/hinterland/hinterland/DoubleDouble")) :: ws) ({ frames := 3, cells := 0, slots := 0, locals := 48 } : Room)) (fun a U => a = #[(.ref a1), (.double (4607182418800017408 : UInt64))] ∧ Z.Warmed39 U.vm ∧ U.heap = h0) (fun _ _ _ _ _ => True) (fun _ U o U' => ∃ v L, o = .returned v ∧ Q4 Z a1 h0 n0 v U'.heap L ∧ FrameEnd U o U' L 0 0) := by
  refine MetFree.of_bodySF (plainFor_of_name pn_0) hisR ?_
  intro p e s m args below meth c s₁ Bd hml0 hP hK
  obtain ⟨rfl, hZ, hh⟩ := hP
  have hx := Bd.exec
  have hby := Bd.bytes
  have hml : c.maxLocals = 3 := hml0
  have hown : s.vm.findClass "com/example/hinterland/hinterland/DoubleDouble" = some m.cls := findClass_of_methodNamed Bd.named
  have hnm := (name_of_methodNamed Bd.named Bd.method).1
  have X0 : Stand p l e ({ frames := 3, cells := 0, slots := 0, locals := 48 } : Room) s m #[(.ref a1), (.double (4607182418800017408 : UInt64))] below meth c s₁ [] 0 0 := Stand.of_body Bd
  have e0 : s₁.heap = h0 := by rw [← hh, Bd.state]; rfl
  have N0 := Fr.nil n0
  have A0 := (⟨X0, hx, hby⟩ : Ax _ _ _ _ _ _ _ _ _ _ _ _ _ _ _)
  show Go p e below (fun U o => ∃ v L, o = .returned v ∧ Q4 Z a1 h0 n0 v U.heap L ∧ FrameEnd s o U L 0 0) s₁ (entryFrame m #[(.ref a1), (.double (4607182418800017408 : UInt64))] 3)
  refine Go.cast (ef69 m a1) ?_
  refine g_aloadN A0 d4_0 rfl rfl (pc' := 1) rfl ?_
  refine g_dloadN A0 d4_1 rfl (pc' := 2) rfl ?_
  refine g_dconst0 A0 d4_2 (pc' := 3) rfl ?_
  obtain ⟨cq75, q75a, q75b⟩ := E70.cell
  obtain ⟨vv74, _, ⟨T74, L74, k74, n74⟩, -, X74, ⟨L74c, hQ74, l74, y74, z74⟩, st74⟩ := X0.privateBack hx (y := (⟨"com/example/hinterland/hinterland/DoubleDouble", "add", "(DD)Lcom/example/hinterland/hinterland/DoubleDouble;"⟩ : MethodName)) hown (mvT hZ (hw _ (List.mem_of_getElem? (i := 25) rfl))) (mvT hZ (hw _ (List.mem_of_getElem? (i := 26) rfl))) (own_selP (mvT hZ (hw _ (List.mem_of_getElem? (i := 3) rfl))) (Cond.privateMethod_at (mvP hZ (hw _ (List.mem_of_getElem? (i := 27) rfl)) (args := #[]))) (mvT hZ (hw _ (List.mem_of_getElem? (i := 26) rfl))) (by decide)) (Cond.privateMethod_at (mvP hZ (hw _ (List.mem_of_getElem? (i := 27) rfl)) (args := #[]))) (mvT hZ (hw _ (List.mem_of_getElem? (i := 28) rfl))) (by decide) (backOf (W := 0) (rm5 l Z a0 hw [] a1 h0 n0 Z0 E70 F71 F72 g73) hZ (hw _ (List.mem_of_getElem? (i := 28) rfl)) (hw _ (List.mem_of_getElem? (i := 4) rfl)) (by decide) (by decide)) (g := (mkF m 3 #[.val (.ref a1), .val (.double (4607182418800017408 : UInt64)), .second] [(.double (0 : UInt64)), (.double (4607182418800017408 : UInt64)), (.ref a1)])) rfl (by rw [hml]; rfl) (Steps.refl _) (a := a1) (by rw [e0]; exact q75a) q75b (argsL := [(.double (4607182418800017408 : UInt64)), (.double (0 : UInt64))]) (rest := []) (lenOf pd_2 rfl) rfl (by show 2 * 0 + _ ≤ _; exact Nat.le_of_eq rfl) (hb hby d4_3) (fun _ _ => ⟨rfl, e0, (by decide : 0 + 0 ≤ _), (by decide : 0 + 0 ≤ _)⟩)
  have hQ74b : Q5 Z a1 h0 n0 vv74 T74.heap L74c := hQ74
  clear hQ74
  dsimp only [Pt.U, Pt.locs, Pt.cells, Pt.slots] at X74 l74 y74 z74 st74
  subst y74 z74
  obtain ⟨rfl, Nq76, Kq77, F78, F79⟩ := hQ74b
  have N80 : Fr n0 L74 := by rw [l74]; exact Fr.app N0 Nq76
  refine Go.tr (g' := (mkF m 6 #[.val (.ref a1), .val (.double (4607182418800017408 : UInt64)), .second] [(.ref a1)])) st74 ?_
  have E81 : Exa Z T74.heap a1 "com/example/hinterland/hinterland/DoubleDouble" := Exa.keep E70 Kq77
  have Z82 : n0 ≤ T74.heap.size := Nat.le_trans Z0 Kq77.1
  have K83 : Keep h0 T74.heap [a1] := (Keep.refl h0 [a1]).trans Kq77 (allS (Or.inl (List.mem_of_getElem? (i := 0) rfl)) all0)
  have A84 := (⟨X74, hx, hby⟩ : Ax _ _ _ _ _ _ _ _ _ _ _ _ _ _ _)
  exact g_ret (Q := Q4 Z a1 h0 n0) A84 d4_6 Bd.notSynchronized Bd.returns rfl (Or.inr (Or.inr (Or.inr (Or.inr ⟨rfl, rfl, rfl⟩)))) (by decide) (by decide) ⟨rfl, N80, K83, F78, F79⟩
theorem d11_0 : decode prog_9_method_16_code 0 = .ok (.aload_n 0, 1) := by decide +kernel
theorem d11_1 : decode prog_9_method_16_code 1 = .ok (.getfield 7, 3) := by decide +kernel
theorem d11_4 : decode prog_9_method_16_code 4 = .ok (.dreturn, 1) := by decide +kernel
theorem ef85 (m : MethodId) (a1 : Addr) (x2 : UInt64) : entryFrame m #[(.ref a1)] 1 = mkF m 0 #[.val (.ref a1)] [] := by first | (simp [entryFrame, mkF, argsToLocals, Value.category]; done) | rfl
def Q11 (Z : State) (a1 : Addr) (x2 : UInt64) (h0 : Heap) (n0 : Nat) (v : Option Value) (h : Heap) (L : List Loc) : Prop := v = some (.double x2) ∧ Fr n0 L ∧ h = h0
set_option maxRecDepth 65536 in
set_option maxHeartbeats 40000000 in
theorem rm11 (l : Launch) (Z : State) (a0 : Array Value) (hw : ∀ d ∈ tables_1, d.before a0 Z = true) (ws : List Jvm.Cond) (a1 : Addr) (x2 : UInt64) (h0 : Heap) (n0 : Nat) (Z0 : n0 ≤ h0.size) (F86 : Fld Z h0 a1 "com/example/hinterland/hinterland/DoubleDouble" "high" "D" (.double x2)) :
    MetFree l (⟨"com/example/hinterland/hinterland/DoubleDouble", "high", "()D"⟩ : MethodName) (head1 (Jvm.Cond.code (⟨"com/example/hinterland/hinterland/DoubleDouble", "high", "()D"⟩ : MethodName) prog_9_method_16_code 1 (some .double) :: ws) ({ frames := 0, cells := 0, slots := 0, locals := 0 } : Room)) (fun a U => a = #[(.ref a1)] ∧ Z.Warmed39 U.vm ∧ U.heap = h0) (fun _ _ _ _ _ => True) (fun _ U o U' => ∃ v L, o = .returned v ∧ Q11 Z a1 x2 h0 n0 v U'.heap L ∧ FrameEnd U o U' L 0 0) := by
  refine MetFree.of_bodySF (plainFor_of_name pn_0) hisR ?_
  intro p e s m args below meth c s₁ Bd hml0 hP hK
  obtain ⟨rfl, hZ, hh⟩ := hP
  have hx := Bd.exec
  have hby := Bd.bytes
  have hml : c.maxLocals = 1 := hml0
  have hown : s.vm.findClass "com/example/hinterland/hinterland/DoubleDouble" = some m.cls := findClass_of_methodNamed Bd.named
  have hnm := (name_of_methodNamed Bd.named Bd.method).1
  have X0 : Stand p l e ({ frames := 0, cells := 0, slots := 0, locals := 0 } : Room) s m #[(.ref a1)] below meth c s₁ [] 0 0 := Stand.of_body Bd
  have e0 : s₁.heap = h0 := by rw [← hh, Bd.state]; rfl
  have N0 := Fr.nil n0
  have A0 := (⟨X0, hx, hby⟩ : Ax _ _ _ _ _ _ _ _ _ _ _ _ _ _ _)
  show Go p e below (fun U o => ∃ v L, o = .returned v ∧ Q11 Z a1 x2 h0 n0 v U.heap L ∧ FrameEnd s o U L 0 0) s₁ (entryFrame m #[(.ref a1)] 1)
  refine Go.cast (ef85 m a1 x2) ?_
  refine g_aloadN A0 d11_0 rfl rfl (pc' := 1) rfl ?_
  obtain ⟨T87, X87, e87, st87⟩ := getF X0 hx hZ hown (host := "") (Or.inl (hw _ (List.mem_of_getElem? (i := 16) rfl))) Via.refl e0 F86 (g := (mkF m 1 #[.val (.ref a1)] [(.ref a1)])) rfl rfl (hb hby d11_1)
  refine Go.of (g' := (mkF m 4 #[.val (.ref a1)] [(.double x2)])) st87 ?_
  have A88 := (⟨X87, hx, hby⟩ : Ax _ _ _ _ _ _ _ _ _ _ _ _ _ _ _)
  exact g_ret (Q := Q11 Z a1 x2 h0 n0) A88 d11_4 Bd.notSynchronized Bd.returns rfl (Or.inr (Or.inr (Or.inl ⟨rfl, rfl, _, rfl⟩))) (by decide) (by decide) (by rw [e87]; exact ⟨rfl, N0, rfl⟩)
theorem d12_0 : decode prog_9_method_17_code 0 = .ok (.aload_n 0, 1) := by decide +kernel
theorem d12_1 : decode prog_9_method_17_code 1 = .ok (.getfield 13, 3) := by decide +kernel
theorem d12_4 : decode prog_9_method_17_code 4 = .ok (.dreturn, 1) := by decide +kernel
theorem ef89 (m : MethodId) (a1 : Addr) (x2 : UInt64) : entryFrame m #[(.ref a1)] 1 = mkF m 0 #[.val (.ref a1)] [] := by first | (simp [entryFrame, mkF, argsToLocals, Value.category]; done) | rfl
def Q12 (Z : State) (a1 : Addr) (x2 : UInt64) (h0 : Heap) (n0 : Nat) (v : Option Value) (h : Heap) (L : List Loc) : Prop := v = some (.double x2) ∧ Fr n0 L ∧ h = h0
set_option maxRecDepth 65536 in
set_option maxHeartbeats 40000000 in
theorem rm12 (l : Launch) (Z : State) (a0 : Array Value) (hw : ∀ d ∈ tables_1, d.before a0 Z = true) (ws : List Jvm.Cond) (a1 : Addr) (x2 : UInt64) (h0 : Heap) (n0 : Nat) (Z0 : n0 ≤ h0.size) (F90 : Fld Z h0 a1 "com/example/hinterland/hinterland/DoubleDouble" "low" "D" (.double x2)) :
    MetFree l (⟨"com/example/hinterland/hinterland/DoubleDouble", "low", "()D"⟩ : MethodName) (head1 (Jvm.Cond.code (⟨"com/example/hinterland/hinterland/DoubleDouble", "low", "()D"⟩ : MethodName) prog_9_method_17_code 1 (some .double) :: ws) ({ frames := 0, cells := 0, slots := 0, locals := 0 } : Room)) (fun a U => a = #[(.ref a1)] ∧ Z.Warmed39 U.vm ∧ U.heap = h0) (fun _ _ _ _ _ => True) (fun _ U o U' => ∃ v L, o = .returned v ∧ Q12 Z a1 x2 h0 n0 v U'.heap L ∧ FrameEnd U o U' L 0 0) := by
  refine MetFree.of_bodySF (plainFor_of_name pn_0) hisR ?_
  intro p e s m args below meth c s₁ Bd hml0 hP hK
  obtain ⟨rfl, hZ, hh⟩ := hP
  have hx := Bd.exec
  have hby := Bd.bytes
  have hml : c.maxLocals = 1 := hml0
  have hown : s.vm.findClass "com/example/hinterland/hinterland/DoubleDouble" = some m.cls := findClass_of_methodNamed Bd.named
  have hnm := (name_of_methodNamed Bd.named Bd.method).1
  have X0 : Stand p l e ({ frames := 0, cells := 0, slots := 0, locals := 0 } : Room) s m #[(.ref a1)] below meth c s₁ [] 0 0 := Stand.of_body Bd
  have e0 : s₁.heap = h0 := by rw [← hh, Bd.state]; rfl
  have N0 := Fr.nil n0
  have A0 := (⟨X0, hx, hby⟩ : Ax _ _ _ _ _ _ _ _ _ _ _ _ _ _ _)
  show Go p e below (fun U o => ∃ v L, o = .returned v ∧ Q12 Z a1 x2 h0 n0 v U.heap L ∧ FrameEnd s o U L 0 0) s₁ (entryFrame m #[(.ref a1)] 1)
  refine Go.cast (ef89 m a1 x2) ?_
  refine g_aloadN A0 d12_0 rfl rfl (pc' := 1) rfl ?_
  obtain ⟨T91, X91, e91, st91⟩ := getF X0 hx hZ hown (host := "") (Or.inl (hw _ (List.mem_of_getElem? (i := 18) rfl))) Via.refl e0 F90 (g := (mkF m 1 #[.val (.ref a1)] [(.ref a1)])) rfl rfl (hb hby d12_1)
  refine Go.of (g' := (mkF m 4 #[.val (.ref a1)] [(.double x2)])) st91 ?_
  have A92 := (⟨X91, hx, hby⟩ : Ax _ _ _ _ _ _ _ _ _ _ _ _ _ _ _)
  exact g_ret (Q := Q12 Z a1 x2 h0 n0) A92 d12_4 Bd.notSynchronized Bd.returns rfl (Or.inr (Or.inr (Or.inl ⟨rfl, rfl, _, rfl⟩))) (by decide) (by decide) (by rw [e91]; exact ⟨rfl, N0, rfl⟩)
theorem d9_0 : decode prog_10_method_1_code 0 = .ok (.aload_n 0, 1) := by decide +kernel
theorem d9_1 : decode prog_10_method_1_code 1 = .ok (.invokespecial 1, 3) := by decide +kernel
theorem d9_4 : decode prog_10_method_1_code 4 = .ok (.aload_n 0, 1) := by decide +kernel
theorem d9_5 : decode prog_10_method_1_code 5 = .ok (.iconst 2, 1) := by decide +kernel
theorem d9_6 : decode prog_10_method_1_code 6 = .ok (.iload_n 1, 1) := by decide +kernel
theorem d9_7 : decode prog_10_method_1_code 7 = .ok (.imul, 1) := by decide +kernel
theorem d9_8 : decode prog_10_method_1_code 8 = .ok (.newarray .double, 2) := by decide +kernel
theorem d9_10 : decode prog_10_method_1_code 10 = .ok (.putfield 7, 3) := by decide +kernel
theorem d9_13 : decode prog_10_method_1_code 13 = .ok (.return_, 1) := by decide +kernel
theorem pn_1 : plainName "com/example/hinterland/hinterland/DoubleDoubles" = true := by first | (simp [plainName, overriddenIn]; done) | decide +kernel
theorem ef93 (m : MethodId) (a1 : Addr) (n : Nat) (u0 : Value) : entryFrame m #[(.ref a1), (.int (Int32.ofNat n))] 2 = mkF m 0 #[.val (.ref a1), .val (.int (Int32.ofNat n))] [] := by first | (simp [entryFrame, mkF, argsToLocals, Value.category]; done) | rfl
def Q9 (Z : State) (a1 : Addr) (n : Nat) (u0 : Value) (h0 : Heap) (n0 : Nat) (v : Option Value) (h : Heap) (L : List Loc) : Prop := ∃ bb : Addr, v = none ∧ Fr n0 L ∧ Keep h0 h [a1] ∧ h0.size ≤ bb ∧ Fld Z h a1 "com/example/hinterland/hinterland/DoubleDoubles" "parts" "[D" (.ref bb) ∧ Dar Z h bb .double (2 * n) (fun _ => .double (0 : UInt64))
set_option maxRecDepth 65536 in
set_option maxHeartbeats 40000000 in
theorem rm9 (l : Launch) (Z : State) (a0 : Array Value) (hw : ∀ d ∈ tables_1, d.before a0 Z = true) (ws : List Jvm.Cond) (a1 : Addr) (n : Nat) (u0 : Value) (h0 : Heap) (n0 : Nat) (Z0 : n0 ≤ h0.size) (E94 : Exa Z h0 a1 "com/example/hinterland/hinterland/DoubleDoubles") (F95 : Fld Z h0 a1 "com/example/hinterland/hinterland/DoubleDoubles" "parts" "[D" u0) (g96 : n0 ≤ a1) (hn : n ≤ 5) :
    MetFree l (⟨"com/example/hinterland/hinterland/DoubleDoubles", "<init>", "(I)V"⟩ : MethodName) (head1 (Jvm.Cond.code (⟨"com/example/hinterland/hinterland/DoubleDoubles", "<init>", "(I)V"⟩ : MethodName) prog_10_method_1_code 2 none :: ws) ({ frames := 1, cells := 1, slots := 10, locals := 12 } : Room)) (fun a U => a = #[(.ref a1), (.int (Int32.ofNat n))] ∧ Z.Warmed39 U.vm ∧ U.heap = h0) (fun _ _ _ _ _ => True) (fun _ U o U' => ∃ v L, o = .returned v ∧ Q9 Z a1 n u0 h0 n0 v U'.heap L ∧ FrameEnd U o U' L 1 10) := by
  refine MetFree.of_bodySF (plainFor_of_name pn_1) hisR ?_
  intro p e s m args below meth c s₁ Bd hml0 hP hK
  obtain ⟨rfl, hZ, hh⟩ := hP
  have hx := Bd.exec
  have hby := Bd.bytes
  have hml : c.maxLocals = 2 := hml0
  have hown : s.vm.findClass "com/example/hinterland/hinterland/DoubleDoubles" = some m.cls := findClass_of_methodNamed Bd.named
  have hnm := (name_of_methodNamed Bd.named Bd.method).1
  have X0 : Stand p l e ({ frames := 1, cells := 1, slots := 10, locals := 12 } : Room) s m #[(.ref a1), (.int (Int32.ofNat n))] below meth c s₁ [] 0 0 := Stand.of_body Bd
  have e0 : s₁.heap = h0 := by rw [← hh, Bd.state]; rfl
  have N0 := Fr.nil n0
  have A0 := (⟨X0, hx, hby⟩ : Ax _ _ _ _ _ _ _ _ _ _ _ _ _ _ _)
  show Go p e below (fun U o => ∃ v L, o = .returned v ∧ Q9 Z a1 n u0 h0 n0 v U.heap L ∧ FrameEnd s o U L 1 10) s₁ (entryFrame m #[(.ref a1), (.int (Int32.ofNat n))] 2)
  refine Go.cast (ef93 m a1 n u0) ?_
  refine g_aloadN A0 d9_0 rfl rfl (pc' := 1) rfl ?_
  obtain ⟨T97, X97, e97, st97⟩ := initO X0 hx hZ hown (hw _ (List.mem_of_getElem? (i := 47) rfl)) (hw _ (List.mem_of_getElem? (i := 9) rfl)) (hw _ (List.mem_of_getElem? (i := 10) rfl)) e0 (g := (mkF m 1 #[.val (.ref a1), .val (.int (Int32.ofNat n))] [(.ref a1)])) rfl (by rw [hml]; rfl) rfl (hb hby d9_1) (by decide) (W := 0) (by show 2 * 0 + _ ≤ _; exact Nat.le_of_eq rfl) (by decide)
  refine Go.of (g' := (mkF m 4 #[.val (.ref a1), .val (.int (Int32.ofNat n))] [])) st97 ?_
  have A98 := (⟨X97, hx, hby⟩ : Ax _ _ _ _ _ _ _ _ _ _ _ _ _ _ _)
  refine g_aloadN A98 d9_4 rfl rfl (pc' := 5) rfl ?_
  refine g_iconst A98 d9_5 (v := (2 : Int32)) rfl (pc' := 6) rfl ?_
  refine g_iloadN A98 d9_6 rfl (pc' := 7) rfl ?_
  refine g_imul A98 d9_7 (pc' := 8) rfl ?_
  rw [own_2i]
  obtain ⟨T99, h99, k99, X99, e99, E99, Ar99, st99⟩ := newP X97 hx hZ (hw _ (List.mem_of_getElem? (i := 48) rfl)) e97 (g := (mkF m 8 #[.val (.ref a1), .val (.int (Int32.ofNat n))] [(.int (Int32.ofNat (2 * n))), (.ref a1)])) rfl (hb hby d9_8) rfl (own_clamp (by omega)).2 (cap := 10) (by rw [(own_clamp (i := 2 * n) (by omega)).1]; omega) (by decide) (by decide) (by decide)
  obtain ⟨b100, eb100⟩ : ∃ z, z = h0.size := ⟨_, rfl⟩
  rw [← eb100] at Ar99 st99
  have ne101 : a1 ≠ b100 := own_ne eb100 E94.lt
  have g102 : n0 ≤ b100 := by rw [eb100]; exact Z0
  have gh103 : h0.size ≤ b100 := by rw [eb100]; exact (Keep.refl h0 [a1]).1
  have K104 : Keep h0 h99 [a1] := (Keep.refl h0 [a1]).ext E99
  have E105 : Exa Z h99 a1 "com/example/hinterland/hinterland/DoubleDoubles" := Exa.ext E99 E94
  have F106 : Fld Z h99 a1 "com/example/hinterland/hinterland/DoubleDoubles" "parts" "[D" u0 := Fld.ext E99 F95
  have Z107 : n0 ≤ h99.size := Nat.le_trans Z0 E99.1
  have V108 : Dar Z h99 b100 .double (2 * n) (fun _ => .double (0 : UInt64)) := Dar.new Ar99 (own_clamp (by omega)).1
  refine Go.of (g' := (mkF m 10 #[.val (.ref a1), .val (.int (Int32.ofNat n))] [(.ref b100), (.ref a1)])) st99 ?_
  have A109 := (⟨X99, hx, hby⟩ : Ax _ _ _ _ _ _ _ _ _ _ _ _ _ _ _)
  obtain ⟨T110, h110, X110, e110, W110, st110⟩ := putF X99 hx hZ hown (host := "") (Or.inl (hw _ (List.mem_of_getElem? (i := 49) rfl))) Via.refl e99 F106 E105 (Or.inr ⟨(hw _ (List.mem_of_getElem? (i := 50) rfl)), rfl, hnm⟩) (hw _ (List.mem_of_getElem? (i := 42) rfl)) (ty := (.array .double)) (by decide) rfl rfl (g := (mkF m 10 #[.val (.ref a1), .val (.int (Int32.ofNat n))] [(.ref b100), (.ref a1)])) rfl rfl (hb hby d9_10)
  have N111 := Fr.snoc X110 N0 g96
  have K112 : Keep h0 h110 [a1] := K104.wr W110 (Or.inl (List.mem_of_getElem? (i := 0) rfl))
  have E113 : Exa Z h110 a1 "com/example/hinterland/hinterland/DoubleDoubles" := Exa.wr W110 E105
  have V114 : Dar Z h110 b100 .double (2 * n) (fun _ => .double (0 : UInt64)) := Dar.other W110 V108 (Ne.symm ne101)
  have F115 : Fld Z h110 a1 "com/example/hinterland/hinterland/DoubleDoubles" "parts" "[D" (.ref b100) := Fld.same W110 F106
  have Z116 : n0 ≤ h110.size := by rw [W110.size]; exact Z107
  refine Go.of (g' := (mkF m 13 #[.val (.ref a1), .val (.int (Int32.ofNat n))] [])) st110 ?_
  have A117 := (⟨X110, hx, hby⟩ : Ax _ _ _ _ _ _ _ _ _ _ _ _ _ _ _)
  exact g_retV (Q := Q9 Z a1 n u0 h0 n0) A117 d9_13 Bd.notSynchronized Bd.returns (by decide) (by decide) (by rw [e110]; exact ⟨b100, rfl, N111, K112, gh103, F115, V114⟩)
theorem d10_0 : decode prog_10_method_4_code 0 = .ok (.aload_n 0, 1) := by decide +kernel
theorem d10_1 : decode prog_10_method_4_code 1 = .ok (.getfield 7, 3) := by decide +kernel
theorem d10_4 : decode prog_10_method_4_code 4 = .ok (.iconst 2, 1) := by decide +kernel
theorem d10_5 : decode prog_10_method_4_code 5 = .ok (.iload_n 1, 1) := by decide +kernel
theorem d10_6 : decode prog_10_method_4_code 6 = .ok (.imul, 1) := by decide +kernel
theorem d10_7 : decode prog_10_method_4_code 7 = .ok (.aload_n 2, 1) := by decide +kernel
theorem d10_8 : decode prog_10_method_4_code 8 = .ok (.invokevirtual 13, 3) := by decide +kernel
theorem d10_11 : decode prog_10_method_4_code 11 = .ok (.dastore, 1) := by decide +kernel
theorem d10_12 : decode prog_10_method_4_code 12 = .ok (.aload_n 0, 1) := by decide +kernel
theorem d10_13 : decode prog_10_method_4_code 13 = .ok (.getfield 7, 3) := by decide +kernel
theorem d10_16 : decode prog_10_method_4_code 16 = .ok (.iconst 2, 1) := by decide +kernel
theorem d10_17 : decode prog_10_method_4_code 17 = .ok (.iload_n 1, 1) := by decide +kernel
theorem d10_18 : decode prog_10_method_4_code 18 = .ok (.imul, 1) := by decide +kernel
theorem d10_19 : decode prog_10_method_4_code 19 = .ok (.iconst 1, 1) := by decide +kernel
theorem d10_20 : decode prog_10_method_4_code 20 = .ok (.iadd, 1) := by decide +kernel
theorem d10_21 : decode prog_10_method_4_code 21 = .ok (.aload_n 2, 1) := by decide +kernel
theorem d10_22 : decode prog_10_method_4_code 22 = .ok (.invokevirtual 19, 3) := by decide +kernel
theorem d10_25 : decode prog_10_method_4_code 25 = .ok (.dastore, 1) := by decide +kernel
theorem d10_26 : decode prog_10_method_4_code 26 = .ok (.return_, 1) := by decide +kernel
theorem ef118 (m : MethodId) (a1 : Addr) (i : Nat) (od : Addr) (x : UInt64) (y : UInt64) (bb : Addr) (n : Nat) (f : Nat → Value) : entryFrame m #[(.ref a1), (.int (Int32.ofNat i)), (.ref od)] 3 = mkF m 0 #[.val (.ref a1), .val (.int (Int32.ofNat i)), .val (.ref od)] [] := by first | (simp [entryFrame, mkF, argsToLocals, Value.category]; done) | rfl
def Q10 (Z : State) (a1 : Addr) (i : Nat) (od : Addr) (x : UInt64) (y : UInt64) (bb : Addr) (n : Nat) (f : Nat → Value) (h0 : Heap) (n0 : Nat) (v : Option Value) (h : Heap) (L : List Loc) : Prop := v = none ∧ Fr n0 L ∧ Keep h0 h [bb] ∧ Dar Z h bb .double (2 * n) (own_st f i x y)
theorem pd_3 : parseMethodDescriptor "()D" = some ⟨[], some .double⟩ := by decide +kernel
set_option maxRecDepth 65536 in
set_option maxHeartbeats 40000000 in
theorem rm10 (l : Launch) (Z : State) (a0 : Array Value) (hw : ∀ d ∈ tables_1, d.before a0 Z = true) (ws : List Jvm.Cond) (a1 : Addr) (i : Nat) (od : Addr) (x : UInt64) (y : UInt64) (bb : Addr) (n : Nat) (f : Nat → Value) (h0 : Heap) (n0 : Nat) (Z0 : n0 ≤ h0.size) (F119 : Fld Z h0 a1 "com/example/hinterland/hinterland/DoubleDoubles" "parts" "[D" (.ref bb)) (V120 : Dar Z h0 bb .double (2 * n) f) (E121 : Exa Z h0 od "com/example/hinterland/hinterland/DoubleDouble") (F122 : Fld Z h0 od "com/example/hinterland/hinterland/DoubleDouble" "high" "D" (.double x)) (F123 : Fld Z h0 od "com/example/hinterland/hinterland/DoubleDouble" "low" "D" (.double y)) (ne124 : a1 ≠ bb) (ne125 : od ≠ bb) (g126 : n0 ≤ bb) (hi : i < n) (hn : n ≤ 5) :
    MetFree l (⟨"com/example/hinterland/hinterland/DoubleDoubles", "set", "(ILcom/example/hinterland/hinterland/DoubleDouble;)V"⟩ : MethodName) (head1 (Jvm.Cond.code (⟨"com/example/hinterland/hinterland/DoubleDoubles", "set", "(ILcom/example/hinterland/hinterland/DoubleDouble;)V"⟩ : MethodName) prog_10_method_4_code 3 none :: ws) ({ frames := 1, cells := 0, slots := 0, locals := 14 } : Room)) (fun a U => a = #[(.ref a1), (.int (Int32.ofNat i)), (.ref od)] ∧ Z.Warmed39 U.vm ∧ U.heap = h0) (fun _ _ _ _ _ => True) (fun _ U o U' => ∃ v L, o = .returned v ∧ Q10 Z a1 i od x y bb n f h0 n0 v U'.heap L ∧ FrameEnd U o U' L 0 0) := by
  refine MetFree.of_bodySF (plainFor_of_name pn_1) hisR ?_
  intro p e s m args below meth c s₁ Bd hml0 hP hK
  obtain ⟨rfl, hZ, hh⟩ := hP
  have hx := Bd.exec
  have hby := Bd.bytes
  have hml : c.maxLocals = 3 := hml0
  have hown : s.vm.findClass "com/example/hinterland/hinterland/DoubleDoubles" = some m.cls := findClass_of_methodNamed Bd.named
  have hnm := (name_of_methodNamed Bd.named Bd.method).1
  have X0 : Stand p l e ({ frames := 1, cells := 0, slots := 0, locals := 14 } : Room) s m #[(.ref a1), (.int (Int32.ofNat i)), (.ref od)] below meth c s₁ [] 0 0 := Stand.of_body Bd
  have e0 : s₁.heap = h0 := by rw [← hh, Bd.state]; rfl
  have N0 := Fr.nil n0
  have A0 := (⟨X0, hx, hby⟩ : Ax _ _ _ _ _ _ _ _ _ _ _ _ _ _ _)
  show Go p e below (fun U o => ∃ v L, o = .returned v ∧ Q10 Z a1 i od x y bb n f h0 n0 v U.heap L ∧ FrameEnd s o U L 0 0) s₁ (entryFrame m #[(.ref a1), (.int (Int32.ofNat i)), (.ref od)] 3)
  refine Go.cast (ef118 m a1 i od x y bb n f) ?_
  refine g_aloadN A0 d10_0 rfl rfl (pc' := 1) rfl ?_
  obtain ⟨T127, X127, e127, st127⟩ := getF X0 hx hZ hown (host := "") (Or.inl (hw _ (List.mem_of_getElem? (i := 49) rfl))) Via.refl e0 F119 (g := (mkF m 1 #[.val (.ref a1), .val (.int (Int32.ofNat i)), .val (.ref od)] [(.ref a1)])) rfl rfl (hb hby d10_1)
  refine Go.of (g' := (mkF m 4 #[.val (.ref a1), .val (.int (Int32.ofNat i)), .val (.ref od)] [(.ref bb)])) st127 ?_
  have A128 := (⟨X127, hx, hby⟩ : Ax _ _ _ _ _ _ _ _ _ _ _ _ _ _ _)
  refine g_iconst A128 d10_4 (v := (2 : Int32)) rfl (pc' := 5) rfl ?_
  refine g_iloadN A128 d10_5 rfl (pc' := 6) rfl ?_
  refine g_imul A128 d10_6 (pc' := 7) rfl ?_
  refine g_aloadN A128 d10_7 rfl rfl (pc' := 8) rfl ?_
  obtain ⟨cq130, kq130, q130a, q130b, q130c⟩ := isOf hZ e127 E121
  obtain ⟨vv129, _, ⟨T129, L129, k129, n129⟩, -, X129, ⟨L129c, hQ129, l129, y129, z129⟩, st129⟩ := X127.virtualBack hx (y := (⟨"com/example/hinterland/hinterland/DoubleDouble", "high", "()D"⟩ : MethodName)) (z := (⟨"com/example/hinterland/hinterland/DoubleDouble", "high", "()D"⟩ : MethodName)) hown (mvT hZ (hw _ (List.mem_of_getElem? (i := 56) rfl))) (mvT hZ (hw _ (List.mem_of_getElem? (i := 57) rfl))) (notFace_of_selects (args := #[]) (mvT hZ (hw _ (List.mem_of_getElem? (i := 59) rfl)))) (mvT hZ (hw _ (List.mem_of_getElem? (i := 59) rfl))) (mvT hZ (hw _ (List.mem_of_getElem? (i := 58) rfl))) (by decide) (backOf (W := 2) (rm11 l Z a0 hw [] od x h0 n0 Z0 F122) hZ (hw _ (List.mem_of_getElem? (i := 60) rfl)) (hw _ (List.mem_of_getElem? (i := 4) rfl)) (by decide) (by decide)) q130a q130c (g := (mkF m 8 #[.val (.ref a1), .val (.int (Int32.ofNat i)), .val (.ref od)] [(.ref od), (.int ((2 : Int32) * (Int32.ofNat i))), (.ref bb)])) rfl (by rw [hml]; rfl) (Steps.refl _) (argsL := []) (rest := [(.int ((2 : Int32) * (Int32.ofNat i))), (.ref bb)]) (lenOf pd_3 rfl) rfl (by show 2 * 0 + _ ≤ _; exact Nat.le_of_eq rfl) (hb hby d10_8) (fun _ _ => ⟨rfl, e127, (by decide : 0 + 0 ≤ _), (by decide : 0 + 0 ≤ _)⟩)
  have hQ129b : Q11 Z od x h0 n0 vv129 T129.heap L129c := hQ129
  clear hQ129
  dsimp only [Pt.U, Pt.locs, Pt.cells, Pt.slots] at X129 l129 y129 z129 st129
  subst y129 z129
  obtain ⟨rfl, Nq131, Kq132⟩ := hQ129b
  have N133 : Fr n0 L129 := by rw [l129]; exact Fr.app N0 Nq131
  refine Go.tr (g' := (mkF m 11 #[.val (.ref a1), .val (.int (Int32.ofNat i)), .val (.ref od)] [(.double x), (.int ((2 : Int32) * (Int32.ofNat i))), (.ref bb)])) st129 ?_
  have e134 : T129.heap = h0 := Kq132
  have A135 := (⟨X129, hx, hby⟩ : Ax _ _ _ _ _ _ _ _ _ _ _ _ _ _ _)
  obtain ⟨T136, h136, A136, e136, W136, st136⟩ := s_dastore A135 hZ e134 (ls := #[.val (.ref a1), .val (.int (Int32.ofNat i)), .val (.ref od)]) (st := []) (x := x) V120 (i := (2 * i)) (by omega) (j := ((2 : Int32) * (Int32.ofNat i))) own_2i d10_11 (pc' := 12) rfl
  have N137 := Fr.snoc A136.1 N133 g126
  have K138 : Keep h0 h136 [bb] := (Keep.refl h0 [bb]).wr W136 (Or.inl (List.mem_of_getElem? (i := 0) rfl))
  have F139 : Fld Z h136 a1 "com/example/hinterland/hinterland/DoubleDoubles" "parts" "[D" (.ref bb) := Fld.other W136 F119 (Or.inl ne124)
  have E140 : Exa Z h136 od "com/example/hinterland/hinterland/DoubleDouble" := Exa.wr W136 E121
  have F141 : Fld Z h136 od "com/example/hinterland/hinterland/DoubleDouble" "high" "D" (.double x) := Fld.other W136 F122 (Or.inl ne125)
  have F142 : Fld Z h136 od "com/example/hinterland/hinterland/DoubleDouble" "low" "D" (.double y) := Fld.other W136 F123 (Or.inl ne125)
  have V143 : Dar Z h136 bb .double (2 * n) (fun j => if j = (2 * i) then .double x else f j) := Dar.set V120 W136 (fun _ _ => rfl)
  have Z144 : n0 ≤ h136.size := by rw [W136.size]; exact Z0
  refine st136 ?_
  refine g_aloadN A136 d10_12 rfl rfl (pc' := 13) rfl ?_
  obtain ⟨T145, X145, e145, st145⟩ := getF A136.1 hx hZ hown (host := "") (Or.inl (hw _ (List.mem_of_getElem? (i := 49) rfl))) Via.refl e136 F139 (g := (mkF m 13 #[.val (.ref a1), .val (.int (Int32.ofNat i)), .val (.ref od)] [(.ref a1)])) rfl rfl (hb hby d10_13)
  refine Go.of (g' := (mkF m 16 #[.val (.ref a1), .val (.int (Int32.ofNat i)), .val (.ref od)] [(.ref bb)])) st145 ?_
  have A146 := (⟨X145, hx, hby⟩ : Ax _ _ _ _ _ _ _ _ _ _ _ _ _ _ _)
  refine g_iconst A146 d10_16 (v := (2 : Int32)) rfl (pc' := 17) rfl ?_
  refine g_iloadN A146 d10_17 rfl (pc' := 18) rfl ?_
  refine g_imul A146 d10_18 (pc' := 19) rfl ?_
  refine g_iconst A146 d10_19 (v := (1 : Int32)) rfl (pc' := 20) rfl ?_
  refine g_iadd A146 d10_20 (pc' := 21) rfl ?_
  refine g_aloadN A146 d10_21 rfl rfl (pc' := 22) rfl ?_
  obtain ⟨cq148, kq148, q148a, q148b, q148c⟩ := isOf hZ e145 E140
  obtain ⟨vv147, _, ⟨T147, L147, k147, n147⟩, -, X147, ⟨L147c, hQ147, l147, y147, z147⟩, st147⟩ := X145.virtualBack hx (y := (⟨"com/example/hinterland/hinterland/DoubleDouble", "low", "()D"⟩ : MethodName)) (z := (⟨"com/example/hinterland/hinterland/DoubleDouble", "low", "()D"⟩ : MethodName)) hown (mvT hZ (hw _ (List.mem_of_getElem? (i := 61) rfl))) (mvT hZ (hw _ (List.mem_of_getElem? (i := 62) rfl))) (notFace_of_selects (args := #[]) (mvT hZ (hw _ (List.mem_of_getElem? (i := 64) rfl)))) (mvT hZ (hw _ (List.mem_of_getElem? (i := 64) rfl))) (mvT hZ (hw _ (List.mem_of_getElem? (i := 63) rfl))) (by decide) (backOf (W := 2) (rm12 l Z a0 hw [] od y h136 n0 Z144 F142) hZ (hw _ (List.mem_of_getElem? (i := 65) rfl)) (hw _ (List.mem_of_getElem? (i := 4) rfl)) (by decide) (by decide)) q148a q148c (g := (mkF m 22 #[.val (.ref a1), .val (.int (Int32.ofNat i)), .val (.ref od)] [(.ref od), (.int (((2 : Int32) * (Int32.ofNat i)) + (1 : Int32))), (.ref bb)])) rfl (by rw [hml]; rfl) (Steps.refl _) (argsL := []) (rest := [(.int (((2 : Int32) * (Int32.ofNat i)) + (1 : Int32))), (.ref bb)]) (lenOf pd_3 rfl) rfl (by show 2 * 0 + _ ≤ _; exact Nat.le_of_eq rfl) (hb hby d10_22) (fun _ _ => ⟨rfl, e145, (by decide : 0 + 0 ≤ _), (by decide : 0 + 0 ≤ _)⟩)
  have hQ147b : Q12 Z od y h136 n0 vv147 T147.heap L147c := hQ147
  clear hQ147
  dsimp only [Pt.U, Pt.locs, Pt.cells, Pt.slots] at X147 l147 y147 z147 st147
  subst y147 z147
  obtain ⟨rfl, Nq149, Kq150⟩ := hQ147b
  have N151 : Fr n0 L147 := by rw [l147]; exact Fr.app N137 Nq149
  refine Go.tr (g' := (mkF m 25 #[.val (.ref a1), .val (.int (Int32.ofNat i)), .val (.ref od)] [(.double y), (.int (((2 : Int32) * (Int32.ofNat i)) + (1 : Int32))), (.ref bb)])) st147 ?_
  have e152 : T147.heap = h136 := Kq150
  have A153 := (⟨X147, hx, hby⟩ : Ax _ _ _ _ _ _ _ _ _ _ _ _ _ _ _)
  obtain ⟨T154, h154, A154, e154, W154, st154⟩ := s_dastore A153 hZ e152 (ls := #[.val (.ref a1), .val (.int (Int32.ofNat i)), .val (.ref od)]) (st := []) (x := y) V143 (i := (2 * i + 1)) (by omega) (j := (((2 : Int32) * (Int32.ofNat i)) + (1 : Int32))) own_2i1 d10_25 (pc' := 26) rfl
  have N155 := Fr.snoc A154.1 N151 g126
  have K156 : Keep h0 h154 [bb] := K138.wr W154 (Or.inl (List.mem_of_getElem? (i := 0) rfl))
  have F157 : Fld Z h154 a1 "com/example/hinterland/hinterland/DoubleDoubles" "parts" "[D" (.ref bb) := Fld.other W154 F139 (Or.inl ne124)
  have E158 : Exa Z h154 od "com/example/hinterland/hinterland/DoubleDouble" := Exa.wr W154 E140
  have F159 : Fld Z h154 od "com/example/hinterland/hinterland/DoubleDouble" "high" "D" (.double x) := Fld.other W154 F141 (Or.inl ne125)
  have F160 : Fld Z h154 od "com/example/hinterland/hinterland/DoubleDouble" "low" "D" (.double y) := Fld.other W154 F142 (Or.inl ne125)
  have V161 : Dar Z h154 bb .double (2 * n) (own_st f i x y) := Dar.set V143 W154 (fun _ _ => rfl)
  have Z162 : n0 ≤ h154.size := by rw [W154.size]; exact Z144
  refine st154 ?_
  exact g_retV (Q := Q10 Z a1 i od x y bb n f h0 n0) A154 d10_26 Bd.notSynchronized Bd.returns (by decide) (by decide) (by rw [e154]; exact ⟨rfl, N155, K156, V161⟩)
theorem d13_0 : decode prog_10_method_3_code 0 = .ok (.aload_n 0, 1) := by decide +kernel
theorem d13_1 : decode prog_10_method_3_code 1 = .ok (.getfield 7, 3) := by decide +kernel
theorem d13_4 : decode prog_10_method_3_code 4 = .ok (.iconst 2, 1) := by decide +kernel
theorem d13_5 : decode prog_10_method_3_code 5 = .ok (.iload_n 1, 1) := by decide +kernel
theorem d13_6 : decode prog_10_method_3_code 6 = .ok (.imul, 1) := by decide +kernel
theorem d13_7 : decode prog_10_method_3_code 7 = .ok (.dload_n 2, 1) := by decide +kernel
theorem d13_8 : decode prog_10_method_3_code 8 = .ok (.dastore, 1) := by decide +kernel
theorem d13_9 : decode prog_10_method_3_code 9 = .ok (.aload_n 0, 1) := by decide +kernel
theorem d13_10 : decode prog_10_method_3_code 10 = .ok (.getfield 7, 3) := by decide +kernel
theorem d13_13 : decode prog_10_method_3_code 13 = .ok (.iconst 2, 1) := by decide +kernel
theorem d13_14 : decode prog_10_method_3_code 14 = .ok (.iload_n 1, 1) := by decide +kernel
theorem d13_15 : decode prog_10_method_3_code 15 = .ok (.imul, 1) := by decide +kernel
theorem d13_16 : decode prog_10_method_3_code 16 = .ok (.iconst 1, 1) := by decide +kernel
theorem d13_17 : decode prog_10_method_3_code 17 = .ok (.iadd, 1) := by decide +kernel
theorem d13_18 : decode prog_10_method_3_code 18 = .ok (.dconst 0, 1) := by decide +kernel
theorem d13_19 : decode prog_10_method_3_code 19 = .ok (.dastore, 1) := by decide +kernel
theorem d13_20 : decode prog_10_method_3_code 20 = .ok (.return_, 1) := by decide +kernel
theorem ef163 (m : MethodId) (a1 : Addr) (i : Nat) (x : UInt64) (bb : Addr) (n : Nat) (f : Nat → Value) : entryFrame m #[(.ref a1), (.int (Int32.ofNat i)), (.double x)] 4 = mkF m 0 #[.val (.ref a1), .val (.int (Int32.ofNat i)), .val (.double x), .second] [] := by first | (simp [entryFrame, mkF, argsToLocals, Value.category]; done) | rfl
def Q13 (Z : State) (a1 : Addr) (i : Nat) (x : UInt64) (bb : Addr) (n : Nat) (f : Nat → Value) (h0 : Heap) (n0 : Nat) (v : Option Value) (h : Heap) (L : List Loc) : Prop := v = none ∧ Fr n0 L ∧ Keep h0 h [bb] ∧ Dar Z h bb .double (2 * n) (own_st f i x (0 : UInt64))
set_option maxRecDepth 65536 in
set_option maxHeartbeats 40000000 in
theorem rm13 (l : Launch) (Z : State) (a0 : Array Value) (hw : ∀ d ∈ tables_1, d.before a0 Z = true) (ws : List Jvm.Cond) (a1 : Addr) (i : Nat) (x : UInt64) (bb : Addr) (n : Nat) (f : Nat → Value) (h0 : Heap) (n0 : Nat) (Z0 : n0 ≤ h0.size) (F164 : Fld Z h0 a1 "com/example/hinterland/hinterland/DoubleDoubles" "parts" "[D" (.ref bb)) (V165 : Dar Z h0 bb .double (2 * n) f) (ne166 : a1 ≠ bb) (g167 : n0 ≤ bb) (hi : i < n) (hn : n ≤ 5) :
    MetFree l (⟨"com/example/hinterland/hinterland/DoubleDoubles", "set", "(ID)V"⟩ : MethodName) (head1 (Jvm.Cond.code (⟨"com/example/hinterland/hinterland/DoubleDoubles", "set", "(ID)V"⟩ : MethodName) prog_10_method_3_code 4 none :: ws) ({ frames := 0, cells := 0, slots := 0, locals := 0 } : Room)) (fun a U => a = #[(.ref a1), (.int (Int32.ofNat i)), (.double x)] ∧ Z.Warmed39 U.vm ∧ U.heap = h0) (fun _ _ _ _ _ => True) (fun _ U o U' => ∃ v L, o = .returned v ∧ Q13 Z a1 i x bb n f h0 n0 v U'.heap L ∧ FrameEnd U o U' L 0 0) := by
  refine MetFree.of_bodySF (plainFor_of_name pn_1) hisR ?_
  intro p e s m args below meth c s₁ Bd hml0 hP hK
  obtain ⟨rfl, hZ, hh⟩ := hP
  have hx := Bd.exec
  have hby := Bd.bytes
  have hml : c.maxLocals = 4 := hml0
  have hown : s.vm.findClass "com/example/hinterland/hinterland/DoubleDoubles" = some m.cls := findClass_of_methodNamed Bd.named
  have hnm := (name_of_methodNamed Bd.named Bd.method).1
  have X0 : Stand p l e ({ frames := 0, cells := 0, slots := 0, locals := 0 } : Room) s m #[(.ref a1), (.int (Int32.ofNat i)), (.double x)] below meth c s₁ [] 0 0 := Stand.of_body Bd
  have e0 : s₁.heap = h0 := by rw [← hh, Bd.state]; rfl
  have N0 := Fr.nil n0
  have A0 := (⟨X0, hx, hby⟩ : Ax _ _ _ _ _ _ _ _ _ _ _ _ _ _ _)
  show Go p e below (fun U o => ∃ v L, o = .returned v ∧ Q13 Z a1 i x bb n f h0 n0 v U.heap L ∧ FrameEnd s o U L 0 0) s₁ (entryFrame m #[(.ref a1), (.int (Int32.ofNat i)), (.double x)] 4)
  refine Go.cast (ef163 m a1 i x bb n f) ?_
  refine g_aloadN A0 d13_0 rfl rfl (pc' := 1) rfl ?_
  obtain ⟨T168, X168, e168, st168⟩ := getF X0 hx hZ hown (host := "") (Or.inl (hw _ (List.mem_of_getElem? (i := 49) rfl))) Via.refl e0 F164 (g := (mkF m 1 #[.val (.ref a1), .val (.int (Int32.ofNat i)), .val (.double x), .second] [(.ref a1)])) rfl rfl (hb hby d13_1)
  refine Go.of (g' := (mkF m 4 #[.val (.ref a1), .val (.int (Int32.ofNat i)), .val (.double x), .second] [(.ref bb)])) st168 ?_
  have A169 := (⟨X168, hx, hby⟩ : Ax _ _ _ _ _ _ _ _ _ _ _ _ _ _ _)
  refine g_iconst A169 d13_4 (v := (2 : Int32)) rfl (pc' := 5) rfl ?_
  refine g_iloadN A169 d13_5 rfl (pc' := 6) rfl ?_
  refine g_imul A169 d13_6 (pc' := 7) rfl ?_
  refine g_dloadN A169 d13_7 rfl (pc' := 8) rfl ?_
  obtain ⟨T170, h170, A170, e170, W170, st170⟩ := s_dastore A169 hZ e168 (ls := #[.val (.ref a1), .val (.int (Int32.ofNat i)), .val (.double x), .second]) (st := []) (x := x) V165 (i := (2 * i)) (by omega) (j := ((2 : Int32) * (Int32.ofNat i))) own_2i d13_8 (pc' := 9) rfl
  have N171 := Fr.snoc A170.1 N0 g167
  have K172 : Keep h0 h170 [bb] := (Keep.refl h0 [bb]).wr W170 (Or.inl (List.mem_of_getElem? (i := 0) rfl))
  have F173 : Fld Z h170 a1 "com/example/hinterland/hinterland/DoubleDoubles" "parts" "[D" (.ref bb) := Fld.other W170 F164 (Or.inl ne166)
  have V174 : Dar Z h170 bb .double (2 * n) (fun j => if j = (2 * i) then .double x else f j) := Dar.set V165 W170 (fun _ _ => rfl)
  have Z175 : n0 ≤ h170.size := by rw [W170.size]; exact Z0
  refine st170 ?_
  refine g_aloadN A170 d13_9 rfl rfl (pc' := 10) rfl ?_
  obtain ⟨T176, X176, e176, st176⟩ := getF A170.1 hx hZ hown (host := "") (Or.inl (hw _ (List.mem_of_getElem? (i := 49) rfl))) Via.refl e170 F173 (g := (mkF m 10 #[.val (.ref a1), .val (.int (Int32.ofNat i)), .val (.double x), .second] [(.ref a1)])) rfl rfl (hb hby d13_10)
  refine Go.of (g' := (mkF m 13 #[.val (.ref a1), .val (.int (Int32.ofNat i)), .val (.double x), .second] [(.ref bb)])) st176 ?_
  have A177 := (⟨X176, hx, hby⟩ : Ax _ _ _ _ _ _ _ _ _ _ _ _ _ _ _)
  refine g_iconst A177 d13_13 (v := (2 : Int32)) rfl (pc' := 14) rfl ?_
  refine g_iloadN A177 d13_14 rfl (pc' := 15) rfl ?_
  refine g_imul A177 d13_15 (pc' := 16) rfl ?_
  refine g_iconst A177 d13_16 (v := (1 : Int32)) rfl (pc' := 17) rfl ?_
  refine g_iadd A177 d13_17 (pc' := 18) rfl ?_
  refine g_dconst0 A177 d13_18 (pc' := 19) rfl ?_
  obtain ⟨T178, h178, A178, e178, W178, st178⟩ := s_dastore A177 hZ e176 (ls := #[.val (.ref a1), .val (.int (Int32.ofNat i)), .val (.double x), .second]) (st := []) (x := (0 : UInt64)) V174 (i := (2 * i + 1)) (by omega) (j := (((2 : Int32) * (Int32.ofNat i)) + (1 : Int32))) own_2i1 d13_19 (pc' := 20) rfl
  have N179 := Fr.snoc A178.1 N171 g167
  have K180 : Keep h0 h178 [bb] := K172.wr W178 (Or.inl (List.mem_of_getElem? (i := 0) rfl))
  have F181 : Fld Z h178 a1 "com/example/hinterland/hinterland/DoubleDoubles" "parts" "[D" (.ref bb) := Fld.other W178 F173 (Or.inl ne166)
  have V182 : Dar Z h178 bb .double (2 * n) (own_st f i x (0 : UInt64)) := Dar.set V174 W178 (fun _ _ => rfl)
  have Z183 : n0 ≤ h178.size := by rw [W178.size]; exact Z175
  refine st178 ?_
  exact g_retV (Q := Q13 Z a1 i x bb n f h0 n0) A178 d13_20 Bd.notSynchronized Bd.returns (by decide) (by decide) (by rw [e178]; exact ⟨rfl, N179, K180, V182⟩)
theorem d14_0 : decode prog_10_method_11_code 0 = .ok (.aload_n 0, 1) := by decide +kernel
theorem d14_1 : decode prog_10_method_11_code 1 = .ok (.getfield 7, 3) := by decide +kernel
theorem d14_4 : decode prog_10_method_11_code 4 = .ok (.iconst 2, 1) := by decide +kernel
theorem d14_5 : decode prog_10_method_11_code 5 = .ok (.iload_n 1, 1) := by decide +kernel
theorem d14_6 : decode prog_10_method_11_code 6 = .ok (.imul, 1) := by decide +kernel
theorem d14_7 : decode prog_10_method_11_code 7 = .ok (.daload, 1) := by decide +kernel
theorem d14_8 : decode prog_10_method_11_code 8 = .ok (.dreturn, 1) := by decide +kernel
theorem ef184 (m : MethodId) (a1 : Addr) (i : Nat) (bb : Addr) (n : Nat) (f : Nat → Value) (x : UInt64) : entryFrame m #[(.ref a1), (.int (Int32.ofNat i))] 2 = mkF m 0 #[.val (.ref a1), .val (.int (Int32.ofNat i))] [] := by first | (simp [entryFrame, mkF, argsToLocals, Value.category]; done) | rfl
def Q14 (Z : State) (a1 : Addr) (i : Nat) (bb : Addr) (n : Nat) (f : Nat → Value) (x : UInt64) (h0 : Heap) (n0 : Nat) (v : Option Value) (h : Heap) (L : List Loc) : Prop := v = some (.double x) ∧ Fr n0 L ∧ h = h0
set_option maxRecDepth 65536 in
set_option maxHeartbeats 40000000 in
theorem rm14 (l : Launch) (Z : State) (a0 : Array Value) (hw : ∀ d ∈ tables_1, d.before a0 Z = true) (ws : List Jvm.Cond) (a1 : Addr) (i : Nat) (bb : Addr) (n : Nat) (f : Nat → Value) (x : UInt64) (h0 : Heap) (n0 : Nat) (Z0 : n0 ≤ h0.size) (F185 : Fld Z h0 a1 "com/example/hinterland/hinterland/DoubleDoubles" "parts" "[D" (.ref bb)) (V186 : Dar Z h0 bb .double (2 * n) f) (hi : i < n) (hn : n ≤ 5) (hv : f (2 * i) = .double x) :
    MetFree l (⟨"com/example/hinterland/hinterland/DoubleDoubles", "high", "(I)D"⟩ : MethodName) (head1 (Jvm.Cond.code (⟨"com/example/hinterland/hinterland/DoubleDoubles", "high", "(I)D"⟩ : MethodName) prog_10_method_11_code 2 (some .double) :: ws) ({ frames := 0, cells := 0, slots := 0, locals := 0 } : Room)) (fun a U => a = #[(.ref a1), (.int (Int32.ofNat i))] ∧ Z.Warmed39 U.vm ∧ U.heap = h0) (fun _ _ _ _ _ => True) (fun _ U o U' => ∃ v L, o = .returned v ∧ Q14 Z a1 i bb n f x h0 n0 v U'.heap L ∧ FrameEnd U o U' L 0 0) := by
  refine MetFree.of_bodySF (plainFor_of_name pn_1) hisR ?_
  intro p e s m args below meth c s₁ Bd hml0 hP hK
  obtain ⟨rfl, hZ, hh⟩ := hP
  have hx := Bd.exec
  have hby := Bd.bytes
  have hml : c.maxLocals = 2 := hml0
  have hown : s.vm.findClass "com/example/hinterland/hinterland/DoubleDoubles" = some m.cls := findClass_of_methodNamed Bd.named
  have hnm := (name_of_methodNamed Bd.named Bd.method).1
  have X0 : Stand p l e ({ frames := 0, cells := 0, slots := 0, locals := 0 } : Room) s m #[(.ref a1), (.int (Int32.ofNat i))] below meth c s₁ [] 0 0 := Stand.of_body Bd
  have e0 : s₁.heap = h0 := by rw [← hh, Bd.state]; rfl
  have N0 := Fr.nil n0
  have A0 := (⟨X0, hx, hby⟩ : Ax _ _ _ _ _ _ _ _ _ _ _ _ _ _ _)
  show Go p e below (fun U o => ∃ v L, o = .returned v ∧ Q14 Z a1 i bb n f x h0 n0 v U.heap L ∧ FrameEnd s o U L 0 0) s₁ (entryFrame m #[(.ref a1), (.int (Int32.ofNat i))] 2)
  refine Go.cast (ef184 m a1 i bb n f x) ?_
  refine g_aloadN A0 d14_0 rfl rfl (pc' := 1) rfl ?_
  obtain ⟨T187, X187, e187, st187⟩ := getF X0 hx hZ hown (host := "") (Or.inl (hw _ (List.mem_of_getElem? (i := 49) rfl))) Via.refl e0 F185 (g := (mkF m 1 #[.val (.ref a1), .val (.int (Int32.ofNat i))] [(.ref a1)])) rfl rfl (hb hby d14_1)
  refine Go.of (g' := (mkF m 4 #[.val (.ref a1), .val (.int (Int32.ofNat i))] [(.ref bb)])) st187 ?_
  have A188 := (⟨X187, hx, hby⟩ : Ax _ _ _ _ _ _ _ _ _ _ _ _ _ _ _)
  refine g_iconst A188 d14_4 (v := (2 : Int32)) rfl (pc' := 5) rfl ?_
  refine g_iloadN A188 d14_5 rfl (pc' := 6) rfl ?_
  refine g_imul A188 d14_6 (pc' := 7) rfl ?_
  refine g_daload A188 hZ e187 V186 (i := (2 * i)) (by omega) own_2i (x := x) hv d14_7 (pc' := 8) rfl ?_
  exact g_ret (Q := Q14 Z a1 i bb n f x h0 n0) A188 d14_8 Bd.notSynchronized Bd.returns rfl (Or.inr (Or.inr (Or.inl ⟨rfl, rfl, _, rfl⟩))) (by decide) (by decide) (by rw [e187]; exact ⟨rfl, N0, rfl⟩)
theorem d15_0 : decode prog_10_method_12_code 0 = .ok (.aload_n 0, 1) := by decide +kernel
theorem d15_1 : decode prog_10_method_12_code 1 = .ok (.getfield 7, 3) := by decide +kernel
theorem d15_4 : decode prog_10_method_12_code 4 = .ok (.iconst 2, 1) := by decide +kernel
theorem d15_5 : decode prog_10_method_12_code 5 = .ok (.iload_n 1, 1) := by decide +kernel
theorem d15_6 : decode prog_10_method_12_code 6 = .ok (.imul, 1) := by decide +kernel
theorem d15_7 : decode prog_10_method_12_code 7 = .ok (.iconst 1, 1) := by decide +kernel
theorem d15_8 : decode prog_10_method_12_code 8 = .ok (.iadd, 1) := by decide +kernel
theorem d15_9 : decode prog_10_method_12_code 9 = .ok (.daload, 1) := by decide +kernel
theorem d15_10 : decode prog_10_method_12_code 10 = .ok (.dreturn, 1) := by decide +kernel
theorem ef189 (m : MethodId) (a1 : Addr) (i : Nat) (bb : Addr) (n : Nat) (f : Nat → Value) (x : UInt64) : entryFrame m #[(.ref a1), (.int (Int32.ofNat i))] 2 = mkF m 0 #[.val (.ref a1), .val (.int (Int32.ofNat i))] [] := by first | (simp [entryFrame, mkF, argsToLocals, Value.category]; done) | rfl
def Q15 (Z : State) (a1 : Addr) (i : Nat) (bb : Addr) (n : Nat) (f : Nat → Value) (x : UInt64) (h0 : Heap) (n0 : Nat) (v : Option Value) (h : Heap) (L : List Loc) : Prop := v = some (.double x) ∧ Fr n0 L ∧ h = h0
set_option maxRecDepth 65536 in
set_option maxHeartbeats 40000000 in
theorem rm15 (l : Launch) (Z : State) (a0 : Array Value) (hw : ∀ d ∈ tables_1, d.before a0 Z = true) (ws : List Jvm.Cond) (a1 : Addr) (i : Nat) (bb : Addr) (n : Nat) (f : Nat → Value) (x : UInt64) (h0 : Heap) (n0 : Nat) (Z0 : n0 ≤ h0.size) (F190 : Fld Z h0 a1 "com/example/hinterland/hinterland/DoubleDoubles" "parts" "[D" (.ref bb)) (V191 : Dar Z h0 bb .double (2 * n) f) (hi : i < n) (hn : n ≤ 5) (hv : f (2 * i + 1) = .double x) :
    MetFree l (⟨"com/example/hinterland/hinterland/DoubleDoubles", "low", "(I)D"⟩ : MethodName) (head1 (Jvm.Cond.code (⟨"com/example/hinterland/hinterland/DoubleDoubles", "low", "(I)D"⟩ : MethodName) prog_10_method_12_code 2 (some .double) :: ws) ({ frames := 0, cells := 0, slots := 0, locals := 0 } : Room)) (fun a U => a = #[(.ref a1), (.int (Int32.ofNat i))] ∧ Z.Warmed39 U.vm ∧ U.heap = h0) (fun _ _ _ _ _ => True) (fun _ U o U' => ∃ v L, o = .returned v ∧ Q15 Z a1 i bb n f x h0 n0 v U'.heap L ∧ FrameEnd U o U' L 0 0) := by
  refine MetFree.of_bodySF (plainFor_of_name pn_1) hisR ?_
  intro p e s m args below meth c s₁ Bd hml0 hP hK
  obtain ⟨rfl, hZ, hh⟩ := hP
  have hx := Bd.exec
  have hby := Bd.bytes
  have hml : c.maxLocals = 2 := hml0
  have hown : s.vm.findClass "com/example/hinterland/hinterland/DoubleDoubles" = some m.cls := findClass_of_methodNamed Bd.named
  have hnm := (name_of_methodNamed Bd.named Bd.method).1
  have X0 : Stand p l e ({ frames := 0, cells := 0, slots := 0, locals := 0 } : Room) s m #[(.ref a1), (.int (Int32.ofNat i))] below meth c s₁ [] 0 0 := Stand.of_body Bd
  have e0 : s₁.heap = h0 := by rw [← hh, Bd.state]; rfl
  have N0 := Fr.nil n0
  have A0 := (⟨X0, hx, hby⟩ : Ax _ _ _ _ _ _ _ _ _ _ _ _ _ _ _)
  show Go p e below (fun U o => ∃ v L, o = .returned v ∧ Q15 Z a1 i bb n f x h0 n0 v U.heap L ∧ FrameEnd s o U L 0 0) s₁ (entryFrame m #[(.ref a1), (.int (Int32.ofNat i))] 2)
  refine Go.cast (ef189 m a1 i bb n f x) ?_
  refine g_aloadN A0 d15_0 rfl rfl (pc' := 1) rfl ?_
  obtain ⟨T192, X192, e192, st192⟩ := getF X0 hx hZ hown (host := "") (Or.inl (hw _ (List.mem_of_getElem? (i := 49) rfl))) Via.refl e0 F190 (g := (mkF m 1 #[.val (.ref a1), .val (.int (Int32.ofNat i))] [(.ref a1)])) rfl rfl (hb hby d15_1)
  refine Go.of (g' := (mkF m 4 #[.val (.ref a1), .val (.int (Int32.ofNat i))] [(.ref bb)])) st192 ?_
  have A193 := (⟨X192, hx, hby⟩ : Ax _ _ _ _ _ _ _ _ _ _ _ _ _ _ _)
  refine g_iconst A193 d15_4 (v := (2 : Int32)) rfl (pc' := 5) rfl ?_
  refine g_iloadN A193 d15_5 rfl (pc' := 6) rfl ?_
  refine g_imul A193 d15_6 (pc' := 7) rfl ?_
  refine g_iconst A193 d15_7 (v := (1 : Int32)) rfl (pc' := 8) rfl ?_
  refine g_iadd A193 d15_8 (pc' := 9) rfl ?_
  refine g_daload A193 hZ e192 V191 (i := (2 * i + 1)) (by omega) own_2i1 (x := x) hv d15_9 (pc' := 10) rfl ?_
  exact g_ret (Q := Q15 Z a1 i bb n f x h0 n0) A193 d15_10 Bd.notSynchronized Bd.returns rfl (Or.inr (Or.inr (Or.inl ⟨rfl, rfl, _, rfl⟩))) (by decide) (by decide) (by rw [e192]; exact ⟨rfl, N0, rfl⟩)
theorem pn_2 : plainName "com/example/hinterland/hinterland/DoubleDoublesSetPinLaw" = true := by first | (simp [plainName, overriddenIn]; done) | decide +kernel
theorem ef194 (m : MethodId) (p0 : Int32) (p1 : Int32) (p2 : Int64) : entryFrame m #[(.int p0), (.int p1), (.long p2)] maxLocals = mkF m 0 #[.val (.int p0), .val (.int p1), .val (.long p2), .second, .unset, .unset, .unset, .unset, .unset, .unset, .unset, .unset, .unset] [] := by first | (simp [entryFrame, mkF, argsToLocals, Value.category, maxLocals]; done) | rfl
def Q0 (Z : State) (p0 : Int32) (p1 : Int32) (p2 : Int64) (h0 : Heap) (n0 : Nat) (v : Option Value) (h : Heap) (L : List Loc) : Prop := v = some (.int 1) ∧ Fr n0 L
theorem pd_4 : parseMethodDescriptor "()V" = some ⟨[], none⟩ := by decide +kernel
theorem pd_5 : parseMethodDescriptor "(D)Lcom/example/hinterland/hinterland/DoubleDouble;" = some ⟨[.double], some (.object "com/example/hinterland/hinterland/DoubleDouble")⟩ := by decide +kernel
theorem pd_6 : parseMethodDescriptor "(I)V" = some ⟨[.int], none⟩ := by decide +kernel
theorem pd_7 : parseMethodDescriptor "(ILcom/example/hinterland/hinterland/DoubleDouble;)V" = some ⟨[.int, (.object "com/example/hinterland/hinterland/DoubleDouble")], none⟩ := by decide +kernel
theorem pd_8 : parseMethodDescriptor "(ID)V" = some ⟨[.int, .double], none⟩ := by decide +kernel
theorem pd_9 : parseMethodDescriptor "(I)D" = some ⟨[.int], some .double⟩ := by decide +kernel
set_option maxRecDepth 65536 in
set_option maxHeartbeats 40000000 in
theorem rm0 (l : Launch) (Z : State) (a0 : Array Value) (hw : ∀ d ∈ tables_1, d.before a0 Z = true) (ws : List Jvm.Cond) (p0 : Int32) (p1 : Int32) (p2 : Int64) (h0 : Heap) (n0 : Nat) (Z0 : n0 ≤ h0.size)  :
    MetFree l x (head1 (Jvm.Cond.code x code maxLocals ret :: ws) room_1) (fun a U => a = #[(.int p0), (.int p1), (.long p2)] ∧ Z.Warmed39 U.vm ∧ U.heap = h0) (fun _ _ _ _ _ => True) (fun _ U o U' => ∃ v L, o = .returned v ∧ Q0 Z p0 p1 p2 h0 n0 v U'.heap L ∧ FrameEnd U o U' L 3 13) := by
  refine MetFree.of_bodySF (plainFor_of_name pn_2) hisR ?_
  intro p e s m args below meth c s₁ Bd hml0 hP hK
  obtain ⟨rfl, hZ, hh⟩ := hP
  have hx := Bd.exec
  have hby := Bd.bytes
  have hml : c.maxLocals = 13 := hml0
  have hown : s.vm.findClass "com/example/hinterland/hinterland/DoubleDoublesSetPinLaw" = some m.cls := findClass_of_methodNamed Bd.named
  have hnm := (name_of_methodNamed Bd.named Bd.method).1
  have X0 : Stand p l e room_1 s m #[(.int p0), (.int p1), (.long p2)] below meth c s₁ [] 0 0 := Stand.of_body Bd
  have e0 : s₁.heap = h0 := by rw [← hh, Bd.state]; rfl
  have N0 := Fr.nil n0
  have A0 := (⟨X0, hx, hby⟩ : Ax _ _ _ _ _ _ _ _ _ _ _ _ _ _ _)
  show Go p e below (fun U o => ∃ v L, o = .returned v ∧ Q0 Z p0 p1 p2 h0 n0 v U.heap L ∧ FrameEnd s o U L 3 13) s₁ (entryFrame m #[(.int p0), (.int p1), (.long p2)] maxLocals)
  refine Go.cast (ef194 m p0 p1 p2) ?_
  refine g_iconst A0 at_0 (v := (2 : Int32)) rfl (pc' := 1) rfl ?_
  refine g_iloadN A0 at_1 rfl (pc' := 2) rfl ?_
  refine g_iconst A0 at_2 (v := (3 : Int32)) rfl (pc' := 3) rfl ?_
  refine g_iand A0 at_3 (pc' := 4) rfl ?_
  refine g_iadd A0 at_4 (pc' := 5) rfl ?_
  obtain ⟨n, n2, n5, en, et, ez⟩ := own_n p0
  rw [en]
  refine g_istore A0 at_5 (ls' := #[.val (.int p0), .val (.int p1), .val (.long p2), .second, .val (.int (Int32.ofNat n)), .unset, .unset, .unset, .unset, .unset, .unset, .unset, .unset]) rfl (pc' := 7) rfl ?_
  refine g_iloadN A0 at_7 rfl (pc' := 8) rfl ?_
  refine g_ldcI A0 hZ hown (hw _ (List.mem_of_getElem? (i := 0) rfl)) at_8 (pc' := 10) rfl ?_
  refine g_iand A0 at_10 (pc' := 11) rfl ?_
  refine g_iload A0 at_11 rfl (pc' := 13) rfl ?_
  refine g_irem A0 at_13 ez (pc' := 14) rfl ?_
  obtain ⟨i, hi, ei⟩ := own_mod (p1 &&& (2147483647 : Int32)) (Int32.ofNat n) n (by omega) (by omega) et (own_m31 p1)
  rw [ei]
  refine g_istore A0 at_14 (ls' := #[.val (.int p0), .val (.int p1), .val (.long p2), .second, .val (.int (Int32.ofNat n)), .val (.int (Int32.ofNat i)), .unset, .unset, .unset, .unset, .unset, .unset, .unset]) rfl (pc' := 16) rfl ?_
  refine g_iload A0 at_16 rfl (pc' := 18) rfl ?_
  refine g_iconst A0 at_18 (v := (1 : Int32)) rfl (pc' := 19) rfl ?_
  refine g_iadd A0 at_19 (pc' := 20) rfl ?_
  refine g_iload A0 at_20 rfl (pc' := 22) rfl ?_
  refine g_irem A0 at_22 ez (pc' := 23) rfl ?_
  rw [own_succ]
  obtain ⟨j, hj, hne, ej⟩ := own_oth hi n2 n5
  rw [ej]
  refine g_istore A0 at_23 (ls' := #[.val (.int p0), .val (.int p1), .val (.long p2), .second, .val (.int (Int32.ofNat n)), .val (.int (Int32.ofNat i)), .val (.int (Int32.ofNat j)), .unset, .unset, .unset, .unset, .unset, .unset]) rfl (pc' := 25) rfl ?_
  refine g_ldcD A0 hZ hown (hw _ (List.mem_of_getElem? (i := 1) rfl)) at_25 (pc' := 28) rfl ?_
  refine g_dstore A0 at_28 (ls' := #[.val (.int p0), .val (.int p1), .val (.long p2), .second, .val (.int (Int32.ofNat n)), .val (.int (Int32.ofNat i)), .val (.int (Int32.ofNat j)), .val (.double (4877398396442247168 : UInt64)), .second, .unset, .unset, .unset, .unset]) rfl (pc' := 30) rfl ?_
  obtain ⟨T195, h195, X195, e195, E195, EA195, D195, -, st195⟩ := newO X0 hx hZ hown (hw _ (List.mem_of_getElem? (i := 2) rfl)) (hw _ (List.mem_of_getElem? (i := 3) rfl)) (hw _ (List.mem_of_getElem? (i := 4) rfl)) e0 (g := (mkF m 30 #[.val (.int p0), .val (.int p1), .val (.long p2), .second, .val (.int (Int32.ofNat n)), .val (.int (Int32.ofNat i)), .val (.int (Int32.ofNat j)), .val (.double (4877398396442247168 : UInt64)), .second, .unset, .unset, .unset, .unset] [])) rfl (hb hby at_30) (by decide) (by decide)
  obtain ⟨a196, ea196⟩ : ∃ z, z = h0.size := ⟨_, rfl⟩
  rw [← ea196] at EA195 D195 st195
  have g197 : n0 ≤ a196 := by rw [ea196]; exact Z0
  have gh198 : h0.size ≤ a196 := by rw [ea196]; exact (Keep.refl h0 []).1
  have K199 : Keep h0 h195 [] := (Keep.refl h0 []).ext E195
  have Z200 : n0 ≤ h195.size := Nat.le_trans Z0 E195.1
  have F201 : Fld Z h195 a196 "com/example/hinterland/hinterland/DoubleDouble" "high" "D" (.double (0 : UInt64)) := D195 (Or.inl (hw _ (List.mem_of_getElem? (i := 17) rfl))) (ty := .double) (by decide)
  have F202 : Fld Z h195 a196 "com/example/hinterland/hinterland/DoubleDouble" "low" "D" (.double (0 : UInt64)) := D195 (Or.inl (hw _ (List.mem_of_getElem? (i := 19) rfl))) (ty := .double) (by decide)
  refine Go.of (g' := (mkF m 33 #[.val (.int p0), .val (.int p1), .val (.long p2), .second, .val (.int (Int32.ofNat n)), .val (.int (Int32.ofNat i)), .val (.int (Int32.ofNat j)), .val (.double (4877398396442247168 : UInt64)), .second, .unset, .unset, .unset, .unset] [(.ref a196)])) st195 ?_
  have A203 := (⟨X195, hx, hby⟩ : Ax _ _ _ _ _ _ _ _ _ _ _ _ _ _ _)
  refine g_dup A203 at_33 rfl (pc' := 34) rfl ?_
  obtain ⟨vv204, _, ⟨T204, L204, k204, n204⟩, -, X204, ⟨L204c, hQ204, l204, y204, z204⟩, st204⟩ := X195.specialBack hx (y := (⟨"com/example/hinterland/hinterland/DoubleDouble", "<init>", "()V"⟩ : MethodName)) rfl hown (mvT hZ (hw _ (List.mem_of_getElem? (i := 5) rfl))) (mvT hZ (hw _ (List.mem_of_getElem? (i := 6) rfl))) (mvT hZ (hw _ (List.mem_of_getElem? (i := 7) rfl))) (by decide) (backOf (W := 1) (rm1 l Z a0 hw [] a196 h195 n0 Z200 ) hZ (hw _ (List.mem_of_getElem? (i := 7) rfl)) (hw _ (List.mem_of_getElem? (i := 4) rfl)) (by decide) (by decide)) (g := (mkF m 34 #[.val (.int p0), .val (.int p1), .val (.long p2), .second, .val (.int (Int32.ofNat n)), .val (.int (Int32.ofNat i)), .val (.int (Int32.ofNat j)), .val (.double (4877398396442247168 : UInt64)), .second, .unset, .unset, .unset, .unset] [(.ref a196), (.ref a196)])) rfl (by rw [hml]; rfl) (Steps.refl _) (a := a196) (argsL := []) (rest := [(.ref a196)]) (lenOf pd_4 rfl) rfl (by show 2 * 0 + _ ≤ _; exact Nat.le_of_eq rfl) (hb hby at_34) (fun _ _ => ⟨rfl, e195, (by decide : 1 + 0 ≤ _), (by decide : 2 + 0 ≤ _)⟩)
  have hQ204b : Q1 Z a196 h195 n0 vv204 T204.heap L204c := hQ204
  clear hQ204
  dsimp only [Pt.U, Pt.locs, Pt.cells, Pt.slots] at X204 l204 y204 z204 st204
  subst y204 z204
  obtain ⟨rfl, Nq205, Kq206⟩ := hQ204b
  have N207 : Fr n0 L204 := by rw [l204]; exact Fr.app N0 Nq205
  refine Go.tr (g' := (mkF m 37 #[.val (.int p0), .val (.int p1), .val (.long p2), .second, .val (.int (Int32.ofNat n)), .val (.int (Int32.ofNat i)), .val (.int (Int32.ofNat j)), .val (.double (4877398396442247168 : UInt64)), .second, .unset, .unset, .unset, .unset] [(.ref a196)])) st204 ?_
  have e208 : T204.heap = h195 := Kq206
  have A209 := (⟨X204, hx, hby⟩ : Ax _ _ _ _ _ _ _ _ _ _ _ _ _ _ _)
  refine g_dload A209 at_37 rfl (pc' := 39) rfl ?_
  obtain ⟨cq211, kq211, q211a, q211b, q211c⟩ := isOf hZ e208 EA195
  obtain ⟨vv210, _, ⟨T210, L210, k210, n210⟩, -, X210, ⟨L210c, hQ210, l210, y210, z210⟩, st210⟩ := X204.virtualBack hx (y := (⟨"com/example/hinterland/hinterland/DoubleDouble", "set", "(D)Lcom/example/hinterland/hinterland/DoubleDouble;"⟩ : MethodName)) (z := (⟨"com/example/hinterland/hinterland/DoubleDouble", "set", "(D)Lcom/example/hinterland/hinterland/DoubleDouble;"⟩ : MethodName)) hown (mvT hZ (hw _ (List.mem_of_getElem? (i := 11) rfl))) (mvT hZ (hw _ (List.mem_of_getElem? (i := 12) rfl))) (notFace_of_selects (args := #[]) (mvT hZ (hw _ (List.mem_of_getElem? (i := 14) rfl)))) (mvT hZ (hw _ (List.mem_of_getElem? (i := 14) rfl))) (mvT hZ (hw _ (List.mem_of_getElem? (i := 13) rfl))) (by decide) (backOf (W := 0) (rm3 l Z a0 hw [] a196 (4877398396442247168 : UInt64) (.double (0 : UInt64)) (.double (0 : UInt64)) h195 n0 Z200 EA195 F201 F202 g197) hZ (hw _ (List.mem_of_getElem? (i := 15) rfl)) (hw _ (List.mem_of_getElem? (i := 4) rfl)) (by decide) (by decide)) q211a q211c (g := (mkF m 39 #[.val (.int p0), .val (.int p1), .val (.long p2), .second, .val (.int (Int32.ofNat n)), .val (.int (Int32.ofNat i)), .val (.int (Int32.ofNat j)), .val (.double (4877398396442247168 : UInt64)), .second, .unset, .unset, .unset, .unset] [(.double (4877398396442247168 : UInt64)), (.ref a196)])) rfl (by rw [hml]; rfl) (Steps.refl _) (argsL := [(.double (4877398396442247168 : UInt64))]) (rest := []) (lenOf pd_5 rfl) rfl (by show 2 * 0 + _ ≤ _; exact Nat.le_of_eq rfl) (hb hby at_39) (fun _ _ => ⟨rfl, e208, (by decide : 1 + 0 ≤ _), (by decide : 2 + 0 ≤ _)⟩)
  have hQ210b : Q3 Z a196 (4877398396442247168 : UInt64) (.double (0 : UInt64)) (.double (0 : UInt64)) h195 n0 vv210 T210.heap L210c := hQ210
  clear hQ210
  dsimp only [Pt.U, Pt.locs, Pt.cells, Pt.slots] at X210 l210 y210 z210 st210
  subst y210 z210
  obtain ⟨rfl, Nq212, Kq213, F214, F215⟩ := hQ210b
  have N216 : Fr n0 L210 := by rw [l210]; exact Fr.app N207 Nq212
  refine Go.tr (g' := (mkF m 42 #[.val (.int p0), .val (.int p1), .val (.long p2), .second, .val (.int (Int32.ofNat n)), .val (.int (Int32.ofNat i)), .val (.int (Int32.ofNat j)), .val (.double (4877398396442247168 : UInt64)), .second, .unset, .unset, .unset, .unset] [(.ref a196)])) st210 ?_
  have E217 : Exa Z T210.heap a196 "com/example/hinterland/hinterland/DoubleDouble" := Exa.keep EA195 Kq213
  have Z218 : n0 ≤ T210.heap.size := Nat.le_trans Z200 Kq213.1
  have K219 : Keep h0 T210.heap [] := K199.trans Kq213 (allS (Or.inr gh198) all0)
  have A220 := (⟨X210, hx, hby⟩ : Ax _ _ _ _ _ _ _ _ _ _ _ _ _ _ _)
  refine g_dconst1 A220 at_42 (pc' := 43) rfl ?_
  obtain ⟨cq222, kq222, q222a, q222b, q222c⟩ := isOf hZ rfl E217
  obtain ⟨vv221, _, ⟨T221, L221, k221, n221⟩, -, X221, ⟨L221c, hQ221, l221, y221, z221⟩, st221⟩ := X210.virtualBack hx (y := (⟨"com/example/hinterland/hinterland/DoubleDouble", "add", "(D)Lcom/example/hinterland/hinterland/DoubleDouble;"⟩ : MethodName)) (z := (⟨"com/example/hinterland/hinterland/DoubleDouble", "add", "(D)Lcom/example/hinterland/hinterland/DoubleDouble;"⟩ : MethodName)) hown (mvT hZ (hw _ (List.mem_of_getElem? (i := 20) rfl))) (mvT hZ (hw _ (List.mem_of_getElem? (i := 21) rfl))) (notFace_of_selects (args := #[]) (mvT hZ (hw _ (List.mem_of_getElem? (i := 23) rfl)))) (mvT hZ (hw _ (List.mem_of_getElem? (i := 23) rfl))) (mvT hZ (hw _ (List.mem_of_getElem? (i := 22) rfl))) (by decide) (backOf (W := 0) (rm4 l Z a0 hw [] a196 T210.heap n0 Z218 E217 F214 F215 g197) hZ (hw _ (List.mem_of_getElem? (i := 24) rfl)) (hw _ (List.mem_of_getElem? (i := 4) rfl)) (by decide) (by decide)) q222a q222c (g := (mkF m 43 #[.val (.int p0), .val (.int p1), .val (.long p2), .second, .val (.int (Int32.ofNat n)), .val (.int (Int32.ofNat i)), .val (.int (Int32.ofNat j)), .val (.double (4877398396442247168 : UInt64)), .second, .unset, .unset, .unset, .unset] [(.double (4607182418800017408 : UInt64)), (.ref a196)])) rfl (by rw [hml]; rfl) (Steps.refl _) (argsL := [(.double (4607182418800017408 : UInt64))]) (rest := []) (lenOf pd_5 rfl) rfl (by show 2 * 0 + _ ≤ _; exact Nat.le_of_eq rfl) (hb hby at_43) (fun _ _ => ⟨rfl, rfl, (by decide : 1 + 0 ≤ _), (by decide : 2 + 0 ≤ _)⟩)
  have hQ221b : Q4 Z a196 T210.heap n0 vv221 T221.heap L221c := hQ221
  clear hQ221
  dsimp only [Pt.U, Pt.locs, Pt.cells, Pt.slots] at X221 l221 y221 z221 st221
  subst y221 z221
  obtain ⟨rfl, Nq223, Kq224, F225, F226⟩ := hQ221b
  have N227 : Fr n0 L221 := by rw [l221]; exact Fr.app N216 Nq223
  refine Go.tr (g' := (mkF m 46 #[.val (.int p0), .val (.int p1), .val (.long p2), .second, .val (.int (Int32.ofNat n)), .val (.int (Int32.ofNat i)), .val (.int (Int32.ofNat j)), .val (.double (4877398396442247168 : UInt64)), .second, .unset, .unset, .unset, .unset] [(.ref a196)])) st221 ?_
  have E228 : Exa Z T221.heap a196 "com/example/hinterland/hinterland/DoubleDouble" := Exa.keep E217 Kq224
  have Z229 : n0 ≤ T221.heap.size := Nat.le_trans Z218 Kq224.1
  have K230 : Keep h0 T221.heap [] := K219.trans Kq224 (allS (Or.inr gh198) all0)
  have A231 := (⟨X221, hx, hby⟩ : Ax _ _ _ _ _ _ _ _ _ _ _ _ _ _ _)
  refine g_astore A231 at_46 rfl (ls' := #[.val (.int p0), .val (.int p1), .val (.long p2), .second, .val (.int (Int32.ofNat n)), .val (.int (Int32.ofNat i)), .val (.int (Int32.ofNat j)), .val (.double (4877398396442247168 : UInt64)), .second, .val (.ref a196), .unset, .unset, .unset]) rfl (pc' := 48) rfl ?_
  obtain ⟨T232, h232, X232, e232, E232, EA232, D232, -, st232⟩ := newO X221 hx hZ hown (hw _ (List.mem_of_getElem? (i := 41) rfl)) (hw _ (List.mem_of_getElem? (i := 42) rfl)) (hw _ (List.mem_of_getElem? (i := 43) rfl)) rfl (g := (mkF m 48 #[.val (.int p0), .val (.int p1), .val (.long p2), .second, .val (.int (Int32.ofNat n)), .val (.int (Int32.ofNat i)), .val (.int (Int32.ofNat j)), .val (.double (4877398396442247168 : UInt64)), .second, .val (.ref a196), .unset, .unset, .unset] [])) rfl (hb hby at_48) (by decide) (by decide)
  obtain ⟨a233, ea233⟩ : ∃ z, z = T221.heap.size := ⟨_, rfl⟩
  rw [← ea233] at EA232 D232 st232
  have ne234 : a196 ≠ a233 := own_ne ea233 E228.lt
  have g235 : n0 ≤ a233 := by rw [ea233]; exact Z229
  have gh236 : h0.size ≤ a233 := by rw [ea233]; exact K230.1
  have K237 : Keep h0 h232 [] := K230.ext E232
  have E238 : Exa Z h232 a196 "com/example/hinterland/hinterland/DoubleDouble" := Exa.ext E232 E228
  have F239 : Fld Z h232 a196 "com/example/hinterland/hinterland/DoubleDouble" "high" "D" (.double (4877398396442247168 : UInt64)) := Fld.ext E232 F225
  have F240 : Fld Z h232 a196 "com/example/hinterland/hinterland/DoubleDouble" "low" "D" (.double (4607182418800017408 : UInt64)) := Fld.ext E232 F226
  have Z241 : n0 ≤ h232.size := Nat.le_trans Z229 E232.1
  have F242 : Fld Z h232 a233 "com/example/hinterland/hinterland/DoubleDoubles" "parts" "[D" .null := D232 (Or.inr (hw _ (List.mem_of_getElem? (i := 50) rfl))) (ty := (.array .double)) (by decide)
  refine Go.of (g' := (mkF m 51 #[.val (.int p0), .val (.int p1), .val (.long p2), .second, .val (.int (Int32.ofNat n)), .val (.int (Int32.ofNat i)), .val (.int (Int32.ofNat j)), .val (.double (4877398396442247168 : UInt64)), .second, .val (.ref a196), .unset, .unset, .unset] [(.ref a233)])) st232 ?_
  have A243 := (⟨X232, hx, hby⟩ : Ax _ _ _ _ _ _ _ _ _ _ _ _ _ _ _)
  refine g_dup A243 at_51 rfl (pc' := 52) rfl ?_
  refine g_iload A243 at_52 rfl (pc' := 54) rfl ?_
  obtain ⟨vv244, _, ⟨T244, L244, k244, n244⟩, -, X244, ⟨L244c, hQ244, l244, y244, z244⟩, st244⟩ := X232.specialBack hx (y := (⟨"com/example/hinterland/hinterland/DoubleDoubles", "<init>", "(I)V"⟩ : MethodName)) rfl hown (mvT hZ (hw _ (List.mem_of_getElem? (i := 44) rfl))) (mvT hZ (hw _ (List.mem_of_getElem? (i := 45) rfl))) (mvT hZ (hw _ (List.mem_of_getElem? (i := 46) rfl))) (by decide) (backOf (W := 1) (rm9 l Z a0 hw [] a233 n .null h232 n0 Z241 EA232 F242 g235 n5) hZ (hw _ (List.mem_of_getElem? (i := 46) rfl)) (hw _ (List.mem_of_getElem? (i := 43) rfl)) (by decide) (by decide)) (g := (mkF m 54 #[.val (.int p0), .val (.int p1), .val (.long p2), .second, .val (.int (Int32.ofNat n)), .val (.int (Int32.ofNat i)), .val (.int (Int32.ofNat j)), .val (.double (4877398396442247168 : UInt64)), .second, .val (.ref a196), .unset, .unset, .unset] [(.int (Int32.ofNat n)), (.ref a233), (.ref a233)])) rfl (by rw [hml]; rfl) (Steps.refl _) (a := a233) (argsL := [(.int (Int32.ofNat n))]) (rest := [(.ref a233)]) (lenOf pd_6 rfl) rfl (by show 2 * 0 + _ ≤ _; exact Nat.le_of_eq rfl) (hb hby at_54) (fun _ _ => ⟨rfl, e232, (by decide : 2 + 1 ≤ _), (by decide : 3 + 10 ≤ _)⟩)
  have hQ244b : Q9 Z a233 n .null h232 n0 vv244 T244.heap L244c := hQ244
  clear hQ244
  dsimp only [Pt.U, Pt.locs, Pt.cells, Pt.slots] at X244 l244 y244 z244 st244
  subst y244 z244
  obtain ⟨bb245, rfl, Nq246, Kq247, gx248, F249, V250⟩ := hQ244b
  have N251 : Fr n0 L244 := by rw [l244]; exact Fr.app N227 Nq246
  refine Go.tr (g' := (mkF m 57 #[.val (.int p0), .val (.int p1), .val (.long p2), .second, .val (.int (Int32.ofNat n)), .val (.int (Int32.ofNat i)), .val (.int (Int32.ofNat j)), .val (.double (4877398396442247168 : UInt64)), .second, .val (.ref a196), .unset, .unset, .unset] [(.ref a233)])) st244 ?_
  have E252 : Exa Z T244.heap a196 "com/example/hinterland/hinterland/DoubleDouble" := Exa.keep E238 Kq247
  have F253 : Fld Z T244.heap a196 "com/example/hinterland/hinterland/DoubleDouble" "high" "D" (.double (4877398396442247168 : UInt64)) := Fld.keep F239 Kq247 (ninS ne234 nin0)
  have F254 : Fld Z T244.heap a196 "com/example/hinterland/hinterland/DoubleDouble" "low" "D" (.double (4607182418800017408 : UInt64)) := Fld.keep F240 Kq247 (ninS ne234 nin0)
  have E255 : Exa Z T244.heap a233 "com/example/hinterland/hinterland/DoubleDoubles" := Exa.keep EA232 Kq247
  have Z256 : n0 ≤ T244.heap.size := Nat.le_trans Z241 Kq247.1
  have K257 : Keep h0 T244.heap [] := K237.trans Kq247 (allS (Or.inr gh236) all0)
  have A258 := (⟨X244, hx, hby⟩ : Ax _ _ _ _ _ _ _ _ _ _ _ _ _ _ _)
  have g259 : n0 ≤ bb245 := Nat.le_trans Z241 gx248
  have gh260 : h0.size ≤ bb245 := Nat.le_trans K237.1 gx248
  have ne261 : a196 ≠ bb245 := Nat.ne_of_lt (Nat.lt_of_lt_of_le E238.lt gx248)
  have ne262 : a233 ≠ bb245 := Nat.ne_of_lt (Nat.lt_of_lt_of_le EA232.lt gx248)
  refine g_astore A258 at_57 rfl (ls' := #[.val (.int p0), .val (.int p1), .val (.long p2), .second, .val (.int (Int32.ofNat n)), .val (.int (Int32.ofNat i)), .val (.int (Int32.ofNat j)), .val (.double (4877398396442247168 : UInt64)), .second, .val (.ref a196), .val (.ref a233), .unset, .unset]) rfl (pc' := 59) rfl ?_
  refine g_aload A258 at_59 rfl rfl (pc' := 61) rfl ?_
  refine g_iload A258 at_61 rfl (pc' := 63) rfl ?_
  refine g_aload A258 at_63 rfl rfl (pc' := 65) rfl ?_
  obtain ⟨cq264, kq264, q264a, q264b, q264c⟩ := isOf hZ rfl E255
  obtain ⟨vv263, _, ⟨T263, L263, k263, n263⟩, -, X263, ⟨L263c, hQ263, l263, y263, z263⟩, st263⟩ := X244.virtualBack hx (y := (⟨"com/example/hinterland/hinterland/DoubleDoubles", "set", "(ILcom/example/hinterland/hinterland/DoubleDouble;)V"⟩ : MethodName)) (z := (⟨"com/example/hinterland/hinterland/DoubleDoubles", "set", "(ILcom/example/hinterland/hinterland/DoubleDouble;)V"⟩ : MethodName)) hown (mvT hZ (hw _ (List.mem_of_getElem? (i := 51) rfl))) (mvT hZ (hw _ (List.mem_of_getElem? (i := 52) rfl))) (notFace_of_selects (args := #[]) (mvT hZ (hw _ (List.mem_of_getElem? (i := 54) rfl)))) (mvT hZ (hw _ (List.mem_of_getElem? (i := 54) rfl))) (mvT hZ (hw _ (List.mem_of_getElem? (i := 53) rfl))) (by decide) (backOf (W := 0) (rm10 l Z a0 hw [] a233 i a196 (4877398396442247168 : UInt64) (4607182418800017408 : UInt64) bb245 n (fun _ => .double (0 : UInt64)) T244.heap n0 Z256 F249 V250 E252 F253 F254 ne262 ne261 g259 hi n5) hZ (hw _ (List.mem_of_getElem? (i := 55) rfl)) (hw _ (List.mem_of_getElem? (i := 43) rfl)) (by decide) (by decide)) q264a q264c (g := (mkF m 65 #[.val (.int p0), .val (.int p1), .val (.long p2), .second, .val (.int (Int32.ofNat n)), .val (.int (Int32.ofNat i)), .val (.int (Int32.ofNat j)), .val (.double (4877398396442247168 : UInt64)), .second, .val (.ref a196), .val (.ref a233), .unset, .unset] [(.ref a196), (.int (Int32.ofNat i)), (.ref a233)])) rfl (by rw [hml]; rfl) (Steps.refl _) (argsL := [(.int (Int32.ofNat i)), (.ref a196)]) (rest := []) (lenOf pd_7 rfl) rfl (by show 2 * 0 + _ ≤ _; exact Nat.le_of_eq rfl) (hb hby at_65) (fun _ _ => ⟨rfl, rfl, (by decide : 3 + 0 ≤ _), (by decide : 13 + 0 ≤ _)⟩)
  have hQ263b : Q10 Z a233 i a196 (4877398396442247168 : UInt64) (4607182418800017408 : UInt64) bb245 n (fun _ => .double (0 : UInt64)) T244.heap n0 vv263 T263.heap L263c := hQ263
  clear hQ263
  dsimp only [Pt.U, Pt.locs, Pt.cells, Pt.slots] at X263 l263 y263 z263 st263
  subst y263 z263
  obtain ⟨rfl, Nq265, Kq266, V267⟩ := hQ263b
  have N268 : Fr n0 L263 := by rw [l263]; exact Fr.app N251 Nq265
  refine Go.tr (g' := (mkF m 68 #[.val (.int p0), .val (.int p1), .val (.long p2), .second, .val (.int (Int32.ofNat n)), .val (.int (Int32.ofNat i)), .val (.int (Int32.ofNat j)), .val (.double (4877398396442247168 : UInt64)), .second, .val (.ref a196), .val (.ref a233), .unset, .unset] [])) st263 ?_
  have E269 : Exa Z T263.heap a196 "com/example/hinterland/hinterland/DoubleDouble" := Exa.keep E252 Kq266
  have F270 : Fld Z T263.heap a196 "com/example/hinterland/hinterland/DoubleDouble" "high" "D" (.double (4877398396442247168 : UInt64)) := Fld.keep F253 Kq266 (ninS ne261 nin0)
  have F271 : Fld Z T263.heap a196 "com/example/hinterland/hinterland/DoubleDouble" "low" "D" (.double (4607182418800017408 : UInt64)) := Fld.keep F254 Kq266 (ninS ne261 nin0)
  have E272 : Exa Z T263.heap a233 "com/example/hinterland/hinterland/DoubleDoubles" := Exa.keep E255 Kq266
  have F273 : Fld Z T263.heap a233 "com/example/hinterland/hinterland/DoubleDoubles" "parts" "[D" (.ref bb245) := Fld.keep F249 Kq266 (ninS ne262 nin0)
  have Z274 : n0 ≤ T263.heap.size := Nat.le_trans Z256 Kq266.1
  have K275 : Keep h0 T263.heap [] := K257.trans Kq266 (allS (Or.inr gh260) all0)
  have A276 := (⟨X263, hx, hby⟩ : Ax _ _ _ _ _ _ _ _ _ _ _ _ _ _ _)
  refine g_aload A276 at_68 rfl rfl (pc' := 70) rfl ?_
  refine g_iload A276 at_70 rfl (pc' := 72) rfl ?_
  refine g_aload A276 at_72 rfl rfl (pc' := 74) rfl ?_
  obtain ⟨cq278, kq278, q278a, q278b, q278c⟩ := isOf hZ rfl E272
  obtain ⟨vv277, _, ⟨T277, L277, k277, n277⟩, -, X277, ⟨L277c, hQ277, l277, y277, z277⟩, st277⟩ := X263.virtualBack hx (y := (⟨"com/example/hinterland/hinterland/DoubleDoubles", "set", "(ILcom/example/hinterland/hinterland/DoubleDouble;)V"⟩ : MethodName)) (z := (⟨"com/example/hinterland/hinterland/DoubleDoubles", "set", "(ILcom/example/hinterland/hinterland/DoubleDouble;)V"⟩ : MethodName)) hown (mvT hZ (hw _ (List.mem_of_getElem? (i := 51) rfl))) (mvT hZ (hw _ (List.mem_of_getElem? (i := 52) rfl))) (notFace_of_selects (args := #[]) (mvT hZ (hw _ (List.mem_of_getElem? (i := 54) rfl)))) (mvT hZ (hw _ (List.mem_of_getElem? (i := 54) rfl))) (mvT hZ (hw _ (List.mem_of_getElem? (i := 53) rfl))) (by decide) (backOf (W := 0) (rm10 l Z a0 hw [] a233 j a196 (4877398396442247168 : UInt64) (4607182418800017408 : UInt64) bb245 n (own_st (fun _ => .double (0 : UInt64)) i (4877398396442247168 : UInt64) (4607182418800017408 : UInt64)) T263.heap n0 Z274 F273 V267 E269 F270 F271 ne262 ne261 g259 hj n5) hZ (hw _ (List.mem_of_getElem? (i := 55) rfl)) (hw _ (List.mem_of_getElem? (i := 43) rfl)) (by decide) (by decide)) q278a q278c (g := (mkF m 74 #[.val (.int p0), .val (.int p1), .val (.long p2), .second, .val (.int (Int32.ofNat n)), .val (.int (Int32.ofNat i)), .val (.int (Int32.ofNat j)), .val (.double (4877398396442247168 : UInt64)), .second, .val (.ref a196), .val (.ref a233), .unset, .unset] [(.ref a196), (.int (Int32.ofNat j)), (.ref a233)])) rfl (by rw [hml]; rfl) (Steps.refl _) (argsL := [(.int (Int32.ofNat j)), (.ref a196)]) (rest := []) (lenOf pd_7 rfl) rfl (by show 2 * 0 + _ ≤ _; exact Nat.le_of_eq rfl) (hb hby at_74) (fun _ _ => ⟨rfl, rfl, (by decide : 3 + 0 ≤ _), (by decide : 13 + 0 ≤ _)⟩)
  have hQ277b : Q10 Z a233 j a196 (4877398396442247168 : UInt64) (4607182418800017408 : UInt64) bb245 n (own_st (fun _ => .double (0 : UInt64)) i (4877398396442247168 : UInt64) (4607182418800017408 : UInt64)) T263.heap n0 vv277 T277.heap L277c := hQ277
  clear hQ277
  dsimp only [Pt.U, Pt.locs, Pt.cells, Pt.slots] at X277 l277 y277 z277 st277
  subst y277 z277
  obtain ⟨rfl, Nq279, Kq280, V281⟩ := hQ277b
  have N282 : Fr n0 L277 := by rw [l277]; exact Fr.app N268 Nq279
  refine Go.tr (g' := (mkF m 77 #[.val (.int p0), .val (.int p1), .val (.long p2), .second, .val (.int (Int32.ofNat n)), .val (.int (Int32.ofNat i)), .val (.int (Int32.ofNat j)), .val (.double (4877398396442247168 : UInt64)), .second, .val (.ref a196), .val (.ref a233), .unset, .unset] [])) st277 ?_
  have E283 : Exa Z T277.heap a196 "com/example/hinterland/hinterland/DoubleDouble" := Exa.keep E269 Kq280
  have F284 : Fld Z T277.heap a196 "com/example/hinterland/hinterland/DoubleDouble" "high" "D" (.double (4877398396442247168 : UInt64)) := Fld.keep F270 Kq280 (ninS ne261 nin0)
  have F285 : Fld Z T277.heap a196 "com/example/hinterland/hinterland/DoubleDouble" "low" "D" (.double (4607182418800017408 : UInt64)) := Fld.keep F271 Kq280 (ninS ne261 nin0)
  have E286 : Exa Z T277.heap a233 "com/example/hinterland/hinterland/DoubleDoubles" := Exa.keep E272 Kq280
  have F287 : Fld Z T277.heap a233 "com/example/hinterland/hinterland/DoubleDoubles" "parts" "[D" (.ref bb245) := Fld.keep F273 Kq280 (ninS ne262 nin0)
  have Z288 : n0 ≤ T277.heap.size := Nat.le_trans Z274 Kq280.1
  have K289 : Keep h0 T277.heap [] := K275.trans Kq280 (allS (Or.inr gh260) all0)
  have A290 := (⟨X277, hx, hby⟩ : Ax _ _ _ _ _ _ _ _ _ _ _ _ _ _ _)
  refine g_lloadN A290 at_77 rfl (pc' := 78) rfl ?_
  refine g_l2d A290 at_78 (pc' := 79) rfl ?_
  refine g_dstore A290 at_79 (ls' := #[.val (.int p0), .val (.int p1), .val (.long p2), .second, .val (.int (Int32.ofNat n)), .val (.int (Int32.ofNat i)), .val (.int (Int32.ofNat j)), .val (.double (4877398396442247168 : UInt64)), .second, .val (.ref a196), .val (.ref a233), .val (.double (FP.l2d p2)), .second]) rfl (pc' := 81) rfl ?_
  refine g_aload A290 at_81 rfl rfl (pc' := 83) rfl ?_
  refine g_iload A290 at_83 rfl (pc' := 85) rfl ?_
  refine g_dload A290 at_85 rfl (pc' := 87) rfl ?_
  obtain ⟨cq292, kq292, q292a, q292b, q292c⟩ := isOf hZ rfl E286
  obtain ⟨vv291, _, ⟨T291, L291, k291, n291⟩, -, X291, ⟨L291c, hQ291, l291, y291, z291⟩, st291⟩ := X277.virtualBack hx (y := (⟨"com/example/hinterland/hinterland/DoubleDoubles", "set", "(ID)V"⟩ : MethodName)) (z := (⟨"com/example/hinterland/hinterland/DoubleDoubles", "set", "(ID)V"⟩ : MethodName)) hown (mvT hZ (hw _ (List.mem_of_getElem? (i := 66) rfl))) (mvT hZ (hw _ (List.mem_of_getElem? (i := 67) rfl))) (notFace_of_selects (args := #[]) (mvT hZ (hw _ (List.mem_of_getElem? (i := 69) rfl)))) (mvT hZ (hw _ (List.mem_of_getElem? (i := 69) rfl))) (mvT hZ (hw _ (List.mem_of_getElem? (i := 68) rfl))) (by decide) (backOf (W := 0) (rm13 l Z a0 hw [] a233 i (FP.l2d p2) bb245 n (own_st (own_st (fun _ => .double (0 : UInt64)) i (4877398396442247168 : UInt64) (4607182418800017408 : UInt64)) j (4877398396442247168 : UInt64) (4607182418800017408 : UInt64)) T277.heap n0 Z288 F287 V281 ne262 g259 hi n5) hZ (hw _ (List.mem_of_getElem? (i := 70) rfl)) (hw _ (List.mem_of_getElem? (i := 43) rfl)) (by decide) (by decide)) q292a q292c (g := (mkF m 87 #[.val (.int p0), .val (.int p1), .val (.long p2), .second, .val (.int (Int32.ofNat n)), .val (.int (Int32.ofNat i)), .val (.int (Int32.ofNat j)), .val (.double (4877398396442247168 : UInt64)), .second, .val (.ref a196), .val (.ref a233), .val (.double (FP.l2d p2)), .second] [(.double (FP.l2d p2)), (.int (Int32.ofNat i)), (.ref a233)])) rfl (by rw [hml]; rfl) (Steps.refl _) (argsL := [(.int (Int32.ofNat i)), (.double (FP.l2d p2))]) (rest := []) (lenOf pd_8 rfl) rfl (by show 2 * 0 + _ ≤ _; exact Nat.le_of_eq rfl) (hb hby at_87) (fun _ _ => ⟨rfl, rfl, (by decide : 3 + 0 ≤ _), (by decide : 13 + 0 ≤ _)⟩)
  have hQ291b : Q13 Z a233 i (FP.l2d p2) bb245 n (own_st (own_st (fun _ => .double (0 : UInt64)) i (4877398396442247168 : UInt64) (4607182418800017408 : UInt64)) j (4877398396442247168 : UInt64) (4607182418800017408 : UInt64)) T277.heap n0 vv291 T291.heap L291c := hQ291
  clear hQ291
  dsimp only [Pt.U, Pt.locs, Pt.cells, Pt.slots] at X291 l291 y291 z291 st291
  subst y291 z291
  obtain ⟨rfl, Nq293, Kq294, V295⟩ := hQ291b
  have N296 : Fr n0 L291 := by rw [l291]; exact Fr.app N282 Nq293
  refine Go.tr (g' := (mkF m 90 #[.val (.int p0), .val (.int p1), .val (.long p2), .second, .val (.int (Int32.ofNat n)), .val (.int (Int32.ofNat i)), .val (.int (Int32.ofNat j)), .val (.double (4877398396442247168 : UInt64)), .second, .val (.ref a196), .val (.ref a233), .val (.double (FP.l2d p2)), .second] [])) st291 ?_
  have E297 : Exa Z T291.heap a196 "com/example/hinterland/hinterland/DoubleDouble" := Exa.keep E283 Kq294
  have F298 : Fld Z T291.heap a196 "com/example/hinterland/hinterland/DoubleDouble" "high" "D" (.double (4877398396442247168 : UInt64)) := Fld.keep F284 Kq294 (ninS ne261 nin0)
  have F299 : Fld Z T291.heap a196 "com/example/hinterland/hinterland/DoubleDouble" "low" "D" (.double (4607182418800017408 : UInt64)) := Fld.keep F285 Kq294 (ninS ne261 nin0)
  have E300 : Exa Z T291.heap a233 "com/example/hinterland/hinterland/DoubleDoubles" := Exa.keep E286 Kq294
  have F301 : Fld Z T291.heap a233 "com/example/hinterland/hinterland/DoubleDoubles" "parts" "[D" (.ref bb245) := Fld.keep F287 Kq294 (ninS ne262 nin0)
  have Z302 : n0 ≤ T291.heap.size := Nat.le_trans Z288 Kq294.1
  have K303 : Keep h0 T291.heap [] := K289.trans Kq294 (allS (Or.inr gh260) all0)
  have A304 := (⟨X291, hx, hby⟩ : Ax _ _ _ _ _ _ _ _ _ _ _ _ _ _ _)
  refine g_aload A304 at_90 rfl rfl (pc' := 92) rfl ?_
  refine g_iload A304 at_92 rfl (pc' := 94) rfl ?_
  have hp305 : (own_st (own_st (own_st (fun _ => .double (0 : UInt64)) i (4877398396442247168 : UInt64) (4607182418800017408 : UInt64)) j (4877398396442247168 : UInt64) (4607182418800017408 : UInt64)) i (FP.l2d p2) (0 : UInt64)) (2 * i) = .double (FP.l2d p2) := (own_stH _ _ _ _)
  obtain ⟨cq307, kq307, q307a, q307b, q307c⟩ := isOf hZ rfl E300
  obtain ⟨vv306, _, ⟨T306, L306, k306, n306⟩, -, X306, ⟨L306c, hQ306, l306, y306, z306⟩, st306⟩ := X291.virtualBack hx (y := (⟨"com/example/hinterland/hinterland/DoubleDoubles", "high", "(I)D"⟩ : MethodName)) (z := (⟨"com/example/hinterland/hinterland/DoubleDoubles", "high", "(I)D"⟩ : MethodName)) hown (mvT hZ (hw _ (List.mem_of_getElem? (i := 71) rfl))) (mvT hZ (hw _ (List.mem_of_getElem? (i := 72) rfl))) (notFace_of_selects (args := #[]) (mvT hZ (hw _ (List.mem_of_getElem? (i := 74) rfl)))) (mvT hZ (hw _ (List.mem_of_getElem? (i := 74) rfl))) (mvT hZ (hw _ (List.mem_of_getElem? (i := 73) rfl))) (by decide) (backOf (W := 0) (rm14 l Z a0 hw [] a233 i bb245 n (own_st (own_st (own_st (fun _ => .double (0 : UInt64)) i (4877398396442247168 : UInt64) (4607182418800017408 : UInt64)) j (4877398396442247168 : UInt64) (4607182418800017408 : UInt64)) i (FP.l2d p2) (0 : UInt64)) (FP.l2d p2) T291.heap n0 Z302 F301 V295 hi n5 hp305) hZ (hw _ (List.mem_of_getElem? (i := 75) rfl)) (hw _ (List.mem_of_getElem? (i := 43) rfl)) (by decide) (by decide)) q307a q307c (g := (mkF m 94 #[.val (.int p0), .val (.int p1), .val (.long p2), .second, .val (.int (Int32.ofNat n)), .val (.int (Int32.ofNat i)), .val (.int (Int32.ofNat j)), .val (.double (4877398396442247168 : UInt64)), .second, .val (.ref a196), .val (.ref a233), .val (.double (FP.l2d p2)), .second] [(.int (Int32.ofNat i)), (.ref a233)])) rfl (by rw [hml]; rfl) (Steps.refl _) (argsL := [(.int (Int32.ofNat i))]) (rest := []) (lenOf pd_9 rfl) rfl (by show 2 * 0 + _ ≤ _; exact Nat.le_of_eq rfl) (hb hby at_94) (fun _ _ => ⟨rfl, rfl, (by decide : 3 + 0 ≤ _), (by decide : 13 + 0 ≤ _)⟩)
  have hQ306b : Q14 Z a233 i bb245 n (own_st (own_st (own_st (fun _ => .double (0 : UInt64)) i (4877398396442247168 : UInt64) (4607182418800017408 : UInt64)) j (4877398396442247168 : UInt64) (4607182418800017408 : UInt64)) i (FP.l2d p2) (0 : UInt64)) (FP.l2d p2) T291.heap n0 vv306 T306.heap L306c := hQ306
  clear hQ306
  dsimp only [Pt.U, Pt.locs, Pt.cells, Pt.slots] at X306 l306 y306 z306 st306
  subst y306 z306
  obtain ⟨rfl, Nq308, Kq309⟩ := hQ306b
  have N310 : Fr n0 L306 := by rw [l306]; exact Fr.app N296 Nq308
  refine Go.tr (g' := (mkF m 97 #[.val (.int p0), .val (.int p1), .val (.long p2), .second, .val (.int (Int32.ofNat n)), .val (.int (Int32.ofNat i)), .val (.int (Int32.ofNat j)), .val (.double (4877398396442247168 : UInt64)), .second, .val (.ref a196), .val (.ref a233), .val (.double (FP.l2d p2)), .second] [(.double (FP.l2d p2))])) st306 ?_
  have e311 : T306.heap = T291.heap := Kq309
  have A312 := (⟨X306, hx, hby⟩ : Ax _ _ _ _ _ _ _ _ _ _ _ _ _ _ _)
  refine g_dload A312 at_97 rfl (pc' := 99) rfl ?_
  refine g_dcmp A312 at_99 (pc' := 100) rfl ?_
  refine g_ifN A312 at_100 (d_l_ne_f (own_self (l2d_fin p2))) (pc' := 103) rfl ?_
  refine g_aload A312 at_103 rfl rfl (pc' := 105) rfl ?_
  refine g_iload A312 at_105 rfl (pc' := 107) rfl ?_
  have hp313 : (own_st (own_st (own_st (fun _ => .double (0 : UInt64)) i (4877398396442247168 : UInt64) (4607182418800017408 : UInt64)) j (4877398396442247168 : UInt64) (4607182418800017408 : UInt64)) i (FP.l2d p2) (0 : UInt64)) (2 * i + 1) = .double (0 : UInt64) := (own_stL _ _ _ _)
  obtain ⟨cq315, kq315, q315a, q315b, q315c⟩ := isOf hZ e311 E300
  obtain ⟨vv314, _, ⟨T314, L314, k314, n314⟩, -, X314, ⟨L314c, hQ314, l314, y314, z314⟩, st314⟩ := X306.virtualBack hx (y := (⟨"com/example/hinterland/hinterland/DoubleDoubles", "low", "(I)D"⟩ : MethodName)) (z := (⟨"com/example/hinterland/hinterland/DoubleDoubles", "low", "(I)D"⟩ : MethodName)) hown (mvT hZ (hw _ (List.mem_of_getElem? (i := 76) rfl))) (mvT hZ (hw _ (List.mem_of_getElem? (i := 77) rfl))) (notFace_of_selects (args := #[]) (mvT hZ (hw _ (List.mem_of_getElem? (i := 79) rfl)))) (mvT hZ (hw _ (List.mem_of_getElem? (i := 79) rfl))) (mvT hZ (hw _ (List.mem_of_getElem? (i := 78) rfl))) (by decide) (backOf (W := 0) (rm15 l Z a0 hw [] a233 i bb245 n (own_st (own_st (own_st (fun _ => .double (0 : UInt64)) i (4877398396442247168 : UInt64) (4607182418800017408 : UInt64)) j (4877398396442247168 : UInt64) (4607182418800017408 : UInt64)) i (FP.l2d p2) (0 : UInt64)) (0 : UInt64) T291.heap n0 Z302 F301 V295 hi n5 hp313) hZ (hw _ (List.mem_of_getElem? (i := 80) rfl)) (hw _ (List.mem_of_getElem? (i := 43) rfl)) (by decide) (by decide)) q315a q315c (g := (mkF m 107 #[.val (.int p0), .val (.int p1), .val (.long p2), .second, .val (.int (Int32.ofNat n)), .val (.int (Int32.ofNat i)), .val (.int (Int32.ofNat j)), .val (.double (4877398396442247168 : UInt64)), .second, .val (.ref a196), .val (.ref a233), .val (.double (FP.l2d p2)), .second] [(.int (Int32.ofNat i)), (.ref a233)])) rfl (by rw [hml]; rfl) (Steps.refl _) (argsL := [(.int (Int32.ofNat i))]) (rest := []) (lenOf pd_9 rfl) rfl (by show 2 * 0 + _ ≤ _; exact Nat.le_of_eq rfl) (hb hby at_107) (fun _ _ => ⟨rfl, e311, (by decide : 3 + 0 ≤ _), (by decide : 13 + 0 ≤ _)⟩)
  have hQ314b : Q15 Z a233 i bb245 n (own_st (own_st (own_st (fun _ => .double (0 : UInt64)) i (4877398396442247168 : UInt64) (4607182418800017408 : UInt64)) j (4877398396442247168 : UInt64) (4607182418800017408 : UInt64)) i (FP.l2d p2) (0 : UInt64)) (0 : UInt64) T291.heap n0 vv314 T314.heap L314c := hQ314
  clear hQ314
  dsimp only [Pt.U, Pt.locs, Pt.cells, Pt.slots] at X314 l314 y314 z314 st314
  subst y314 z314
  obtain ⟨rfl, Nq316, Kq317⟩ := hQ314b
  have N318 : Fr n0 L314 := by rw [l314]; exact Fr.app N310 Nq316
  refine Go.tr (g' := (mkF m 110 #[.val (.int p0), .val (.int p1), .val (.long p2), .second, .val (.int (Int32.ofNat n)), .val (.int (Int32.ofNat i)), .val (.int (Int32.ofNat j)), .val (.double (4877398396442247168 : UInt64)), .second, .val (.ref a196), .val (.ref a233), .val (.double (FP.l2d p2)), .second] [(.double (0 : UInt64))])) st314 ?_
  have e319 : T314.heap = T291.heap := Kq317
  have A320 := (⟨X314, hx, hby⟩ : Ax _ _ _ _ _ _ _ _ _ _ _ _ _ _ _)
  refine g_dconst0 A320 at_110 (pc' := 111) rfl ?_
  refine g_dcmp A320 at_111 (pc' := 112) rfl ?_
  refine g_ifN A320 at_112 (d_l_ne_f (own_self (by unfold Fin64; decide : Fin64 (0 : UInt64)))) (pc' := 115) rfl ?_
  refine g_aload A320 at_115 rfl rfl (pc' := 117) rfl ?_
  refine g_iload A320 at_117 rfl (pc' := 119) rfl ?_
  have hp321 : (own_st (own_st (own_st (fun _ => .double (0 : UInt64)) i (4877398396442247168 : UInt64) (4607182418800017408 : UInt64)) j (4877398396442247168 : UInt64) (4607182418800017408 : UInt64)) i (FP.l2d p2) (0 : UInt64)) (2 * j) = .double (4877398396442247168 : UInt64) := ((own_stO (by omega) (by omega)).trans (own_stH _ _ _ _))
  obtain ⟨cq323, kq323, q323a, q323b, q323c⟩ := isOf hZ e319 E300
  obtain ⟨vv322, _, ⟨T322, L322, k322, n322⟩, -, X322, ⟨L322c, hQ322, l322, y322, z322⟩, st322⟩ := X314.virtualBack hx (y := (⟨"com/example/hinterland/hinterland/DoubleDoubles", "high", "(I)D"⟩ : MethodName)) (z := (⟨"com/example/hinterland/hinterland/DoubleDoubles", "high", "(I)D"⟩ : MethodName)) hown (mvT hZ (hw _ (List.mem_of_getElem? (i := 71) rfl))) (mvT hZ (hw _ (List.mem_of_getElem? (i := 72) rfl))) (notFace_of_selects (args := #[]) (mvT hZ (hw _ (List.mem_of_getElem? (i := 74) rfl)))) (mvT hZ (hw _ (List.mem_of_getElem? (i := 74) rfl))) (mvT hZ (hw _ (List.mem_of_getElem? (i := 73) rfl))) (by decide) (backOf (W := 0) (rm14 l Z a0 hw [] a233 j bb245 n (own_st (own_st (own_st (fun _ => .double (0 : UInt64)) i (4877398396442247168 : UInt64) (4607182418800017408 : UInt64)) j (4877398396442247168 : UInt64) (4607182418800017408 : UInt64)) i (FP.l2d p2) (0 : UInt64)) (4877398396442247168 : UInt64) T291.heap n0 Z302 F301 V295 hj n5 hp321) hZ (hw _ (List.mem_of_getElem? (i := 75) rfl)) (hw _ (List.mem_of_getElem? (i := 43) rfl)) (by decide) (by decide)) q323a q323c (g := (mkF m 119 #[.val (.int p0), .val (.int p1), .val (.long p2), .second, .val (.int (Int32.ofNat n)), .val (.int (Int32.ofNat i)), .val (.int (Int32.ofNat j)), .val (.double (4877398396442247168 : UInt64)), .second, .val (.ref a196), .val (.ref a233), .val (.double (FP.l2d p2)), .second] [(.int (Int32.ofNat j)), (.ref a233)])) rfl (by rw [hml]; rfl) (Steps.refl _) (argsL := [(.int (Int32.ofNat j))]) (rest := []) (lenOf pd_9 rfl) rfl (by show 2 * 0 + _ ≤ _; exact Nat.le_of_eq rfl) (hb hby at_119) (fun _ _ => ⟨rfl, e319, (by decide : 3 + 0 ≤ _), (by decide : 13 + 0 ≤ _)⟩)
  have hQ322b : Q14 Z a233 j bb245 n (own_st (own_st (own_st (fun _ => .double (0 : UInt64)) i (4877398396442247168 : UInt64) (4607182418800017408 : UInt64)) j (4877398396442247168 : UInt64) (4607182418800017408 : UInt64)) i (FP.l2d p2) (0 : UInt64)) (4877398396442247168 : UInt64) T291.heap n0 vv322 T322.heap L322c := hQ322
  clear hQ322
  dsimp only [Pt.U, Pt.locs, Pt.cells, Pt.slots] at X322 l322 y322 z322 st322
  subst y322 z322
  obtain ⟨rfl, Nq324, Kq325⟩ := hQ322b
  have N326 : Fr n0 L322 := by rw [l322]; exact Fr.app N318 Nq324
  refine Go.tr (g' := (mkF m 122 #[.val (.int p0), .val (.int p1), .val (.long p2), .second, .val (.int (Int32.ofNat n)), .val (.int (Int32.ofNat i)), .val (.int (Int32.ofNat j)), .val (.double (4877398396442247168 : UInt64)), .second, .val (.ref a196), .val (.ref a233), .val (.double (FP.l2d p2)), .second] [(.double (4877398396442247168 : UInt64))])) st322 ?_
  have e327 : T322.heap = T291.heap := Kq325
  have A328 := (⟨X322, hx, hby⟩ : Ax _ _ _ _ _ _ _ _ _ _ _ _ _ _ _)
  refine g_dload A328 at_122 rfl (pc' := 124) rfl ?_
  refine g_dcmp A328 at_124 (pc' := 125) rfl ?_
  refine g_ifN A328 at_125 (d_l_ne_f (own_self (by unfold Fin64; decide : Fin64 (4877398396442247168 : UInt64)))) (pc' := 128) rfl ?_
  refine g_aload A328 at_128 rfl rfl (pc' := 130) rfl ?_
  refine g_iload A328 at_130 rfl (pc' := 132) rfl ?_
  have hp329 : (own_st (own_st (own_st (fun _ => .double (0 : UInt64)) i (4877398396442247168 : UInt64) (4607182418800017408 : UInt64)) j (4877398396442247168 : UInt64) (4607182418800017408 : UInt64)) i (FP.l2d p2) (0 : UInt64)) (2 * j + 1) = .double (4607182418800017408 : UInt64) := ((own_stO (by omega) (by omega)).trans (own_stL _ _ _ _))
  obtain ⟨cq331, kq331, q331a, q331b, q331c⟩ := isOf hZ e327 E300
  obtain ⟨vv330, _, ⟨T330, L330, k330, n330⟩, -, X330, ⟨L330c, hQ330, l330, y330, z330⟩, st330⟩ := X322.virtualBack hx (y := (⟨"com/example/hinterland/hinterland/DoubleDoubles", "low", "(I)D"⟩ : MethodName)) (z := (⟨"com/example/hinterland/hinterland/DoubleDoubles", "low", "(I)D"⟩ : MethodName)) hown (mvT hZ (hw _ (List.mem_of_getElem? (i := 76) rfl))) (mvT hZ (hw _ (List.mem_of_getElem? (i := 77) rfl))) (notFace_of_selects (args := #[]) (mvT hZ (hw _ (List.mem_of_getElem? (i := 79) rfl)))) (mvT hZ (hw _ (List.mem_of_getElem? (i := 79) rfl))) (mvT hZ (hw _ (List.mem_of_getElem? (i := 78) rfl))) (by decide) (backOf (W := 0) (rm15 l Z a0 hw [] a233 j bb245 n (own_st (own_st (own_st (fun _ => .double (0 : UInt64)) i (4877398396442247168 : UInt64) (4607182418800017408 : UInt64)) j (4877398396442247168 : UInt64) (4607182418800017408 : UInt64)) i (FP.l2d p2) (0 : UInt64)) (4607182418800017408 : UInt64) T291.heap n0 Z302 F301 V295 hj n5 hp329) hZ (hw _ (List.mem_of_getElem? (i := 80) rfl)) (hw _ (List.mem_of_getElem? (i := 43) rfl)) (by decide) (by decide)) q331a q331c (g := (mkF m 132 #[.val (.int p0), .val (.int p1), .val (.long p2), .second, .val (.int (Int32.ofNat n)), .val (.int (Int32.ofNat i)), .val (.int (Int32.ofNat j)), .val (.double (4877398396442247168 : UInt64)), .second, .val (.ref a196), .val (.ref a233), .val (.double (FP.l2d p2)), .second] [(.int (Int32.ofNat j)), (.ref a233)])) rfl (by rw [hml]; rfl) (Steps.refl _) (argsL := [(.int (Int32.ofNat j))]) (rest := []) (lenOf pd_9 rfl) rfl (by show 2 * 0 + _ ≤ _; exact Nat.le_of_eq rfl) (hb hby at_132) (fun _ _ => ⟨rfl, e327, (by decide : 3 + 0 ≤ _), (by decide : 13 + 0 ≤ _)⟩)
  have hQ330b : Q15 Z a233 j bb245 n (own_st (own_st (own_st (fun _ => .double (0 : UInt64)) i (4877398396442247168 : UInt64) (4607182418800017408 : UInt64)) j (4877398396442247168 : UInt64) (4607182418800017408 : UInt64)) i (FP.l2d p2) (0 : UInt64)) (4607182418800017408 : UInt64) T291.heap n0 vv330 T330.heap L330c := hQ330
  clear hQ330
  dsimp only [Pt.U, Pt.locs, Pt.cells, Pt.slots] at X330 l330 y330 z330 st330
  subst y330 z330
  obtain ⟨rfl, Nq332, Kq333⟩ := hQ330b
  have N334 : Fr n0 L330 := by rw [l330]; exact Fr.app N326 Nq332
  refine Go.tr (g' := (mkF m 135 #[.val (.int p0), .val (.int p1), .val (.long p2), .second, .val (.int (Int32.ofNat n)), .val (.int (Int32.ofNat i)), .val (.int (Int32.ofNat j)), .val (.double (4877398396442247168 : UInt64)), .second, .val (.ref a196), .val (.ref a233), .val (.double (FP.l2d p2)), .second] [(.double (4607182418800017408 : UInt64))])) st330 ?_
  have e335 : T330.heap = T291.heap := Kq333
  have A336 := (⟨X330, hx, hby⟩ : Ax _ _ _ _ _ _ _ _ _ _ _ _ _ _ _)
  refine g_dconst1 A336 at_135 (pc' := 136) rfl ?_
  refine g_dcmp A336 at_136 (pc' := 137) rfl ?_
  refine g_ifN A336 at_137 (d_l_ne_f (own_self (by unfold Fin64; decide : Fin64 (4607182418800017408 : UInt64)))) (pc' := 140) rfl ?_
  refine g_iconst A336 at_140 (v := (1 : Int32)) rfl (pc' := 141) rfl ?_
  refine g_goto A336 at_141 (pc' := 145) rfl ?_
  exact g_ret (Q := Q0 Z p0 p1 p2 h0 n0) A336 at_145 Bd.notSynchronized Bd.returns rfl (Or.inl ⟨rfl, by simp, _, rfl⟩) (by decide) (by decide) (by rw [e335]; exact ⟨rfl, N334⟩)
set_option maxRecDepth 65536 in
set_option maxHeartbeats 40000000 in
theorem comes_1 {Post : Tables → Env → Array Value → State → Outcome → State → Prop} (hpost : ∀ tb e args s v u, (limb_1_1.after args s (.returned v) u = true ∧ limb_1_2.after args s (.returned v) u = true ∧ True) → FrameEnd s (.returned v) u (Jvm.fieldLocs frame_1_writes args s ++ Jvm.arrayLocs frame_1_arrays args s ++ Jvm.staticLocs frame_1_statics s) 16 128 → Post tb e args s (.returned v) u) :
    ArmFor flags0 classFile x code maxLocals ret World_1 tables_1 room_1 Calls_1 rest_1 Pre_1 Post := by
  intro l hfl _ _ p e ha hc hk s m args below hf hA hF happ hP
  obtain ⟨hcalls, hrest, hpre⟩ := hP
  obtain ⟨-, -, -, hnamed, -, -, -, hat⟩ := (Spec.applies_iff hf).mp happ
  obtain ⟨hg, hn⟩ := and_e (Cond.before_iff.mp (show (Jvm.Cond.and given_1 narrow_1).before args s = true from hpre))
  obtain ⟨g0, hg1⟩ := and_e hg
  obtain ⟨w0, w1, w2, rfl⟩ : ∃ w0 w1 w2 : Value, args = #[w0, w1, w2] := by
    have hs : args.size = 3 := by simpa [Cond.value, given_1] using g0
    obtain ⟨L⟩ := args
    match L, hs with
    | [w0, w1, w2], _ => exact ⟨w0, w1, w2, rfl⟩
  have hw := fun d (hd : d ∈ tables_1) => atoms_spec (ws := Jvm.Cond.code x code maxLocals ret :: tables_1) hat d (List.mem_cons_of_mem _ hd)
  have hfit : Fit s := fun {y c} hc i hi => by
    obtain ⟨ha, rfl⟩ := Array.getElem?_eq_some_iff.mp hc
    have q := List.all_eq_true.mp ((Array.all_eq_true_iff_forall_mem.mp hF) _ (Array.getElem_mem ha)) i (List.mem_range.mpr hi)
    simpa [Array.getElem?_eq_getElem hi] using q
  obtain ⟨k0, hg2⟩ := and_e hg1
  obtain ⟨i0, j0⟩ := is_v k0
  obtain rfl : w0 = (.int i0) := Option.some.inj j0
  obtain ⟨k1, hg3⟩ := and_e hg2
  obtain ⟨i1, j1⟩ := is_v k1
  obtain rfl : w1 = (.int i1) := Option.some.inj j1
  obtain ⟨i2, j2⟩ := isL_v hg3
  obtain rfl : w2 = (.long i2) := Option.some.inj j2
  obtain ⟨n, o, h1, h2, h3, _, L, rfl, ⟨rfl, N⟩, hq⟩ := rm0 l s _ hw tables_1 i0 i1 i2 s.heap s.heap.size (Nat.le_refl _)  p e ha hc hk s m _ below hf ((Spec.applies_iff_loose hf).mp happ).1 ⟨rfl, State.Warmed39.refl s, rfl⟩ trivial
  refine ⟨n, _, h1, h2, h3, hpost _ _ _ _ _ _ ⟨Cond.after_iff.mpr rfl, Cond.after_iff.mpr (eq_i res_at (Term.int_eval (1)) rfl), trivial⟩ ⟨hq.1, hq.2.1, (hq.2.2.sift fun y hy => Or.inr (N y hy)).mono (by decide) (by decide)⟩⟩
theorem main_1_1 : Claimed_1_1 := comes_1 fun _ _ _ _ _ _ h hF => ⟨h.1, hF⟩
theorem main_1_2 : Claimed_1_2 := comes_1 fun _ _ _ _ _ _ h hF => ⟨h.2.1, hF⟩
end Jvm.Pilot.@@N@@
namespace Jvm.Pilot.@@N@@
open Jvm Jvm.ClassFile Sem Op Lib Jvm.Free Jvm.Stand Jvm.Pilot.@@N@@.Jvm.D
/-! MADE BY PROGRAM (witnessworld.py) out of the Statement's table words and the real class files: 18 classes; the members and pool entries that the words name. The judged class is class 1, her method 1. -/
namespace start1
open Jvm.ClassFile
def u (s : String) : CpInfo := .utf8 (stringToUtf16 s)
/-- a pool by its gaps: so many unusable entries, then the entry; so many at the end -/
def gap : Nat → List CpInfo → List CpInfo
  | 0, r => r
  | n + 1, r => .unusable :: gap n r
def poolList (es : List (Nat × CpInfo)) (last : Nat) : List CpInfo := es.foldr (fun e r => gap e.1 (e.2 :: r)) (gap last [])
def pool (es : List (Nat × CpInfo)) (last : Nat) : Array CpInfo := ⟨poolList es last⟩
def fileOf (pool : Array CpInfo) (this : Nat) (attrs : Array Attribute := #[]) (ms : Array MethodInfo := #[]) (fl : Nat := 33) (sup : Nat := 0) (ifs : Array Nat := #[]) (fds : Array FieldInfo := #[]) : ClassFile where
  minorVersion := 0
  majorVersion := 65
  constantPool := pool
  accessFlags := fl
  thisClass := this
  superClass := sup
  interfaces := ifs
  fields := fds
  methods := ms
  attributes := attrs
def plain (name : String) (sup : Option ClassId) : Class where
  name := name
  kind := .ordinary
  loader := none
  accessFlags := 33
  super := sup
  interfaces := #[]
  cf := none
  fields := #[]
  methods := #[]
  instanceTypes := #[]
  staticTypes := #[]
  resolved := #[]
  callSites := []
  init := .initialized
  statics := none
  mirror := none

def pool0 : Array CpInfo := pool [(5, u "<init>"), (0, u "()V"), (1, .class_ 10), (1, u "java/lang/Object")] 113

def k0c0 : Code := { maxStack := 0, maxLocals := 1, code := object_method_1_code, exceptionTable := #[], attributes := #[] }
def k0m0 : Method := { name := "<init>", desc := "()V", sig := { parameters := [], returnType := none }, accessFlags := 1, code := some k0c0 }
/-- java/lang/Object -/
def k0 : Class := { plain "java/lang/Object" none with
  accessFlags := 33
  interfaces := #[]
  cf := some (fileOf pool0 8 #[] #[{ accessFlags := 1, nameIndex := 5, descriptorIndex := 6, attributes := #[] }] 33 0 #[] #[])
  fields := #[]
  methods := #[k0m0]
  instanceTypes := #[]
  staticTypes := #[]
  resolved := Array.replicate 124 none
  statics := none }

def pool1 : Array CpInfo := pool [(2, .class_ 4), (0, .nameAndType 5 6), (0, u "java/lang/Object"), (0, u "<init>"), (0, u "()V"), (0, .integer 2147483647), (0, .double 4877398396442247168), (1, .class_ 11), (0, u "com/example/hinterland/hinterland/DoubleDouble"), (0, .methodref 10 3), (0, .methodref 10 14), (0, .nameAndType 15 16), (0, u "set"), (0, u "(D)Lcom/example/hinterland/hinterland/DoubleDouble;"), (0, .methodref 10 18), (0, .nameAndType 19 16), (0, u "add"), (0, .class_ 21), (0, u "com/example/hinterland/hinterland/DoubleDoubles"), (0, .methodref 20 23), (0, .nameAndType 5 24), (0, u "(I)V"), (0, .methodref 20 26), (0, .nameAndType 15 27), (0, u "(ILcom/example/hinterland/hinterland/DoubleDouble;)V"), (0, .methodref 20 29), (0, .nameAndType 15 30), (0, u "(ID)V"), (0, .methodref 20 32), (0, .nameAndType 33 34), (0, u "high"), (0, u "(I)D"), (0, .methodref 20 36), (0, .nameAndType 37 34), (0, u "low"), (0, .class_ 39), (0, u "com/example/hinterland/hinterland/DoubleDoublesSetPinLaw"), (2, u "law"), (0, u "(IIJ)Z")] 3

def k1m0 : Method := { name := "<init>", desc := "()V", sig := { parameters := [], returnType := none }, accessFlags := 1, code := none }
def k1c1 : Code := { maxStack := 4, maxLocals := 13, code := code, exceptionTable := #[], attributes := #[] }
def k1m1 : Method := { name := "law", desc := "(IIJ)Z", sig := { parameters := [.int, .int, .long], returnType := some .boolean }, accessFlags := 9, code := some k1c1 }
/-- com/example/hinterland/hinterland/DoubleDoublesSetPinLaw -/
def k1 : Class := { plain "com/example/hinterland/hinterland/DoubleDoublesSetPinLaw" (some 0) with
  accessFlags := 49
  interfaces := #[]
  cf := some (fileOf pool1 38 #[] #[{ accessFlags := 1, nameIndex := 5, descriptorIndex := 6, attributes := #[] }, { accessFlags := 9, nameIndex := 42, descriptorIndex := 43, attributes := #[] }] 49 2 #[] #[])
  fields := #[]
  methods := #[k1m0, k1m1]
  instanceTypes := #[]
  staticTypes := #[]
  resolved := Array.replicate 47 none
  statics := none }

def pool2 : Array CpInfo := pool [(1, .methodref 2 3), (0, .class_ 4), (0, .nameAndType 5 6), (0, u "java/lang/Object"), (0, u "<init>"), (0, u "()V"), (0, .fieldref 8 9), (0, .class_ 10), (0, .nameAndType 11 12), (0, u "com/example/hinterland/hinterland/DoubleDouble"), (0, u "high"), (0, u "D"), (0, .fieldref 8 14), (0, .nameAndType 15 12), (0, u "low"), (7, .methodref 8 24), (0, .nameAndType 25 26), (0, u "add"), (0, u "(DD)Lcom/example/hinterland/hinterland/DoubleDouble;"), (6, u "set"), (4, .class_ 39), (0, u "java/lang/Double"), (2, .methodref 38 43), (0, .nameAndType 44 45), (0, u "isInfinite"), (0, u "(D)Z"), (0, .methodref 8 47), (0, .nameAndType 48 49), (0, u "roundingError"), (0, u "(DDD)D"), (2, u "(D)Lcom/example/hinterland/hinterland/DoubleDouble;"), (8, u "()D")] 2

def k2c0 : Code := { maxStack := 1, maxLocals := 1, code := prog_9_method_1_code, exceptionTable := #[], attributes := #[] }
def k2m0 : Method := { name := "<init>", desc := "()V", sig := { parameters := [], returnType := none }, accessFlags := 0, code := some k2c0 }
def k2c1 : Code := { maxStack := 3, maxLocals := 3, code := prog_9_method_2_code, exceptionTable := #[], attributes := #[] }
def k2m1 : Method := { name := "set", desc := "(D)Lcom/example/hinterland/hinterland/DoubleDouble;", sig := { parameters := [.double], returnType := some (.object "com/example/hinterland/hinterland/DoubleDouble") }, accessFlags := 0, code := some k2c1 }
def k2c2 : Code := { maxStack := 5, maxLocals := 3, code := prog_9_method_5_code, exceptionTable := #[], attributes := #[] }
def k2m2 : Method := { name := "add", desc := "(D)Lcom/example/hinterland/hinterland/DoubleDouble;", sig := { parameters := [.double], returnType := some (.object "com/example/hinterland/hinterland/DoubleDouble") }, accessFlags := 0, code := some k2c2 }
def k2c3 : Code := { maxStack := 2, maxLocals := 1, code := prog_9_method_16_code, exceptionTable := #[], attributes := #[] }
def k2m3 : Method := { name := "high", desc := "()D", sig := { parameters := [], returnType := some .double }, accessFlags := 0, code := some k2c3 }
def k2c4 : Code := { maxStack := 2, maxLocals := 1, code := prog_9_method_17_code, exceptionTable := #[], attributes := #[] }
def k2m4 : Method := { name := "low", desc := "()D", sig := { parameters := [], returnType := some .double }, accessFlags := 0, code := some k2c4 }
def k2c5 : Code := { maxStack := 7, maxLocals := 11, code := prog_9_method_18_code, exceptionTable := #[], attributes := #[] }
def k2m5 : Method := { name := "add", desc := "(DD)Lcom/example/hinterland/hinterland/DoubleDouble;", sig := { parameters := [.double, .double], returnType := some (.object "com/example/hinterland/hinterland/DoubleDouble") }, accessFlags := 2, code := some k2c5 }
def k2c6 : Code := { maxStack := 6, maxLocals := 10, code := prog_9_method_20_code, exceptionTable := #[], attributes := #[] }
def k2m6 : Method := { name := "roundingError", desc := "(DDD)D", sig := { parameters := [.double, .double, .double], returnType := some .double }, accessFlags := 10, code := some k2c6 }
/-- com/example/hinterland/hinterland/DoubleDouble -/
def k2 : Class := { plain "com/example/hinterland/hinterland/DoubleDouble" (some 0) with
  accessFlags := 48
  interfaces := #[]
  cf := some (fileOf pool2 8 #[] #[{ accessFlags := 0, nameIndex := 5, descriptorIndex := 6, attributes := #[] }, { accessFlags := 0, nameIndex := 33, descriptorIndex := 52, attributes := #[] }, { accessFlags := 0, nameIndex := 25, descriptorIndex := 52, attributes := #[] }, { accessFlags := 0, nameIndex := 11, descriptorIndex := 61, attributes := #[] }, { accessFlags := 0, nameIndex := 15, descriptorIndex := 61, attributes := #[] }, { accessFlags := 2, nameIndex := 25, descriptorIndex := 26, attributes := #[] }, { accessFlags := 10, nameIndex := 48, descriptorIndex := 49, attributes := #[] }] 48 2 #[] #[{ accessFlags := 2, nameIndex := 11, descriptorIndex := 12, attributes := #[] }, { accessFlags := 2, nameIndex := 15, descriptorIndex := 12, attributes := #[] }])
  fields := #[{ name := "high", type := .double, accessFlags := 2, slot := 0, constantValue := 0 }, { name := "low", type := .double, accessFlags := 2, slot := 1, constantValue := 0 }]
  methods := #[k2m0, k2m1, k2m2, k2m3, k2m4, k2m5, k2m6]
  instanceTypes := #[.double, .double]
  staticTypes := #[]
  resolved := Array.replicate 64 none
  statics := none }

def pool3 : Array CpInfo := pool [(1, .class_ 2), (0, u "java/io/Serializable"), (0, .class_ 4), (0, u "java/lang/Object")] 2

/-- java/io/Serializable -/
def k3 : Class := { plain "java/io/Serializable" (some 0) with
  accessFlags := 1537
  interfaces := #[]
  cf := some (fileOf pool3 1 #[] #[] 1537 3 #[] #[])
  fields := #[]
  methods := #[]
  instanceTypes := #[]
  staticTypes := #[]
  resolved := Array.replicate 7 none
  statics := none }

def pool4 : Array CpInfo := pool [(2, .class_ 4), (1, u "java/lang/Object"), (0, u "<init>"), (0, u "()V"), (1, .class_ 10), (1, u "java/lang/Number"), (2, .class_ 14), (0, u "java/io/Serializable"), (0, u "serialVersionUID"), (0, u "J")] 20

def k4m0 : Method := { name := "<init>", desc := "()V", sig := { parameters := [], returnType := none }, accessFlags := 1, code := none }
/-- java/lang/Number -/
def k4 : Class := { plain "java/lang/Number" (some 0) with
  accessFlags := 1057
  interfaces := #[3]
  cf := some (fileOf pool4 8 #[] #[{ accessFlags := 1, nameIndex := 5, descriptorIndex := 6, attributes := #[] }] 1057 2 #[13] #[{ accessFlags := 26, nameIndex := 15, descriptorIndex := 16, attributes := #[] }])
  fields := #[{ name := "serialVersionUID", type := .long, accessFlags := 26, slot := 0, constantValue := 0 }]
  methods := #[k4m0]
  instanceTypes := #[]
  staticTypes := #[.long]
  resolved := Array.replicate 37 none
  statics := none }

def pool5 : Array CpInfo := pool [(1, .class_ 2), (0, u "java/lang/Comparable"), (0, .class_ 4), (0, u "java/lang/Object")] 7

/-- java/lang/Comparable -/
def k5 : Class := { plain "java/lang/Comparable" (some 0) with
  accessFlags := 1537
  interfaces := #[]
  cf := some (fileOf pool5 1 #[] #[] 1537 3 #[] #[])
  fields := #[]
  methods := #[]
  instanceTypes := #[]
  staticTypes := #[]
  resolved := Array.replicate 12 none
  statics := none }

def pool6 : Array CpInfo := pool [(1, .class_ 2), (0, u "java/lang/constant/Constable"), (0, .class_ 4), (0, u "java/lang/Object")] 6

/-- java/lang/constant/Constable -/
def k6 : Class := { plain "java/lang/constant/Constable" (some 0) with
  accessFlags := 1537
  interfaces := #[]
  cf := some (fileOf pool6 1 #[] #[] 1537 3 #[] #[])
  fields := #[]
  methods := #[]
  instanceTypes := #[]
  staticTypes := #[]
  resolved := Array.replicate 11 none
  statics := none }

def pool7 : Array CpInfo := pool [(1, .class_ 2), (0, u "java/lang/constant/ConstantDesc"), (0, .class_ 4), (0, u "java/lang/Object")] 32

/-- java/lang/constant/ConstantDesc -/
def k7 : Class := { plain "java/lang/constant/ConstantDesc" (some 0) with
  accessFlags := 1537
  interfaces := #[]
  cf := some (fileOf pool7 1 #[] #[] 1537 3 #[] #[])
  fields := #[]
  methods := #[]
  instanceTypes := #[]
  staticTypes := #[]
  resolved := Array.replicate 37 none
  statics := none }

def pool8 : Array CpInfo := pool [(1, .class_ 2), (0, u "java/lang/Double"), (11, u "(D)Z"), (8, .class_ 25), (1, u "java/lang/Math"), (12, .methodref 23 39), (0, .nameAndType 40 41), (0, u "abs"), (0, u "(D)D"), (69, .double 9218868437227405311), (2, .class_ 116), (1, u "java/lang/Number"), (3, u "value"), (0, u "D"), (5, u "isInfinite"), (45, u "TYPE"), (0, u "Ljava/lang/Class;"), (0, .class_ 176), (0, u "java/lang/Comparable"), (0, .class_ 178), (0, u "java/lang/constant/Constable"), (0, .class_ 180), (0, u "java/lang/constant/ConstantDesc"), (0, u "POSITIVE_INFINITY"), (3, u "NEGATIVE_INFINITY"), (2, u "NaN"), (2, u "MAX_VALUE"), (0, u "MIN_NORMAL"), (0, u "MIN_VALUE"), (2, u "SIZE"), (0, u "I"), (1, u "PRECISION"), (1, u "MAX_EXPONENT"), (1, u "MIN_EXPONENT"), (1, u "BYTES"), (3, u "serialVersionUID"), (0, u "J")] 79

def k8c0 : Code := { maxStack := 4, maxLocals := 2, code := jdk_117_method_7_code, exceptionTable := #[], attributes := #[] }
def k8m0 : Method := { name := "isInfinite", desc := "(D)Z", sig := { parameters := [.double], returnType := some .boolean }, accessFlags := 9, code := some k8c0 }
/-- java/lang/Double -/
def k8 : Class := { plain "java/lang/Double" (some 4) with
  accessFlags := 49
  interfaces := #[5, 6, 7]
  cf := some (fileOf pool8 1 #[] #[{ accessFlags := 9, nameIndex := 127, descriptorIndex := 14, attributes := #[] }] 49 114 #[175, 177, 179] #[{ accessFlags := 25, nameIndex := 181, descriptorIndex := 121, attributes := #[] }, { accessFlags := 25, nameIndex := 185, descriptorIndex := 121, attributes := #[] }, { accessFlags := 25, nameIndex := 188, descriptorIndex := 121, attributes := #[] }, { accessFlags := 25, nameIndex := 191, descriptorIndex := 121, attributes := #[] }, { accessFlags := 25, nameIndex := 192, descriptorIndex := 121, attributes := #[] }, { accessFlags := 25, nameIndex := 193, descriptorIndex := 121, attributes := #[] }, { accessFlags := 25, nameIndex := 196, descriptorIndex := 197, attributes := #[] }, { accessFlags := 25, nameIndex := 199, descriptorIndex := 197, attributes := #[] }, { accessFlags := 25, nameIndex := 201, descriptorIndex := 197, attributes := #[] }, { accessFlags := 25, nameIndex := 203, descriptorIndex := 197, attributes := #[] }, { accessFlags := 25, nameIndex := 205, descriptorIndex := 197, attributes := #[] }, { accessFlags := 25, nameIndex := 173, descriptorIndex := 174, attributes := #[] }, { accessFlags := 18, nameIndex := 120, descriptorIndex := 121, attributes := #[] }, { accessFlags := 26, nameIndex := 209, descriptorIndex := 210, attributes := #[] }])
  fields := #[{ name := "POSITIVE_INFINITY", type := .double, accessFlags := 25, slot := 0, constantValue := 0 }, { name := "NEGATIVE_INFINITY", type := .double, accessFlags := 25, slot := 1, constantValue := 0 }, { name := "NaN", type := .double, accessFlags := 25, slot := 2, constantValue := 0 }, { name := "MAX_VALUE", type := .double, accessFlags := 25, slot := 3, constantValue := 0 }, { name := "MIN_NORMAL", type := .double, accessFlags := 25, slot := 4, constantValue := 0 }, { name := "MIN_VALUE", type := .double, accessFlags := 25, slot := 5, constantValue := 0 }, { name := "SIZE", type := .int, accessFlags := 25, slot := 6, constantValue := 0 }, { name := "PRECISION", type := .int, accessFlags := 25, slot := 7, constantValue := 0 }, { name := "MAX_EXPONENT", type := .int, accessFlags := 25, slot := 8, constantValue := 0 }, { name := "MIN_EXPONENT", type := .int, accessFlags := 25, slot := 9, constantValue := 0 }, { name := "BYTES", type := .int, accessFlags := 25, slot := 10, constantValue := 0 }, { name := "TYPE", type := (.object "java/lang/Class"), accessFlags := 25, slot := 11, constantValue := 0 }, { name := "value", type := .double, accessFlags := 18, slot := 0, constantValue := 0 }, { name := "serialVersionUID", type := .long, accessFlags := 26, slot := 12, constantValue := 0 }]
  methods := #[k8m0]
  instanceTypes := #[.double]
  staticTypes := #[.double, .double, .double, .double, .double, .double, .int, .int, .int, .int, .int, (.object "java/lang/Class"), .long]
  resolved := Array.replicate 290 none
  statics := none }

def pool9 : Array CpInfo := pool [(1, .class_ 2), (0, u "java/lang/Math"), (1, .class_ 6), (1, u "java/lang/Object"), (0, u "<init>"), (0, u "()V"), (5, u "(D)D"), (83, .class_ 100), (1, u "java/lang/Math$RandomNumberGeneratorHolder"), (23, u "abs"), (47, u "negativeZeroFloatBits"), (0, u "J"), (2, u "negativeZeroDoubleBits"), (68, u "$assertionsDisabled"), (0, u "Z"), (91, u "twoToTheDoubleScaleDown"), (0, u "D"), (4, u "twoToTheDoubleScaleUp"), (9, u "E"), (3, u "PI"), (2, u "TAU"), (2, u "DEGREES_TO_RADIANS"), (0, u "RADIANS_TO_DEGREES")] 94

def k9m0 : Method := { name := "<init>", desc := "()V", sig := { parameters := [], returnType := none }, accessFlags := 2, code := none }
def k9c1 : Code := { maxStack := 4, maxLocals := 2, code := jdk_29_method_64_code, exceptionTable := #[], attributes := #[] }
def k9m1 : Method := { name := "abs", desc := "(D)D", sig := { parameters := [.double], returnType := some .double }, accessFlags := 9, code := some k9c1 }
/-- java/lang/Math -/
def k9 : Class := { plain "java/lang/Math" (some 0) with
  accessFlags := 49
  interfaces := #[]
  cf := some (fileOf pool9 1 #[.nestMembers #[98]] #[{ accessFlags := 2, nameIndex := 7, descriptorIndex := 8, attributes := #[] }, { accessFlags := 9, nameIndex := 124, descriptorIndex := 14, attributes := #[] }] 49 4 #[] #[{ accessFlags := 25, nameIndex := 354, descriptorIndex := 339, attributes := #[] }, { accessFlags := 25, nameIndex := 358, descriptorIndex := 339, attributes := #[] }, { accessFlags := 25, nameIndex := 361, descriptorIndex := 339, attributes := #[] }, { accessFlags := 26, nameIndex := 364, descriptorIndex := 339, attributes := #[] }, { accessFlags := 26, nameIndex := 365, descriptorIndex := 339, attributes := #[] }, { accessFlags := 26, nameIndex := 172, descriptorIndex := 173, attributes := #[] }, { accessFlags := 26, nameIndex := 176, descriptorIndex := 173, attributes := #[] }, { accessFlags := 8, nameIndex := 344, descriptorIndex := 339, attributes := #[] }, { accessFlags := 8, nameIndex := 338, descriptorIndex := 339, attributes := #[] }, { accessFlags := 4120, nameIndex := 245, descriptorIndex := 246, attributes := #[] }])
  fields := #[{ name := "E", type := .double, accessFlags := 25, slot := 0, constantValue := 0 }, { name := "PI", type := .double, accessFlags := 25, slot := 1, constantValue := 0 }, { name := "TAU", type := .double, accessFlags := 25, slot := 2, constantValue := 0 }, { name := "DEGREES_TO_RADIANS", type := .double, accessFlags := 26, slot := 3, constantValue := 0 }, { name := "RADIANS_TO_DEGREES", type := .double, accessFlags := 26, slot := 4, constantValue := 0 }, { name := "negativeZeroFloatBits", type := .long, accessFlags := 26, slot := 5, constantValue := 0 }, { name := "negativeZeroDoubleBits", type := .long, accessFlags := 26, slot := 6, constantValue := 0 }, { name := "twoToTheDoubleScaleUp", type := .double, accessFlags := 8, slot := 7, constantValue := 0 }, { name := "twoToTheDoubleScaleDown", type := .double, accessFlags := 8, slot := 8, constantValue := 0 }, { name := "$assertionsDisabled", type := .boolean, accessFlags := 4120, slot := 9, constantValue := 0 }]
  methods := #[k9m0, k9m1]
  instanceTypes := #[]
  staticTypes := #[.double, .double, .double, .double, .double, .long, .long, .double, .double, .boolean]
  resolved := Array.replicate 460 none
  statics := none }

def pool10 : Array CpInfo := pool [(1, .methodref 2 3), (0, .class_ 4), (0, .nameAndType 5 6), (0, u "java/lang/Object"), (0, u "<init>"), (0, u "()V"), (0, .fieldref 8 9), (0, .class_ 10), (0, .nameAndType 11 12), (0, u "com/example/hinterland/hinterland/DoubleDoubles"), (0, u "parts"), (0, u "[D"), (0, .methodref 14 15), (0, .class_ 16), (0, .nameAndType 17 18), (0, u "com/example/hinterland/hinterland/DoubleDouble"), (0, u "high"), (0, u "()D"), (0, .methodref 14 20), (0, .nameAndType 21 18), (0, u "low"), (2, u "(I)D"), (8, u "set"), (0, u "(ID)V"), (6, u "(ILcom/example/hinterland/hinterland/DoubleDouble;)V"), (7, u "(I)V")] 12

def k10c0 : Code := { maxStack := 3, maxLocals := 2, code := prog_10_method_1_code, exceptionTable := #[], attributes := #[] }
def k10m0 : Method := { name := "<init>", desc := "(I)V", sig := { parameters := [.int], returnType := none }, accessFlags := 0, code := some k10c0 }
def k10c1 : Code := { maxStack := 4, maxLocals := 4, code := prog_10_method_3_code, exceptionTable := #[], attributes := #[] }
def k10m1 : Method := { name := "set", desc := "(ID)V", sig := { parameters := [.int, .double], returnType := none }, accessFlags := 0, code := some k10c1 }
def k10c2 : Code := { maxStack := 4, maxLocals := 3, code := prog_10_method_4_code, exceptionTable := #[], attributes := #[] }
def k10m2 : Method := { name := "set", desc := "(ILcom/example/hinterland/hinterland/DoubleDouble;)V", sig := { parameters := [.int, (.object "com/example/hinterland/hinterland/DoubleDouble")], returnType := none }, accessFlags := 0, code := some k10c2 }
def k10c3 : Code := { maxStack := 3, maxLocals := 2, code := prog_10_method_11_code, exceptionTable := #[], attributes := #[] }
def k10m3 : Method := { name := "high", desc := "(I)D", sig := { parameters := [.int], returnType := some .double }, accessFlags := 0, code := some k10c3 }
def k10c4 : Code := { maxStack := 3, maxLocals := 2, code := prog_10_method_12_code, exceptionTable := #[], attributes := #[] }
def k10m4 : Method := { name := "low", desc := "(I)D", sig := { parameters := [.int], returnType := some .double }, accessFlags := 0, code := some k10c4 }
/-- com/example/hinterland/hinterland/DoubleDoubles -/
def k10 : Class := { plain "com/example/hinterland/hinterland/DoubleDoubles" (some 0) with
  accessFlags := 48
  interfaces := #[]
  cf := some (fileOf pool10 8 #[] #[{ accessFlags := 0, nameIndex := 5, descriptorIndex := 49, attributes := #[] }, { accessFlags := 0, nameIndex := 33, descriptorIndex := 34, attributes := #[] }, { accessFlags := 0, nameIndex := 33, descriptorIndex := 41, attributes := #[] }, { accessFlags := 0, nameIndex := 17, descriptorIndex := 24, attributes := #[] }, { accessFlags := 0, nameIndex := 21, descriptorIndex := 24, attributes := #[] }] 48 2 #[] #[{ accessFlags := 18, nameIndex := 11, descriptorIndex := 12, attributes := #[] }])
  fields := #[{ name := "parts", type := (.array .double), accessFlags := 18, slot := 0, constantValue := 0 }]
  methods := #[k10m0, k10m1, k10m2, k10m3, k10m4]
  instanceTypes := #[(.array .double)]
  staticTypes := #[]
  resolved := Array.replicate 62 none
  statics := none }

def pool11 : Array CpInfo := pool [(1, u "java/lang/Cloneable"), (0, .class_ 1), (0, u "java/lang/Object"), (0, .class_ 3)] 3

/-- java/lang/Cloneable -/
def k11 : Class := { plain "java/lang/Cloneable" (some 0) with
  accessFlags := 1537
  interfaces := #[]
  cf := some (fileOf pool11 2 #[] #[] 1537 4 #[] #[])
  fields := #[]
  methods := #[]
  instanceTypes := #[]
  staticTypes := #[]
  resolved := Array.replicate 8 none
  statics := none }

/-- the primitive byte -/
def k12 : Class := { plain "byte" none with kind := .primitive 'B', accessFlags := 0x411 }
/-- [B -/
def k13 : Class := { plain "[B" (some 0) with kind := .array 12 .byte, interfaces := #[11, 3], accessFlags := 1041 }

/-- the primitive double -/
def k14 : Class := { plain "double" none with kind := .primitive 'D', accessFlags := 0x411 }
/-- [D -/
def k15 : Class := { plain "[D" (some 0) with kind := .array 14 .double, interfaces := #[11, 3], accessFlags := 1041 }

/-- the primitive int -/
def k16 : Class := { plain "int" none with kind := .primitive 'I', accessFlags := 0x411 }
/-- [I -/
def k17 : Class := { plain "[I" (some 0) with kind := .array 16 .int, interfaces := #[11, 3], accessFlags := 1041 }

def heap : Heap := #[]
def classes : Array Class := #[k0, k1, k2, k3, k4, k5, k6, k7, k8, k9, k10, k11, k12, k13, k14, k15, k16, k17]
def interned : List (Array UInt16 × Addr) := []
def slotsUsed : Nat := 0
def theMethod : MethodId := ⟨1, 1⟩
def args0 : Array Value := #[.int 5, .int 7, .long 9]
def aboutOver (below : List Frame) : State where
  vm := { classes := classes, interned := interned.toArray }
  heap := heap
  slotsUsed := slotsUsed
  threads := #[{ frames := .invoking theMethod args0 :: below }]
def below0 : List Frame := [.native { method := ⟨0, 0⟩, args := #[] }]
def about1 : State := aboutOver below0
def p0 : Program := .bare "" "" ""
def e0 : Env := launch0.env 0 0 0
theorem w_frames : about1.frames = Frame.invoking theMethod args0 :: below0 := rfl
set_option maxRecDepth 65536 in
theorem w_args : argsFit about1.vm theMethod args0 = true := by decide +kernel
set_option maxRecDepth 65536 in
theorem w_heap : heapFits about1 = true := by decide +kernel
set_option maxRecDepth 65536 in
theorem w_runnable : about1.curStatus? = some .runnable := by decide +kernel
set_option maxRecDepth 65536 in
theorem w_alone : about1.alone = true := by decide +kernel
set_option maxRecDepth 65536 in
theorem w_named : about1.methodNamed? x = some theMethod := by decide +kernel
set_option maxRecDepth 65536 in
theorem w_hears : about1.hears theMethod below0 = true := by decide +kernel
set_option maxRecDepth 65536 in
theorem w_ripe : about1.ripe theMethod args0 below0 = true := by decide +kernel
theorem w_running : about1.status = .running := rfl
set_option maxRecDepth 65536 in
theorem w_room : about1.hasRoom e0.platform room_1 = true :=
  launch0.hasRoom_least _ room_1 (by decide +kernel) (by decide +kernel) (by decide +kernel) (by decide +kernel) (by decide +kernel) (by decide +kernel)
theorem allAtoms_all (ts : List Jvm.Cond) (a : Array Jvm.Value) (st : Jvm.State) : (allAtoms ts).before a st = ts.all (fun c => c.before a st) := by
  induction ts with
  | nil => rfl
  | cons c t ih =>
    show (Jvm.Cond.and c (allAtoms t)).before a st = _
    rw [Jvm.Cond.before_and, ih, List.all_cons]
def words1 : List Jvm.Cond := Jvm.Cond.code x code maxLocals ret :: tables_1
/-- a 'code' word, met by the world's own term for the bytes: nothing is compared byte by byte -/
theorem code_word {y : MethodName} {bytes : ByteArray} {mx : Nat} {rt : Option FieldType} {a : Array Value} {s : State} {m : MethodId} {meth : Method} {c : Code} (h1 : s.methodNamed? y = some m) (h2 : s.vm.method? m = some meth) (h3 : meth.code = some c) (h4 : c.code = bytes)
    (h5 : (c.maxLocals == mx && c.exceptionTable.isEmpty && decide (c.maxStack ≤ mostOperands) && decide (meth.sig.returnType = rt) && !meth.locks && decide (parseMethodDescriptor y.desc = some meth.sig)) = true) : (Jvm.Cond.code y bytes mx rt).before a s = true := by
  simp only [Bool.and_eq_true, beq_iff_eq, Bool.not_eq_true', decide_eq_true_eq] at h5
  obtain ⟨⟨⟨⟨⟨g1, g2⟩, g3⟩, g4⟩, g5⟩, g6⟩ := h5
  simp [Cond.before, Cond.holds, Cond.value, h1, h2, h3, h4, g1, g2, g3, g4, g5, g6]
def isCode : Jvm.Cond → Bool
  | .code _ _ _ _ => true
  | _ => false
theorem all_split {L : List Jvm.Cond} {P : Jvm.Cond → Bool} (h1 : L.all (fun c => isCode c || P c) = true) (h2 : ∀ c ∈ L.filter isCode, P c = true) : L.all P = true := by
  refine List.all_eq_true.mpr fun c hc => ?_
  have h := List.all_eq_true.mp h1 c hc
  rcases Bool.eq_false_or_eq_true (isCode c) with hi | hi
  · exact h2 c (List.mem_filter.mpr ⟨hc, hi⟩)
  · simpa [hi] using h
set_option maxRecDepth 65536 in
theorem w_c0 : (Jvm.Cond.code x code maxLocals ret).before args0 about1 = true := code_word (m := ⟨1, 1⟩) (meth := k1m1) (c := k1c1) (by decide +kernel) rfl rfl rfl (by decide +kernel)
set_option maxRecDepth 65536 in
theorem w_c1 : (Jvm.Cond.code ({ cls := "com/example/hinterland/hinterland/DoubleDouble", name := "<init>", desc := "()V" } : Jvm.MethodName) prog_9_method_1_code (1 : Nat) (Option.none : Option Jvm.ClassFile.FieldType)).before args0 about1 = true := code_word (m := ⟨2, 0⟩) (meth := k2m0) (c := k2c0) (by decide +kernel) rfl rfl rfl (by decide +kernel)
set_option maxRecDepth 65536 in
theorem w_c2 : (Jvm.Cond.code ({ cls := "java/lang/Object", name := "<init>", desc := "()V" } : Jvm.MethodName) object_method_1_code (1 : Nat) (Option.none : Option Jvm.ClassFile.FieldType)).before args0 about1 = true := code_word (m := ⟨0, 0⟩) (meth := k0m0) (c := k0c0) (by decide +kernel) rfl rfl rfl (by decide +kernel)
set_option maxRecDepth 65536 in
theorem w_c3 : (Jvm.Cond.code ({ cls := "com/example/hinterland/hinterland/DoubleDouble", name := "set", desc := "(D)Lcom/example/hinterland/hinterland/DoubleDouble;" } : Jvm.MethodName) prog_9_method_2_code (3 : Nat) (Option.some (Jvm.ClassFile.FieldType.object "com/example/hinterland/hinterland/DoubleDouble"))).before args0 about1 = true := code_word (m := ⟨2, 1⟩) (meth := k2m1) (c := k2c1) (by decide +kernel) rfl rfl rfl (by decide +kernel)
set_option maxRecDepth 65536 in
theorem w_c4 : (Jvm.Cond.code ({ cls := "com/example/hinterland/hinterland/DoubleDouble", name := "add", desc := "(D)Lcom/example/hinterland/hinterland/DoubleDouble;" } : Jvm.MethodName) prog_9_method_5_code (3 : Nat) (Option.some (Jvm.ClassFile.FieldType.object "com/example/hinterland/hinterland/DoubleDouble"))).before args0 about1 = true := code_word (m := ⟨2, 2⟩) (meth := k2m2) (c := k2c2) (by decide +kernel) rfl rfl rfl (by decide +kernel)
set_option maxRecDepth 65536 in
theorem w_c5 : (Jvm.Cond.code ({ cls := "com/example/hinterland/hinterland/DoubleDouble", name := "add", desc := "(DD)Lcom/example/hinterland/hinterland/DoubleDouble;" } : Jvm.MethodName) prog_9_method_18_code (11 : Nat) (Option.some (Jvm.ClassFile.FieldType.object "com/example/hinterland/hinterland/DoubleDouble"))).before args0 about1 = true := code_word (m := ⟨2, 5⟩) (meth := k2m5) (c := k2c5) (by decide +kernel) rfl rfl rfl (by decide +kernel)
set_option maxRecDepth 65536 in
theorem w_c6 : (Jvm.Cond.code ({ cls := "java/lang/Double", name := "isInfinite", desc := "(D)Z" } : Jvm.MethodName) jdk_117_method_7_code (2 : Nat) (Option.some Jvm.ClassFile.FieldType.boolean)).before args0 about1 = true := code_word (m := ⟨8, 0⟩) (meth := k8m0) (c := k8c0) (by decide +kernel) rfl rfl rfl (by decide +kernel)
set_option maxRecDepth 65536 in
theorem w_c7 : (Jvm.Cond.code ({ cls := "java/lang/Math", name := "abs", desc := "(D)D" } : Jvm.MethodName) jdk_29_method_64_code (2 : Nat) (Option.some Jvm.ClassFile.FieldType.double)).before args0 about1 = true := code_word (m := ⟨9, 1⟩) (meth := k9m1) (c := k9c1) (by decide +kernel) rfl rfl rfl (by decide +kernel)
set_option maxRecDepth 65536 in
theorem w_c8 : (Jvm.Cond.code ({ cls := "com/example/hinterland/hinterland/DoubleDouble", name := "roundingError", desc := "(DDD)D" } : Jvm.MethodName) prog_9_method_20_code (10 : Nat) (Option.some Jvm.ClassFile.FieldType.double)).before args0 about1 = true := code_word (m := ⟨2, 6⟩) (meth := k2m6) (c := k2c6) (by decide +kernel) rfl rfl rfl (by decide +kernel)
set_option maxRecDepth 65536 in
theorem w_c9 : (Jvm.Cond.code ({ cls := "com/example/hinterland/hinterland/DoubleDoubles", name := "<init>", desc := "(I)V" } : Jvm.MethodName) prog_10_method_1_code (2 : Nat) (Option.none : Option Jvm.ClassFile.FieldType)).before args0 about1 = true := code_word (m := ⟨10, 0⟩) (meth := k10m0) (c := k10c0) (by decide +kernel) rfl rfl rfl (by decide +kernel)
set_option maxRecDepth 65536 in
theorem w_c10 : (Jvm.Cond.code ({ cls := "com/example/hinterland/hinterland/DoubleDoubles", name := "set", desc := "(ILcom/example/hinterland/hinterland/DoubleDouble;)V" } : Jvm.MethodName) prog_10_method_4_code (3 : Nat) (Option.none : Option Jvm.ClassFile.FieldType)).before args0 about1 = true := code_word (m := ⟨10, 2⟩) (meth := k10m2) (c := k10c2) (by decide +kernel) rfl rfl rfl (by decide +kernel)
set_option maxRecDepth 65536 in
theorem w_c11 : (Jvm.Cond.code ({ cls := "com/example/hinterland/hinterland/DoubleDouble", name := "high", desc := "()D" } : Jvm.MethodName) prog_9_method_16_code (1 : Nat) (Option.some Jvm.ClassFile.FieldType.double)).before args0 about1 = true := code_word (m := ⟨2, 3⟩) (meth := k2m3) (c := k2c3) (by decide +kernel) rfl rfl rfl (by decide +kernel)
set_option maxRecDepth 65536 in
theorem w_c12 : (Jvm.Cond.code ({ cls := "com/example/hinterland/hinterland/DoubleDouble", name := "low", desc := "()D" } : Jvm.MethodName) prog_9_method_17_code (1 : Nat) (Option.some Jvm.ClassFile.FieldType.double)).before args0 about1 = true := code_word (m := ⟨2, 4⟩) (meth := k2m4) (c := k2c4) (by decide +kernel) rfl rfl rfl (by decide +kernel)
set_option maxRecDepth 65536 in
theorem w_c13 : (Jvm.Cond.code ({ cls := "com/example/hinterland/hinterland/DoubleDoubles", name := "set", desc := "(ID)V" } : Jvm.MethodName) prog_10_method_3_code (4 : Nat) (Option.none : Option Jvm.ClassFile.FieldType)).before args0 about1 = true := code_word (m := ⟨10, 1⟩) (meth := k10m1) (c := k10c1) (by decide +kernel) rfl rfl rfl (by decide +kernel)
set_option maxRecDepth 65536 in
theorem w_c14 : (Jvm.Cond.code ({ cls := "com/example/hinterland/hinterland/DoubleDoubles", name := "high", desc := "(I)D" } : Jvm.MethodName) prog_10_method_11_code (2 : Nat) (Option.some Jvm.ClassFile.FieldType.double)).before args0 about1 = true := code_word (m := ⟨10, 3⟩) (meth := k10m3) (c := k10c3) (by decide +kernel) rfl rfl rfl (by decide +kernel)
set_option maxRecDepth 65536 in
theorem w_c15 : (Jvm.Cond.code ({ cls := "com/example/hinterland/hinterland/DoubleDoubles", name := "low", desc := "(I)D" } : Jvm.MethodName) prog_10_method_12_code (2 : Nat) (Option.some Jvm.ClassFile.FieldType.double)).before args0 about1 = true := code_word (m := ⟨10, 4⟩) (meth := k10m4) (c := k10c4) (by decide +kernel) rfl rfl rfl (by decide +kernel)
def codes1 : List Jvm.Cond := [Jvm.Cond.code x code maxLocals ret, Jvm.Cond.code ({ cls := "com/example/hinterland/hinterland/DoubleDouble", name := "<init>", desc := "()V" } : Jvm.MethodName) prog_9_method_1_code (1 : Nat) (Option.none : Option Jvm.ClassFile.FieldType), Jvm.Cond.code ({ cls := "java/lang/Object", name := "<init>", desc := "()V" } : Jvm.MethodName) object_method_1_code (1 : Nat) (Option.none : Option Jvm.ClassFile.FieldType), Jvm.Cond.code ({ cls := "com/example/hinterland/hinterland/DoubleDouble", name := "set", desc := "(D)Lcom/example/hinterland/hinterland/DoubleDouble;" } : Jvm.MethodName) prog_9_method_2_code (3 : Nat) (Option.some (Jvm.ClassFile.FieldType.object "com/example/hinterland/hinterland/DoubleDouble")), Jvm.Cond.code ({ cls := "com/example/hinterland/hinterland/DoubleDouble", name := "add", desc := "(D)Lcom/example/hinterland/hinterland/DoubleDouble;" } : Jvm.MethodName) prog_9_method_5_code (3 : Nat) (Option.some (Jvm.ClassFile.FieldType.object "com/example/hinterland/hinterland/DoubleDouble")), Jvm.Cond.code ({ cls := "com/example/hinterland/hinterland/DoubleDouble", name := "add", desc := "(DD)Lcom/example/hinterland/hinterland/DoubleDouble;" } : Jvm.MethodName) prog_9_method_18_code (11 : Nat) (Option.some (Jvm.ClassFile.FieldType.object "com/example/hinterland/hinterland/DoubleDouble")), Jvm.Cond.code ({ cls := "java/lang/Double", name := "isInfinite", desc := "(D)Z" } : Jvm.MethodName) jdk_117_method_7_code (2 : Nat) (Option.some Jvm.ClassFile.FieldType.boolean), Jvm.Cond.code ({ cls := "java/lang/Math", name := "abs", desc := "(D)D" } : Jvm.MethodName) jdk_29_method_64_code (2 : Nat) (Option.some Jvm.ClassFile.FieldType.double), Jvm.Cond.code ({ cls := "com/example/hinterland/hinterland/DoubleDouble", name := "roundingError", desc := "(DDD)D" } : Jvm.MethodName) prog_9_method_20_code (10 : Nat) (Option.some Jvm.ClassFile.FieldType.double), Jvm.Cond.code ({ cls := "com/example/hinterland/hinterland/DoubleDoubles", name := "<init>", desc := "(I)V" } : Jvm.MethodName) prog_10_method_1_code (2 : Nat) (Option.none : Option Jvm.ClassFile.FieldType), Jvm.Cond.code ({ cls := "com/example/hinterland/hinterland/DoubleDoubles", name := "set", desc := "(ILcom/example/hinterland/hinterland/DoubleDouble;)V" } : Jvm.MethodName) prog_10_method_4_code (3 : Nat) (Option.none : Option Jvm.ClassFile.FieldType), Jvm.Cond.code ({ cls := "com/example/hinterland/hinterland/DoubleDouble", name := "high", desc := "()D" } : Jvm.MethodName) prog_9_method_16_code (1 : Nat) (Option.some Jvm.ClassFile.FieldType.double), Jvm.Cond.code ({ cls := "com/example/hinterland/hinterland/DoubleDouble", name := "low", desc := "()D" } : Jvm.MethodName) prog_9_method_17_code (1 : Nat) (Option.some Jvm.ClassFile.FieldType.double), Jvm.Cond.code ({ cls := "com/example/hinterland/hinterland/DoubleDoubles", name := "set", desc := "(ID)V" } : Jvm.MethodName) prog_10_method_3_code (4 : Nat) (Option.none : Option Jvm.ClassFile.FieldType), Jvm.Cond.code ({ cls := "com/example/hinterland/hinterland/DoubleDoubles", name := "high", desc := "(I)D" } : Jvm.MethodName) prog_10_method_11_code (2 : Nat) (Option.some Jvm.ClassFile.FieldType.double), Jvm.Cond.code ({ cls := "com/example/hinterland/hinterland/DoubleDoubles", name := "low", desc := "(I)D" } : Jvm.MethodName) prog_10_method_12_code (2 : Nat) (Option.some Jvm.ClassFile.FieldType.double)]
set_option maxRecDepth 65536 in
theorem codes_eq : words1.filter isCode = codes1 := rfl
theorem w_codes : ∀ c ∈ words1.filter isCode, c.before args0 about1 = true := by
  rw [codes_eq]
  intro c hc
  simp only [codes1, List.mem_cons, List.not_mem_nil, or_false] at hc
  rcases hc with rfl | rfl | rfl | rfl | rfl | rfl | rfl | rfl | rfl | rfl | rfl | rfl | rfl | rfl | rfl | rfl
  · exact w_c0
  · exact w_c1
  · exact w_c2
  · exact w_c3
  · exact w_c4
  · exact w_c5
  · exact w_c6
  · exact w_c7
  · exact w_c8
  · exact w_c9
  · exact w_c10
  · exact w_c11
  · exact w_c12
  · exact w_c13
  · exact w_c14
  · exact w_c15
set_option maxRecDepth 65536 in
theorem w_t1 : (words1.take 24).all (fun c => isCode c || c.before args0 about1) = true := by decide +kernel
set_option maxRecDepth 65536 in
theorem w_t2 : ((words1.drop 24).take 24).all (fun c => isCode c || c.before args0 about1) = true := by decide +kernel
set_option maxRecDepth 65536 in
theorem w_t3 : (((words1.drop 24).drop 24).take 24).all (fun c => isCode c || c.before args0 about1) = true := by decide +kernel
set_option maxRecDepth 65536 in
theorem w_t4 : (((words1.drop 24).drop 24).drop 24).all (fun c => isCode c || c.before args0 about1) = true := by decide +kernel
theorem w_tables : (allAtoms (Jvm.Cond.code x code maxLocals ret :: tables_1)).before args0 about1 = true := by
  rw [allAtoms_all]
  show words1.all (fun c => c.before args0 about1) = true
  refine all_split ?_ w_codes
  rw [← List.take_append_drop 24 words1, List.all_append, w_t1, ← List.take_append_drop 24 (words1.drop 24), List.all_append, w_t2, ← List.take_append_drop 24 ((words1.drop 24).drop 24), List.all_append, w_t3, w_t4]
  rfl
set_option maxRecDepth 65536 in
theorem w_case : (Jvm.Cond.and given_1 narrow_1).before args0 about1 = true := by decide +kernel
theorem w_applies : (headSpec (Jvm.Cond.code x code maxLocals ret :: tables_1) room_1).applies x e0.platform about1 = true :=
  (Spec.applies_iff w_frames).mpr ⟨w_running, w_runnable, w_alone, w_named, w_hears, w_ripe, w_room, w_tables⟩
theorem atStart : AtStart classFile x code maxLocals ret World_1 tables_1 room_1 Calls_1 rest_1 Pre_1 launch0 p0 e0 about1 theMethod args0 below0 :=
  ⟨lists_1, trivial, launch0.admits_env _ _ _, launch0.least_env, fairChoices_fair.cas, fairChoices_fair.clock, w_frames, w_args, w_heap, w_applies, trivial, trivial, w_case⟩
end start1
theorem witness_1 : WitnessClaimed_1 := ⟨start1.p0, start1.e0, start1.about1, start1.theMethod, start1.args0, start1.below0, start1.atStart⟩
end Jvm.Pilot.@@N@@
